import JvmDerived
import JvmDerived.Pilot.@@N@@Statement
import JvmDerived.Pilot.@@N@@Code
set_option linter.unusedVariables false
set_option linter.unusedSimpArgs false
set_option maxRecDepth 65536
set_option maxHeartbeats 40000000
namespace Jvm.Pilot.@@N@@
open Jvm Jvm.ClassFile Sem Op Lib Jvm.Free Jvm.Stand Jvm.LawKit Jvm.RoadKit Bundle Jvm.Pilot.@@N@@.Jvm.D
abbrev dk (c:ByteArray)(p:Nat)(i:Instr)(n:Nat):Prop:=decode c p = .ok (i,n)
abbrev cd0:ByteArray:=jdk_52_method_6_code
abbrev cd1:ByteArray:=jdk_52_method_4_code
abbrev cd2:ByteArray:=jdk_52_method_5_code
abbrev cd3:ByteArray:=jdk_52_method_3_code
abbrev cd4:ByteArray:=jdk_52_method_2_code
abbrev cd5:ByteArray:=jdk_52_method_14_code
abbrev cd6:ByteArray:=jdk_52_method_21_code
abbrev cd7:ByteArray:=jdk_52_method_16_code
abbrev cd8:ByteArray:=jdk_52_method_15_code
abbrev cd9:ByteArray:=jdk_42_method_149_code
abbrev gA:ByteArray:=jdk_42_method_3_code
abbrev jG:ByteArray:=jdk_42_method_152_code
abbrev fh:ByteArray:=jdk_42_method_154_code
abbrev gY:ByteArray:=jdk_42_method_54_code
abbrev gZ:ByteArray:=jdk_41_method_11_code
abbrev jH:ByteArray:=jdk_42_method_155_code
abbrev jN:ByteArray:=jdk_52_method_91_code
abbrev ed:ByteArray:=jdk_43_method_2_code
abbrev g7:ByteArray:=jdk_52_method_83_code
abbrev c8:ByteArray:=jdk_42_method_56_code
abbrev g8:ByteArray:=jdk_29_method_65_code
abbrev g9:ByteArray:=jdk_29_method_69_code
abbrev gB:ByteArray:=jdk_43_method_4_code
abbrev ci:ByteArray:=jdk_43_method_23_code
abbrev bJ:ByteArray:=jdk_43_method_22_code
abbrev cO:ByteArray:=jdk_52_method_48_code
abbrev eD:ByteArray:=jdk_41_method_12_code
abbrev g_:ByteArray:=jdk_42_method_158_code
abbrev jI:ByteArray:=jdk_52_method_93_code
abbrev eE:ByteArray:=jdk_52_method_47_code
abbrev bB:ByteArray:=jdk_52_method_40_code
abbrev cj:ByteArray:=jdk_42_method_80_code
abbrev nk:ByteArray:=jdk_65_method_131_code
abbrev bK:ByteArray:=jdk_65_method_133_code
abbrev hD:ByteArray:=jdk_65_method_132_code
abbrev fi:ByteArray:=jdk_42_method_151_code
abbrev c9:ByteArray:=jdk_41_method_13_code
abbrev jJ:ByteArray:=jdk_42_method_157_code
abbrev hG:ByteArray:=jdk_52_method_94_code
abbrev bk:ByteArray:=jdk_52_method_22_code
abbrev be:ByteArray:=jdk_52_method_17_code
abbrev ck:ByteArray:=jdk_52_method_69_code
abbrev da:ByteArray:=jdk_43_method_47_code
abbrev br:ByteArray:=jdk_42_method_92_code
abbrev bC:ByteArray:=jdk_48_method_14_code
abbrev aJ:ByteArray:=jdk_42_method_75_code
abbrev jO:ByteArray:=jdk_42_method_76_code
abbrev np:ByteArray:=jdk_31_method_10_code
abbrev nq:ByteArray:=jdk_31_method_11_code
abbrev pD:ByteArray:=jdk_22_method_1_code
abbrev pE:ByteArray:=jdk_47_method_1_code
abbrev pF:ByteArray:=jdk_46_method_1_code
abbrev fj:ByteArray:=jdk_45_method_1_code
abbrev eF:ByteArray:=jdk_44_method_1_code
abbrev eg:ByteArray:=jdk_44_method_2_code
abbrev nr:ByteArray:=jdk_45_method_3_code
abbrev jP:ByteArray:=jdk_45_method_4_code
abbrev gC:ByteArray:=jdk_44_method_3_code
abbrev cR:ByteArray:=jdk_44_method_5_code
abbrev bD:ByteArray:=jdk_56_method_4_code
abbrev bL:ByteArray:=jdk_40_method_47_code
abbrev fk:ByteArray:=prog_26_method_2_code
abbrev bX:ByteArray:=prog_26_method_7_code
abbrev aX:ByteArray:=prog_26_method_9_code
abbrev cP:ByteArray:=method_2_code
abbrev bY:ByteArray:=method_3_code
abbrev bf:ByteArray:=method_4_code
abbrev bc:ByteArray:=method_5_code
abbrev af:ByteArray:=method_6_code
abbrev aV:ByteArray:=prog_26_method_6_code
abbrev aD:ByteArray:=prog_26_method_5_code
abbrev sg0:String := "com/example/hierarchical_roles/hierarchicalroles/ResourcePath"
abbrev sg1:String := "java/lang/String"
abbrev sg2:String := "java/util/ImmutableCollections$List12"
abbrev sg3:String := "java/util/ImmutableCollections$ListN"
abbrev sg4:String := "java/lang/StringUTF16"
abbrev sg5:String := "com/example/hierarchical_roles/hierarchicalroles/ResourcePathParsePinLaw"
abbrev sg6:String := "java/lang/Object"
abbrev sg7:String := "java/lang/StringLatin1"
abbrev sg8:String := "jdk/internal/util/Preconditions"
abbrev sg9:String := "java/util/List"
abbrev pG:String := "java/util/ImmutableCollections"
abbrev bl:String := "Ljava/lang/Object;"
abbrev cA:String := "Ljava/lang/String;"
abbrev cQ:String := "Ljava/util/List;"
abbrev HW (a0:Array Value)(Z:State):Prop:=∀d∈tables_1,d.before a0 Z=true
theorem tw {Z:State}{a0:Array Value}(hw:HW a0 Z)(i:Nat){d:Jvm.Cond}(h:tables_1[i]? = some d):d.before a0 Z=true:=hw d (List.mem_of_getElem? h)
section OwnKit
variable {p:Program}{l:Launch}{e:Env}{R:Room}{s:State}{m:MethodId}{args:Array Value}{below:List Frame}{meth:Method}{c:Code}{T:State}{locs:List Loc}{cells slots:Nat}{Z:State}{a0:Array Value}{h h':Heap}{Ev:State→Outcome→Prop}
def Go (p:Program)(e:Env)(below:List Frame)(Ev:State→Outcome→Prop)(T:State)(g:JFrame):Prop :=
 ∃(U:State) (o:Outcome),Steps p.tables e below (T.setTop g) U∧U.status = .running∧Ended U below o∧Ev U o
theorem Go.on {T T':State}{g g':JFrame}(K:Go p e below Ev T' g')(st:∀t,Steps p.tables e below (T'.setTop g') t→Steps p.tables e below (T.setTop g) t):Go p e below Ev T g:=by
 obtain⟨U,o,h1,h2⟩:=K
 exact⟨U,o,st _ h1,h2⟩
abbrev dR (s:State)(Q:Option Value→Heap→List Loc→Prop)(K N:Nat):State→Outcome→Prop:=fun U o=>∃(v:Option Value)(L:List Loc),o = .returned v∧Q v U.heap L∧FrameEnd s o U L K N
theorem ai {x:MethodName}{code:ByteArray}{ml:Nat}{ret:Option FieldType}{ws:List Jvm.Cond}{rm:Room}{as:Array Value}{h0:Heap}{Q:Option Value→Heap→List Loc→Prop}{K N:Nat}{Ls:Array Slot}(hpn:plainFor x=true)(hef:∀m,entryFrame m as ml=mkF m 0 Ls [])
  (body:∀(p:Program) (e:Env) (s:State) (m:MethodId) (below:List Frame) (meth:Method) (c:Code) (T:State),Stand p l e rm s m as below meth c T [] 0 0→p.tables.exec=Jvm.exec→c.code=code→c.maxLocals=ml→meth.sig.returnType=ret→meth.locks=false→meth.name=x.name→s.vm.findClass x.cls=some m.cls→Z.Warmed39 s.vm→T.heap=h0→Go p e below (dR s Q K N) T (mkF m 0 Ls [])) :
  MetFree l x (head1 (Jvm.Cond.code x code ml ret::ws) rm) (fun a U=>a=as∧Z.Warmed39 U.vm∧U.heap=h0) (fun _ _ _ _ _=>True) (fun _ U o U'=>∃v L,o = .returned v∧Q v U'.heap L∧FrameEnd U o U' L K N):=by
 refine MetFree.of_bodySF hpn hisR ?_
 intro p e s m args below meth c s₁ Bd hml0 hP hK
 obtain⟨rfl,hZ,hh⟩:=hP
 have e0:s₁.heap=h0:=by rw[←hh,Bd.state];rfl
 obtain⟨U,o,h1,h2,h3,h4⟩:=body p e s m below meth c s₁ (Stand.of_body Bd) Bd.exec Bd.bytes hml0 Bd.returns (BodyLoose.notSynchronized Bd) (name_of_methodNamed Bd.named Bd.method).1 (findClass_of_methodNamed Bd.named) hZ e0
 rw[←hef m] at h1
 exact⟨U,o,h1,h2,h3,h4⟩
theorem cT (X:Stand p l e R s m args below meth c T locs cells slots)(hlk:meth.locks=false){Q:Option Value→Heap→List Loc→Prop}{K N:Nat}{g:JFrame}{v:Option Value}(hv:meth.sig.returnType=none→v=none)(hK:cells≤K)(hN:slots≤N)(eT:T.heap=h)(hQ:Q v h locs)
  (hst:∀fs,(∀(f:JFrame) (acts:List Action),f.method=m→f.locked=none→f.entered=[]→(doReturn e (T.setTop f) acts v).1=T.setFrames fs)→Steps p.tables e below (T.setTop g) (T.setFrames fs)):Go p e below (dR s Q K N) T g:=by
 obtain⟨fs,hr,hrun,hended,hW,hsame⟩:=X.leave (v:=v) hv hlk
 exact⟨_,_,hst fs hr,hrun,hended,_,_,rfl,by rw[show (T.setFrames fs).heap=T.heap from rfl,eT];exact hQ,⟨_,rfl⟩,hW,hsame.mono hK hN⟩
theorem ay (X:Stand p l e R s m args below meth c T locs cells slots)(hx:p.tables.exec=Jvm.exec)(hlk:meth.locks=false){Q:Option Value→Heap→List Loc→Prop}{K N:Nat}{pc:Nat}{Ls:Array Slot}{z:Int32}{rest:List Value}(hret:meth.sig.returnType=some .int)(hd:decode c.code pc = .ok (.ireturn,1))(hK:cells≤K)(hN:slots≤N)(eT:T.heap=h)(hQ:Q (some (.int z)) h locs):Go p e below (dR s Q K N) T (mkF m pc Ls (.int z::rest)) :=
 cT X hlk (fun q=>by rw[hret] at q;cases q) hK hN eT hQ (fun fs hr=>retOut X hx hret rfl (Or.inl ⟨rfl,Or.inl rfl,_,rfl⟩) hd hr)
theorem a4 (X:Stand p l e R s m args below meth c T locs cells slots)(hx:p.tables.exec=Jvm.exec)(hlk:meth.locks=false){Q:Option Value→Heap→List Loc→Prop}{K N:Nat}{pc:Nat}{Ls:Array Slot}{z:Int32}{rest:List Value}(hret:meth.sig.returnType=some .boolean)(hd:decode c.code pc = .ok (.ireturn,1))(hK:cells≤K)(hN:slots≤N)(eT:T.heap=h)(hQ:Q (some (.int (nar .boolean z))) h locs):Go p e below (dR s Q K N) T (mkF m pc Ls (.int z::rest)) :=
 cT X hlk (fun q=>by rw[hret] at q;cases q) hK hN eT hQ (fun fs hr=>retN X hx (t := .boolean) hret (by simp) hd hr)
theorem aA (X:Stand p l e R s m args below meth c T locs cells slots)(hx:p.tables.exec=Jvm.exec)(hlk:meth.locks=false){Q:Option Value→Heap→List Loc→Prop}{K N:Nat}{pc:Nat}{Ls:Array Slot}{w:Value}{rest:List Value}{t:FieldType}(hret:meth.sig.returnType=some t)(ht:t.isReference=true)(hw:w.isRef=true)(hn:narrow t w=w)(hd:decode c.code pc = .ok (.areturn,1))(hK:cells≤K)(hN:slots≤N)(eT:T.heap=h)(hQ:Q (some w) h locs):Go p e below (dR s Q K N) T (mkF m pc Ls (w::rest)) :=
 cT X hlk (fun q=>by rw[hret] at q;cases q) hK hN eT hQ (fun fs hr=>retOut X hx hret hn (Or.inr (Or.inr (Or.inr (Or.inr ⟨rfl,ht,hw⟩)))) hd hr)
theorem aY (X:Stand p l e R s m args below meth c T locs cells slots)(hx:p.tables.exec=Jvm.exec)(hlk:meth.locks=false){Q:Option Value→Heap→List Loc→Prop}{K N:Nat}{pc:Nat}{Ls:Array Slot}(hret:meth.sig.returnType=none)(hd:decode c.code pc = .ok (.return_,1))(hK:cells≤K)(hN:slots≤N)(eT:T.heap=h)(hQ:Q none h locs):Go p e below (dR s Q K N) T (mkF m pc Ls []) :=
 cT X hlk (fun _=>rfl) hK hN eT hQ (fun fs hr=>X.returnOut hx hret hd hr)
theorem aa (X:Stand p l e R s m args below meth c T locs cells slots)(hx:p.tables.exec=Jvm.exec){pc:Nat}{Ls:Array Slot}{st:List Value}{k:Fin 4}{v:Int32}(q:Nat)(hd:decode c.code pc = .ok (.iload_n k,1))(hq:pc+1=q)(hl:Ls[k.val]? = some (.val (.int v)))(K:Go p e below Ev T (mkF m q Ls (.int v::st))):Go p e below Ev T (mkF m pc Ls st):=by
 subst hq
 exact K.on fun _ k=>XS.iloadN X.here hx rfl hd hl k
theorem ae (X:Stand p l e R s m args below meth c T locs cells slots)(hx:p.tables.exec=Jvm.exec){pc:Nat}{Ls:Array Slot}{st:List Value}{k:Nat}{v:Int32}(q:Nat)(hd:decode c.code pc = .ok (.iload k,2))(hq:pc+2=q)(hl:Ls[k]? = some (.val (.int v)))(K:Go p e below Ev T (mkF m q Ls (.int v::st))):Go p e below Ev T (mkF m pc Ls st):=by
 subst hq
 exact K.on fun _ k=>XS.iload X.here hx rfl hd hl k
theorem aq (X:Stand p l e R s m args below meth c T locs cells slots)(hx:p.tables.exec=Jvm.exec){pc:Nat}{Ls:Array Slot}{st:List Value}{k:Fin 4}{v:Int32}{l':Array Slot}(q:Nat)(hd:decode c.code pc = .ok (.istore_n k,1))(hq:pc+1=q)(hl:storeLocals Ls k.val (.int v)=some l')(K:Go p e below Ev T (mkF m q l' st)):Go p e below Ev T (mkF m pc Ls (.int v::st)):=by
 subst hq
 exact K.on fun _ k=>XS.istoreN X.here hx rfl hd rfl hl k
theorem ah (X:Stand p l e R s m args below meth c T locs cells slots)(hx:p.tables.exec=Jvm.exec){pc:Nat}{Ls:Array Slot}{st:List Value}{k:Nat}{v:Int32}{l':Array Slot}(q:Nat)(hd:decode c.code pc = .ok (.istore k,2))(hq:pc+2=q)(hl:storeLocals Ls k (.int v)=some l')(K:Go p e below Ev T (mkF m q l' st)):Go p e below Ev T (mkF m pc Ls (.int v::st)):=by
 subst hq
 exact K.on fun _ k=>XS.istore X.here hx rfl hd rfl hl k
theorem ab (X:Stand p l e R s m args below meth c T locs cells slots)(hx:p.tables.exec=Jvm.exec){pc:Nat}{Ls:Array Slot}{st:List Value}{k:Fin 4}{v:Value}(q:Nat)(hd:decode c.code pc = .ok (.aload_n k,1))(hq:pc+1=q)(hl:Ls[k.val]? = some (.val v))(hv:v.isRef=true)(K:Go p e below Ev T (mkF m q Ls (v::st))):Go p e below Ev T (mkF m pc Ls st):=by
 subst hq
 exact K.on fun _ k=>XS.aloadN X.here hx rfl hd hl hv k
theorem al (X:Stand p l e R s m args below meth c T locs cells slots)(hx:p.tables.exec=Jvm.exec){pc:Nat}{Ls:Array Slot}{st:List Value}{k:Nat}{v:Value}(q:Nat)(hd:decode c.code pc = .ok (.aload k,2))(hq:pc+2=q)(hl:Ls[k]? = some (.val v))(hv:v.isRef=true)(K:Go p e below Ev T (mkF m q Ls (v::st))):Go p e below Ev T (mkF m pc Ls st):=by
 subst hq
 exact K.on fun _ k=>XS.aload X.here hx rfl hd hl hv k
theorem au (X:Stand p l e R s m args below meth c T locs cells slots)(hx:p.tables.exec=Jvm.exec){pc:Nat}{Ls:Array Slot}{st:List Value}{k:Fin 4}{v:Value}{l':Array Slot}(q:Nat)(hd:decode c.code pc = .ok (.astore_n k,1))(hq:pc+1=q)(hv:v.isRef=true)(hl:storeLocals Ls k.val v=some l')(K:Go p e below Ev T (mkF m q l' st)):Go p e below Ev T (mkF m pc Ls (v::st)):=by
 subst hq
 exact K.on fun _ k=>XS.astoreN X.here hx rfl hd rfl hv hl k
theorem aE (X:Stand p l e R s m args below meth c T locs cells slots)(hx:p.tables.exec=Jvm.exec){pc:Nat}{Ls:Array Slot}{st:List Value}{k:Nat}{v:Value}{l':Array Slot}(q:Nat)(hd:decode c.code pc = .ok (.astore k,2))(hq:pc+2=q)(hv:v.isRef=true)(hl:storeLocals Ls k v=some l')(K:Go p e below Ev T (mkF m q l' st)):Go p e below Ev T (mkF m pc Ls (v::st)):=by
 subst hq
 exact K.on fun _ k=>XS.astore X.here hx rfl hd rfl hv hl k
theorem ac (X:Stand p l e R s m args below meth c T locs cells slots)(hx:p.tables.exec=Jvm.exec){pc:Nat}{Ls:Array Slot}{st:List Value}{i:Int}(v:Int32)(q:Nat)(hd:decode c.code pc = .ok (.iconst i,1))(hq:pc+1=q)(hv:Int32.ofInt i=v)(K:Go p e below Ev T (mkF m q Ls (.int v::st))):Go p e below Ev T (mkF m pc Ls st):=by
 subst hq
 exact K.on fun _ k=>XT.iconstV X.here hx rfl v hd hv k
theorem aj (X:Stand p l e R s m args below meth c T locs cells slots)(hx:p.tables.exec=Jvm.exec){pc:Nat}{Ls:Array Slot}{st:List Value}{i:Int}(v:Int32)(q:Nat)(hd:decode c.code pc = .ok (.bipush i,2))(hq:pc+2=q)(hv:(Int8.ofInt i).toInt32=v)(K:Go p e below Ev T (mkF m q Ls (.int v::st))):Go p e below Ev T (mkF m pc Ls st):=by
 subst hq
 exact K.on fun _ k=>XT.bipushV X.here hx rfl v hd hv k
theorem aM (X:Stand p l e R s m args below meth c T locs cells slots)(hx:p.tables.exec=Jvm.exec){pc:Nat}{Ls:Array Slot}{st:List Value}{i:Int}(v:Int32)(q:Nat)(hd:decode c.code pc = .ok (.sipush i,3))(hq:pc+3=q)(hv:(Int16.ofInt i).toInt32=v)(K:Go p e below Ev T (mkF m q Ls (.int v::st))):Go p e below Ev T (mkF m pc Ls st):=by
 subst hq
 exact K.on fun _ k=>XT.sipushV X.here hx rfl v hd hv k
theorem pH (X:Stand p l e R s m args below meth c T locs cells slots)(hx:p.tables.exec=Jvm.exec){pc:Nat}{Ls:Array Slot}{st:List Value}  (q:Nat)(hd:decode c.code pc = .ok (.aconst_null,1))(hq:pc+1=q)  (K:Go p e below Ev T (mkF m q Ls (.null::st))):Go p e below Ev T (mkF m pc Ls st):=by
 subst hq
 exact K.on fun _ k=>XS.aconstNull X.here hx rfl hd k
theorem a5 (X:Stand p l e R s m args below meth c T locs cells slots)(hx:p.tables.exec=Jvm.exec){pc:Nat}{Ls:Array Slot}{st:List Value}{k:Nat}{i:Int}{v w:Int32}{l':Array Slot}(q:Nat)(hd:decode c.code pc = .ok (.iinc k i,3))(hq:pc+3=q)(hl:Ls[k]? = some (.val (.int v)))(hv:Int32.ofInt i=w)(hl':storeLocals Ls k (.int (v+w))=some l')(K:Go p e below Ev T (mkF m q l' st)):Go p e below Ev T (mkF m pc Ls st):=by
 subst hq
 exact K.on fun _ k=>XT.iincV X.here hx rfl w hd hv hl hl' k
theorem aQ (X:Stand p l e R s m args below meth c T locs cells slots)(hx:p.tables.exec=Jvm.exec){pc:Nat}{Ls:Array Slot}{st:List Value}{x y:Int32}(q:Nat)(hd:decode c.code pc = .ok (.iadd,1))(hq:pc+1=q)  (K:Go p e below Ev T (mkF m q Ls (.int (x+y)::st))):Go p e below Ev T (mkF m pc Ls (.int y :: .int x::st)):=by
 subst hq
 exact K.on fun _ k=>XS.iadd X.here hx rfl hd rfl k
theorem bm (X:Stand p l e R s m args below meth c T locs cells slots)(hx:p.tables.exec=Jvm.exec){pc:Nat}{Ls:Array Slot}{st:List Value}{x y:Int32}(q:Nat)(hd:decode c.code pc = .ok (.isub,1))(hq:pc+1=q)  (K:Go p e below Ev T (mkF m q Ls (.int (x-y)::st))):Go p e below Ev T (mkF m pc Ls (.int y :: .int x::st)):=by
 subst hq
 exact K.on fun _ k=>XS.isub X.here hx rfl hd rfl k
theorem pI (X:Stand p l e R s m args below meth c T locs cells slots)(hx:p.tables.exec=Jvm.exec){pc:Nat}{Ls:Array Slot}{st:List Value}{x y:Int32}(q:Nat)(hd:decode c.code pc = .ok (.imul,1))(hq:pc+1=q)  (K:Go p e below Ev T (mkF m q Ls (.int (x*y)::st))):Go p e below Ev T (mkF m pc Ls (.int y :: .int x::st)):=by
 subst hq
 exact K.on fun _ k=>XS.imul X.here hx rfl hd rfl k
theorem bs (X:Stand p l e R s m args below meth c T locs cells slots)(hx:p.tables.exec=Jvm.exec){pc:Nat}{Ls:Array Slot}{st:List Value}{x y:Int32}(q:Nat)(hd:decode c.code pc = .ok (.iand,1))(hq:pc+1=q)  (K:Go p e below Ev T (mkF m q Ls (.int (x&&&y)::st))):Go p e below Ev T (mkF m pc Ls (.int y :: .int x::st)):=by
 subst hq
 exact K.on fun _ k=>XS.iand X.here hx rfl hd rfl k
theorem jQ (X:Stand p l e R s m args below meth c T locs cells slots)(hx:p.tables.exec=Jvm.exec){pc:Nat}{Ls:Array Slot}{st:List Value}{x y:Int32}(q:Nat)(hd:decode c.code pc = .ok (.ior,1))(hq:pc+1=q)  (K:Go p e below Ev T (mkF m q Ls (.int (x ||| y)::st))):Go p e below Ev T (mkF m pc Ls (.int y :: .int x::st)):=by
 subst hq
 exact K.on fun _ k=>XS.ior X.here hx rfl hd rfl k
theorem hH (X:Stand p l e R s m args below meth c T locs cells slots)(hx:p.tables.exec=Jvm.exec){pc:Nat}{Ls:Array Slot}{st:List Value}{x y:Int32}(q:Nat)(hd:decode c.code pc = .ok (.irem,1))(hq:pc+1=q)(hy:y≠0)(K:Go p e below Ev T (mkF m q Ls (.int (x % y)::st))):Go p e below Ev T (mkF m pc Ls (.int y :: .int x::st)):=by
 subst hq
 exact K.on fun _ k=>iremM X hx rfl hd rfl hy k
theorem db (X:Stand p l e R s m args below meth c T locs cells slots)(hx:p.tables.exec=Jvm.exec){pc:Nat}{Ls:Array Slot}{st:List Value}{x y:Int32}(q:Nat)(hd:decode c.code pc = .ok (.ishl,1))(hq:pc+1=q)  (K:Go p e below Ev T (mkF m q Ls (.int (x<<<(y&&&31))::st))):Go p e below Ev T (mkF m pc Ls (.int y :: .int x::st)):=by
 subst hq
 exact K.on fun _ k=>XS.ishl X.here hx rfl hd rfl k
theorem cS (X:Stand p l e R s m args below meth c T locs cells slots)(hx:p.tables.exec=Jvm.exec){pc:Nat}{Ls:Array Slot}{st:List Value}{x y:Int32}(q:Nat)(hd:decode c.code pc = .ok (.ishr,1))(hq:pc+1=q)  (K:Go p e below Ev T (mkF m q Ls (.int (x>>>(y&&&31))::st))):Go p e below Ev T (mkF m pc Ls (.int y :: .int x::st)):=by
 subst hq
 exact K.on fun _ k=>XS.ishr X.here hx rfl hd rfl k
theorem cm (X:Stand p l e R s m args below meth c T locs cells slots)(hx:p.tables.exec=Jvm.exec){pc:Nat}{Ls:Array Slot}{st:List Value}{x y:Int32}(q:Nat)(hd:decode c.code pc = .ok (.iushr,1))(hq:pc+1=q)  (K:Go p e below Ev T (mkF m q Ls (.int ((x.toUInt32>>>(y&&&31).toUInt32).toInt32)::st))):Go p e below Ev T (mkF m pc Ls (.int y :: .int x::st)):=by
 subst hq
 exact K.on fun _ k=>XS.iushr X.here hx rfl hd rfl k
theorem eG (X:Stand p l e R s m args below meth c T locs cells slots)(hx:p.tables.exec=Jvm.exec){pc:Nat}{Ls:Array Slot}{st:List Value}{x:Int32}(q:Nat)(hd:decode c.code pc = .ok (.i2b,1))(hq:pc+1=q)  (K:Go p e below Ev T (mkF m q Ls (.int (x.toInt8.toInt32)::st))):Go p e below Ev T (mkF m pc Ls (.int x::st)):=by
 subst hq
 exact K.on fun _ k=>XS.i2b X.here hx rfl hd rfl k
theorem dQ (X:Stand p l e R s m args below meth c T locs cells slots)(hx:p.tables.exec=Jvm.exec){pc:Nat}{Ls:Array Slot}{st:List Value}{x:Int32}(q:Nat)(hd:decode c.code pc = .ok (.i2c,1))(hq:pc+1=q)  (K:Go p e below Ev T (mkF m q Ls (.int (x.toUInt32.toUInt16.toUInt32.toInt32)::st))):Go p e below Ev T (mkF m pc Ls (.int x::st)):=by
 subst hq
 exact K.on fun _ k=>XS.i2c X.here hx rfl hd rfl k
theorem a8 (X:Stand p l e R s m args below meth c T locs cells slots)(hx:p.tables.exec=Jvm.exec){pc:Nat}{Ls:Array Slot}{st:List Value}{x:Value}(q:Nat)(hd:decode c.code pc = .ok (.dup,1))(hq:pc+1=q)(hc:x.category=1)(K:Go p e below Ev T (mkF m q Ls (x::x::st))):Go p e below Ev T (mkF m pc Ls (x::st)):=by
 subst hq
 exact K.on fun _ k=>XS.dup X.here hx rfl hd rfl hc k
theorem eh (X:Stand p l e R s m args below meth c T locs cells slots)(hx:p.tables.exec=Jvm.exec){pc:Nat}{Ls:Array Slot}{st:List Value}{x:Value}(q:Nat)(hd:decode c.code pc = .ok (.pop,1))(hq:pc+1=q)(hc:x.category=1)(K:Go p e below Ev T (mkF m q Ls st)):Go p e below Ev T (mkF m pc Ls (x::st)):=by
 subst hq
 exact K.on fun _ k=>XS.pop X.here hx rfl hd rfl hc k
theorem jR (X:Stand p l e R s m args below meth c T locs cells slots)(hx:p.tables.exec=Jvm.exec){pc:Nat}{Ls:Array Slot}{st:List Value}{own:String}{i:Nat}{v:Int32}(q:Nat)(hZ:Z.Warmed39 s.vm)(hown:s.vm.findClass own=some m.cls)(w:(Jvm.Cond.constant own i v).before a0 Z=true)(hd:decode c.code pc = .ok (.ldc i,2))(hq:pc+2=q)(K:Go p e below Ev T (mkF m q Ls (.int v::st))):Go p e below Ev T (mkF m pc Ls st):=by
 subst hq
 exact K.on fun _ k=>X.ldcI hx hown (mvT hZ w) rfl hd k
theorem ap (X:Stand p l e R s m args below meth c T locs cells slots)(hx:p.tables.exec=Jvm.exec){pc:Nat}{Ls:Array Slot}{st:List Value}{o:Int}(q:Nat)(hd:decode c.code pc = .ok (.goto o,3))(ho:0≤(pc:Int)+o)(hq:((pc:Int)+o).toNat=q)(K:Go p e below Ev T (mkF m q Ls st)):Go p e below Ev T (mkF m pc Ls st) :=
 K.on fun _ k=>XS.goto X.here hx rfl rfl hd ho hq k
theorem bQ (x:Int32):(x<0↔x.toInt<0)∧(0<x↔0<x.toInt)∧(x=0↔x.toInt=0):=by
 refine⟨by rw[Int32.lt_iff_toInt_lt];simp,by rw[Int32.lt_iff_toInt_lt];simp,?_⟩
 rw[←Int32.toInt_inj];simp
theorem ax (X:Stand p l e R s m args below meth c T locs cells slots)(hx:p.tables.exec=Jvm.exec){pc:Nat}{Ls:Array Slot}{st:List Value}{x:Int32}{o:Int}(q1 q2:Nat)(hd:decode c.code pc = .ok (.ifCond .eq o,3))(ho:0≤(pc:Int)+o)(h1:((pc:Int)+o).toNat=q1)(h2:pc+3=q2)(Kt:x.toInt=0→Go p e below Ev T (mkF m q1 Ls st))(Kf:x.toInt≠0→Go p e below Ev T (mkF m q2 Ls st)):Go p e below Ev T (mkF m pc Ls (.int x::st)):=by
 have Q:=bQ x
 by_cases hc:x=0
 ·exact (Kt (by first|omega|(simp only[Q] at hc;omega))).on fun _ k=>XS.ifYes X.here hx rfl rfl hd rfl (XT.i0_eq_t (by simpa using hc)) ho h1 k
 ·subst h2
  exact (Kf (by first|omega|(simp only[Q] at hc;omega))).on fun _ k=>XS.ifNo X.here hx rfl hd rfl (XT.i0_eq_f (by simpa using hc)) k
theorem aI (X:Stand p l e R s m args below meth c T locs cells slots)(hx:p.tables.exec=Jvm.exec){pc:Nat}{Ls:Array Slot}{st:List Value}{x:Int32}{o:Int}(q1 q2:Nat)(hd:decode c.code pc = .ok (.ifCond .ne o,3))(ho:0≤(pc:Int)+o)(h1:((pc:Int)+o).toNat=q1)(h2:pc+3=q2)(Kt:x.toInt≠0→Go p e below Ev T (mkF m q1 Ls st))(Kf:x.toInt=0→Go p e below Ev T (mkF m q2 Ls st)):Go p e below Ev T (mkF m pc Ls (.int x::st)):=by
 have Q:=bQ x
 by_cases hc:¬x=0
 ·exact (Kt (by first|omega|(simp only[Q] at hc;omega))).on fun _ k=>XS.ifYes X.here hx rfl rfl hd rfl (XT.i0_ne_t (by simpa using hc)) ho h1 k
 ·subst h2
  exact (Kf (by first|omega|(simp only[Q] at hc;omega))).on fun _ k=>XS.ifNo X.here hx rfl hd rfl (XT.i0_ne_f (by simpa using hc)) k
theorem aB (X:Stand p l e R s m args below meth c T locs cells slots)(hx:p.tables.exec=Jvm.exec){pc:Nat}{Ls:Array Slot}{st:List Value}{x:Int32}{o:Int}(q1 q2:Nat)(hd:decode c.code pc = .ok (.ifCond .lt o,3))(ho:0≤(pc:Int)+o)(h1:((pc:Int)+o).toNat=q1)(h2:pc+3=q2)(Kt:x.toInt<0→Go p e below Ev T (mkF m q1 Ls st))(Kf:0≤x.toInt→Go p e below Ev T (mkF m q2 Ls st)):Go p e below Ev T (mkF m pc Ls (.int x::st)):=by
 have Q:=bQ x
 by_cases hc:x<0
 ·exact (Kt (by first|omega|(simp only[Q] at hc;omega))).on fun _ k=>XS.ifYes X.here hx rfl rfl hd rfl (XT.i0_lt_t (by simpa using hc)) ho h1 k
 ·subst h2
  exact (Kf (by first|omega|(simp only[Q] at hc;omega))).on fun _ k=>XS.ifNo X.here hx rfl hd rfl (XT.i0_lt_f (by simpa using hc)) k
theorem fn (X:Stand p l e R s m args below meth c T locs cells slots)(hx:p.tables.exec=Jvm.exec){pc:Nat}{Ls:Array Slot}{st:List Value}{x:Int32}{o:Int}(q1 q2:Nat)(hd:decode c.code pc = .ok (.ifCond .ge o,3))(ho:0≤(pc:Int)+o)(h1:((pc:Int)+o).toNat=q1)(h2:pc+3=q2)(Kt:0≤x.toInt→Go p e below Ev T (mkF m q1 Ls st))(Kf:x.toInt<0→Go p e below Ev T (mkF m q2 Ls st)):Go p e below Ev T (mkF m pc Ls (.int x::st)):=by
 have Q:=bQ x
 by_cases hc:¬x<0
 ·exact (Kt (by first|omega|(simp only[Q] at hc;omega))).on fun _ k=>XS.ifYes X.here hx rfl rfl hd rfl (XT.i0_ge_t (by simpa using hc)) ho h1 k
 ·subst h2
  exact (Kf (by first|omega|(simp only[Q] at hc;omega))).on fun _ k=>XS.ifNo X.here hx rfl hd rfl (XT.i0_ge_f (by simpa using hc)) k
theorem dc (x y:Int32):(x<y↔x.toInt<y.toInt)∧(y<x↔y.toInt<x.toInt)∧(x=y↔x.toInt=y.toInt):=by
 exact⟨Int32.lt_iff_toInt_lt,Int32.lt_iff_toInt_lt,Int32.toInt_inj.symm⟩
theorem bH (X:Stand p l e R s m args below meth c T locs cells slots)(hx:p.tables.exec=Jvm.exec){pc:Nat}{Ls:Array Slot}{st:List Value}{x y:Int32}{o:Int}(q1 q2:Nat)(hd:decode c.code pc = .ok (.if_icmp .eq o,3))(ho:0≤(pc:Int)+o)(h1:((pc:Int)+o).toNat=q1)(h2:pc+3=q2)(Kt:x.toInt=y.toInt→Go p e below Ev T (mkF m q1 Ls st))(Kf:x.toInt≠y.toInt→Go p e below Ev T (mkF m q2 Ls st)):Go p e below Ev T (mkF m pc Ls (.int y :: .int x::st)):=by
 have Q:=dc x y
 by_cases hc:x=y
 ·exact (Kt (by first|omega|(simp only[Q] at hc;omega))).on fun _ k=>XS.icmpYes X.here hx rfl rfl hd rfl (XT.ii_eq_t (by simpa using hc)) ho h1 k
 ·subst h2
  exact (Kf (by first|omega|(simp only[Q] at hc;omega))).on fun _ k=>XS.icmpNo X.here hx rfl hd rfl (XT.ii_eq_f (by simpa using hc)) k
theorem av (X:Stand p l e R s m args below meth c T locs cells slots)(hx:p.tables.exec=Jvm.exec){pc:Nat}{Ls:Array Slot}{st:List Value}{x y:Int32}{o:Int}(q1 q2:Nat)(hd:decode c.code pc = .ok (.if_icmp .ne o,3))(ho:0≤(pc:Int)+o)(h1:((pc:Int)+o).toNat=q1)(h2:pc+3=q2)(Kt:x.toInt≠y.toInt→Go p e below Ev T (mkF m q1 Ls st))(Kf:x.toInt=y.toInt→Go p e below Ev T (mkF m q2 Ls st)):Go p e below Ev T (mkF m pc Ls (.int y :: .int x::st)):=by
 have Q:=dc x y
 by_cases hc:¬x=y
 ·exact (Kt (by first|omega|(simp only[Q] at hc;omega))).on fun _ k=>XS.icmpYes X.here hx rfl rfl hd rfl (XT.ii_ne_t (by simpa using hc)) ho h1 k
 ·subst h2
  exact (Kf (by first|omega|(simp only[Q] at hc;omega))).on fun _ k=>XS.icmpNo X.here hx rfl hd rfl (XT.ii_ne_f (by simpa using hc)) k
theorem an (X:Stand p l e R s m args below meth c T locs cells slots)(hx:p.tables.exec=Jvm.exec){pc:Nat}{Ls:Array Slot}{st:List Value}{x y:Int32}{o:Int}(q1 q2:Nat)(hd:decode c.code pc = .ok (.if_icmp .lt o,3))(ho:0≤(pc:Int)+o)(h1:((pc:Int)+o).toNat=q1)(h2:pc+3=q2)(Kt:x.toInt<y.toInt→Go p e below Ev T (mkF m q1 Ls st))(Kf:y.toInt≤x.toInt→Go p e below Ev T (mkF m q2 Ls st)):Go p e below Ev T (mkF m pc Ls (.int y :: .int x::st)):=by
 have Q:=dc x y
 by_cases hc:x<y
 ·exact (Kt (by first|omega|(simp only[Q] at hc;omega))).on fun _ k=>XS.icmpYes X.here hx rfl rfl hd rfl (XT.ii_lt_t (by simpa using hc)) ho h1 k
 ·subst h2
  exact (Kf (by first|omega|(simp only[Q] at hc;omega))).on fun _ k=>XS.icmpNo X.here hx rfl hd rfl (XT.ii_lt_f (by simpa using hc)) k
theorem am (X:Stand p l e R s m args below meth c T locs cells slots)(hx:p.tables.exec=Jvm.exec){pc:Nat}{Ls:Array Slot}{st:List Value}{x y:Int32}{o:Int}(q1 q2:Nat)(hd:decode c.code pc = .ok (.if_icmp .ge o,3))(ho:0≤(pc:Int)+o)(h1:((pc:Int)+o).toNat=q1)(h2:pc+3=q2)(Kt:y.toInt≤x.toInt→Go p e below Ev T (mkF m q1 Ls st))(Kf:x.toInt<y.toInt→Go p e below Ev T (mkF m q2 Ls st)):Go p e below Ev T (mkF m pc Ls (.int y :: .int x::st)):=by
 have Q:=dc x y
 by_cases hc:¬x<y
 ·exact (Kt (by first|omega|(simp only[Q] at hc;omega))).on fun _ k=>XS.icmpYes X.here hx rfl rfl hd rfl (XT.ii_ge_t (by simpa using hc)) ho h1 k
 ·subst h2
  exact (Kf (by first|omega|(simp only[Q] at hc;omega))).on fun _ k=>XS.icmpNo X.here hx rfl hd rfl (XT.ii_ge_f (by simpa using hc)) k
theorem cJ (X:Stand p l e R s m args below meth c T locs cells slots)(hx:p.tables.exec=Jvm.exec){pc:Nat}{Ls:Array Slot}{st:List Value}{x y:Int32}{o:Int}(q1 q2:Nat)(hd:decode c.code pc = .ok (.if_icmp .gt o,3))(ho:0≤(pc:Int)+o)(h1:((pc:Int)+o).toNat=q1)(h2:pc+3=q2)(Kt:y.toInt<x.toInt→Go p e below Ev T (mkF m q1 Ls st))(Kf:x.toInt≤y.toInt→Go p e below Ev T (mkF m q2 Ls st)):Go p e below Ev T (mkF m pc Ls (.int y :: .int x::st)):=by
 have Q:=dc x y
 by_cases hc:y<x
 ·exact (Kt (by first|omega|(simp only[Q] at hc;omega))).on fun _ k=>XS.icmpYes X.here hx rfl rfl hd rfl (XT.ii_gt_t (by simpa using hc)) ho h1 k
 ·subst h2
  exact (Kf (by first|omega|(simp only[Q] at hc;omega))).on fun _ k=>XS.icmpNo X.here hx rfl hd rfl (XT.ii_gt_f (by simpa using hc)) k
theorem a7 (X:Stand p l e R s m args below meth c T locs cells slots)(hx:p.tables.exec=Jvm.exec){pc:Nat}{Ls:Array Slot}{st:List Value}{x y:Int32}{o:Int}(q1 q2:Nat)(hd:decode c.code pc = .ok (.if_icmp .le o,3))(ho:0≤(pc:Int)+o)(h1:((pc:Int)+o).toNat=q1)(h2:pc+3=q2)(Kt:x.toInt≤y.toInt→Go p e below Ev T (mkF m q1 Ls st))(Kf:y.toInt<x.toInt→Go p e below Ev T (mkF m q2 Ls st)):Go p e below Ev T (mkF m pc Ls (.int y :: .int x::st)):=by
 have Q:=dc x y
 by_cases hc:¬y<x
 ·exact (Kt (by first|omega|(simp only[Q] at hc;omega))).on fun _ k=>XS.icmpYes X.here hx rfl rfl hd rfl (XT.ii_le_t (by simpa using hc)) ho h1 k
 ·subst h2
  exact (Kf (by first|omega|(simp only[Q] at hc;omega))).on fun _ k=>XS.icmpNo X.here hx rfl hd rfl (XT.ii_le_f (by simpa using hc)) k
theorem bR (X:Stand p l e R s m args below meth c T locs cells slots)(hx:p.tables.exec=Jvm.exec){pc:Nat}{Ls:Array Slot}{st:List Value}{o:Int}{b:Addr}(q:Nat)(hd:decode c.code pc = .ok (.ifnonnull o,3))(ho:0≤(pc:Int)+o)(h1:((pc:Int)+o).toNat=q)(K:Go p e below Ev T (mkF m q Ls st)):Go p e below Ev T (mkF m pc Ls (.ref b::st)) :=
 K.on fun _ k=>XS.ifnonnullYes X.here hx rfl rfl hd rfl ho h1 k
theorem bS (X:Stand p l e R s m args below meth c T locs cells slots)(hx:p.tables.exec=Jvm.exec){pc:Nat}{Ls:Array Slot}{st:List Value}{o:Int}(q:Nat)(hd:decode c.code pc = .ok (.ifnonnull o,3))(h1:pc+3=q)(K:Go p e below Ev T (mkF m q Ls st)):Go p e below Ev T (mkF m pc Ls (.null::st)):=by
 subst h1
 exact K.on fun _ k=>XS.ifnonnullNo X.here hx rfl hd rfl k
theorem bg (X:Stand p l e R s m args below meth c T locs cells slots)(hx:p.tables.exec=Jvm.exec){pc:Nat}{Ls:Array Slot}{st:List Value}(hZ:Z.Warmed39 s.vm){own C:String}{i n:Nat}(hown:s.vm.findClass own=some m.cls)(w:(Jvm.Cond.classLink own i C).before a0 Z=true)(wi:(Jvm.Cond.instantiable C n).before a0 Z=true)(wz:(Jvm.Cond.initialized C).before a0 Z=true)(eT:T.heap=h)(q:Nat)(hd:decode c.code pc = .ok (.new i,3))(hq:pc+3=q)(hc:cells+1≤R.cells)(hl:slots+n≤R.slots)
  (K:∀(T':State) (h':Heap) (a:Addr),a=h.size→Stand p l e R s m args below meth c T' locs (cells+1) (slots+n)→T'.heap=h'→Ext h h'→Exa Z h' a C→(∀{O nm d:String} {ty:FieldType},Laid Z a0 C O nm d→parseFieldDescriptor d=some ty→Fld Z h' a O nm d (defaultValue ty))→Go p e below Ev T' (mkF m q Ls (.ref a::st))):Go p e below Ev T (mkF m pc Ls st):=by
 subst hq
 obtain⟨T',h',X',e',E',A',D',-,st'⟩:=newO X hx hZ hown w wi wz eT (g:=mkF m pc Ls st) rfl hd hc hl
 exact (K T' h' _ rfl X' e' E' A' D').on st'
theorem ao (X:Stand p l e R s m args below meth c T locs cells slots)(hx:p.tables.exec=Jvm.exec){pc:Nat}{Ls:Array Slot}{st:List Value}(hZ:Z.Warmed39 s.vm){own R0 O n d:String}{i:Nat}(hown:s.vm.findClass own=some m.cls)(w:(Jvm.Cond.fieldLink own i R0 n d).before a0 Z=true)(via:Via Z R0 O n d)(eT:T.heap=h){a:Addr}{v:Value}(F:Fld Z h a O n d v)(q:Nat)(hd:decode c.code pc = .ok (.getfield i,3))(hq:pc+3=q)(K:∀T',Stand p l e R s m args below meth c T' locs cells slots→T'.heap=h→Go p e below Ev T' (mkF m q Ls (v::st))):Go p e below Ev T (mkF m pc Ls (.ref a::st)):=by
 subst hq
 obtain⟨T',X',e',st'⟩:=getF X hx hZ hown (host := "") (Or.inl w) via eT F (g:=mkF m pc Ls (.ref a::st)) rfl rfl hd
 exact (K T' X' e').on st'
theorem aZ (X:Stand p l e R s m args below meth c T locs cells slots)(hx:p.tables.exec=Jvm.exec){pc:Nat}{Ls:Array Slot}{st:List Value}(hZ:Z.Warmed39 s.vm){own R0 O n d C:String}{i kk:Nat}{ty:FieldType}(hown:s.vm.findClass own=some m.cls)(w:(Jvm.Cond.fieldLink own i R0 n d).before a0 Z=true)(via:Via Z R0 O n d)(eT:T.heap=h){a:Addr}{v old:Value}(F:Fld Z h a O n d old)(E:Exa Z h a C)(L:(Jvm.Cond.lays C O n d).before a0 Z=true∨((Jvm.Cond.laysFinal C O n d).before a0 Z=true∧own=O∧meth.name = "<init>"))(wi:(Jvm.Cond.instantiable C kk).before a0 Z=true)(hty:parseFieldDescriptor d=some ty)(hn:narrow ty v=v)(hf:fits ty v=true)(q:Nat)(hd:decode c.code pc = .ok (.putfield i,3))(hq:pc+3=q)
  (K:∀T' h',Stand p l e R s m args below meth c T' (locs++[⟨a,Jvm.RoadKit.slotOf Z O n d⟩]) cells slots→T'.heap=h'→Wr h h' a (Jvm.RoadKit.slotOf Z O n d) v→Go p e below Ev T' (mkF m q Ls st)):Go p e below Ev T (mkF m pc Ls (v :: .ref a::st)):=by
 subst hq
 obtain⟨T',h',X',e',W',st'⟩:=putF X hx hZ hown (host := "") (Or.inl w) via eT F E L wi hty hn hf (g:=mkF m pc Ls (v :: .ref a::st)) rfl rfl hd
 exact (K T' h' X' e' W').on st'
theorem bZ (X:Stand p l e R s m args below meth c T locs cells slots)(hx:p.tables.exec=Jvm.exec){pc:Nat}{Ls:Array Slot}{st:List Value}(hZ:Z.Warmed39 s.vm){own:String}{i:Nat}(hown:s.vm.findClass own=some m.cls)(w1:(Jvm.Cond.methodLink own i ⟨sg6,"<init>","()V"⟩).before a0 Z=true)(w2:(Jvm.Cond.instanceMethod ⟨sg6,"<init>","()V"⟩).before a0 Z=true)(w3:(Jvm.Cond.code ⟨sg6,"<init>","()V"⟩ object_method_1_code 1 none).before a0 Z=true)(eT:T.heap=h){a:Addr}(W:Nat)(q:Nat)(hd:decode c.code pc = .ok (.invokespecial i,3))(hq:pc+3=q)(hsz:Ls.size=c.maxLocals)(hf:1≤R.frames)(hW:(st.map fun v=>v.category).sum≤W)(hl:W+12≤R.locals)(K:∀T',Stand p l e R s m args below meth c T' locs cells slots→T'.heap=h→Go p e below Ev T' (mkF m q Ls st)):Go p e below Ev T (mkF m pc Ls (.ref a::st)):=by
 subst hq
 obtain⟨T',X',e',st'⟩:=initO X hx hZ hown w1 w2 w3 eT (g:=mkF m pc Ls (.ref a::st)) rfl hsz rfl hd hf (W:=W) (by show 2*0+_≤_;omega) hl
 exact (K T' X' e').on st'
theorem ag (X:Stand p l e R s m args below meth c T locs cells slots)(hx:p.tables.exec=Jvm.exec){pc:Nat}{Ls:Array Slot}{st:List Value}(hZ:Z.Warmed39 s.vm){own:String}{i:Nat}{y:MethodName}{bytes:ByteArray}{maxL:Nat}{ret:Option FieldType}{rm:Room}{as':Array Value}{Q:Option Value→Heap→List Loc→Prop}{argsL rest:List Value}(hown:s.vm.findClass own=some m.cls)(w1:(Jvm.Cond.methodLink own i y).before a0 Z=true)(w2:(Jvm.Cond.static y).before a0 Z=true)(w3:(Jvm.Cond.initialized y.cls).before a0 Z=true)(w4:(Jvm.Cond.code y bytes maxL ret).before a0 Z=true)(hy:y.cls ≠ "java/lang/invoke/MethodHandle"∧y.cls ≠ "java/lang/invoke/VarHandle")(hM:MetFree l y (head1 [Jvm.Cond.code y bytes maxL ret] rm) (fun a U=>a=as'∧Z.Warmed39 U.vm∧U.heap=h) (fun _ _ _ _ _=>True) (fun _ U o U'=>∃v L,o = .returned v∧Q v U'.heap L∧FrameEnd U o U' L rm.cells rm.slots))(eT:T.heap=h)(hst:st=argsL.reverse++rest)(has:argsL.toArray=as')(W:Nat)(q:Nat)(hq:pc+3=q)(hsz:Ls.size=c.maxLocals)(hlen:∀sig,parseMethodDescriptor y.desc=some sig→argsL.length=sig.parameters.length)(hW:(rest.map fun v=>v.category).sum≤W)(hf:rm.frames+1≤R.frames)(hl:W+(maxL+11)+rm.locals≤R.locals)(hc:cells+rm.cells≤R.cells)(hs:slots+rm.slots≤R.slots)(hd:decode c.code pc = .ok (.invokestatic i,3))
  (K:∀(v:Option Value) (T':State) (L:List Loc),Stand p l e R s m args below meth c T' (locs++L) (cells+rm.cells) (slots+rm.slots)→Q v T'.heap L→Go p e below Ev T' (mkF m q Ls (v.toList++rest))):Go p e below Ev T (mkF m pc Ls st):=by
 subst hq hst
 obtain⟨v,vm1,⟨T',L',k',n'⟩,-,X',⟨L,hQ,l',y',z'⟩,st'⟩:=Jvm.LawKit.callS X hx hown (mvT hZ w1) (mvT hZ w2) (mvT hZ w3) (mvT hZ w4) hy (backOf (W:=W) hM hZ w4 w3 hf hl) (g:=mkF m pc Ls (argsL.reverse++rest)) rfl hsz (argsL:=argsL) (rest:=rest) hlen rfl (by show 2*0+_≤_;omega) hd (fun _ _=>⟨has,eT,hc,hs⟩)
 dsimp only[Pt.U,Pt.locs,Pt.cells,Pt.slots] at X' l' y' z' st' hQ
 subst l' y' z'
 exact (K v T' L X' hQ).on fun t k=>st' t k
theorem aN (X:Stand p l e R s m args below meth c T locs cells slots)(hx:p.tables.exec=Jvm.exec){pc:Nat}{Ls:Array Slot}{st:List Value}(hZ:Z.Warmed39 s.vm){own:String}{i:Nat}{y:MethodName}{bytes:ByteArray}{maxL:Nat}{rm:Room}{as':Array Value}{Q:Option Value→Heap→List Loc→Prop}{argsL rest:List Value}(hy1:y.name = "<init>")(hown:s.vm.findClass own=some m.cls)(w1:(Jvm.Cond.methodLink own i y).before a0 Z=true)(w2:(Jvm.Cond.instanceMethod y).before a0 Z=true)(w3:(Jvm.Cond.initialized y.cls).before a0 Z=true)(w4:(Jvm.Cond.code y bytes maxL none).before a0 Z=true)(hy:y.cls ≠ "java/lang/invoke/MethodHandle"∧y.cls ≠ "java/lang/invoke/VarHandle")(hM:MetFree l y (head1 [Jvm.Cond.code y bytes maxL none] rm) (fun a U=>a=as'∧Z.Warmed39 U.vm∧U.heap=h) (fun _ _ _ _ _=>True) (fun _ U o U'=>∃v L,o = .returned v∧Q v U'.heap L∧FrameEnd U o U' L rm.cells rm.slots))(eT:T.heap=h){a:Addr}(hst:st=argsL.reverse ++ .ref a::rest)(has:(.ref a::argsL).toArray=as')(W:Nat)(q:Nat)(hq:pc+3=q)(hsz:Ls.size=c.maxLocals)(hlen:∀sig,parseMethodDescriptor y.desc=some sig→argsL.length=sig.parameters.length)(hW:(rest.map fun v=>v.category).sum≤W)(hf:rm.frames+1≤R.frames)(hl:W+(maxL+11)+rm.locals≤R.locals)(hc:cells+rm.cells≤R.cells)(hs:slots+rm.slots≤R.slots)(hd:decode c.code pc = .ok (.invokespecial i,3))
  (K:∀(v:Option Value) (T':State) (L:List Loc),Stand p l e R s m args below meth c T' (locs++L) (cells+rm.cells) (slots+rm.slots)→Q v T'.heap L→Go p e below Ev T' (mkF m q Ls (v.toList++rest))):Go p e below Ev T (mkF m pc Ls st):=by
 subst hq hst
 obtain⟨v,vm1,⟨T',L',k',n'⟩,-,X',⟨L,hQ,l',y',z'⟩,st'⟩:=X.specialBack hx hy1 hown (mvT hZ w1) (mvT hZ w2) (mvT hZ w4) hy (backOf (W:=W) hM hZ w4 w3 hf hl) (g:=mkF m pc Ls (argsL.reverse ++ .ref a::rest)) rfl hsz (Steps.refl _) (a:=a) (argsL:=argsL) (rest:=rest) hlen rfl (by show 2*0+_≤_;omega) hd (fun _ _=>⟨has,eT,hc,hs⟩)
 dsimp only[Pt.U,Pt.locs,Pt.cells,Pt.slots] at X' l' y' z' st' hQ
 subst l' y' z'
 exact (K v T' L X' hQ).on fun t k=>st'.trans k
theorem ak (X:Stand p l e R s m args below meth c T locs cells slots)(hx:p.tables.exec=Jvm.exec){pc:Nat}{Ls:Array Slot}{st:List Value}(hZ:Z.Warmed39 s.vm){own:String}{i:Nat}{y z:MethodName}{C:String}{bytes:ByteArray}{maxL:Nat}{ret:Option FieldType}{rm:Room}{as':Array Value}{Q:Option Value→Heap→List Loc→Prop}{argsL rest:List Value}(hown:s.vm.findClass own=some m.cls)(w1:(Jvm.Cond.methodLink own i y).before a0 Z=true)(w2:(Jvm.Cond.declares y).before a0 Z=true)(w5:(Jvm.Cond.selects y.cls y y).before a0 Z=true)(w6:(Jvm.Cond.selects C y z).before a0 Z=true)(w7:(Jvm.Cond.instanceMethod z).before a0 Z=true)(w3:(Jvm.Cond.initialized z.cls).before a0 Z=true)(w4:(Jvm.Cond.code z bytes maxL ret).before a0 Z=true)(hy:y.cls ≠ "java/lang/invoke/MethodHandle"∧y.cls ≠ "java/lang/invoke/VarHandle")(hM:MetFree l z (head1 [Jvm.Cond.code z bytes maxL ret] rm) (fun a U=>a=as'∧Z.Warmed39 U.vm∧U.heap=h) (fun _ _ _ _ _=>True) (fun _ U o U'=>∃v L,o = .returned v∧Q v U'.heap L∧FrameEnd U o U' L rm.cells rm.slots))(eT:T.heap=h){b:Addr}(E:Exa Z h b C)(hst:st=argsL.reverse ++ .ref b::rest)(has:(.ref b::argsL).toArray=as')(W:Nat)(q:Nat)(hq:pc+3=q)(hsz:Ls.size=c.maxLocals)(hlen:∀sig,parseMethodDescriptor y.desc=some sig→argsL.length=sig.parameters.length)(hW:(rest.map fun v=>v.category).sum≤W)(hf:rm.frames+1≤R.frames)(hl:W+(maxL+11)+rm.locals≤R.locals)(hc:cells+rm.cells≤R.cells)(hs:slots+rm.slots≤R.slots)(hd:decode c.code pc = .ok (.invokevirtual i,3))
  (K:∀(v:Option Value) (T':State) (L:List Loc),Stand p l e R s m args below meth c T' (locs++L) (cells+rm.cells) (slots+rm.slots)→Q v T'.heap L→Go p e below Ev T' (mkF m q Ls (v.toList++rest))):Go p e below Ev T (mkF m pc Ls st):=by
 subst hq hst
 obtain⟨cq,kq,qa,qb,qc⟩:=isOf hZ eT E
 obtain⟨v,vm1,⟨T',L',k',n'⟩,-,X',⟨L,hQ,l',y',z'⟩,st'⟩:=X.virtualBack hx hown (mvT hZ w1) (mvT hZ w2) (notFace_of_selects (args:=#[]) (mvT hZ w5)) (mvT hZ w6) (mvT hZ w7) hy (backOf (W:=W) hM hZ w4 w3 hf hl) qa qc (g:=mkF m pc Ls (argsL.reverse ++ .ref b::rest)) rfl hsz (Steps.refl _) (argsL:=argsL) (rest:=rest) hlen rfl (by show 2*0+_≤_;omega) hd (fun _ _=>⟨has,eT,hc,hs⟩)
 dsimp only[Pt.U,Pt.locs,Pt.cells,Pt.slots] at X' l' y' z' st' hQ
 subst l' y' z'
 exact (K v T' L X' hQ).on fun t k=>st'.trans k
theorem cB {n:Nat}(j:Int32)(h0:0≤j.toInt)(z:Int32)(h1:j.toInt<z.toInt)(S:n=z.toNatClampNeg):¬(j<0∨n≤j.toNatClampNeg):=by
 subst S
 intro q
 rcases q with q|q
 ·have:=(bQ j).1.mp q;omega
 ·simp only[Int32.toNatClampNeg] at q;omega
theorem bO {j:Int32}{k:Nat}(h:j.toInt=(k:Int)):j.toNatClampNeg=k:=by simp only[Int32.toNatClampNeg];omega
theorem aO (X:Stand p l e R s m args below meth c T locs cells slots)(hx:p.tables.exec=Jvm.exec){pc:Nat}{Ls:Array Slot}{st:List Value}(hZ:Z.Warmed39 s.vm){aty:ArrayType}(w:(Jvm.Cond.arrayClass (newarray.typeOf aty)).before a0 Z=true)(eT:T.heap=h){n:Int32}(hn:0≤n.toInt){cap:Nat}(hcap:n.toInt≤cap)(hb:cap*8≤536870912)(q:Nat)(hd:decode c.code pc = .ok (.newarray aty,2))(hq:pc+2=q)(hc:cells+1≤R.cells)(hl:slots+cap≤R.slots){ad:String}(had : "["++(newarray.typeOf aty).toString=ad)
  (K:∀(T':State) (h':Heap) (k:ClassId) (a:Addr),a=h.size→Stand p l e R s m args below meth c T' locs (cells+1) (slots+cap)→T'.heap=h'→Ext h h'→Arv Z h' a k (newarray.typeOf aty) n [] (defaultValue (newarray.typeOf aty))→Exa Z h' a ad→Go p e below Ev T' (mkF m q Ls (.ref a::st))):Go p e below Ev T (mkF m pc Ls (.int n::st)):=by
 subst hq
 have hn':¬n<0:=fun q=>by have:=(bQ n).1.mp q;omega
 obtain⟨T',h',k,X',e',E',A',B',st'⟩:=newPE X hx hZ w eT (g:=mkF m pc Ls (.int n::st)) rfl hd rfl hn' (cap:=cap) (by simp only[Int32.toNatClampNeg];omega) hb hc hl had
 exact (K T' h' k _ rfl X' e' E' (Arv.new A' hn') B').on st'
theorem aH (X:Stand p l e R s m args below meth c T locs cells slots)(hx:p.tables.exec=Jvm.exec){pc:Nat}{Ls:Array Slot}{st:List Value}(hZ:Z.Warmed39 s.vm)(eT:T.heap=h){a:Addr}{k:ClassId}{ty:FieldType}{z:Int32}{vs:List Value}{dv:Value}(V:Arv Z h a k ty z vs dv)(q:Nat)(hd:decode c.code pc = .ok (.arraylength,1))(hq:pc+1=q)(K:Go p e below Ev T (mkF m q Ls (.int z::st))):Go p e below Ev T (mkF m pc Ls (.ref a::st)):=by
 subst hq
 obtain⟨cl,A,q1,S,q3,H,G⟩:=V
 refine K.on fun t k=>X.arraylength hx (by rw[eT];exact A.1) (State.isArrayOf_alike hZ.alike A.2.1) (g:=mkF m pc Ls (.ref a::st)) rfl rfl hd t ?_
 rw[len_of S q3]
 exact k
theorem bI (X:Stand p l e R s m args below meth c T locs cells slots)(hx:p.tables.exec=Jvm.exec){pc:Nat}{Ls:Array Slot}{st:List Value}(hZ:Z.Warmed39 s.vm)(eT:T.heap=h){a:Addr}{k:ClassId}{z j:Int32}{x:Int32}{vs:List Value}{dv:Value}(V:Arv Z h a k .int z vs dv)(i:Nat)(hi:j.toInt=(i:Int))(hz:j.toInt<z.toInt)(hv:i<vs.length)(q:Nat)(hd:decode c.code pc = .ok (.iastore,1))(hq:pc+1=q)
  (K:∀T' h',Stand p l e R s m args below meth c T' (locs++[⟨a,j.toNatClampNeg⟩]) cells slots→T'.heap=h'→Wr h h' a j.toNatClampNeg (.int x)→Arv Z h' a k .int z (vs.set i (.int x)) dv→Go p e below Ev T' (mkF m q Ls st)):Go p e below Ev T (mkF m pc Ls (.int x :: .int j :: .ref a::st)):=by
 subst hq
 obtain⟨cl,A,q1,S,q3,H,G⟩:=V
 have hj:=cB j (by omega) z hz S
 obtain⟨T',h',X',e',W',st'⟩:=stI X hx hZ eT A hj (g:=mkF m pc Ls (.int x :: .int j :: .ref a::st)) rfl rfl hd
 exact (K T' h' X' e' W' (Arv.set A q1 S q3 H G rfl W' i (bO hi) hv)).on st'
theorem aP (X:Stand p l e R s m args below meth c T locs cells slots)(hx:p.tables.exec=Jvm.exec){pc:Nat}{Ls:Array Slot}{st:List Value}(hZ:Z.Warmed39 s.vm)(eT:T.heap=h){a:Addr}{k:ClassId}{z j:Int32}{v:Value}{vs:List Value}{dv:Value}(V:Arv Z h a k .int z vs dv)(hi:0≤j.toInt)(hz:j.toInt<z.toInt)(hv:vs.getD j.toNatClampNeg dv=v)(q:Nat)(hd:decode c.code pc = .ok (.iaload,1))(hq:pc+1=q)(K:Go p e below Ev T (mkF m q Ls (v::st))):Go p e below Ev T (mkF m pc Ls (.int j :: .ref a::st)):=by
 subst hq
 obtain⟨cl,A,q1,S,q3,H,G⟩:=V
 have hj:=cB j hi z hz S
 exact K.on fun t k=>X.iaload hx (by rw[eT];exact A.1) (State.isArrayOf_alike hZ.alike A.2.1) A.2.2 hj (H.at hj hv) (g:=mkF m pc Ls (.int j :: .ref a::st)) rfl rfl hd t k
theorem dd (X:Stand p l e R s m args below meth c T locs cells slots)(hx:p.tables.exec=Jvm.exec){pc:Nat}{Ls:Array Slot}{st:List Value}(hZ:Z.Warmed39 s.vm){own C:String}{i:Nat}(hown:s.vm.findClass own=some m.cls)(w:(Jvm.Cond.classLink own i C).before a0 Z=true)(eT:T.heap=h){a:Addr}(F:Ins Z h a C true)(q:Nat)(hd:decode c.code pc = .ok (.checkcast i,3))(hq:pc+3=q)(K:∀T',Stand p l e R s m args below meth c T' locs cells slots→T'.heap=h→Go p e below Ev T' (mkF m q Ls (.ref a::st))):Go p e below Ev T (mkF m pc Ls (.ref a::st)):=by
 subst hq
 obtain⟨T',X',e',st'⟩:=castY X hx hZ hown w eT F (g:=mkF m pc Ls (.ref a::st)) rfl rfl hd
 exact (K T' X' e').on st'
end OwnKit
theorem dT:parseMethodDescriptor "([CI)Ljava/lang/String;" = some ⟨[(.array .char),.int],some (.object sg1)⟩:=by decide +kernel
theorem bj:parseMethodDescriptor "([C)V" = some ⟨[(.array .char)],none⟩:=by decide +kernel
theorem ns:parseMethodDescriptor "([CIILjava/lang/Void;)V" = some ⟨[(.array .char),.int,.int,(.object "java/lang/Void")],none⟩:=by decide +kernel
theorem cU:parseMethodDescriptor "()V" = some ⟨[],none⟩:=by decide +kernel
theorem jf:parseMethodDescriptor "([CII)[B" = some ⟨[(.array .char),.int,.int],some (.array .byte)⟩:=by decide +kernel
theorem nt:parseMethodDescriptor "([CI[BII)I" = some ⟨[(.array .char),.int,(.array .byte),.int,.int],some .int⟩:=by decide +kernel
theorem jg:parseMethodDescriptor "([BI)B" = some ⟨[(.array .byte),.int],some .byte⟩:=by decide +kernel
theorem dU:parseMethodDescriptor "(Ljava/lang/String;)Lcom/example/hierarchical_roles/hierarchicalroles/ResourcePath;" = some ⟨[(.object sg1)],some (.object sg0)⟩:=by decide +kernel
theorem dV:parseMethodDescriptor "(Ljava/lang/Object;Ljava/lang/String;)Ljava/lang/Object;" = some ⟨[(.object sg6),(.object sg1)],some (.object sg6)⟩:=by decide +kernel
theorem dW:parseMethodDescriptor "(Ljava/lang/String;)Z" = some ⟨[(.object sg1)],some .boolean⟩:=by decide +kernel
theorem ei:parseMethodDescriptor "(Ljava/lang/String;I)Z" = some ⟨[(.object sg1),.int],some .boolean⟩:=by decide +kernel
theorem aF:parseMethodDescriptor "()I" = some ⟨[],some .int⟩:=by decide +kernel
theorem a9:parseMethodDescriptor "()B" = some ⟨[],some .byte⟩:=by decide +kernel
theorem ej:parseMethodDescriptor "([BI[BII)I" = some ⟨[(.array .byte),.int,(.array .byte),.int,.int],some .int⟩:=by decide +kernel
theorem cV:parseMethodDescriptor "()Ljava/util/List;" = some ⟨[],some (.object sg9)⟩:=by decide +kernel
theorem b0:parseMethodDescriptor "(II)Z" = some ⟨[.int,.int],some .boolean⟩:=by decide +kernel
theorem bn:parseMethodDescriptor "(II)C" = some ⟨[.int,.int],some .char⟩:=by decide +kernel
theorem b5:parseMethodDescriptor "([CIII)I" = some ⟨[(.array .char),.int,.int,.int],some .int⟩:=by decide +kernel
theorem aG:parseMethodDescriptor "(II)I" = some ⟨[.int,.int],some .int⟩:=by decide +kernel
theorem b6:parseMethodDescriptor "()Z" = some ⟨[],some .boolean⟩:=by decide +kernel
theorem cC:parseMethodDescriptor "([BIII)I" = some ⟨[(.array .byte),.int,.int,.int],some .int⟩:=by decide +kernel
theorem jS:parseMethodDescriptor "(I)Z" = some ⟨[.int],some .boolean⟩:=by decide +kernel
theorem en:parseMethodDescriptor "(Ljava/lang/String;[I)V" = some ⟨[(.object sg1),(.array .int)],none⟩:=by decide +kernel
theorem aS:parseMethodDescriptor "(I)I" = some ⟨[.int],some .int⟩:=by decide +kernel
theorem b7:parseMethodDescriptor "(Ljava/lang/String;II)V" = some ⟨[(.object sg1),.int,.int],none⟩:=by decide +kernel
theorem cD:parseMethodDescriptor "(I)C" = some ⟨[.int],some .char⟩:=by decide +kernel
theorem bh:parseMethodDescriptor "([BI)C" = some ⟨[(.array .byte),.int],some .char⟩:=by decide +kernel
theorem eo:parseMethodDescriptor "(II)V" = some ⟨[.int,.int],none⟩:=by decide +kernel
theorem jT:parseMethodDescriptor "(IILjava/util/function/BiFunction;)I" = some ⟨[.int,.int,(.object "java/util/function/BiFunction")],some .int⟩:=by decide +kernel
theorem b8:parseMethodDescriptor "(II)Ljava/lang/String;" = some ⟨[.int,.int],some (.object sg1)⟩:=by decide +kernel
theorem ep:parseMethodDescriptor "(III)V" = some ⟨[.int,.int,.int],none⟩:=by decide +kernel
theorem gD:parseMethodDescriptor "(IIILjava/util/function/BiFunction;)I" = some ⟨[.int,.int,.int,(.object "java/util/function/BiFunction")],some .int⟩:=by decide +kernel
theorem gE:parseMethodDescriptor "([BII)Ljava/lang/String;" = some ⟨[(.array .byte),.int,.int],some (.object sg1)⟩:=by decide +kernel
theorem cW:parseMethodDescriptor "([BII)[B" = some ⟨[(.array .byte),.int,.int],some (.array .byte)⟩:=by decide +kernel
theorem et:parseMethodDescriptor "([BB)V" = some ⟨[(.array .byte),.byte],none⟩:=by decide +kernel
theorem cX:parseMethodDescriptor "([Ljava/lang/Object;)Ljava/util/List;" = some ⟨[(.array (.object sg6))],some (.object sg9)⟩:=by decide +kernel
theorem b9:parseMethodDescriptor "(Ljava/lang/Object;)Ljava/lang/Object;" = some ⟨[(.object sg6)],some (.object sg6)⟩:=by decide +kernel
theorem jU:parseMethodDescriptor "([Ljava/lang/Object;Z)V" = some ⟨[(.array (.object sg6)),.boolean],none⟩:=by decide +kernel
theorem b_:parseMethodDescriptor "(I)Ljava/lang/Object;" = some ⟨[.int],some (.object sg6)⟩:=by decide +kernel
theorem cb:parseMethodDescriptor "(Ljava/lang/String;II)Z" = some ⟨[(.object sg1),.int,.int],some .boolean⟩:=by decide +kernel
theorem jV:parseMethodDescriptor "(Ljava/lang/Object;Ljava/lang/Object;)V" = some ⟨[(.object sg6),(.object sg6)],none⟩:=by decide +kernel
theorem jW:parseMethodDescriptor "(Ljava/lang/Object;)V" = some ⟨[(.object sg6)],none⟩:=by decide +kernel
theorem jX:parseMethodDescriptor "(I)[B" = some ⟨[.int],some (.array .byte)⟩:=by decide +kernel
theorem jY:parseMethodDescriptor "([BII)V" = some ⟨[(.array .byte),.int,.int],none⟩:=by decide +kernel
theorem gF:parseMethodDescriptor "(II[B)V" = some ⟨[.int,.int,(.array .byte)],none⟩:=by decide +kernel
theorem eu:parseMethodDescriptor "([B)I" = some ⟨[(.array .byte)],some .int⟩:=by decide +kernel
theorem jZ:parseMethodDescriptor "(III)I" = some ⟨[.int,.int,.int],some .int⟩:=by decide +kernel
theorem j0:parseMethodDescriptor "(I[B)V" = some ⟨[.int,(.array .byte)],none⟩:=by decide +kernel
def gG (n0:Nat)(v:Option Value)(h:Heap)(L:List Loc):Prop:=v=some (.int 1)∧Fr n0 L
section OwnKit2
variable {p:Program}{l:Launch}{e:Env}{R:Room}{s:State}{m:MethodId}{args:Array Value}{below:List Frame}{meth:Method}{c:Code}{T:State}{locs:List Loc}{cells slots:Nat}{Z:State}{a0:Array Value}{h h':Heap}{Ev:State→Outcome→Prop}
theorem aL (X:Stand p l e R s m args below meth c T locs cells slots)(hx:p.tables.exec=Jvm.exec){pc:Nat}{Ls:Array Slot}{st:List Value}{x y:Int32}(r:Int32)(hr:x+y=r)(q:Nat)(hd:decode c.code pc = .ok (.iadd,1))(hq:pc+1=q)(K:Go p e below Ev T (mkF m q Ls (.int r::st))):Go p e below Ev T (mkF m pc Ls (.int y :: .int x::st)):=by
 subst hr
 exact aQ X hx q hd hq K
theorem fo (X:Stand p l e R s m args below meth c T locs cells slots)(hx:p.tables.exec=Jvm.exec){pc:Nat}{Ls:Array Slot}{st:List Value}{x y:Int32}(r:Int32)(hr:x*y=r)(q:Nat)(hd:decode c.code pc = .ok (.imul,1))(hq:pc+1=q)(K:Go p e below Ev T (mkF m q Ls (.int r::st))):Go p e below Ev T (mkF m pc Ls (.int y :: .int x::st)):=by
 subst hr
 exact pI X hx q hd hq K
theorem aw (X:Stand p l e R s m args below meth c T locs cells slots)(hx:p.tables.exec=Jvm.exec){pc:Nat}{Ls:Array Slot}{st:List Value}{k:Nat}{i:Int}{v w:Int32}(r:Int32)(hr:v+w=r){l':Array Slot}(q:Nat)(hd:decode c.code pc = .ok (.iinc k i,3))(hq:pc+3=q)(hl:Ls[k]? = some (.val (.int v)))(hv:Int32.ofInt i=w)(hl':storeLocals Ls k (.int r)=some l')(K:Go p e below Ev T (mkF m q l' st)):Go p e below Ev T (mkF m pc Ls st):=by
 subst hr
 exact a5 X hx q hd hq hl hv hl' K
theorem bM (X:Stand p l e R s m args below meth c T locs cells slots)(hx:p.tables.exec=Jvm.exec){pc:Nat}{Ls:Array Slot}{st:List Value}(hZ:Z.Warmed39 s.vm)(eT:T.heap=h){a:Addr}{k:ClassId}{ty:FieldType}{z j:Int32}{v:Value}{vs:List Value}{dv:Value}(V:Arv Z h a k ty z vs dv)(hty:ty.isReference=true)(hi:0≤j.toInt)(hz:j.toInt<z.toInt)(hv:vs.getD j.toNatClampNeg dv=v)(q:Nat)(hd:decode c.code pc = .ok (.aaload,1))(hq:pc+1=q)(K:Go p e below Ev T (mkF m q Ls (v::st))):Go p e below Ev T (mkF m pc Ls (.int j :: .ref a::st)):=by
 subst hq
 obtain⟨cl,A,q1,S,q3,H,G⟩:=V
 have hj:=cB j hi z hz S
 exact K.on fun t k=>X.aaload hx (by rw[eT];exact A.1) (State.isArrayOf_alike hZ.alike A.2.1) hty A.2.2 hj (H.at hj hv) (g:=mkF m pc Ls (.int j :: .ref a::st)) rfl rfl hd t k
theorem bE (X:Stand p l e R s m args below meth c T locs cells slots)(hx:p.tables.exec=Jvm.exec){pc:Nat}{Ls:Array Slot}{st:List Value}(hZ:Z.Warmed39 s.vm){own:String}{i:Nat}{y z:MethodName}{C:String}{bytes:ByteArray}{maxL:Nat}{ret:Option FieldType}{rm:Room}{as':Array Value}{Q:Option Value→Heap→List Loc→Prop}{argsL rest:List Value}(hown:s.vm.findClass own=some m.cls)(w1:(Jvm.Cond.methodLink own i y).before a0 Z=true)(w2:(Jvm.Cond.privateMethod y).before a0 Z=true)(w5:(Jvm.Cond.selects z.cls z z).before a0 Z=true)(hyz:z.cls=y.cls)(w7:(Jvm.Cond.instanceMethod y).before a0 Z=true)(w3:(Jvm.Cond.initialized y.cls).before a0 Z=true)(w4:(Jvm.Cond.code y bytes maxL ret).before a0 Z=true)(hy:y.cls ≠ "java/lang/invoke/MethodHandle"∧y.cls ≠ "java/lang/invoke/VarHandle")(hM:MetFree l y (head1 [Jvm.Cond.code y bytes maxL ret] rm) (fun a U=>a=as'∧Z.Warmed39 U.vm∧U.heap=h) (fun _ _ _ _ _=>True) (fun _ U o U'=>∃v L,o = .returned v∧Q v U'.heap L∧FrameEnd U o U' L rm.cells rm.slots))(eT:T.heap=h){b:Addr}(E:Exa Z h b C)(hst:st=argsL.reverse ++ .ref b::rest)(has:(.ref b::argsL).toArray=as')(W:Nat)(q:Nat)(hq:pc+3=q)(hsz:Ls.size=c.maxLocals)(hlen:∀sig,parseMethodDescriptor y.desc=some sig→argsL.length=sig.parameters.length)(hW:(rest.map fun v=>v.category).sum≤W)(hf:rm.frames+1≤R.frames)(hl:W+(maxL+11)+rm.locals≤R.locals)(hc:cells+rm.cells≤R.cells)(hs:slots+rm.slots≤R.slots)(hd:decode c.code pc = .ok (.invokevirtual i,3))
  (K:∀(v:Option Value) (T':State) (L:List Loc),Stand p l e R s m args below meth c T' (locs++L) (cells+rm.cells) (slots+rm.slots)→Q v T'.heap L→Go p e below Ev T' (mkF m q Ls (v.toList++rest))):Go p e below Ev T (mkF m pc Ls st):=by
 subst hq hst
 obtain⟨cell,k,g1,g2,g3,g4,-⟩:=E
 have pa:s.PrivateAt y:=Cond.privateMethod_at (mvP hZ w2 (args:=#[]))
 obtain⟨cc,rr,mm,s1,-,s2,-,kP,s3,s4⟩:=Cond.selects_spec (mvT hZ w5:(Jvm.Cond.selects z.cls z z).before args s=true)
 have fc:=findClass_of_methodNamed s2
 rw[hyz] at fc
 have sl:(Jvm.Cond.selects y.cls y y).before args s=true:=selects_self_of_private fc s3 s4 pa (mvT hZ w7) hy
 obtain⟨v,vm1,⟨T',L',k',n'⟩,-,X',⟨L,hQ,l',y',z'⟩,st'⟩:=X.privateBack hx hown (mvT hZ w1) (mvT hZ w7) sl pa (mvT hZ w4) hy (backOf (W:=W) hM hZ w4 w3 hf hl) (g:=mkF m pc Ls (argsL.reverse ++ .ref b::rest)) rfl hsz (Steps.refl _) (a:=b) (by rw[eT];exact g1) (fun q w=>by rw[w] at g4;cases g4) (argsL:=argsL) (rest:=rest) hlen rfl (by show 2*0+_≤_;omega) hd (fun _ _=>⟨has,eT,hc,hs⟩)
 dsimp only[Pt.U,Pt.locs,Pt.cells,Pt.slots] at X' l' y' z' st' hQ
 subst l' y' z'
 exact (K v T' L X' hQ).on fun t k=>st'.trans k
end OwnKit2
section OwnKit3
variable {p:Program}{l:Launch}{e:Env}{R:Room}{s:State}{m:MethodId}{args:Array Value}{below:List Frame}{meth:Method}{c:Code}{T:State}{locs:List Loc}{cells slots:Nat}{Z:State}{a0:Array Value}{h h':Heap}{Ev:State→Outcome→Prop}
theorem bT (X:Stand p l e R s m args below meth c T locs cells slots)(hx:p.tables.exec=Jvm.exec){pc:Nat}{Ls:Array Slot}{st:List Value}(hZ:Z.Warmed39 s.vm){own:String}{i:Nat}{y z:MethodName}{C:String}{bytes:ByteArray}{maxL:Nat}{ret:Option FieldType}{rm:Room}{as':Array Value}{Q:Option Value→Heap→List Loc→Prop}{argsL rest:List Value}{cn:Nat}(hown:s.vm.findClass own=some m.cls)(w1:(Jvm.Cond.methodLink own i y).before a0 Z=true)(w2:(Jvm.Cond.declares y).before a0 Z=true)(w5:(Jvm.Cond.interfaceMethod y.cls y.cls y.name y.desc).before args s=true)(w6:(Jvm.Cond.selects C y z).before a0 Z=true)(w7:(Jvm.Cond.instanceMethod z).before a0 Z=true)(w8:(Jvm.Cond.publicMethod z).before a0 Z=true)(w9:(Jvm.Cond.unhidden C y.name y.desc).before a0 Z=true)(wc:(Jvm.Cond.castable C y.cls).before a0 Z=true)(w3:(Jvm.Cond.initialized z.cls).before a0 Z=true)(w4:(Jvm.Cond.code z bytes maxL ret).before a0 Z=true)(hy:y.cls ≠ "java/lang/invoke/MethodHandle"∧y.cls ≠ "java/lang/invoke/VarHandle")(hM:MetFree l z (head1 [Jvm.Cond.code z bytes maxL ret] rm) (fun a U=>a=as'∧Z.Warmed39 U.vm∧U.heap=h) (fun _ _ _ _ _=>True) (fun _ U o U'=>∃v L,o = .returned v∧Q v U'.heap L∧FrameEnd U o U' L rm.cells rm.slots))(eT:T.heap=h){b:Addr}(E:Exa Z h b C)(hst:st=argsL.reverse ++ .ref b::rest)(has:(.ref b::argsL).toArray=as')(W:Nat)(q:Nat)(hq:pc+5=q)(hsz:Ls.size=c.maxLocals)(hlen:∀sig,parseMethodDescriptor y.desc=some sig→argsL.length=sig.parameters.length)(hW:(rest.map fun v=>v.category).sum≤W)(hf:rm.frames+1≤R.frames)(hl:W+(maxL+11)+rm.locals≤R.locals)(hc:cells+rm.cells≤R.cells)(hs:slots+rm.slots≤R.slots)(hd:decode c.code pc = .ok (.invokeinterface i cn,5))
  (K:∀(v:Option Value) (T':State) (L:List Loc),Stand p l e R s m args below meth c T' (locs++L) (cells+rm.cells) (slots+rm.slots)→Q v T'.heap L→Go p e below Ev T' (mkF m q Ls (v.toList++rest))):Go p e below Ev T (mkF m pc Ls st):=by
 subst hq hst
 obtain⟨cq,kq,qa,qb,qc⟩:=isOf hZ eT E
 obtain⟨v,vm1,⟨T',L',k',n'⟩,-,X',⟨L,hQ,l',y',z'⟩,st'⟩:=X.interfaceBack hx hown (mvT hZ w1) (mvT hZ w2) w5 (mvT hZ w6) (mvT hZ w7) (mvT hZ w8) (mvT hZ w9) (mvT hZ wc) hy (backOf (W:=W) hM hZ w4 w3 hf hl) qa qb qc (g:=mkF m pc Ls (argsL.reverse ++ .ref b::rest)) rfl hsz (Steps.refl _) (argsL:=argsL) (rest:=rest) hlen rfl (by show 2*0+_≤_;omega) hd (fun _ _=>⟨has,eT,hc,hs⟩)
 dsimp only[Pt.U,Pt.locs,Pt.cells,Pt.slots] at X' l' y' z' st' hQ
 subst l' y' z'
 exact (K v T' L X' hQ).on fun t k=>st'.trans k
theorem a1 (X:Stand p l e R s m args below meth c T locs cells slots)(hx:p.tables.exec=Jvm.exec){pc:Nat}{Ls:Array Slot}{st:List Value}(hZ:Z.Warmed39 s.vm){own R0 O n d:String}{i:Nat}(hown:s.vm.findClass own=some m.cls)(w:(Jvm.Cond.fieldLink own i R0 n d).before a0 Z=true)(via:Via Z R0 O n d)(eT:T.heap=h){v:Value}(F:Sta Z h O n d v)(q:Nat)(hd:decode c.code pc = .ok (.getstatic i,3))(hq:pc+3=q)(K:∀T',Stand p l e R s m args below meth c T' locs cells slots→T'.heap=h→Go p e below Ev T' (mkF m q Ls (v::st))):Go p e below Ev T (mkF m pc Ls st):=by
 subst hq
 obtain⟨T',X',e',st'⟩:=getS X hx hZ hown (host := "") w via eT F (g:=mkF m pc Ls st) rfl hd
 exact (K T' X' e').on st'
theorem fp (X:Stand p l e R s m args below meth c T locs cells slots)(hx:p.tables.exec=Jvm.exec){pc:Nat}{Ls:Array Slot}{st:List Value}(hZ:Z.Warmed39 s.vm){own C:String}{i:Nat}(hown:s.vm.findClass own=some m.cls)(w1:(Jvm.Cond.classLink own i C).before a0 Z=true)(w2:(Jvm.Cond.arrayOver (.object C)).before a0 Z=true)(eT:T.heap=h){n:Int32}(hn:0≤n.toInt){cap:Nat}(hcap:n.toInt≤cap)(hb:cap*8≤536870912)(q:Nat)(hd:decode c.code pc = .ok (.anewarray i,3))(hq:pc+3=q)(hc:cells+1≤R.cells)(hl:slots+cap≤R.slots)
  (K:∀(T':State) (h':Heap) (k:ClassId) (a:Addr),a=h.size→Stand p l e R s m args below meth c T' locs (cells+1) (slots+cap)→T'.heap=h'→Ext h h'→Arv Z h' a k (.object C) n [] .null→Ovr Z k C→Go p e below Ev T' (mkF m q Ls (.ref a::st))):Go p e below Ev T (mkF m pc Ls (.int n::st)):=by
 subst hq
 have hn':¬n<0:=fun q=>by have:=(bQ n).1.mp q;omega
 obtain⟨T',h',k,X',e',E',A',O',st'⟩:=newR X hx hZ hown w1 w2 eT (g:=mkF m pc Ls (.int n::st)) rfl hd rfl hn' (cap:=cap) (by simp only[Int32.toNatClampNeg];omega) hb hc hl
 exact (K T' h' k _ rfl X' e' E' (Arv.new A' hn') O').on st'
theorem de (X:Stand p l e R s m args below meth c T locs cells slots)(hx:p.tables.exec=Jvm.exec){pc:Nat}{Ls:Array Slot}{st:List Value}{x y:Addr}{o:Int}(q1 q2:Nat)(hd:decode c.code pc = .ok (.if_acmp .eq o,3))(ho:0≤(pc:Int)+o)(h1:((pc:Int)+o).toNat=q1)(h2:pc+3=q2)(Kt:x=y→Go p e below Ev T (mkF m q1 Ls st))(Kf:x≠y→Go p e below Ev T (mkF m q2 Ls st)):Go p e below Ev T (mkF m pc Ls (.ref y :: .ref x::st)):=by
 by_cases hc:x=y
 ·exact (Kt hc).on fun _ k=>Jvm.RoadKit.acmp (g:=mkF m pc Ls (.ref y :: .ref x::st)) X hx rfl rfl rfl (pc0:=pc) (pc':=q1) (same:=true) rfl hd rfl (by simp [hc]) ho (by simp [acV,h1]) k
 ·exact (Kf hc).on fun _ k=>Jvm.RoadKit.acmp (g:=mkF m pc Ls (.ref y :: .ref x::st)) X hx rfl rfl rfl (pc0:=pc) (pc':=q2) (same:=false) rfl hd rfl (by simp [hc]) ho (by simp [acV,h2]) k
end OwnKit3
section OwnKitS
variable {p:Program}{l:Launch}{e:Env}{R:Room}{s:State}{m:MethodId}{args:Array Value}{below:List Frame}{meth:Method}{c:Code}{T:State}{locs:List Loc}{cells slots:Nat}{Z:State}{a0:Array Value}{h h':Heap}{Ev:State→Outcome→Prop}{vm0:Vm}{k0:Nat}
abbrev gH (s:State)(Q:Option Value→Heap→List Loc→Prop)(K N:Nat):State→Outcome→Prop:=fun U o=>∃(v:Option Value)(L:List Loc),o = .returned v∧Q v U.heap L∧ReturnedEndW s o U L K N
theorem gI (X:Stand p l e R (s.setVm vm0) m args below meth c T locs cells slots)(hlk:meth.locks=false){Q:Option Value→Heap→List Loc→Prop}{K N:Nat}{g:JFrame}{v:Option Value}(hv:meth.sig.returnType=none→v=none)(hK:cells≤K)(hN:slots≤N)(eT:T.heap=h)(hS:s.Since vm0 k0)(hk:k0≤h.size)(hQ:Q v h locs)
  (hst:∀fs,(∀(f:JFrame) (acts:List Action),f.method=m→f.locked=none→f.entered=[]→(doReturn e (T.setTop f) acts v).1=T.setFrames fs)→Steps p.tables e below (T.setTop g) (T.setFrames fs)):Go p e below (gH s Q K N) T g:=by
 obtain⟨fs,hr,hrun,hended,hW,hsame⟩:=X.leave (v:=v) hv hlk
 obtain⟨q1,q2,q3⟩:=hS.ended (U:=T.setFrames fs) hW (by show k0≤T.heap.size;rw[eT];exact hk) hsame
 exact⟨_,_,hst fs hr,hrun,hended,_,_,rfl,by rw[show (T.setFrames fs).heap=T.heap from rfl,eT];exact hQ,⟨_,rfl⟩,q1,q2,q3.mono hK hN⟩
theorem bv (X:Stand p l e R (s.setVm vm0) m args below meth c T locs cells slots)(hx:p.tables.exec=Jvm.exec)(hlk:meth.locks=false){Q:Option Value→Heap→List Loc→Prop}{K N:Nat}{pc:Nat}{Ls:Array Slot}{z:Int32}{rest:List Value}(hret:meth.sig.returnType=some .boolean)(hd:decode c.code pc = .ok (.ireturn,1))(hK:cells≤K)(hN:slots≤N)(eT:T.heap=h)(hS:s.Since vm0 k0)(hk:k0≤h.size)(hQ:Q (some (.int (nar .boolean z))) h locs):Go p e below (gH s Q K N) T (mkF m pc Ls (.int z::rest)) :=
 gI X hlk (fun q=>by rw[hret] at q;cases q) hK hN eT hS hk hQ (fun fs hr=>retN X hx (t := .boolean) hret (by simp) hd hr)
end OwnKitS
section OwnKit4
variable {p:Program}{l:Launch}{e:Env}{R:Room}{s:State}{m:MethodId}{args:Array Value}{below:List Frame}{meth:Method}{c:Code}{T:State}{locs:List Loc}{cells slots:Nat}{Z:State}{a0:Array Value}{h h':Heap}{Ev:State→Outcome→Prop}{vm0:Vm}{k0:Nat}{EL:List (String×Nat)}
theorem bo (X:Stand p l e R s m args below meth c T locs cells slots)(hx:p.tables.exec=Jvm.exec)(hlk:meth.locks=false){Q:Option Value→Heap→List Loc→Prop}{K N:Nat}{pc:Nat}{Ls:Array Slot}{z:Int32}{rest:List Value}{t:FieldType}(hret:meth.sig.returnType=some t)(ht:t = .char∨t = .byte)(hd:decode c.code pc = .ok (.ireturn,1))(hK:cells≤K)(hN:slots≤N)(eT:T.heap=h)(hQ:Q (some (.int (nar t z))) h locs):Go p e below (dR s Q K N) T (mkF m pc Ls (.int z::rest)) :=
 cT X hlk (fun q=>by rw[hret] at q;cases q) hK hN eT hQ (fun fs hr=>retN X hx hret (by rcases ht with rfl|rfl<;>simp) hd hr)
theorem cY (X:Stand p l e R s m args below meth c T locs cells slots)(hx:p.tables.exec=Jvm.exec){pc:Nat}{Ls:Array Slot}{st:List Value}(hZ:Z.Warmed39 s.vm)(eT:T.heap=h){a:Addr}{k:ClassId}{z j:Int32}{v:Value}{vs:List Value}{dv:Value}(V:Arv Z h a k .char z vs dv)(hi:0≤j.toInt)(hz:j.toInt<z.toInt)(hv:vs.getD j.toNatClampNeg dv=v)(q:Nat)(hd:decode c.code pc = .ok (.caload,1))(hq:pc+1=q)(K:Go p e below Ev T (mkF m q Ls (v::st))):Go p e below Ev T (mkF m pc Ls (.int j :: .ref a::st)):=by
 subst hq
 obtain⟨cl,A,q1,S,q3,H,G⟩:=V
 have hj:=cB j hi z hz S
 exact K.on fun t k=>X.caload hx (by rw[eT];exact A.1) (State.isArrayOf_alike hZ.alike A.2.1) A.2.2 hj (H.at hj hv) (g:=mkF m pc Ls (.int j :: .ref a::st)) rfl rfl hd t k
theorem aW (X:Stand p l e R s m args below meth c T locs cells slots)(hx:p.tables.exec=Jvm.exec){pc:Nat}{Ls:Array Slot}{st:List Value}(hZ:Z.Warmed39 s.vm)(eT:T.heap=h){a:Addr}{k:ClassId}{z j:Int32}{v:Value}{vs:List Value}{dv:Value}(V:Arv Z h a k .byte z vs dv)(hi:0≤j.toInt)(hz:j.toInt<z.toInt)(hv:vs.getD j.toNatClampNeg dv=v)(q:Nat)(hd:decode c.code pc = .ok (.baload,1))(hq:pc+1=q)(K:Go p e below Ev T (mkF m q Ls (v::st))):Go p e below Ev T (mkF m pc Ls (.int j :: .ref a::st)):=by
 subst hq
 obtain⟨cl,A,q1,S,q3,H,G⟩:=V
 have hj:=cB j hi z hz S
 exact K.on fun t k=>X.baloadBytes hx (by rw[eT];exact A.1) (State.isArrayOf_alike hZ.alike A.2.1) A.2.2 hj (H.at hj hv) (g:=mkF m pc Ls (.int j :: .ref a::st)) rfl rfl hd t k
theorem aR (X:Stand p l e R s m args below meth c T locs cells slots)(hx:p.tables.exec=Jvm.exec){pc:Nat}{Ls:Array Slot}{st:List Value}(hZ:Z.Warmed39 s.vm)(eT:T.heap=h){a:Addr}{k:ClassId}{z j x:Int32}{vs:List Value}{dv:Value}(V:Arv Z h a k .char z vs dv)(i:Nat)(hi:j.toInt=(i:Int))(hz:j.toInt<z.toInt)(hv:i<vs.length)(y:Int32)(hy:nar .char x=y)(q:Nat)(hd:decode c.code pc = .ok (.castore,1))(hq:pc+1=q)
  (K:∀T' h',Stand p l e R s m args below meth c T' (locs++[⟨a,j.toNatClampNeg⟩]) cells slots→T'.heap=h'→Wr h h' a j.toNatClampNeg (.int y)→Arv Z h' a k .char z (vs.set i (.int y)) dv→Go p e below Ev T' (mkF m q Ls st)):Go p e below Ev T (mkF m pc Ls (.int x :: .int j :: .ref a::st)):=by
 subst hq hy
 obtain⟨cl,A,q1,S,q3,H,G⟩:=V
 have hj:=cB j (by omega) z hz S
 obtain⟨T',h',X',e',W',st'⟩:=stC X hx hZ eT A hj (g:=mkF m pc Ls (.int x :: .int j :: .ref a::st)) rfl rfl hd
 exact (K T' h' X' e' W' (Arv.set A q1 S q3 H G (fits_nar_char _) W' i (bO hi) hv)).on st'
theorem cK (X:Stand p l e R s m args below meth c T locs cells slots)(hx:p.tables.exec=Jvm.exec){pc:Nat}{Ls:Array Slot}{st:List Value}(hZ:Z.Warmed39 s.vm)(eT:T.heap=h){a:Addr}{k:ClassId}{z j x:Int32}{vs:List Value}{dv:Value}(V:Arv Z h a k .byte z vs dv)(i:Nat)(hi:j.toInt=(i:Int))(hz:j.toInt<z.toInt)(hv:i<vs.length)(y:Int32)(hy:nar .byte x=y)(q:Nat)(hd:decode c.code pc = .ok (.bastore,1))(hq:pc+1=q)
  (K:∀T' h',Stand p l e R s m args below meth c T' (locs++[⟨a,j.toNatClampNeg⟩]) cells slots→T'.heap=h'→Wr h h' a j.toNatClampNeg (.int y)→Arv Z h' a k .byte z (vs.set i (.int y)) dv→Go p e below Ev T' (mkF m q Ls st)):Go p e below Ev T (mkF m pc Ls (.int x :: .int j :: .ref a::st)):=by
 subst hq hy
 obtain⟨cl,A,q1,S,q3,H,G⟩:=V
 have hj:=cB j (by omega) z hz S
 obtain⟨T',h',X',e',W',st'⟩:=stB X hx hZ eT A hj (g:=mkF m pc Ls (.int x :: .int j :: .ref a::st)) rfl rfl hd
 exact (K T' h' X' e' W' (Arv.set A q1 S q3 H G (fits_nar_byte _) W' i (bO hi) hv)).on st'
theorem bU (X:Stand p l e R (s.setVm vm0) m args below meth c T locs cells slots)(hx:p.tables.exec=Jvm.exec){pc:Nat}{Ls:Array Slot}{st:List Value}(hZ:Z.Warmed39 (s.setVm vm0).vm){own text:String}{i:Nat}(hown:(s.setVm vm0).vm.findClass own=some m.cls)(w:(Jvm.Cond.stringLink own i text).before a0 Z=true)(wS:∀a∈Bundle.stringAtoms,a.before a0 Z=true)(eT:T.heap=h)(hS:s.Since vm0 k0)(hk:k0≤h.size)(hEL:EW Z a0 EL)(hmem:(own,i)∈EL)(H:CHv Z EL vm0 h){vs:List Value}{z:Int32}(ht:(∀c∈text.toList,c.toNat<256)∧text.toList.map (fun c=>Value.int (Jvm.Lit.byteI c.toNat.toUInt16))=vs)(hz:¬z<0)(hlz:z.toNatClampNeg=vs.length)(n:Nat)(hn:4*text.toList.length≤n)(hbig:n≤536870912)(q:Nat)(hd:decode c.code pc = .ok (.ldc i,2))(hq:pc+2=q)(hc:cells+2≤R.cells)(hl:slots+(n+4)≤R.slots)
  (K:∀(a:Addr) (T':State) (h':Heap) (k1:Nat) (b:Addr) (k:ClassId),Stand p l e R (s.setVm T'.vm) m args below meth c T' locs (cells+2) (slots+(n+4))→T'.heap=h'→Ext h h'→s.Since T'.vm k1→k1≤h'.size→Z.Warmed39 (s.setVm T'.vm).vm→(s.setVm T'.vm).vm.findClass own=some m.cls→Exa Z h' a sg1→Fld Z h' a sg1 "coder" "B" (.int 0)→Fld Z h' a sg1 "value" "[B" (.ref b)→Arv Z h' b k .byte z vs (.int 0)→CHv Z EL T'.vm h'→Lit (s.setVm T'.vm) own i a→Go p e below Ev T' (mkF m q Ls (.ref a::st))):Go p e below Ev T (mkF m pc Ls st):=by
 subst hq
 obtain⟨a,T',h',k1,b,k,r1,r2,r3,r4,r5,r6,r7,r8,r9,r10,r11,r12,r13,r14,r15,r16,st'⟩:=ldcCH X hx hZ hown w wS eT hS hk hEL hmem H ht hz hlz (g:=mkF m pc Ls st) rfl hd hn hbig hc hl
 exact (K a T' h' k1 b k r1 r2 r3 r4 r5 r6 r7 r8 r9 r10 r11 r14.1 r15).on st'
theorem jK {y:MethodName}{bytes:ByteArray}{maxL:Nat}{ret:Option FieldType}{rm:Room}{len W:Nat}{as':Array Value}{Q:Option Value→Heap→List Loc→Prop}
  (hM:MetFree l y (head1 [Jvm.Cond.code y bytes maxL ret] rm) (fun a U=>a=as'∧Z.Warmed39 U.vm∧U.heap=h∧CHv Z EL U.vm h) (fun _ _ _ _ _=>True) (fun _ U o U'=>∃v L,o = .returned v∧Q v U'.heap L∧ReturnedEndW U o U' L rm.cells rm.slots))
  (hZ:Z.Warmed39 vm0) (wc:(Jvm.Cond.code y bytes maxL ret).before a0 Z=true) (wz:(Jvm.Cond.initialized y.cls).before a0 Z=true) (hf:rm.frames+1≤R.frames) (hl:W+(maxL+11)+rm.locals≤R.locals) (hEL:EW Z a0 EL) (H:CHv Z EL vm0 h) :
  BackS l R p e below (s.setVm vm0) args y len W (fun A a=>a=as'∧A.U.heap=h∧A.cells+rm.cells≤R.cells∧A.slots+rm.slots≤R.slots) (fun A _ v B=>∃L,Q v B.U.heap L∧B.locs=A.locs++L∧B.cells=A.cells+rm.cells∧B.slots=A.slots+rm.slots):=by
 refine BackS.of_freeW (bytes:=bytes) (maxL:=maxL) (ret:=ret) (E:=fun _ _ o t L k n=>k=rm.cells∧n=rm.slots∧∃v,o = .returned v∧Q v t.heap L) hM hf hl ?_ ?_ ?_ ?_ ?_
 ·intro m meth c A a Y hp
  have hU:Z.Warmed39 A.U.vm:=wtrans (s:=s.setVm vm0) hZ Y.warmed
  refine⟨?_,mv hU wc,mv hU wz,hp.2.2.1,hp.2.2.2⟩
  show (Jvm.Cond.and _ .tt).before a A.U=true
  rw[Cond.before_and,mv hU wc];rfl
 ·intro m meth c A a g mk Y hp
  exact⟨hp.1,wtrans (s:=s.setVm vm0) hZ Y.warmed,hp.2.1,(CHv.at Y hZ hEL H).1⟩
 ·intros;trivial
 ·rintro _ _ _ _ ⟨v,L,h1,h2,h3⟩
  exact⟨L,_,_,h3,rfl,rfl,v,h1,h2⟩
 ·rintro m meth c A a g mk v t L k n Y hp - - ⟨e1,e2,v',e3,e4⟩
  cases e3;subst e1 e2
  exact⟨L,e4,rfl,rfl,rfl⟩
theorem cE {x:MethodName}{code:ByteArray}{ml:Nat}{ret:Option FieldType}{ws:List Jvm.Cond}{rm:Room}{as:Array Value}{h0:Heap}{Q:Option Value→Heap→List Loc→Prop}{K N:Nat}{Ls:Array Slot}(hpn:plainFor x=true)(hef:∀m,entryFrame m as ml=mkF m 0 Ls [])
  (body:∀(p:Program) (e:Env) (s:State) (m:MethodId) (below:List Frame) (meth:Method) (c:Code) (T:State),Stand p l e rm (s.setVm s.vm) m as below meth c T [] 0 0→p.tables.exec=Jvm.exec→c.code=code→c.maxLocals=ml→meth.sig.returnType=ret→meth.locks=false→meth.name=x.name→(s.setVm s.vm).vm.findClass x.cls=some m.cls→Z.Warmed39 (s.setVm s.vm).vm→T.heap=h0→s.Since s.vm 0→CHv Z EL s.vm h0→Go p e below (gH s Q K N) T (mkF m 0 Ls [])) :
  MetFree l x (head1 (Jvm.Cond.code x code ml ret::ws) rm) (fun a U=>a=as∧Z.Warmed39 U.vm∧U.heap=h0∧CHv Z EL U.vm h0) (fun _ _ _ _ _=>True) (fun _ U o U'=>∃v L,o = .returned v∧Q v U'.heap L∧ReturnedEndW U o U' L K N):=by
 refine MetFree.of_bodySF hpn hisR ?_
 intro p e s m args below meth c s₁ Bd hml0 hP hK
 obtain⟨rfl,hZ,hh,hC⟩:=hP
 have e0:s₁.heap=h0:=by rw[←hh,Bd.state];rfl
 obtain⟨U,o,h1,h2,h3,h4⟩:=body p e s m below meth c s₁ (Stand.of_body Bd) Bd.exec Bd.bytes hml0 Bd.returns (BodyLoose.notSynchronized Bd) (name_of_methodNamed Bd.named Bd.method).1 (findClass_of_methodNamed Bd.named) hZ e0 ⟨State.Warmed39.refl s,fun j q hj hq=>absurd (Array.getElem?_eq_some_iff.mp hq).1 (Nat.not_lt.mpr hj)⟩ hC
 rw[←hef m] at h1
 exact⟨U,o,h1,h2,h3,h4⟩
theorem dX (X:Stand p l e R (s.setVm vm0) m args below meth c T locs cells slots)(hx:p.tables.exec=Jvm.exec)(hlk:meth.locks=false){Q:Option Value→Heap→List Loc→Prop}{K N:Nat}{pc:Nat}{Ls:Array Slot}{w:Value}{rest:List Value}{t:FieldType}(hret:meth.sig.returnType=some t)(ht:t.isReference=true)(hw:w.isRef=true)(hn:narrow t w=w)(hd:decode c.code pc = .ok (.areturn,1))(hK:cells≤K)(hN:slots≤N)(eT:T.heap=h)(hS:s.Since vm0 k0)(hk:k0≤h.size)(hQ:Q (some w) h locs):Go p e below (gH s Q K N) T (mkF m pc Ls (w::rest)) :=
 gI X hlk (fun q=>by rw[hret] at q;cases q) hK hN eT hS hk hQ (fun fs hr=>retOut X hx hret hn (Or.inr (Or.inr (Or.inr (Or.inr ⟨rfl,ht,hw⟩)))) hd hr)
theorem cL (X:Stand p l e R (s.setVm vm0) m args below meth c T locs cells slots)(hx:p.tables.exec=Jvm.exec){pc:Nat}{Ls:Array Slot}{st:List Value}(hZ:Z.Warmed39 (s.setVm vm0).vm){own:String}{i:Nat}{y:MethodName}{bytes:ByteArray}{maxL:Nat}{ret:Option FieldType}{rm:Room}{as':Array Value}{Q:Option Value→Heap→List Loc→Prop}{argsL rest:List Value}(hown:(s.setVm vm0).vm.findClass own=some m.cls)(w1:(Jvm.Cond.methodLink own i y).before a0 Z=true)(w2:(Jvm.Cond.static y).before a0 Z=true)(w3:(Jvm.Cond.initialized y.cls).before a0 Z=true)(w4:(Jvm.Cond.code y bytes maxL ret).before a0 Z=true)(hy:y.cls ≠ "java/lang/invoke/MethodHandle"∧y.cls ≠ "java/lang/invoke/VarHandle")(hM:MetFree l y (head1 [Jvm.Cond.code y bytes maxL ret] rm) (fun a U=>a=as'∧Z.Warmed39 U.vm∧U.heap=h∧CHv Z EL U.vm h) (fun _ _ _ _ _=>True) (fun _ U o U'=>∃v L,o = .returned v∧Q v U'.heap L∧ReturnedEndW U o U' L rm.cells rm.slots))(eT:T.heap=h)(hS:s.Since vm0 k0)(hk:k0≤h.size)(hEL:EW Z a0 EL)(H:CHv Z EL vm0 h)(hst:st=argsL.reverse++rest)(has:argsL.toArray=as')(W:Nat)(q:Nat)(hq:pc+3=q)(hsz:Ls.size=c.maxLocals)(hlen:∀sig,parseMethodDescriptor y.desc=some sig→argsL.length=sig.parameters.length)(hW:(rest.map fun v=>v.category).sum≤W)(hf:rm.frames+1≤R.frames)(hl:W+(maxL+11)+rm.locals≤R.locals)(hc:cells+rm.cells≤R.cells)(hs:slots+rm.slots≤R.slots)(hd:decode c.code pc = .ok (.invokestatic i,3))
  (K:∀(v:Option Value) (T':State) (L:List Loc),Stand p l e R (s.setVm T'.vm) m args below meth c T' (locs++L) (cells+rm.cells) (slots+rm.slots)→s.Since T'.vm T'.heap.size→Z.Warmed39 (s.setVm T'.vm).vm→(s.setVm T'.vm).vm.findClass own=some m.cls→Q v T'.heap L→Go p e below Ev T' (mkF m q Ls (v.toList++rest))):Go p e below Ev T (mkF m pc Ls st):=by
 subst hq hst
 obtain⟨v,vm1,⟨T',L',k',n'⟩,-,X',S',g',⟨L,hQ,l',y',z'⟩,st'⟩:=callSS X hx hown (mvT hZ w1) (mvT hZ w2) (mvT hZ w3) (mvT hZ w4) hy (jK (W:=W) hM hZ w4 w3 hf hl hEL H) (g:=mkF m pc Ls (argsL.reverse++rest)) rfl hsz (argsL:=argsL) (rest:=rest) hlen rfl (by show 2*0+_≤_;omega) hd (fun _ _=>⟨has,eT,hc,hs⟩)
 dsimp only[Pt.U,Pt.locs,Pt.cells,Pt.slots] at X' S' g' l' y' z' st' hQ
 subst l' y' z'
 obtain⟨X2,S2,Z2,o2⟩:=rebS hS hk X' S' (by rw[←eT];exact g') hZ hown
 exact (K v T' L X2 S2 Z2 o2 hQ).on fun t k=>st'.trans k
end OwnKit4
abbrev MF (l:Launch)(Z:State)(h0:Heap)(y:MethodName)(b:ByteArray)(ml:Nat)(ret:Option FieldType)(R:Room)(as:Array Value)(Q:Option Value→Heap→List Loc→Prop):Prop:=MetFree l y (head1 [Jvm.Cond.code y b ml ret] R) (fun as_ U=>as_=as∧Z.Warmed39 U.vm∧U.heap=h0) (fun _ _ _ _ _=>True) (fun _ U o U'=>∃v L,o = .returned v∧Q v U'.heap L∧FrameEnd U o U' L R.cells R.slots)
def bp:Option Addr→Value
 | none => .null
 | some a => .ref a
def j1:Option Int32→Slot
 | none => .unset
 | some x => .val (.int x)
theorem dg {x:Int32}(h:x.toInt=0):x=0:=(bQ x).2.2.mpr h
theorem cF {x y:Int32}(h:x.toInt=y.toInt):x=y:=Int32.toInt_inj.mp h
theorem a_ {P:Int32→Prop}(n:Nat)(hn:n<100000)(h:∀k:Fin (n+1),P (Int32.ofNat k.val)){c:Int32}(h0:0≤c.toInt)(h1:c.toInt≤(n:Int)):P c:=by
 have e:c=Int32.ofNat c.toInt.toNat:=Int32.toInt_inj.mp (by rw[Int32.toInt_ofNat_of_lt (by omega)];omega)
 have:=h ⟨c.toInt.toNat,by omega⟩
 rw[e];exact this
def a6 (c:Int32):Prop:=0≤c.toInt∧c.toInt≤303
def bd (c:Int32):Int32:=nar .byte c.toInt8.toInt32
def bF (c:Int32):Int32:=nar .byte (c>>>((0:Int32)&&&31)).toInt8.toInt32
def bG (c:Int32):Int32:=nar .byte (c>>>((8:Int32)&&&31)).toInt8.toInt32
theorem pJ {c:Int32}(hc:a6 c):nar .char ((((bF c)&&&(255:Int32))<<<((0:Int32)&&&31)) ||| (((bG c)&&&(255:Int32))<<<((8:Int32)&&&31))).toUInt32.toUInt16.toUInt32.toInt32=c :=
 a_ (P:=fun c=>nar .char ((((bF c)&&&(255:Int32))<<<((0:Int32)&&&31)) ||| (((bG c)&&&(255:Int32))<<<((8:Int32)&&&31))).toUInt32.toUInt16.toUInt32.toInt32=c) 303 (by decide) (by decide +kernel) hc.1 hc.2
theorem bz {x:Int32}(h:a6 x):nar .char x=x:=a_ (P:=fun c=>nar .char c=c) 303 (by decide) (by decide +kernel) h.1 h.2
theorem fq {c:Int32}(h0:0≤c.toInt)(h1:c.toInt≤255):nar .char ((bd c)&&&(255:Int32)).toUInt32.toUInt16.toUInt32.toInt32=c∧((bd c).toInt=47↔c.toInt=47)∧((bd c).toInt=46↔c.toInt=46)∧(bd c)&&&(255:Int32)=c :=
 a_ (P:=fun c=>nar .char ((bd c)&&&(255:Int32)).toUInt32.toUInt16.toUInt32.toInt32=c∧((bd c).toInt=47↔c.toInt=47)∧((bd c).toInt=46↔c.toInt=46)∧(bd c)&&&(255:Int32)=c) 255 (by decide) (by decide +kernel) h0 h1
theorem ce {j:Int32}{k:Nat}(h:j.toInt=(k:Int))(hk:k≤100):(j<<<((1:Int32)&&&31)).toInt=((2*k:Nat):Int):=by
 have:=a_ (P:=fun j=>(j<<<((1:Int32)&&&31)).toInt=2*j.toInt) 100 (by decide) (by decide +kernel) (c:=j) (by omega) (by omega)
 omega
theorem cG {j:Int32}{k:Nat}(h:j.toInt=((2*k:Nat):Int))(hk:k≤100):(j>>>((1:Int32)&&&31)).toInt=(k:Int):=by
 have:=a_ (P:=fun j=>(j>>>((1:Int32)&&&31)).toInt=j.toInt / 2) 200 (by decide) (by decide +kernel) (c:=j) (by omega) (by omega)
 omega
theorem j2 {j:Int32}{k:Nat}(h:j.toInt=(k:Int))(hk:k≤100):(j>>>((0:Int32)&&&31)).toInt=(k:Int):=by
 have:=a_ (P:=fun j=>(j>>>((0:Int32)&&&31)).toInt=j.toInt) 100 (by decide) (by decide +kernel) (c:=j) (by omega) (by omega)
 omega
theorem aC {t:Int32}{n:Nat}(h:t.toInt=(n:Int))(hn:n≤1000):(t+(1:Int32)).toInt=((n+1:Nat):Int):=by
 have i1:=c_iadd t 1
 have i2:=rng32 (t+1)
 have l1:(1:Int32).toInt=1:=by decide
 rw[l1] at i1
 omega
theorem nu {n z:Int32}(h0:1≤n.toInt)(h1:n.toInt≤12)(h:z.toInt=n.toInt):nar .byte (((n-z).toUInt32>>>((31:Int32)&&&31).toUInt32).toInt32).toInt8.toInt32=0:=by
 obtain rfl:z=n:=cF h
 exact a_ (P:=fun n=>nar .byte (((n-n).toUInt32>>>((31:Int32)&&&31).toUInt32).toInt32).toInt8.toInt32=0) 12 (by decide) (by decide +kernel) (by omega) (by omega)
theorem nv {n z:Int32}(h0:1≤n.toInt)(h1:n.toInt≤12)(h:z.toInt=2*n.toInt):nar .byte (((n-z).toUInt32>>>((31:Int32)&&&31).toUInt32).toInt32).toInt8.toInt32=1:=by
 obtain rfl:z=n<<<((1:Int32)&&&31):=cF (by rw[ce (k:=n.toInt.toNat) (by omega) (by omega)];omega)
 have:=a_ (P:=fun n=>1≤n.toInt→nar .byte (((n-n<<<((1:Int32)&&&31)).toUInt32>>>((31:Int32)&&&31).toUInt32).toInt32).toInt8.toInt32=1) 12 (by decide) (by decide +kernel) (c:=n) (by omega) (by omega)
 exact this h0
def dS (cs:List Int32)(vs:List Value)(k:Nat):Prop:=∀j,j<k→vs.getD (2*j) (.int 0) = .int (bF (cs.getD j 0))∧vs.getD (2*j+1) (.int 0) = .int (bG (cs.getD j 0))
def L1v (cs:List Int32)(vs:List Value)(k:Nat):Prop:=∀j,j<k→(cs.getD j 0).toInt≤255∧vs.getD j (.int 0) = .int (bd (cs.getD j 0))
def Cs (cs:List Int32):Prop:=1≤cs.length∧cs.length≤12∧∀j,j<cs.length→a6 (cs.getD j 0)
def Enc (cs:List Int32)(z:Int32)(vs:List Value)(co:Int32):Prop:=(co=0∧z.toInt=(cs.length:Int)∧L1v cs vs cs.length)∨(co=1∧z.toInt=((2*cs.length:Nat):Int)∧dS cs vs cs.length)
theorem cp {vs:List Value}{j:Int32}{k:Nat}{d v:Value}(h:j.toInt=(k:Int))(g:vs.getD k d=v):vs.getD j.toNatClampNeg d=v:=by rw[bO h];exact g
theorem cH {vs:List Value}{i j:Nat}{v d:Value}(h:i<vs.length):(vs.set i v).getD j d=if i=j then v else vs.getD j d:=by
 simp only[List.getD_eq_getElem?_getD,List.getElem?_set]
 by_cases q:i=j
 ·rw[if_pos q,if_pos q,if_pos (q▸h)];rfl
 ·rw[if_neg q,if_neg q]
theorem cZ (cs:List Int32){j:Int32}{k:Nat}(hj:j.toInt=(k:Int)):(cs.map Value.int).getD j.toNatClampNeg (.int 0) = .int (cs.getD k 0):=by
 rw[bO hj]
 simp only[List.getD_eq_getElem?_getD,List.getElem?_map]
 cases cs[k]?<;>rfl
theorem dS.step {cs:List Int32}{vs:List Value}{k:Nat}(h:dS cs vs k)(hl:2*k+1<vs.length):dS cs ((vs.set (2*k) (.int (bF (cs.getD k 0)))).set (2*k+1) (.int (bG (cs.getD k 0)))) (k+1):=by
 intro j hj
 have e1:2*k<vs.length:=by omega
 rw[cH (by rw[List.length_set];exact hl),cH e1,cH (by rw[List.length_set];exact hl),cH e1]
 by_cases q:j=k
 ·subst q
  rw[if_neg (by omega),if_pos rfl,if_pos rfl]
  exact⟨rfl,rfl⟩
 ·rw[if_neg (by omega),if_neg (by omega),if_neg (by omega),if_neg (by omega)]
  exact h j (by omega)
theorem L1v.step {cs:List Int32}{vs:List Value}{k:Nat}(h:L1v cs vs k)(hl:k<vs.length)(hc:(cs.getD k 0).toInt≤255):L1v cs (vs.set k (.int (bd (cs.getD k 0)))) (k+1):=by
 intro j hj
 rw[cH hl]
 by_cases q:j=k
 ·subst q
  rw[if_pos rfl]
  exact⟨hc,rfl⟩
 ·rw[if_neg (by omega)]
  exact h j (by omega)
def SX (Z:State)(cst:Int32)(fm:Option Addr)(em:Addr):Prop:=cst≠0∧Sta Z Z.heap sg1 "COMPACT_STRINGS" "Z" (.int cst)∧Sta Z Z.heap sg8 "SIOOBE_FORMATTER" "Ljava/util/function/BiFunction;" (bp fm)∧Sta Z Z.heap sg4 "$assertionsDisabled" "Z" (.int 1)∧Sta Z Z.heap sg4 "HI_BYTE_SHIFT" "I" (.int 0)∧Sta Z Z.heap sg4 "LO_BYTE_SHIFT" "I" (.int 8)∧Sta Z Z.heap pG "EMPTY" bl (.ref em)
theorem Hn:dk cd0 0 (.aload_n 0) 1:=by decide +kernel
theorem Ho:dk cd0 1 (.arraylength) 1:=by decide +kernel
theorem Hp:dk cd0 2 (.iconst 1) 1:=by decide +kernel
theorem Hq:dk cd0 3 (.ishr) 1:=by decide +kernel
theorem Hr:dk cd0 4 (.ireturn) 1:=by decide +kernel
theorem nw:plainFor (⟨sg4,"length","([B)I"⟩:MethodName)=true:=plainFor_of_name (by first|(simp [plainName,overriddenIn];done)|decide +kernel)
def Hs (z:Int32)(n0:Nat)(h0:Heap)(v:Option Value)(h:Heap)(L:List Loc):Prop:=v=some (.int (z>>>((1:Int32)&&&31)))∧Fr n0 L∧h=h0
theorem pK (vb:Addr)(m:MethodId):entryFrame m #[(.ref vb)] 1=mkF m 0 #[.val (.ref vb)] []:=by first|(simp [entryFrame,mkF,argsToLocals,Value.category];done)|rfl
theorem cLe (l:Launch)(Z:State)(a0:Array Value)(hw:HW a0 Z)(vb:Addr)(h0:Heap)(n0:Nat)(Z0:n0≤h0.size)(kb:ClassId)(z:Int32)(vs:List Value)(V:Arv Z h0 vb kb .byte z vs (.int 0)) :
  MF l Z h0 ⟨sg4,"length","([B)I"⟩ jdk_52_method_6_code 1 (some .int) ⟨0,0,0,0⟩ #[(.ref vb)] (Hs z n0 h0):=by
 refine ai nw (pK vb) ?_
 intro p e s m below meth c T0 X0 hx hby hml hret hlk hnm hown hZ e0
 have N0:=Fr.nil n0
 refine ab X0 hx 1 (hb hby Hn) rfl rfl rfl ?_
 refine aH X0 hx hZ e0 V 2 (hb hby Ho) rfl ?_
 refine ac X0 hx (1:Int32) 3 (hb hby Hp) rfl (by decide) ?_
 refine cS X0 hx 4 (hb hby Hq) rfl ?_
 exact ay X0 hx hlk hret (hb hby Hr) (by decide) (by decide) e0 ⟨rfl,N0,rfl⟩
theorem Ht:dk cd1 0 (.getstatic 44) 3:=by decide +kernel
theorem Hu:dk cd1 3 (.ifCond .ne 25) 3:=by decide +kernel
theorem pL:dk cd1 28 (.iload_n 1) 1:=by decide +kernel
theorem pM:dk cd1 29 (.iconst 1) 1:=by decide +kernel
theorem pN:dk cd1 30 (.ishl) 1:=by decide +kernel
theorem pO:dk cd1 31 (.istore_n 1) 1:=by decide +kernel
theorem pP:dk cd1 32 (.aload_n 0) 1:=by decide +kernel
theorem pQ:dk cd1 33 (.iload_n 1) 1:=by decide +kernel
theorem pR:dk cd1 34 (.iinc 1 1) 3:=by decide +kernel
theorem pS:dk cd1 37 (.iload_n 2) 1:=by decide +kernel
theorem pT:dk cd1 38 (.getstatic 59) 3:=by decide +kernel
theorem pU:dk cd1 41 (.ishr) 1:=by decide +kernel
theorem pV:dk cd1 42 (.i2b) 1:=by decide +kernel
theorem pW:dk cd1 43 (.bastore) 1:=by decide +kernel
theorem pX:dk cd1 44 (.aload_n 0) 1:=by decide +kernel
theorem pY:dk cd1 45 (.iload_n 1) 1:=by decide +kernel
theorem pZ:dk cd1 46 (.iload_n 2) 1:=by decide +kernel
theorem p4:dk cd1 47 (.getstatic 63) 3:=by decide +kernel
theorem p5:dk cd1 50 (.ishr) 1:=by decide +kernel
theorem p6:dk cd1 51 (.i2b) 1:=by decide +kernel
theorem p7:dk cd1 52 (.bastore) 1:=by decide +kernel
theorem p8:dk cd1 53 (.return_) 1:=by decide +kernel
theorem nx:plainFor (⟨sg4,"putChar","([BII)V"⟩:MethodName)=true:=plainFor_of_name (by first|(simp [plainName,overriddenIn];done)|decide +kernel)
def Hv (Z:State)(vb:Addr)(kb:ClassId)(z cc:Int32)(vs:List Value)(i n0:Nat)(h0:Heap)(v:Option Value)(h:Heap)(L:List Loc):Prop:=v=none∧Fr n0 L∧Keep h0 h [vb]∧Arv Z h vb kb .byte z ((vs.set (2*i) (.int (bF cc))).set (2*i+1) (.int (bG cc))) (.int 0)
theorem p9 (vb:Addr)(j cc:Int32)(m:MethodId):entryFrame m #[(.ref vb),(.int j),(.int cc)] 3=mkF m 0 #[.val (.ref vb),.val (.int j),.val (.int cc)] []:=by first|(simp [entryFrame,mkF,argsToLocals,Value.category];done)|rfl
theorem cPu (l:Launch)(Z:State)(a0:Array Value)(hw:HW a0 Z)(vb:Addr)(j cc:Int32)(h0:Heap)(n0:Nat)(Z0:n0≤h0.size)(cst:Int32)(fm:Option Addr)(em:Addr)(SX_:SX Z cst fm em)(O0:Old Z n0 h0)(kb:ClassId)(z:Int32)(vs:List Value)(i:Nat)(V:Arv Z h0 vb kb .byte z vs (.int 0))(gb:n0≤vb)(hj:j.toInt=(i:Int))(hi:i≤100)(hz:((2*i+1:Nat):Int)<z.toInt)(hl:2*i+1<vs.length) :
  MF l Z h0 ⟨sg4,"putChar","([BII)V"⟩ jdk_52_method_4_code 3 none ⟨0,0,0,0⟩ #[(.ref vb),(.int j),(.int cc)] (Hv Z vb kb z cc vs i n0 h0):=by
 refine ai nx (p9 vb j cc) ?_
 intro p e s m below meth c T0 X0 hx hby hml hret hlk hnm hown hZ e0
 have N0:=Fr.nil n0
 refine a1 X0 hx hZ hown (tw hw 297 rfl) Via.refl e0 (Sta.ext O0.2 SX_.2.2.2.1) 3 (hb hby Ht) rfl ?_
 intro T1 X1 e1
 have ll3:((1:Int32):Int32).toInt=1:=by decide
 refine aI X1 hx 28 6 (hb hby Hu) (by decide) (by decide) rfl (fun c2=>?_) (fun c2=>?_)
 ·skip
  refine aa X1 hx 29 (hb hby pL) rfl rfl ?_
  refine ac X1 hx (1:Int32) 30 (hb hby pM) rfl (by decide) ?_
  refine db X1 hx 31 (hb hby pN) rfl ?_
  refine aq (l':=#[.val (.ref vb),.val (.int (j<<<((1:Int32)&&&31))),.val (.int cc)]) X1 hx 32 (hb hby pO) rfl rfl ?_
  have ht:=ce hj hi
  generalize (j<<<((1:Int32)&&&31))=t at ht ⊢
  have ht1:=aC ht (by omega)
  refine ab X1 hx 33 (hb hby pP) rfl rfl rfl ?_
  refine aa X1 hx 34 (hb hby pQ) rfl rfl ?_
  refine a5 (w:=(1:Int32)) (l':=#[.val (.ref vb),.val (.int (t+(1:Int32))),.val (.int cc)]) X1 hx 37 (hb hby pR) rfl rfl (by decide) rfl ?_
  refine aa X1 hx 38 (hb hby pS) rfl rfl ?_
  refine a1 X1 hx hZ hown (tw hw 298 rfl) Via.refl e1 (Sta.ext O0.2 SX_.2.2.2.2.1) 41 (hb hby pT) rfl ?_
  intro T4 X4 e4
  refine cS X4 hx 42 (hb hby pU) rfl ?_
  refine eG X4 hx 43 (hb hby pV) rfl ?_
  refine cK X4 hx hZ e4 V (2*i) ht (by omega) (by omega) (bF cc) rfl 44 (hb hby pW) rfl ?_
  intro T5 h5 X5 e5 W5 V5
  have F6:=O0.wr W5 gb
  have K8:=(Keep.refl h0 [vb]).wr W5 (Or.inl (List.mem_of_getElem? (i:=0) rfl))
  have N9:=Fr.snoc X5 N0 gb
  have Z10:n0≤h5.size:=by rw[W5.size];exact Z0
  refine ab X5 hx 45 (hb hby pX) rfl rfl rfl ?_
  refine aa X5 hx 46 (hb hby pY) rfl rfl ?_
  refine aa X5 hx 47 (hb hby pZ) rfl rfl ?_
  refine a1 X5 hx hZ hown (tw hw 299 rfl) Via.refl e5 (Sta.ext F6.2 SX_.2.2.2.2.2.1) 50 (hb hby p4) rfl ?_
  intro T11 X11 e11
  refine cS X11 hx 51 (hb hby p5) rfl ?_
  refine eG X11 hx 52 (hb hby p6) rfl ?_
  refine cK X11 hx hZ e11 V5 (2*i+1) ht1 (by omega) (by rw[List.length_set];omega) (bG cc) rfl 53 (hb hby p7) rfl ?_
  intro T12 h12 X12 e12 W12 V12
  have F13:=F6.wr W12 gb
  have K15:=K8.wr W12 (Or.inl (List.mem_of_getElem? (i:=0) rfl))
  have N16:=Fr.snoc X12 N9 gb
  have Z17:n0≤h12.size:=by rw[W12.size];exact Z10
  exact aY X12 hx hlk hret (hb hby p8) (by decide) (by decide) e12 ⟨rfl,N16,K15,V12⟩
 ·skip
  exfalso;revert c2;decide
theorem Hw:dk cd2 0 (.getstatic 44) 3:=by decide +kernel
theorem Hx:dk cd2 3 (.ifCond .ne 25) 3:=by decide +kernel
theorem p_:dk cd2 28 (.iload_n 1) 1:=by decide +kernel
theorem qd:dk cd2 29 (.iconst 1) 1:=by decide +kernel
theorem qe:dk cd2 30 (.ishl) 1:=by decide +kernel
theorem qf:dk cd2 31 (.istore_n 1) 1:=by decide +kernel
theorem qg:dk cd2 32 (.aload_n 0) 1:=by decide +kernel
theorem qh:dk cd2 33 (.iload_n 1) 1:=by decide +kernel
theorem qi:dk cd2 34 (.iinc 1 1) 3:=by decide +kernel
theorem qj:dk cd2 37 (.baload) 1:=by decide +kernel
theorem qk:dk cd2 38 (.sipush 255) 3:=by decide +kernel
theorem ql:dk cd2 41 (.iand) 1:=by decide +kernel
theorem qm:dk cd2 42 (.getstatic 59) 3:=by decide +kernel
theorem qn:dk cd2 45 (.ishl) 1:=by decide +kernel
theorem qo:dk cd2 46 (.aload_n 0) 1:=by decide +kernel
theorem qp:dk cd2 47 (.iload_n 1) 1:=by decide +kernel
theorem qq:dk cd2 48 (.baload) 1:=by decide +kernel
theorem qr:dk cd2 49 (.sipush 255) 3:=by decide +kernel
theorem qs:dk cd2 52 (.iand) 1:=by decide +kernel
theorem qt:dk cd2 53 (.getstatic 63) 3:=by decide +kernel
theorem qu:dk cd2 56 (.ishl) 1:=by decide +kernel
theorem qv:dk cd2 57 (.ior) 1:=by decide +kernel
theorem qw:dk cd2 58 (.i2c) 1:=by decide +kernel
theorem qx:dk cd2 59 (.ireturn) 1:=by decide +kernel
theorem ny:plainFor (⟨sg4,"getChar","([BI)C"⟩:MethodName)=true:=plainFor_of_name (by first|(simp [plainName,overriddenIn];done)|decide +kernel)
def Hy (cc:Int32)(n0:Nat)(h0:Heap)(v:Option Value)(h:Heap)(L:List Loc):Prop:=v=some (.int cc)∧Fr n0 L∧h=h0
theorem qy (vb:Addr)(j:Int32)(m:MethodId):entryFrame m #[(.ref vb),(.int j)] 2=mkF m 0 #[.val (.ref vb),.val (.int j)] []:=by first|(simp [entryFrame,mkF,argsToLocals,Value.category];done)|rfl
theorem cGe (l:Launch)(Z:State)(a0:Array Value)(hw:HW a0 Z)(vb:Addr)(j:Int32)(h0:Heap)(n0:Nat)(Z0:n0≤h0.size)(cst:Int32)(fm:Option Addr)(em:Addr)(SX_:SX Z cst fm em)(O0:Old Z n0 h0)(kb:ClassId)(z cc:Int32)(vs:List Value)(i:Nat)(V:Arv Z h0 vb kb .byte z vs (.int 0))(hc:a6 cc)(hj:j.toInt=(i:Int))(hi:i≤100)(hz:((2*i+1:Nat):Int)<z.toInt)(g0:vs.getD (2*i) (.int 0) = .int (bF cc))(g1:vs.getD (2*i+1) (.int 0) = .int (bG cc)) :
  MF l Z h0 ⟨sg4,"getChar","([BI)C"⟩ jdk_52_method_5_code 2 (some .char) ⟨0,0,0,0⟩ #[(.ref vb),(.int j)] (Hy cc n0 h0):=by
 refine ai ny (qy vb j) ?_
 intro p e s m below meth c T0 X0 hx hby hml hret hlk hnm hown hZ e0
 have N0:=Fr.nil n0
 refine a1 X0 hx hZ hown (tw hw 297 rfl) Via.refl e0 (Sta.ext O0.2 SX_.2.2.2.1) 3 (hb hby Hw) rfl ?_
 intro T18 X18 e18
 have ll20:((1:Int32):Int32).toInt=1:=by decide
 refine aI X18 hx 28 6 (hb hby Hx) (by decide) (by decide) rfl (fun c19=>?_) (fun c19=>?_)
 ·skip
  refine aa X18 hx 29 (hb hby p_) rfl rfl ?_
  refine ac X18 hx (1:Int32) 30 (hb hby qd) rfl (by decide) ?_
  refine db X18 hx 31 (hb hby qe) rfl ?_
  refine aq (l':=#[.val (.ref vb),.val (.int (j<<<((1:Int32)&&&31)))]) X18 hx 32 (hb hby qf) rfl rfl ?_
  have ht:=ce hj hi
  generalize (j<<<((1:Int32)&&&31))=t at ht ⊢
  have ht1:=aC ht (by omega)
  refine ab X18 hx 33 (hb hby qg) rfl rfl rfl ?_
  refine aa X18 hx 34 (hb hby qh) rfl rfl ?_
  refine a5 (w:=(1:Int32)) (l':=#[.val (.ref vb),.val (.int (t+(1:Int32)))]) X18 hx 37 (hb hby qi) rfl rfl (by decide) rfl ?_
  refine aW X18 hx hZ e18 V (by omega) (by omega) (cp ht g0) 38 (hb hby qj) rfl ?_
  refine aM X18 hx (255:Int32) 41 (hb hby qk) rfl (by decide) ?_
  refine bs X18 hx 42 (hb hby ql) rfl ?_
  refine a1 X18 hx hZ hown (tw hw 298 rfl) Via.refl e18 (Sta.ext O0.2 SX_.2.2.2.2.1) 45 (hb hby qm) rfl ?_
  intro T21 X21 e21
  refine db X21 hx 46 (hb hby qn) rfl ?_
  refine ab X21 hx 47 (hb hby qo) rfl rfl rfl ?_
  refine aa X21 hx 48 (hb hby qp) rfl rfl ?_
  refine aW X21 hx hZ e21 V (by omega) (by omega) (cp ht1 g1) 49 (hb hby qq) rfl ?_
  refine aM X21 hx (255:Int32) 52 (hb hby qr) rfl (by decide) ?_
  refine bs X21 hx 53 (hb hby qs) rfl ?_
  refine a1 X21 hx hZ hown (tw hw 299 rfl) Via.refl e21 (Sta.ext O0.2 SX_.2.2.2.2.2.1) 56 (hb hby qt) rfl ?_
  intro T22 X22 e22
  refine db X22 hx 57 (hb hby qu) rfl ?_
  refine jQ X22 hx 58 (hb hby qv) rfl ?_
  refine dQ X22 hx 59 (hb hby qw) rfl ?_
  exact bo X22 hx hlk hret (by simp) (hb hby qx) (by decide) (by decide) e22 ⟨congrArg (fun x=>some (Value.int x)) (pJ hc),N0,rfl⟩
 ·skip
  exfalso;revert c19;decide
theorem Hz:dk cd3 0 (.iload_n 0) 1:=by decide +kernel
theorem HA:dk cd3 1 (.ifCond .ge 11) 3:=by decide +kernel
theorem qz:dk cd3 12 (.iload_n 0) 1:=by decide +kernel
theorem qA:dk cd3 13 (.ldc 20) 2:=by decide +kernel
theorem qB:dk cd3 15 (.if_icmp .lt 40) 3:=by decide +kernel
theorem qC:dk cd3 55 (.iload_n 0) 1:=by decide +kernel
theorem qD:dk cd3 56 (.iconst 1) 1:=by decide +kernel
theorem qE:dk cd3 57 (.ishl) 1:=by decide +kernel
theorem qF:dk cd3 58 (.ireturn) 1:=by decide +kernel
theorem nz:plainFor (⟨sg4,"newBytesLength","(I)I"⟩:MethodName)=true:=plainFor_of_name (by first|(simp [plainName,overriddenIn];done)|decide +kernel)
def HB (n:Int32)(n0:Nat)(h0:Heap)(v:Option Value)(h:Heap)(L:List Loc):Prop:=v=some (.int (n<<<((1:Int32)&&&31)))∧Fr n0 L∧h=h0
theorem qG (n:Int32)(m:MethodId):entryFrame m #[(.int n)] 1=mkF m 0 #[.val (.int n)] []:=by first|(simp [entryFrame,mkF,argsToLocals,Value.category];done)|rfl
theorem cNL (l:Launch)(Z:State)(a0:Array Value)(hw:HW a0 Z)(n:Int32)(h0:Heap)(n0:Nat)(Z0:n0≤h0.size)(hn:0≤n.toInt∧n.toInt≤100) :
  MF l Z h0 ⟨sg4,"newBytesLength","(I)I"⟩ jdk_52_method_3_code 1 (some .int) ⟨0,0,0,0⟩ #[(.int n)] (HB n n0 h0):=by
 refine ai nz (qG n) ?_
 intro p e s m below meth c T0 X0 hx hby hml hret hlk hnm hown hZ e0
 have N0:=Fr.nil n0
 refine aa X0 hx 1 (hb hby Hz) rfl rfl ?_
 refine fn X0 hx 12 4 (hb hby HA) (by decide) (by decide) rfl (fun c23=>?_) (fun c23=>?_)
 ·skip
  refine aa X0 hx 13 (hb hby qz) rfl rfl ?_
  refine jR X0 hx 15 hZ hown (tw hw 293 rfl) (hb hby qA) rfl ?_
  have ll25:((1073741823:Int32):Int32).toInt=1073741823:=by decide
  refine an X0 hx 55 18 (hb hby qB) (by decide) (by decide) rfl (fun c24=>?_) (fun c24=>?_)
  ·skip
   refine aa X0 hx 56 (hb hby qC) rfl rfl ?_
   refine ac X0 hx (1:Int32) 57 (hb hby qD) rfl (by decide) ?_
   refine db X0 hx 58 (hb hby qE) rfl ?_
   exact ay X0 hx hlk hret (hb hby qF) (by decide) (by decide) e0 ⟨rfl,N0,rfl⟩
  ·skip
   exfalso;omega
 ·skip
  exfalso;omega
theorem HC:dk cd4 0 (.iload_n 0) 1:=by decide +kernel
theorem HD:dk cd4 1 (.invokestatic 11) 3:=by decide +kernel
theorem HE:dk cd4 4 (.newarray .byte) 2:=by decide +kernel
theorem HF:dk cd4 6 (.areturn) 1:=by decide +kernel
theorem nA:plainFor (⟨sg4,"newBytesFor","(I)[B"⟩:MethodName)=true:=plainFor_of_name (by first|(simp [plainName,overriddenIn];done)|decide +kernel)
def HG (Z:State)(mm n0:Nat)(h0:Heap)(v:Option Value)(h:Heap)(L:List Loc):Prop:=∃(b:Addr)(kb:ClassId)(t:Int32),v=some (.ref b)∧Fr n0 L∧Keep h0 h []∧n0≤b∧h0.size≤b∧t.toInt=((2*mm:Nat):Int)∧Arv Z h b kb .byte t (List.replicate 24 (.int 0)) (.int 0)
theorem qH (n:Int32)(m:MethodId):entryFrame m #[(.int n)] 1=mkF m 0 #[.val (.int n)] []:=by first|(simp [entryFrame,mkF,argsToLocals,Value.category];done)|rfl
theorem cNB (l:Launch)(Z:State)(a0:Array Value)(hw:HW a0 Z)(n:Int32)(h0:Heap)(n0:Nat)(Z0:n0≤h0.size)(mm:Nat)(hn:n.toInt=(mm:Int))(hm:mm≤12) :
  MF l Z h0 ⟨sg4,"newBytesFor","(I)[B"⟩ jdk_52_method_2_code 1 (some (.array .byte)) ⟨1,1,24,12⟩ #[(.int n)] (HG Z mm n0 h0):=by
 refine ai nA (qH n) ?_
 intro p e s m below meth c T0 X0 hx hby hml hret hlk hnm hown hZ e0
 have N0:=Fr.nil n0
 refine aa X0 hx 1 (hb hby HC) rfl rfl ?_
 refine ag X0 hx hZ hown (tw hw 290 rfl) (tw hw 291 rfl) (tw hw 21 rfl) (tw hw 292 rfl) (by decide) (cNL l Z a0 hw n h0 n0 Z0 (by omega)) e0 (argsL:=[(.int n)]) (rest:=[]) rfl rfl 0 4 rfl (by rw[hml];rfl) (lenOf aS rfl) (Nat.le_refl _) (by decide) (by decide) (by decide) (by decide) (hb hby HD) ?_
 intro v26 T26 L26 X26 hQ26
 obtain⟨rfl,N26,q26⟩:=hQ26
 have N27:=Fr.app N0 N26
 show Go _ _ _ _ _ (mkF _ _ _ [(.int (n<<<((1:Int32)&&&31)))])
 have hk:=ce hn (by omega)
 generalize (n<<<((1:Int32)&&&31))=t at hk ⊢
 refine aO X26 hx hZ (aty := .byte) (tw hw 23 rfl) q26 (by omega) (cap:=24) (by omega) (by decide) 6 (hb hby HE) rfl (by decide) (by decide) (ad := "[B") (by decide) ?_
 intro T28 h28 k28 a28 g28 X28 e28 E28 V28 A28
 have ge29:n0≤a28:=by rw[g28];exact Z0
 have sz30:h0.size≤a28:=by rw[g28];exact (Keep.refl h0 []).1
 have K31:=(Keep.refl h0 []).ext E28
 have Z32:n0≤h28.size:=Nat.le_trans Z0 E28.1
 have V28':Arv Z h28 a28 k28 .byte t [(.int (0:Int32)),(.int (0:Int32)),(.int (0:Int32)),(.int (0:Int32)),(.int (0:Int32)),(.int (0:Int32)),(.int (0:Int32)),(.int (0:Int32)),(.int (0:Int32)),(.int (0:Int32)),(.int (0:Int32)),(.int (0:Int32)),(.int (0:Int32)),(.int (0:Int32)),(.int (0:Int32)),(.int (0:Int32)),(.int (0:Int32)),(.int (0:Int32)),(.int (0:Int32)),(.int (0:Int32)),(.int (0:Int32)),(.int (0:Int32)),(.int (0:Int32)),(.int (0:Int32))] (.int (0:Int32)):=V28.pad (pad_rep [] (.int (0:Int32)) 24)
 exact aA X28 hx hlk hret rfl rfl rfl (hb hby HF) (by decide) (by decide) e28 ⟨a28,k28,t,rfl,N27,K31,ge29,sz30,hk,V28'⟩
def oy (Z:State)(cs:List Int32)(n0:Nat)(h0:Heap)(v:Option Value)(h:Heap)(L:List Loc):Prop:=∃(b:Addr)(kb:ClassId)(t:Int32)(vs:List Value),v=some (.ref b)∧Fr n0 L∧Keep h0 h []∧n0≤b∧h0.size≤b∧t.toInt=((2*cs.length:Nat):Int)∧dS cs vs cs.length∧Arv Z h b kb .byte t vs (.int 0)
theorem HH:dk cd5 0 (.iload_n 2) 1:=by decide +kernel
theorem HI:dk cd5 1 (.invokestatic 107) 3:=by decide +kernel
theorem HJ:dk cd5 4 (.astore_n 3) 1:=by decide +kernel
theorem HK:dk cd5 5 (.iconst 0) 1:=by decide +kernel
theorem HL:dk cd5 6 (.istore 4) 2:=by decide +kernel
theorem oz:dk cd5 8 (.iload 4) 2:=by decide +kernel
theorem j3:dk cd5 10 (.iload_n 2) 1:=by decide +kernel
theorem j4:dk cd5 11 (.if_icmp .ge 21) 3:=by decide +kernel
theorem qI:dk cd5 14 (.aload_n 3) 1:=by decide +kernel
theorem qJ:dk cd5 15 (.iload 4) 2:=by decide +kernel
theorem qK:dk cd5 17 (.aload_n 0) 1:=by decide +kernel
theorem qL:dk cd5 18 (.iload_n 1) 1:=by decide +kernel
theorem qM:dk cd5 19 (.caload) 1:=by decide +kernel
theorem qN:dk cd5 20 (.invokestatic 111) 3:=by decide +kernel
theorem qO:dk cd5 23 (.iinc 1 1) 3:=by decide +kernel
theorem qP:dk cd5 26 (.iinc 4 1) 3:=by decide +kernel
theorem qQ:dk cd5 29 (.goto (-21)) 3:=by decide +kernel
theorem qR:dk cd5 32 (.aload_n 3) 1:=by decide +kernel
theorem qS:dk cd5 33 (.areturn) 1:=by decide +kernel
theorem HM {p:Program}{l:Launch}{e:Env}{s:State}{m:MethodId}{args:Array Value}{below:List Frame}{meth:Method}{c:Code}{T0 Z:State}{a0:Array Value}{h0:Heap}{n0:Nat}{hB:Heap}{ca b:Addr}{kc kb:ClassId}{n t:Int32}{cs:List Int32}{cst:Int32}{fm:Option Addr}{em:Addr}(d:Nat)(i:Int32)(k:Nat)(vs:List Value)(locs:List Loc)(X0:Stand p l e ({ frames:=2,cells:=1,slots:=24,locals:=40 }:Room) s m args below meth c T0 locs 1 24)(hx:p.tables.exec=Jvm.exec)(hby:c.code=jdk_52_method_14_code)(hml:c.maxLocals=5)(hret:meth.sig.returnType=(some (.array .byte)))(hlk:meth.locks=false)(hown:s.vm.findClass sg4=some m.cls)(hZ:Z.Warmed39 s.vm)(hw:HW a0 Z)(e0:T0.heap=h0)(Z0:n0≤h0.size)(N0:Fr n0 locs)(SX_:SX Z cst fm em)(O0:Old Z n0 h0)(Vc:Arv Z h0 ca kc .char n (cs.map Value.int) (.int 0))(Vb:Arv Z h0 b kb .byte t vs (.int 0))(K0:Keep hB h0 [])(sb:hB.size≤b)(gb:n0≤b)(ncb:ca≠b)(hcs:Cs cs)(hn:n.toInt=(cs.length:Int))(ht:t.toInt=((2*cs.length:Nat):Int))(hvl:vs.length=24)(hi:i.toInt=(k:Int))(hd:k+d=cs.length)(he:dS cs vs k) :
  Go p e below (dR s (oy Z cs n0 hB) 1 24) T0 (mkF m 8 #[.val (.ref ca),.val (.int i),.val (.int n),.val (.ref b),.val (.int i)] []):=by
 have hcl:=hcs.2.1
 induction d generalizing i k vs T0 h0 locs with
 | zero =>
  refine ae X0 hx 10 (hb hby oz) rfl rfl ?_
  refine aa X0 hx 11 (hb hby j3) rfl rfl ?_
  refine am X0 hx 32 14 (hb hby j4) (by decide) (by decide) rfl (fun c33=>?_) (fun c33=>?_)
  ·skip
   refine ab X0 hx 33 (hb hby qR) rfl rfl rfl ?_
   exact aA X0 hx hlk hret rfl rfl rfl (hb hby qS) (by decide) (by decide) e0 ⟨b,kb,t,vs,rfl,N0,K0,gb,sb,ht,fun j hj=>he j (by omega),Vb⟩
  ·skip
   exfalso;omega
 | succ d ih =>
  refine ae X0 hx 10 (hb hby oz) rfl rfl ?_
  refine aa X0 hx 11 (hb hby j3) rfl rfl ?_
  refine am X0 hx 32 14 (hb hby j4) (by decide) (by decide) rfl (fun c34=>?_) (fun c34=>?_)
  ·skip
   exfalso;omega
  ·skip
   refine ab X0 hx 15 (hb hby qI) rfl rfl rfl ?_
   refine ae X0 hx 17 (hb hby qJ) rfl rfl ?_
   refine ab X0 hx 18 (hb hby qK) rfl rfl rfl ?_
   refine aa X0 hx 19 (hb hby qL) rfl rfl ?_
   refine cY X0 hx hZ e0 Vc (by omega) (by omega) (cZ cs hi) 20 (hb hby qM) rfl ?_
   refine ag X0 hx hZ hown (tw hw 294 rfl) (tw hw 295 rfl) (tw hw 21 rfl) (tw hw 296 rfl) (by decide) (cPu l Z a0 hw b i (cs.getD k 0) h0 n0 Z0 cst fm em SX_ O0 kb t vs k Vb gb hi (by omega) (by omega) (by omega)) e0 (argsL:=[(.ref b),(.int i),(.int (cs.getD k 0))]) (rest:=[]) rfl rfl 0 23 rfl (by rw[hml];rfl) (lenOf jY rfl) (Nat.le_refl _) (by decide) (by decide) (by decide) (by decide) (hb hby qN) ?_
   intro v35 T35 L35 X35 hQ35
   obtain⟨rfl,N35,K35,V35⟩:=hQ35
   have N36:=Fr.app N0 N35
   have F37:=O0.keep K35 (allS gb all0)
   have F38:=Vc.keep K35 (ninS ncb nin0)
   have Z40:n0≤T35.heap.size:=Nat.le_trans Z0 K35.1
   have K41:=K0.trans K35 (allS (Or.inr sb) all0)
   show Go _ _ _ _ _ (mkF _ _ _ [])
   refine a5 (w:=(1:Int32)) (l':=#[.val (.ref ca),.val (.int (i+(1:Int32))),.val (.int n),.val (.ref b),.val (.int i)]) X35 hx 26 (hb hby qO) rfl rfl (by decide) rfl ?_
   refine a5 (w:=(1:Int32)) (l':=#[.val (.ref ca),.val (.int (i+(1:Int32))),.val (.int n),.val (.ref b),.val (.int (i+(1:Int32)))]) X35 hx 29 (hb hby qP) rfl rfl (by decide) rfl ?_
   refine ap X35 hx 8 (hb hby qQ) (by decide) (by decide) ?_
   exact @ih _ _ _ (k+1) _ _ X35 rfl Z40 N36 F37 F38 V35 K41 (by rw[List.length_set,List.length_set];exact hvl) (aC hi (by omega)) (by omega) (dS.step he (by omega))
theorem nB:plainFor (⟨sg4,"toBytes","([CII)[B"⟩:MethodName)=true:=plainFor_of_name (by first|(simp [plainName,overriddenIn];done)|decide +kernel)
theorem qT (ca:Addr)(n:Int32)(m:MethodId):entryFrame m #[(.ref ca),(.int 0),(.int n)] 5=mkF m 0 #[.val (.ref ca),.val (.int 0),.val (.int n),.unset,.unset] []:=by first|(simp [entryFrame,mkF,argsToLocals,Value.category];done)|rfl
theorem cTB (l:Launch)(Z:State)(a0:Array Value)(hw:HW a0 Z)(ca:Addr)(n:Int32)(h0:Heap)(n0:Nat)(Z0:n0≤h0.size)(cst:Int32)(fm:Option Addr)(em:Addr)(SX_:SX Z cst fm em)(O0:Old Z n0 h0)(kc:ClassId)(cs:List Int32)(Vc:Arv Z h0 ca kc .char n (cs.map Value.int) (.int 0))(hcs:Cs cs)(hn:n.toInt=(cs.length:Int)) :
  MF l Z h0 ⟨sg4,"toBytes","([CII)[B"⟩ jdk_52_method_14_code 5 (some (.array .byte)) ⟨2,1,24,40⟩ #[(.ref ca),(.int 0),(.int n)] (oy Z cs n0 h0):=by
 refine ai nB (qT ca n) ?_
 intro p e s m below meth c T0 X0 hx hby hml hret hlk hnm hown hZ e0
 have N0:=Fr.nil n0
 refine aa X0 hx 1 (hb hby HH) rfl rfl ?_
 refine ag X0 hx hZ hown (tw hw 287 rfl) (tw hw 288 rfl) (tw hw 21 rfl) (tw hw 289 rfl) (by decide) (cNB l Z a0 hw n h0 n0 Z0 cs.length hn hcs.2.1) e0 (argsL:=[(.int n)]) (rest:=[]) rfl rfl 0 4 rfl (by rw[hml];rfl) (lenOf jX rfl) (Nat.le_refl _) (by decide) (by decide) (by decide) (by decide) (hb hby HI) ?_
 intro v42 T42 L42 X42 hQ42
 obtain⟨b,kb,t,rfl,N42,K42,gb,sb,ht,Vb⟩:=hQ42
 have N43:=Fr.app N0 N42
 have F44:=O0.keep K42 all0
 have F45:=Vc.keep K42 nin0
 have Z46:n0≤T42.heap.size:=Nat.le_trans Z0 K42.1
 have K47:=(Keep.refl h0 []).trans K42 all0
 have ncb:ca≠b:=Nat.ne_of_lt (Nat.lt_of_lt_of_le Vc.lt sb)
 show Go _ _ _ _ _ (mkF _ _ _ [(.ref b)])
 refine au (l':=#[.val (.ref ca),.val (.int (0:Int32)),.val (.int n),.val (.ref b),.unset]) X42 hx 5 (hb hby HJ) rfl rfl rfl ?_
 refine ac X42 hx (0:Int32) 6 (hb hby HK) rfl (by decide) ?_
 refine ah (l':=#[.val (.ref ca),.val (.int (0:Int32)),.val (.int n),.val (.ref b),.val (.int (0:Int32))]) X42 hx 8 (hb hby HL) rfl rfl ?_
 exact HM cs.length 0 0 _ _ X42 hx hby hml hret hlk hown hZ hw rfl Z46 N43 SX_ F44 F45 Vb K47 sb gb ncb hcs hn ht (by decide) (by decide) (by omega) (fun j hj=>absurd hj (Nat.not_lt_zero j))
def jh (Z:State)(cs:List Int32)(ba:Addr)(kb:ClassId)(n:Int32)(n0:Nat)(h0:Heap)(v:Option Value)(h:Heap)(L:List Loc):Prop:=∃(r:Int32)(q:Nat)(vs:List Value),v=some (.int r)∧r.toInt=(q:Int)∧Fr n0 L∧Keep h0 h [ba]∧Arv Z h ba kb .byte n vs (.int 0)∧((q=cs.length∧L1v cs vs cs.length)∨(q<cs.length∧255<(cs.getD q 0).toInt))
theorem OK:dk cd6 0 (.iconst 0) 1:=by decide +kernel
theorem OL:dk cd6 1 (.istore 5) 2:=by decide +kernel
theorem HN:dk cd6 3 (.iload 5) 2:=by decide +kernel
theorem HO:dk cd6 5 (.iload 4) 2:=by decide +kernel
theorem HP:dk cd6 7 (.if_icmp .ge 37) 3:=by decide +kernel
theorem HQ:dk cd6 10 (.aload_n 0) 1:=by decide +kernel
theorem HR:dk cd6 11 (.iload_n 1) 1:=by decide +kernel
theorem HS:dk cd6 12 (.caload) 1:=by decide +kernel
theorem HT:dk cd6 13 (.istore 6) 2:=by decide +kernel
theorem HU:dk cd6 15 (.iload 6) 2:=by decide +kernel
theorem HV:dk cd6 17 (.sipush 255) 3:=by decide +kernel
theorem HX:dk cd6 20 (.if_icmp .le 6) 3:=by decide +kernel
theorem HY:dk cd6 23 (.iload 5) 2:=by decide +kernel
theorem HZ:dk cd6 25 (.ireturn) 1:=by decide +kernel
theorem H3:dk cd6 26 (.aload_n 2) 1:=by decide +kernel
theorem H4:dk cd6 27 (.iload_n 3) 1:=by decide +kernel
theorem H5:dk cd6 28 (.iload 6) 2:=by decide +kernel
theorem H6:dk cd6 30 (.i2b) 1:=by decide +kernel
theorem H7:dk cd6 31 (.bastore) 1:=by decide +kernel
theorem H8:dk cd6 32 (.iinc 1 1) 3:=by decide +kernel
theorem H9:dk cd6 35 (.iinc 3 1) 3:=by decide +kernel
theorem H_:dk cd6 38 (.iinc 5 1) 3:=by decide +kernel
theorem Ia:dk cd6 41 (.goto (-38)) 3:=by decide +kernel
theorem Ib:dk cd6 44 (.iload 4) 2:=by decide +kernel
theorem Ic:dk cd6 46 (.ireturn) 1:=by decide +kernel
theorem Id {p:Program}{l:Launch}{e:Env}{s:State}{m:MethodId}{args:Array Value}{below:List Frame}{meth:Method}{c:Code}{T0 Z:State}{a0:Array Value}{h0:Heap}{n0:Nat}{hB:Heap}{ca ba:Addr}{kc kb:ClassId}{n:Int32}{cs:List Int32}(d:Nat)(i:Int32)(k:Nat)(vs:List Value)(locs:List Loc)(o6:Option Int32)(X0:Stand p l e ({ frames:=0,cells:=0,slots:=0,locals:=0 }:Room) s m args below meth c T0 locs 0 0)(hx:p.tables.exec=Jvm.exec)(hby:c.code=jdk_52_method_21_code)(hml:c.maxLocals=7)(hret:meth.sig.returnType=(some .int))(hlk:meth.locks=false)(hown:s.vm.findClass sg4=some m.cls)(hZ:Z.Warmed39 s.vm)(hw:HW a0 Z)(e0:T0.heap=h0)(Z0:n0≤h0.size)(N0:Fr n0 locs)(Vc:Arv Z h0 ca kc .char n (cs.map Value.int) (.int 0))(Vb:Arv Z h0 ba kb .byte n vs (.int 0))(K0:Keep hB h0 [ba])(gb:n0≤ba)(ncb:ca≠ba)(hcs:Cs cs)(hn:n.toInt=(cs.length:Int))(hvl:vs.length=12)(hi:i.toInt=(k:Int))(hd:k+d=cs.length)(he:L1v cs vs k) :
  Go p e below (dR s (jh Z cs ba kb n n0 hB) 0 0) T0 (mkF m 3 #[.val (.ref ca),.val (.int i),.val (.ref ba),.val (.int i),.val (.int n),.val (.int i),(j1 o6)] []):=by
 have hcl:=hcs.2.1
 induction d generalizing i k vs T0 h0 locs o6 with
 | zero =>
  refine ae X0 hx 5 (hb hby HN) rfl rfl ?_
  refine ae X0 hx 7 (hb hby HO) rfl rfl ?_
  refine am X0 hx 44 10 (hb hby HP) (by decide) (by decide) rfl (fun c48=>?_) (fun c48=>?_)
  ·skip
   refine ae X0 hx 46 (hb hby Ib) rfl rfl ?_
   exact ay X0 hx hlk hret (hb hby Ic) (by decide) (by decide) e0 ⟨_,k,vs,rfl,by omega,N0,K0,Vb,Or.inl ⟨by omega,fun j hj=>he j (by omega)⟩⟩
  ·skip
   exfalso;omega
 | succ d ih =>
  refine ae X0 hx 5 (hb hby HN) rfl rfl ?_
  refine ae X0 hx 7 (hb hby HO) rfl rfl ?_
  refine am X0 hx 44 10 (hb hby HP) (by decide) (by decide) rfl (fun c49=>?_) (fun c49=>?_)
  ·skip
   exfalso;omega
  ·skip
   refine ab X0 hx 11 (hb hby HQ) rfl rfl rfl ?_
   refine aa X0 hx 12 (hb hby HR) rfl rfl ?_
   refine cY X0 hx hZ e0 Vc (by omega) (by omega) (cZ cs hi) 13 (hb hby HS) rfl ?_
   refine ah (l':=#[.val (.ref ca),.val (.int i),.val (.ref ba),.val (.int i),.val (.int n),.val (.int i),.val (.int (cs.getD k 0))]) X0 hx 15 (hb hby HT) rfl (by cases o6<;>rfl) ?_
   refine ae X0 hx 17 (hb hby HU) rfl rfl ?_
   refine aM X0 hx (255:Int32) 20 (hb hby HV) rfl (by decide) ?_
   have ll51:((255:Int32):Int32).toInt=255:=by decide
   refine a7 X0 hx 26 23 (hb hby HX) (by decide) (by decide) rfl (fun c50=>?_) (fun c50=>?_)
   ·skip
    refine ab X0 hx 27 (hb hby H3) rfl rfl rfl ?_
    refine aa X0 hx 28 (hb hby H4) rfl rfl ?_
    refine ae X0 hx 30 (hb hby H5) rfl rfl ?_
    refine eG X0 hx 31 (hb hby H6) rfl ?_
    refine cK X0 hx hZ e0 Vb (k) hi (by omega) (by omega) (bd (cs.getD k 0)) rfl 32 (hb hby H7) rfl ?_
    intro T52 h52 X52 e52 W52 V52
    have F53:=Vc.other W52 ncb
    have K55:=K0.wr W52 (Or.inl (List.mem_of_getElem? (i:=0) rfl))
    have N56:=Fr.snoc X52 N0 gb
    have Z57:n0≤h52.size:=by rw[W52.size];exact Z0
    refine a5 (w:=(1:Int32)) (l':=#[.val (.ref ca),.val (.int (i+(1:Int32))),.val (.ref ba),.val (.int i),.val (.int n),.val (.int i),.val (.int (cs.getD k 0))]) X52 hx 35 (hb hby H8) rfl rfl (by decide) rfl ?_
    refine a5 (w:=(1:Int32)) (l':=#[.val (.ref ca),.val (.int (i+(1:Int32))),.val (.ref ba),.val (.int (i+(1:Int32))),.val (.int n),.val (.int i),.val (.int (cs.getD k 0))]) X52 hx 38 (hb hby H9) rfl rfl (by decide) rfl ?_
    refine a5 (w:=(1:Int32)) (l':=#[.val (.ref ca),.val (.int (i+(1:Int32))),.val (.ref ba),.val (.int (i+(1:Int32))),.val (.int n),.val (.int (i+(1:Int32))),.val (.int (cs.getD k 0))]) X52 hx 41 (hb hby H_) rfl rfl (by decide) rfl ?_
    refine ap X52 hx 3 (hb hby Ia) (by decide) (by decide) ?_
    exact @ih _ _ _ (k+1) _ _ (some (cs.getD k 0)) X52 e52 Z57 N56 F53 V52 K55 (by rw[List.length_set];exact hvl) (aC hi (by omega)) (by omega) (L1v.step he (by omega) (by omega))
   ·skip
    refine ae X0 hx 25 (hb hby HY) rfl rfl ?_
    exact ay X0 hx hlk hret (hb hby HZ) (by decide) (by decide) e0 ⟨i,k,vs,rfl,hi,N0,K0,Vb,Or.inr ⟨by omega,by omega⟩⟩
theorem nC:plainFor (⟨sg4,"compress","([CI[BII)I"⟩:MethodName)=true:=plainFor_of_name (by first|(simp [plainName,overriddenIn];done)|decide +kernel)
theorem qU (ca ba:Addr)(n:Int32)(m:MethodId):entryFrame m #[(.ref ca),(.int 0),(.ref ba),(.int 0),(.int n)] 7=mkF m 0 #[.val (.ref ca),.val (.int 0),.val (.ref ba),.val (.int 0),.val (.int n),.unset,.unset] []:=by first|(simp [entryFrame,mkF,argsToLocals,Value.category];done)|rfl
theorem cC1 (l:Launch)(Z:State)(a0:Array Value)(hw:HW a0 Z)(ca ba:Addr)(n:Int32)(h0:Heap)(n0:Nat)(Z0:n0≤h0.size)(kc kb:ClassId)(cs:List Int32)(vs:List Value)(Vc:Arv Z h0 ca kc .char n (cs.map Value.int) (.int 0))(Vb:Arv Z h0 ba kb .byte n vs (.int 0))(gb:n0≤ba)(ncb:ca≠ba)(hcs:Cs cs)(hn:n.toInt=(cs.length:Int))(hvl:vs.length=12) :
  MF l Z h0 ⟨sg4,"compress","([CI[BII)I"⟩ jdk_52_method_21_code 7 (some .int) ⟨0,0,0,0⟩ #[(.ref ca),(.int 0),(.ref ba),(.int 0),(.int n)] (jh Z cs ba kb n n0 h0):=by
 refine ai nC (qU ca ba n) ?_
 intro p e s m below meth c T0 X0 hx hby hml hret hlk hnm hown hZ e0
 have N0:=Fr.nil n0
 refine ac X0 hx (0:Int32) 1 (hb hby OK) rfl (by decide) ?_
 refine ah (l':=#[.val (.ref ca),.val (.int (0:Int32)),.val (.ref ba),.val (.int (0:Int32)),.val (.int n),.val (.int (0:Int32)),.unset]) X0 hx 3 (hb hby OL) rfl rfl ?_
 exact Id cs.length 0 0 _ _ none X0 hx hby hml hret hlk hown hZ hw e0 Z0 N0 Vc Vb (Keep.refl h0 [ba]) gb ncb hcs hn hvl (by decide) (by omega) (fun j hj=>absurd hj (Nat.not_lt_zero j))
theorem OM:dk cd7 0 (.iload_n 2) 1:=by decide +kernel
theorem ON:dk cd7 1 (.newarray .byte) 2:=by decide +kernel
theorem OO:dk cd7 3 (.astore_n 3) 1:=by decide +kernel
theorem OP:dk cd7 4 (.aload_n 0) 1:=by decide +kernel
theorem OQ:dk cd7 5 (.iload_n 1) 1:=by decide +kernel
theorem OR:dk cd7 6 (.aload_n 3) 1:=by decide +kernel
theorem OS:dk cd7 7 (.iconst 0) 1:=by decide +kernel
theorem OT:dk cd7 8 (.iload_n 2) 1:=by decide +kernel
theorem OU:dk cd7 9 (.invokestatic 115) 3:=by decide +kernel
theorem Ie:dk cd7 12 (.istore 4) 2:=by decide +kernel
theorem If:dk cd7 14 (.iload 4) 2:=by decide +kernel
theorem Ig:dk cd7 16 (.iload_n 2) 1:=by decide +kernel
theorem Ih:dk cd7 17 (.if_icmp .eq 40) 3:=by decide +kernel
theorem Ii:dk cd7 20 (.aload_n 0) 1:=by decide +kernel
theorem Ij:dk cd7 21 (.iload_n 1) 1:=by decide +kernel
theorem Ik:dk cd7 22 (.iload_n 2) 1:=by decide +kernel
theorem Il:dk cd7 23 (.invokestatic 119) 3:=by decide +kernel
theorem Im:dk cd7 26 (.astore 5) 2:=by decide +kernel
theorem In:dk cd7 28 (.aload 5) 2:=by decide +kernel
theorem Io:dk cd7 30 (.iload 4) 2:=by decide +kernel
theorem Ip:dk cd7 32 (.invokestatic 71) 3:=by decide +kernel
theorem Iq:dk cd7 35 (.sipush 255) 3:=by decide +kernel
theorem Ir:dk cd7 38 (.if_icmp .gt 16) 3:=by decide +kernel
theorem Is:dk cd7 54 (.aload 5) 2:=by decide +kernel
theorem It:dk cd7 56 (.areturn) 1:=by decide +kernel
theorem Iu:dk cd7 57 (.aload_n 3) 1:=by decide +kernel
theorem Iv:dk cd7 58 (.areturn) 1:=by decide +kernel
theorem nD:plainFor (⟨sg4,"compress","([CII)[B"⟩:MethodName)=true:=plainFor_of_name (by first|(simp [plainName,overriddenIn];done)|decide +kernel)
def Iw (Z:State)(cs:List Int32)(n0:Nat)(h0:Heap)(v:Option Value)(h:Heap)(L:List Loc):Prop:=∃(b:Addr)(kb:ClassId)(z:Int32)(vs:List Value)(co:Int32),v=some (.ref b)∧Fr n0 L∧Keep h0 h []∧n0≤b∧h0.size≤b∧Enc cs z vs co∧Arv Z h b kb .byte z vs (.int 0)
theorem qV (ca:Addr)(n:Int32)(m:MethodId):entryFrame m #[(.ref ca),(.int 0),(.int n)] 6=mkF m 0 #[.val (.ref ca),.val (.int 0),.val (.int n),.unset,.unset,.unset] []:=by first|(simp [entryFrame,mkF,argsToLocals,Value.category];done)|rfl
theorem cC3 (l:Launch)(Z:State)(a0:Array Value)(hw:HW a0 Z)(ca:Addr)(n:Int32)(h0:Heap)(n0:Nat)(Z0:n0≤h0.size)(cst:Int32)(fm:Option Addr)(em:Addr)(SX_:SX Z cst fm em)(O0:Old Z n0 h0)(kc:ClassId)(cs:List Int32)(Vc:Arv Z h0 ca kc .char n (cs.map Value.int) (.int 0))(hcs:Cs cs)(hn:n.toInt=(cs.length:Int)) :
  MF l Z h0 ⟨sg4,"compress","([CII)[B"⟩ jdk_52_method_16_code 6 (some (.array .byte)) ⟨3,2,36,70⟩ #[(.ref ca),(.int 0),(.int n)] (Iw Z cs n0 h0):=by
 refine ai nD (qV ca n) ?_
 intro p e s m below meth c T0 X0 hx hby hml hret hlk hnm hown hZ e0
 have N0:=Fr.nil n0
 have hcl:=hcs.2.1
 refine aa X0 hx 1 (hb hby OM) rfl rfl ?_
 refine aO X0 hx hZ (aty := .byte) (tw hw 23 rfl) e0 (by omega) (cap:=12) (by omega) (by decide) 3 (hb hby ON) rfl (by decide) (by decide) (ad := "[B") (by decide) ?_
 intro T58 h58 k58 a58 g58 X58 e58 E58 V58 A58
 have ne59:ca≠a58:=Nat.ne_of_lt (by rw[g58];exact Vc.lt)
 have ge60:n0≤a58:=by rw[g58];exact Z0
 have sz61:h0.size≤a58:=by rw[g58];exact (Keep.refl h0 []).1
 have F62:=O0.ext E58
 have F63:=Vc.ext E58
 have K64:=(Keep.refl h0 []).ext E58
 have Z65:n0≤h58.size:=Nat.le_trans Z0 E58.1
 have V58':Arv Z h58 a58 k58 .byte n [(.int (0:Int32)),(.int (0:Int32)),(.int (0:Int32)),(.int (0:Int32)),(.int (0:Int32)),(.int (0:Int32)),(.int (0:Int32)),(.int (0:Int32)),(.int (0:Int32)),(.int (0:Int32)),(.int (0:Int32)),(.int (0:Int32))] (.int (0:Int32)):=V58.pad (pad_rep [] (.int (0:Int32)) 12)
 refine au (l':=#[.val (.ref ca),.val (.int (0:Int32)),.val (.int n),.val (.ref a58),.unset,.unset]) X58 hx 4 (hb hby OO) rfl rfl rfl ?_
 refine ab X58 hx 5 (hb hby OP) rfl rfl rfl ?_
 refine aa X58 hx 6 (hb hby OQ) rfl rfl ?_
 refine ab X58 hx 7 (hb hby OR) rfl rfl rfl ?_
 refine ac X58 hx (0:Int32) 8 (hb hby OS) rfl (by decide) ?_
 refine aa X58 hx 9 (hb hby OT) rfl rfl ?_
 refine ag X58 hx hZ hown (tw hw 24 rfl) (tw hw 25 rfl) (tw hw 21 rfl) (tw hw 26 rfl) (by decide) (cC1 l Z a0 hw ca a58 n h58 n0 Z65 kc k58 cs _ F63 V58' ge60 ne59 hcs hn (by decide)) e58 (argsL:=[(.ref ca),(.int (0:Int32)),(.ref a58),(.int (0:Int32)),(.int n)]) (rest:=[]) rfl rfl 0 12 rfl (by rw[hml];rfl) (lenOf nt rfl) (Nat.le_refl _) (by decide) (by decide) (by decide) (by decide) (hb hby OU) ?_
 intro v66 T66 L66 X66 hQ66
 obtain⟨r,q,vs1,rfl,hr,N66,K66,V66,hq⟩:=hQ66
 have N67:=Fr.app N0 N66
 have F68:=F62.keep K66 (allS ge60 all0)
 have F69:=F63.keep K66 (ninS ne59 nin0)
 have F70:=A58.keep K66
 have Z72:n0≤T66.heap.size:=Nat.le_trans Z65 K66.1
 have K73:=K64.trans K66 (allS (Or.inr sz61) all0)
 show Go _ _ _ _ _ (mkF _ _ _ [(.int r)])
 refine ah (l':=#[.val (.ref ca),.val (.int (0:Int32)),.val (.int n),.val (.ref a58),.val (.int r),.unset]) X66 hx 14 (hb hby Ie) rfl rfl ?_
 refine ae X66 hx 16 (hb hby If) rfl rfl ?_
 refine aa X66 hx 17 (hb hby Ig) rfl rfl ?_
 refine bH X66 hx 57 20 (hb hby Ih) (by decide) (by decide) rfl (fun c74=>?_) (fun c74=>?_)
 ·skip
  refine ab X66 hx 58 (hb hby Iu) rfl rfl rfl ?_
  obtain⟨q1,q2⟩:q=cs.length∧L1v cs vs1 cs.length:=by
   rcases hq with hq|hq
   ·exact hq
   ·omega
  exact aA X66 hx hlk hret rfl rfl rfl (hb hby Iv) (by decide) (by decide) rfl ⟨a58,k58,n,vs1,0,rfl,N67,K73,ge60,sz61,Or.inl ⟨rfl,hn,q2⟩,V66⟩
 ·skip
  obtain⟨q1,q2⟩:q<cs.length∧255<(cs.getD q 0).toInt:=by
   rcases hq with hq|hq
   ·omega
   ·exact hq
  refine ab X66 hx 21 (hb hby Ii) rfl rfl rfl ?_
  refine aa X66 hx 22 (hb hby Ij) rfl rfl ?_
  refine aa X66 hx 23 (hb hby Ik) rfl rfl ?_
  refine ag X66 hx hZ hown (tw hw 284 rfl) (tw hw 285 rfl) (tw hw 21 rfl) (tw hw 286 rfl) (by decide) (cTB l Z a0 hw ca n T66.heap n0 Z72 cst fm em SX_ F68 kc cs F69 hcs hn) rfl (argsL:=[(.ref ca),(.int (0:Int32)),(.int n)]) (rest:=[]) rfl rfl 0 26 rfl (by rw[hml];rfl) (lenOf jf rfl) (Nat.le_refl _) (by decide) (by decide) (by decide) (by decide) (hb hby Il) ?_
  intro v75 T75 L75 X75 hQ75
  obtain⟨ub,ku,t,us,rfl,N75,K75,gu,su,ht,hu,Vu⟩:=hQ75
  have N76:=Fr.app N67 N75
  have su1:=Nat.le_trans (K73).1 su
  have F77:=F68.keep K75 all0
  have F78:=F69.keep K75 nin0
  have F79:=F70.keep K75
  have F80:=V66.keep K75 nin0
  have Z81:n0≤T75.heap.size:=Nat.le_trans Z72 K75.1
  have K82:=K73.trans K75 all0
  show Go _ _ _ _ _ (mkF _ _ _ [(.ref ub)])
  refine aE (l':=#[.val (.ref ca),.val (.int (0:Int32)),.val (.int n),.val (.ref a58),.val (.int r),.val (.ref ub)]) X75 hx 28 (hb hby Im) rfl rfl rfl ?_
  refine al X75 hx 30 (hb hby In) rfl rfl rfl ?_
  refine ae X75 hx 32 (hb hby Io) rfl rfl ?_
  refine ag X75 hx hZ hown (tw hw 300 rfl) (tw hw 301 rfl) (tw hw 21 rfl) (tw hw 302 rfl) (by decide) (cGe l Z a0 hw ub r T75.heap n0 Z81 cst fm em SX_ F77 ku t (cs.getD q 0) us q Vu (hcs.2.2 q q1) hr (by omega) (by omega) (hu q q1).1 (hu q q1).2) rfl (argsL:=[(.ref ub),(.int r)]) (rest:=[]) rfl rfl 0 35 rfl (by rw[hml];rfl) (lenOf bh rfl) (Nat.le_refl _) (by decide) (by decide) (by decide) (by decide) (hb hby Ip) ?_
  intro v83 T83 L83 X83 hQ83
  obtain⟨rfl,N83,q83⟩:=hQ83
  have N84:=Fr.app N76 N83
  show Go _ _ _ _ _ (mkF _ _ _ [(.int (cs.getD q 0))])
  refine aM X83 hx (255:Int32) 38 (hb hby Iq) rfl (by decide) ?_
  have ll86:((255:Int32):Int32).toInt=255:=by decide
  refine cJ X83 hx 54 41 (hb hby Ir) (by decide) (by decide) rfl (fun c85=>?_) (fun c85=>?_)
  ·skip
   refine al X83 hx 56 (hb hby Is) rfl rfl rfl ?_
   exact aA X83 hx hlk hret rfl rfl rfl (hb hby It) (by decide) (by decide) q83 ⟨ub,ku,t,us,1,rfl,N84,K82,gu,su1,Or.inr ⟨rfl,ht,hu⟩,Vu⟩
  ·skip
   exfalso;omega
theorem OV:dk cd8 0 (.iload_n 1) 1:=by decide +kernel
theorem OW:dk cd8 1 (.aload_n 0) 1:=by decide +kernel
theorem OX:dk cd8 2 (.arraylength) 1:=by decide +kernel
theorem OY:dk cd8 3 (.isub) 1:=by decide +kernel
theorem OZ:dk cd8 4 (.bipush 31) 2:=by decide +kernel
theorem O1:dk cd8 6 (.iushr) 1:=by decide +kernel
theorem O2:dk cd8 7 (.i2b) 1:=by decide +kernel
theorem O3:dk cd8 8 (.ireturn) 1:=by decide +kernel
theorem nE:plainFor (⟨sg4,"coderFromArrayLen","([BI)B"⟩:MethodName)=true:=plainFor_of_name (by first|(simp [plainName,overriddenIn];done)|decide +kernel)
def Ix (co:Int32)(n0:Nat)(h0:Heap)(v:Option Value)(h:Heap)(L:List Loc):Prop:=v=some (.int co)∧Fr n0 L∧h=h0
theorem qW (vb:Addr)(n:Int32)(m:MethodId):entryFrame m #[(.ref vb),(.int n)] 2=mkF m 0 #[.val (.ref vb),.val (.int n)] []:=by first|(simp [entryFrame,mkF,argsToLocals,Value.category];done)|rfl
theorem cCF (l:Launch)(Z:State)(a0:Array Value)(hw:HW a0 Z)(vb:Addr)(n:Int32)(h0:Heap)(n0:Nat)(Z0:n0≤h0.size)(kb:ClassId)(z co:Int32)(cs:List Int32)(vs:List Value)(V:Arv Z h0 vb kb .byte z vs (.int 0))(hcs:Cs cs)(hn:n.toInt=(cs.length:Int))(hE:Enc cs z vs co) :
  MF l Z h0 ⟨sg4,"coderFromArrayLen","([BI)B"⟩ jdk_52_method_15_code 2 (some .byte) ⟨0,0,0,0⟩ #[(.ref vb),(.int n)] (Ix co n0 h0):=by
 refine ai nE (qW vb n) ?_
 intro p e s m below meth c T0 X0 hx hby hml hret hlk hnm hown hZ e0
 have N0:=Fr.nil n0
 refine aa X0 hx 1 (hb hby OV) rfl rfl ?_
 refine ab X0 hx 2 (hb hby OW) rfl rfl rfl ?_
 refine aH X0 hx hZ e0 V 3 (hb hby OX) rfl ?_
 refine bm X0 hx 4 (hb hby OY) rfl ?_
 refine aj X0 hx (31:Int32) 6 (hb hby OZ) rfl (by decide) ?_
 refine cm X0 hx 7 (hb hby O1) rfl ?_
 refine eG X0 hx 8 (hb hby O2) rfl ?_
 have hv:nar .byte (((n-z).toUInt32>>>((31:Int32)&&&31).toUInt32).toInt32).toInt8.toInt32=co:=by
  have h1:=hcs.1
  have h2:=hcs.2.1
  rcases hE with ⟨rfl,q,-⟩|⟨rfl,q,-⟩
  ·exact nu (by omega) (by omega) (by omega)
  ·exact nv (by omega) (by omega) (by omega)
 exact bo X0 hx hlk hret (by simp) (hb hby O3) (by decide) (by decide) e0 ⟨congrArg (fun x=>some (Value.int x)) hv,N0,rfl⟩
theorem O4:dk cd9 0 (.aload_n 0) 1:=by decide +kernel
theorem O5:dk cd9 1 (.invokespecial 1) 3:=by decide +kernel
theorem O6:dk cd9 4 (.iload_n 3) 1:=by decide +kernel
theorem O7:dk cd9 5 (.ifCond .ne 22) 3:=by decide +kernel
theorem Iy:dk cd9 27 (.getstatic 38) 3:=by decide +kernel
theorem Iz:dk cd9 30 (.ifCond .eq 28) 3:=by decide +kernel
theorem IA:dk cd9 33 (.aload_n 1) 1:=by decide +kernel
theorem IB:dk cd9 34 (.iload_n 2) 1:=by decide +kernel
theorem IC:dk cd9 35 (.iload_n 3) 1:=by decide +kernel
theorem ID:dk cd9 36 (.invokestatic 177) 3:=by decide +kernel
theorem IE:dk cd9 39 (.astore 5) 2:=by decide +kernel
theorem IF:dk cd9 41 (.aload_n 0) 1:=by decide +kernel
theorem IG:dk cd9 42 (.aload 5) 2:=by decide +kernel
theorem IH:dk cd9 44 (.iload_n 3) 1:=by decide +kernel
theorem IJ:dk cd9 45 (.invokestatic 47) 3:=by decide +kernel
theorem oA:dk cd9 48 (.putfield 15) 3:=by decide +kernel
theorem oB:dk cd9 51 (.aload_n 0) 1:=by decide +kernel
theorem oC:dk cd9 52 (.aload 5) 2:=by decide +kernel
theorem oD:dk cd9 54 (.putfield 9) 3:=by decide +kernel
theorem oE:dk cd9 57 (.return_) 1:=by decide +kernel
theorem nF:plainFor (⟨sg1,"<init>","([CIILjava/lang/Void;)V"⟩:MethodName)=true:=plainFor_of_name (by first|(simp [plainName,overriddenIn];done)|decide +kernel)
def IK (Z:State)(a:Addr)(cs:List Int32)(n0:Nat)(h0:Heap)(v:Option Value)(h:Heap)(L:List Loc):Prop:=v=none∧Fr n0 L∧Keep h0 h [a]∧∃(b:Addr)(kb:ClassId)(z:Int32)(vs:List Value)(co:Int32),n0≤b∧h0.size≤b∧Fld Z h a sg1 "coder" "B" (.int co)∧Fld Z h a sg1 "value" "[B" (.ref b)∧Enc cs z vs co∧Arv Z h b kb .byte z vs (.int 0)
theorem qX (a ca:Addr)(n:Int32)(m:MethodId):entryFrame m #[(.ref a),(.ref ca),(.int 0),(.int n),.null] 6=mkF m 0 #[.val (.ref a),.val (.ref ca),.val (.int 0),.val (.int n),.val .null,.unset] []:=by first|(simp [entryFrame,mkF,argsToLocals,Value.category];done)|rfl
theorem cI4 (l:Launch)(Z:State)(a0:Array Value)(hw:HW a0 Z)(a ca:Addr)(n:Int32)(h0:Heap)(n0:Nat)(Z0:n0≤h0.size)(cst:Int32)(fm:Option Addr)(em:Addr)(SX_:SX Z cst fm em)(O0:Old Z n0 h0)(kc:ClassId)(cs:List Int32)(E:Exa Z h0 a sg1)(ga:n0≤a)(nac:a≠ca)(Fc:Fld Z h0 a sg1 "coder" "B" (.int 0))(Fv:Fld Z h0 a sg1 "value" "[B" .null)(Vc:Arv Z h0 ca kc .char n (cs.map Value.int) (.int 0))(hcs:Cs cs)(hn:n.toInt=(cs.length:Int)) :
  MF l Z h0 ⟨sg1,"<init>","([CIILjava/lang/Void;)V"⟩ jdk_42_method_149_code 6 none ⟨4,2,36,95⟩ #[(.ref a),(.ref ca),(.int 0),(.int n),.null] (IK Z a cs n0 h0):=by
 refine ai nF (qX a ca n) ?_
 intro p e s m below meth c T0 X0 hx hby hml hret hlk hnm hown hZ e0
 have N0:=Fr.nil n0
 have hc1:=hcs.1
 have hcl:=hcs.2.1
 refine ab X0 hx 1 (hb hby O4) rfl rfl rfl ?_
 refine bZ X0 hx hZ hown (tw hw 15 rfl) (tw hw 16 rfl) (tw hw 17 rfl) e0 0 4 (hb hby O5) rfl (by rw[hml];rfl) (by decide) (Nat.le_refl _) (by decide) ?_
 intro T87 X87 e87
 refine aa X87 hx 5 (hb hby O6) rfl rfl ?_
 refine aI X87 hx 27 8 (hb hby O7) (by decide) (by decide) rfl (fun c88=>?_) (fun c88=>?_)
 ·skip
  refine a1 X87 hx hZ hown (tw hw 18 rfl) Via.refl e87 (Sta.ext O0.2 SX_.2.1) 30 (hb hby Iy) rfl ?_
  intro T89 X89 e89
  refine ax X89 hx 58 33 (hb hby Iz) (by decide) (by decide) rfl (fun c90=>?_) (fun c90=>?_)
  ·skip
   exact absurd (dg c90) SX_.1
  ·skip
   refine ab X89 hx 34 (hb hby IA) rfl rfl rfl ?_
   refine aa X89 hx 35 (hb hby IB) rfl rfl ?_
   refine aa X89 hx 36 (hb hby IC) rfl rfl ?_
   refine ag X89 hx hZ hown (tw hw 19 rfl) (tw hw 20 rfl) (tw hw 21 rfl) (tw hw 22 rfl) (by decide) (cC3 l Z a0 hw ca n h0 n0 Z0 cst fm em SX_ O0 kc cs Vc hcs hn) e89 (argsL:=[(.ref ca),(.int (0:Int32)),(.int n)]) (rest:=[]) rfl rfl 0 39 rfl (by rw[hml];rfl) (lenOf jf rfl) (Nat.le_refl _) (by decide) (by decide) (by decide) (by decide) (hb hby ID) ?_
   intro v91 T91 L91 X91 hQ91
   obtain⟨b,kb,z,vs,co,rfl,N91,K91,gb,sb,hE,Vb⟩:=hQ91
   have N92:=Fr.app N0 N91
   have F93:=O0.keep K91 all0
   have F94:=E.keep K91
   have F95:=Fc.keep K91 nin0
   have F96:=Fv.keep K91 nin0
   have F97:=Vc.keep K91 nin0
   have Z98:n0≤T91.heap.size:=Nat.le_trans Z0 K91.1
   have K99:=(Keep.refl h0 [a]).trans K91 all0
   have nab:a≠b:=Nat.ne_of_lt (Nat.lt_of_lt_of_le E.lt sb)
   have sb:=Nat.le_trans ((Keep.refl h0 [a])).1 sb
   show Go _ _ _ _ _ (mkF _ _ _ [(.ref b)])
   refine aE (l':=#[.val (.ref a),.val (.ref ca),.val (.int (0:Int32)),.val (.int n),.val .null,.val (.ref b)]) X91 hx 41 (hb hby IE) rfl rfl rfl ?_
   refine ab X91 hx 42 (hb hby IF) rfl rfl rfl ?_
   refine al X91 hx 44 (hb hby IG) rfl rfl rfl ?_
   refine aa X91 hx 45 (hb hby IH) rfl rfl ?_
   refine ag X91 hx hZ hown (tw hw 27 rfl) (tw hw 28 rfl) (tw hw 21 rfl) (tw hw 29 rfl) (by decide) (cCF l Z a0 hw b n T91.heap n0 Z98 kb z co cs vs Vb hcs hn hE) rfl (argsL:=[(.ref b),(.int n)]) (rest:=[(.ref a)]) rfl rfl 1 48 rfl (by rw[hml];rfl) (lenOf jg rfl) (Nat.le_refl _) (by decide) (by decide) (by decide) (by decide) (hb hby IJ) ?_
   intro v100 T100 L100 X100 hQ100
   obtain⟨rfl,N100,q100⟩:=hQ100
   have N101:=Fr.app N92 N100
   show Go _ _ _ _ _ (mkF _ _ _ [(.int co),(.ref a)])
   rcases hE with ⟨rfl,hz1,hz2⟩|⟨rfl,hz1,hz2⟩
   ·skip
    refine aZ X100 hx hZ hown (tw hw 30 rfl) Via.refl q100 F95 F94 (Or.inr ⟨(tw hw 31 rfl),rfl,hnm⟩) (tw hw 6 rfl) (ty := .byte) (by decide) rfl rfl 51 (hb hby oA) rfl ?_
    intro T102 h102 X102 e102 W102
    have F103:Fld Z h102 a sg1 "coder" "B" (.int (0:Int32)):=F95.same W102
    have F104:=F93.wr W102 ga
    have F105:=F94.wr W102
    have F106:=F96.other W102 (Or.inr (slot_ne (Or.inr (tw hw 33 rfl)) (Or.inr (tw hw 31 rfl)) (by decide) (t:=(.array .byte)) (t' := .byte) (by decide) (by decide)))
    have F107:=F97.other W102 (Ne.symm nac)
    have F108:=Vb.other W102 (Ne.symm nab)
    have K109:=K99.wr W102 (Or.inl (List.mem_of_getElem? (i:=0) rfl))
    have N110:=Fr.snoc X102 N101 ga
    have Z111:n0≤h102.size:=by rw[W102.size];exact Z98
    refine ab X102 hx 52 (hb hby oB) rfl rfl rfl ?_
    refine al X102 hx 54 (hb hby oC) rfl rfl rfl ?_
    refine aZ X102 hx hZ hown (tw hw 32 rfl) Via.refl e102 F106 F105 (Or.inr ⟨(tw hw 33 rfl),rfl,hnm⟩) (tw hw 6 rfl) (ty:=(.array .byte)) (by decide) rfl rfl 57 (hb hby oD) rfl ?_
    intro T112 h112 X112 e112 W112
    have F113:Fld Z h112 a sg1 "value" "[B" (.ref b):=F106.same W112
    have F114:=F104.wr W112 ga
    have F115:=F105.wr W112
    have F116:=F107.other W112 (Ne.symm nac)
    have F117:=F108.other W112 (Ne.symm nab)
    have F118:=F103.other W112 (Or.inr (slot_ne (Or.inr (tw hw 31 rfl)) (Or.inr (tw hw 33 rfl)) (by decide) (t := .byte) (t':=(.array .byte)) (by decide) (by decide)))
    have K119:=K109.wr W112 (Or.inl (List.mem_of_getElem? (i:=0) rfl))
    have N120:=Fr.snoc X112 N110 ga
    have Z121:n0≤h112.size:=by rw[W112.size];exact Z111
    exact aY X112 hx hlk hret (hb hby oE) (by decide) (by decide) e112 ⟨rfl,N120,K119,b,kb,z,vs,0,gb,sb,F118,F113,Or.inl ⟨rfl,hz1,hz2⟩,F117⟩
   ·skip
    refine aZ X100 hx hZ hown (tw hw 30 rfl) Via.refl q100 F95 F94 (Or.inr ⟨(tw hw 31 rfl),rfl,hnm⟩) (tw hw 6 rfl) (ty := .byte) (by decide) rfl rfl 51 (hb hby oA) rfl ?_
    intro T122 h122 X122 e122 W122
    have F123:Fld Z h122 a sg1 "coder" "B" (.int (1:Int32)):=F95.same W122
    have F124:=F93.wr W122 ga
    have F125:=F94.wr W122
    have F126:=F96.other W122 (Or.inr (slot_ne (Or.inr (tw hw 33 rfl)) (Or.inr (tw hw 31 rfl)) (by decide) (t:=(.array .byte)) (t' := .byte) (by decide) (by decide)))
    have F127:=F97.other W122 (Ne.symm nac)
    have F128:=Vb.other W122 (Ne.symm nab)
    have K129:=K99.wr W122 (Or.inl (List.mem_of_getElem? (i:=0) rfl))
    have N130:=Fr.snoc X122 N101 ga
    have Z131:n0≤h122.size:=by rw[W122.size];exact Z98
    refine ab X122 hx 52 (hb hby oB) rfl rfl rfl ?_
    refine al X122 hx 54 (hb hby oC) rfl rfl rfl ?_
    refine aZ X122 hx hZ hown (tw hw 32 rfl) Via.refl e122 F126 F125 (Or.inr ⟨(tw hw 33 rfl),rfl,hnm⟩) (tw hw 6 rfl) (ty:=(.array .byte)) (by decide) rfl rfl 57 (hb hby oD) rfl ?_
    intro T132 h132 X132 e132 W132
    have F133:Fld Z h132 a sg1 "value" "[B" (.ref b):=F126.same W132
    have F134:=F124.wr W132 ga
    have F135:=F125.wr W132
    have F136:=F127.other W132 (Ne.symm nac)
    have F137:=F128.other W132 (Ne.symm nab)
    have F138:=F123.other W132 (Or.inr (slot_ne (Or.inr (tw hw 31 rfl)) (Or.inr (tw hw 33 rfl)) (by decide) (t := .byte) (t':=(.array .byte)) (by decide) (by decide)))
    have K139:=K129.wr W132 (Or.inl (List.mem_of_getElem? (i:=0) rfl))
    have N140:=Fr.snoc X132 N130 ga
    have Z141:n0≤h132.size:=by rw[W132.size];exact Z131
    exact aY X132 hx hlk hret (hb hby oE) (by decide) (by decide) e132 ⟨rfl,N140,K139,b,kb,z,vs,1,gb,sb,F138,F133,Or.inr ⟨rfl,hz1,hz2⟩,F137⟩
 ·skip
  exfalso;omega
theorem O8:dk gA 0 (.aload_n 0) 1:=by decide +kernel
theorem O9:dk gA 1 (.aload_n 1) 1:=by decide +kernel
theorem O_:dk gA 2 (.iconst 0) 1:=by decide +kernel
theorem Pa:dk gA 3 (.aload_n 1) 1:=by decide +kernel
theorem Pb:dk gA 4 (.arraylength) 1:=by decide +kernel
theorem Pc:dk gA 5 (.aconst_null) 1:=by decide +kernel
theorem Pd:dk gA 6 (.invokespecial 27) 3:=by decide +kernel
theorem Pe:dk gA 9 (.return_) 1:=by decide +kernel
theorem j5:plainFor (⟨sg1,"<init>","([C)V"⟩:MethodName)=true:=plainFor_of_name (by first|(simp [plainName,overriddenIn];done)|decide +kernel)
def IL (Z:State)(a:Addr)(cs:List Int32)(n0:Nat)(h0:Heap)(v:Option Value)(h:Heap)(L:List Loc):Prop:=v=none∧Fr n0 L∧Keep h0 h [a]∧∃(b:Addr)(kb:ClassId)(z:Int32)(vs:List Value)(co:Int32),n0≤b∧h0.size≤b∧Fld Z h a sg1 "coder" "B" (.int co)∧Fld Z h a sg1 "value" "[B" (.ref b)∧Enc cs z vs co∧Arv Z h b kb .byte z vs (.int 0)
theorem qY (a ca:Addr)(m:MethodId):entryFrame m #[(.ref a),(.ref ca)] 2=mkF m 0 #[.val (.ref a),.val (.ref ca)] []:=by first|(simp [entryFrame,mkF,argsToLocals,Value.category];done)|rfl
theorem cI1 (l:Launch)(Z:State)(a0:Array Value)(hw:HW a0 Z)(a ca:Addr)(h0:Heap)(n0:Nat)(Z0:n0≤h0.size)(cst:Int32)(fm:Option Addr)(em:Addr)(SX_:SX Z cst fm em)(O0:Old Z n0 h0)(kc:ClassId)(n:Int32)(cs:List Int32)(E:Exa Z h0 a sg1)(ga:n0≤a)(nac:a≠ca)(Fc:Fld Z h0 a sg1 "coder" "B" (.int 0))(Fv:Fld Z h0 a sg1 "value" "[B" .null)(Vc:Arv Z h0 ca kc .char n (cs.map Value.int) (.int 0))(hcs:Cs cs)(hn:n.toInt=(cs.length:Int)) :
  MF l Z h0 ⟨sg1,"<init>","([C)V"⟩ jdk_42_method_3_code 2 none ⟨5,2,36,115⟩ #[(.ref a),(.ref ca)] (IL Z a cs n0 h0):=by
 refine ai j5 (qY a ca) ?_
 intro p e s m below meth c T0 X0 hx hby hml hret hlk hnm hown hZ e0
 have N0:=Fr.nil n0
 have hc1:=hcs.1
 have hcl:=hcs.2.1
 refine ab X0 hx 1 (hb hby O8) rfl rfl rfl ?_
 refine ab X0 hx 2 (hb hby O9) rfl rfl rfl ?_
 refine ac X0 hx (0:Int32) 3 (hb hby O_) rfl (by decide) ?_
 refine ab X0 hx 4 (hb hby Pa) rfl rfl rfl ?_
 refine aH X0 hx hZ e0 Vc 5 (hb hby Pb) rfl ?_
 refine pH X0 hx 6 (hb hby Pc) rfl ?_
 refine aN X0 hx hZ rfl hown (tw hw 11 rfl) (tw hw 12 rfl) (tw hw 7 rfl) (tw hw 14 rfl) (by decide) (cI4 l Z a0 hw a ca n h0 n0 Z0 cst fm em SX_ O0 kc cs E ga nac Fc Fv Vc hcs hn) e0 (a:=a) (argsL:=[(.ref ca),(.int (0:Int32)),(.int n),.null]) (rest:=[]) rfl rfl 0 9 rfl (by rw[hml];rfl) (lenOf ns rfl) (Nat.le_refl _) (by decide) (by decide) (by decide) (by decide) (hb hby Pd) ?_
 intro v142 T142 L142 X142 hQ142
 obtain⟨rfl,N142,K142,b,kb,z,vs,co,gb,sb,c_,v_,hE,Vb⟩:=hQ142
 have N143:=Fr.app N0 N142
 have F144:=O0.keep K142 (allS ga all0)
 have F145:=E.keep K142
 have F148:=Vc.keep K142 (ninS (Ne.symm nac) nin0)
 have Z149:n0≤T142.heap.size:=Nat.le_trans Z0 K142.1
 have K150:=(Keep.refl h0 [a]).trans K142 (allS (Or.inl (List.mem_of_getElem? (i:=0) rfl)) all0)
 show Go _ _ _ _ _ (mkF _ _ _ [])
 exact aY X142 hx hlk hret (hb hby Pe) (by decide) (by decide) rfl ⟨rfl,N143,K150,b,kb,z,vs,co,gb,sb,c_,v_,hE,Vb⟩
def a3 (Z:State)(h:Heap)(Lw B:Nat)(a:Addr)(cs:List Int32):Prop:=Cs cs∧(Lw≤a∧(a:Nat)<B)∧∃(vb:Addr)(kb:ClassId)(z:Int32)(vs:List Value)(co:Int32),(Lw≤vb∧(vb:Nat)<B)∧Exa Z h a sg1∧Fld Z h a sg1 "coder" "B" (.int co)∧Fld Z h a sg1 "value" "[B" (.ref vb)∧Arv Z h vb kb .byte z vs (.int 0)∧Enc cs z vs co
theorem a3.keep {Z:State}{h h':Heap}{Lw B:Nat}{a:Addr}{cs:List Int32}{ws:List Addr}(S:a3 Z h Lw B a cs)(K:Keep h h' ws)(q:∀x∈ws,(x:Nat)<Lw∨B≤x):a3 Z h' Lw B a cs:=by
 obtain⟨h1,h2,vb,kb,z,vs,co,h3,E,Fc,Fv,V,hE⟩:=S
 have na:a ∉ ws:=fun r=>(q a r).elim (fun z=>Nat.lt_irrefl _ (Nat.lt_of_lt_of_le z h2.1)) fun z=>Nat.lt_irrefl _ (Nat.lt_of_lt_of_le h2.2 z)
 have nb:vb ∉ ws:=fun r=>(q vb r).elim (fun z=>Nat.lt_irrefl _ (Nat.lt_of_lt_of_le z h3.1)) fun z=>Nat.lt_irrefl _ (Nat.lt_of_lt_of_le h3.2 z)
 exact⟨h1,h2,vb,kb,z,vs,co,h3,E.keep K,Fc.keep K na,Fv.keep K na,V.keep K nb,hE⟩
theorem a3.ext {Z:State}{h h':Heap}{Lw B:Nat}{a:Addr}{cs:List Int32}(S:a3 Z h Lw B a cs)(E':Ext h h'):a3 Z h' Lw B a cs:=by
 obtain⟨h1,h2,vb,kb,z,vs,co,h3,E,Fc,Fv,V,hE⟩:=S
 exact⟨h1,h2,vb,kb,z,vs,co,h3,E.ext E',Fc.ext E',Fv.ext E',V.ext E',hE⟩
theorem a3.exa {Z:State}{h:Heap}{Lw B:Nat}{a:Addr}{cs:List Int32}(S:a3 Z h Lw B a cs):Exa Z h a sg1:=by
 obtain⟨h1,h2,vb,kb,z,vs,co,h3,E,r⟩:=S
 exact E
def Idx (cs:List Int32)(k:Nat)(r:Int32):Prop:=(r.toInt=-1∧∀j,k≤j→j<cs.length→(cs.getD j 0).toInt≠47)∨∃q:Nat,r.toInt=(q:Int)∧k≤q∧q<cs.length∧(cs.getD q 0).toInt=47∧∀j,k≤j→j<q→(cs.getD j 0).toInt≠47
theorem ft:(-1:Int32).toInt=-1:=by decide
theorem oF:dk jG 0 (.getstatic 38) 3:=by decide +kernel
theorem oG:dk jG 3 (.ifCond .eq 10) 3:=by decide +kernel
theorem oH:dk jG 6 (.aload_n 0) 1:=by decide +kernel
theorem oI:dk jG 7 (.getfield 15) 3:=by decide +kernel
theorem j6:dk jG 10 (.goto 4) 3:=by decide +kernel
theorem j7:dk jG 14 (.ireturn) 1:=by decide +kernel
theorem gJ:plainFor (⟨sg1,"coder","()B"⟩:MethodName)=true:=plainFor_of_name (by first|(simp [plainName,overriddenIn];done)|decide +kernel)
def qZ (n0:Nat)(h0:Heap)(v:Option Value)(h:Heap)(L:List Loc):Prop:=v=some (.int 0)∧Fr n0 L∧h=h0
theorem nG (a:Addr)(m:MethodId):entryFrame m #[(.ref a)] 1=mkF m 0 #[.val (.ref a)] []:=by first|(simp [entryFrame,mkF,argsToLocals,Value.category];done)|rfl
theorem gK (l:Launch)(Z:State)(a0:Array Value)(hw:HW a0 Z)(a:Addr)(h0:Heap)(n0:Nat)(Z0:n0≤h0.size)(cst:Int32)(fm:Option Addr)(em:Addr)(SX_:SX Z cst fm em)(O0:Old Z n0 h0)(Fc:Fld Z h0 a sg1 "coder" "B" (.int 0)) :
  MF l Z h0 ⟨sg1,"coder","()B"⟩ jdk_42_method_152_code 1 (some .byte) ⟨0,0,0,0⟩ #[(.ref a)] (qZ n0 h0):=by
 refine ai gJ (nG a) ?_
 intro p e s m below meth c T0 X0 hx hby hml hret hlk hnm hown hZ e0
 have N0:=Fr.nil n0
 refine a1 X0 hx hZ hown (tw hw 18 rfl) Via.refl e0 (Sta.ext O0.2 SX_.2.1) 3 (hb hby oF) rfl ?_
 intro T151 X151 e151
 refine ax X151 hx 13 6 (hb hby oG) (by decide) (by decide) rfl (fun c152=>?_) (fun c152=>?_)
 ·skip
  exact absurd (dg c152) SX_.1
 ·skip
  refine ab X151 hx 7 (hb hby oH) rfl rfl rfl ?_
  refine ao X151 hx hZ hown (tw hw 30 rfl) Via.refl e151 Fc 10 (hb hby oI) rfl ?_
  intro T153 X153 e153
  refine ap X153 hx 14 (hb hby j6) (by decide) (by decide) ?_
  exact bo X153 hx hlk hret (by simp) (hb hby j7) (by decide) (by decide) e153 ⟨rfl,N0,rfl⟩
theorem oJ:dk fh 0 (.getstatic 38) 3:=by decide +kernel
theorem oK:dk fh 3 (.ifCond .eq 14) 3:=by decide +kernel
theorem oL:dk fh 6 (.aload_n 0) 1:=by decide +kernel
theorem oM:dk fh 7 (.getfield 15) 3:=by decide +kernel
theorem j8:dk fh 10 (.ifCond .ne 7) 3:=by decide +kernel
theorem q0:dk fh 13 (.iconst 1) 1:=by decide +kernel
theorem q6:dk fh 14 (.goto 4) 3:=by decide +kernel
theorem q7:dk fh 17 (.iconst 0) 1:=by decide +kernel
theorem j9:dk fh 18 (.ireturn) 1:=by decide +kernel
theorem gL:plainFor (⟨sg1,"isLatin1","()Z"⟩:MethodName)=true:=plainFor_of_name (by first|(simp [plainName,overriddenIn];done)|decide +kernel)
def q8 (n0:Nat)(h0:Heap)(v:Option Value)(h:Heap)(L:List Loc):Prop:=v=some (.int 1)∧Fr n0 L∧h=h0
theorem nH (a:Addr)(m:MethodId):entryFrame m #[(.ref a)] 1=mkF m 0 #[.val (.ref a)] []:=by first|(simp [entryFrame,mkF,argsToLocals,Value.category];done)|rfl
theorem q9 (l:Launch)(Z:State)(a0:Array Value)(hw:HW a0 Z)(a:Addr)(h0:Heap)(n0:Nat)(Z0:n0≤h0.size)(cst:Int32)(fm:Option Addr)(em:Addr)(SX_:SX Z cst fm em)(O0:Old Z n0 h0)(Fc:Fld Z h0 a sg1 "coder" "B" (.int 0)) :
  MF l Z h0 ⟨sg1,"isLatin1","()Z"⟩ jdk_42_method_154_code 1 (some .boolean) ⟨0,0,0,0⟩ #[(.ref a)] (q8 n0 h0):=by
 refine ai gL (nH a) ?_
 intro p e s m below meth c T0 X0 hx hby hml hret hlk hnm hown hZ e0
 have N0:=Fr.nil n0
 refine a1 X0 hx hZ hown (tw hw 18 rfl) Via.refl e0 (Sta.ext O0.2 SX_.2.1) 3 (hb hby oJ) rfl ?_
 intro T154 X154 e154
 refine ax X154 hx 17 6 (hb hby oK) (by decide) (by decide) rfl (fun c155=>?_) (fun c155=>?_)
 ·skip
  exact absurd (dg c155) SX_.1
 ·skip
  refine ab X154 hx 7 (hb hby oL) rfl rfl rfl ?_
  refine ao X154 hx hZ hown (tw hw 30 rfl) Via.refl e154 Fc 10 (hb hby oM) rfl ?_
  intro T156 X156 e156
  have ll158:((0:Int32):Int32).toInt=0:=by decide
  refine aI X156 hx 17 13 (hb hby j8) (by decide) (by decide) rfl (fun c157=>?_) (fun c157=>?_)
  ·skip
   exfalso;revert c157;decide
  ·skip
   refine ac X156 hx (1:Int32) 14 (hb hby q0) rfl (by decide) ?_
   refine ap X156 hx 18 (hb hby q6) (by decide) (by decide) ?_
   exact a4 X156 hx hlk hret (hb hby j9) (by decide) (by decide) e156 ⟨rfl,N0,rfl⟩
def q_ (n0:Nat)(h0:Heap)(v:Option Value)(h:Heap)(L:List Loc):Prop:=v=some (.int 1)∧Fr n0 L∧h=h0
theorem nI (a:Addr)(m:MethodId):entryFrame m #[(.ref a)] 1=mkF m 0 #[.val (.ref a)] []:=by first|(simp [entryFrame,mkF,argsToLocals,Value.category];done)|rfl
theorem ra (l:Launch)(Z:State)(a0:Array Value)(hw:HW a0 Z)(a:Addr)(h0:Heap)(n0:Nat)(Z0:n0≤h0.size)(cst:Int32)(fm:Option Addr)(em:Addr)(SX_:SX Z cst fm em)(O0:Old Z n0 h0)(Fc:Fld Z h0 a sg1 "coder" "B" (.int 1)) :
  MF l Z h0 ⟨sg1,"coder","()B"⟩ jdk_42_method_152_code 1 (some .byte) ⟨0,0,0,0⟩ #[(.ref a)] (q_ n0 h0):=by
 refine ai gJ (nI a) ?_
 intro p e s m below meth c T0 X0 hx hby hml hret hlk hnm hown hZ e0
 have N0:=Fr.nil n0
 refine a1 X0 hx hZ hown (tw hw 18 rfl) Via.refl e0 (Sta.ext O0.2 SX_.2.1) 3 (hb hby oF) rfl ?_
 intro T159 X159 e159
 refine ax X159 hx 13 6 (hb hby oG) (by decide) (by decide) rfl (fun c160=>?_) (fun c160=>?_)
 ·skip
  exact absurd (dg c160) SX_.1
 ·skip
  refine ab X159 hx 7 (hb hby oH) rfl rfl rfl ?_
  refine ao X159 hx hZ hown (tw hw 30 rfl) Via.refl e159 Fc 10 (hb hby oI) rfl ?_
  intro T161 X161 e161
  refine ap X161 hx 14 (hb hby j6) (by decide) (by decide) ?_
  exact bo X161 hx hlk hret (by simp) (hb hby j7) (by decide) (by decide) e161 ⟨rfl,N0,rfl⟩
def rb (n0:Nat)(h0:Heap)(v:Option Value)(h:Heap)(L:List Loc):Prop:=v=some (.int 0)∧Fr n0 L∧h=h0
theorem nJ (a:Addr)(m:MethodId):entryFrame m #[(.ref a)] 1=mkF m 0 #[.val (.ref a)] []:=by first|(simp [entryFrame,mkF,argsToLocals,Value.category];done)|rfl
theorem rc (l:Launch)(Z:State)(a0:Array Value)(hw:HW a0 Z)(a:Addr)(h0:Heap)(n0:Nat)(Z0:n0≤h0.size)(cst:Int32)(fm:Option Addr)(em:Addr)(SX_:SX Z cst fm em)(O0:Old Z n0 h0)(Fc:Fld Z h0 a sg1 "coder" "B" (.int 1)) :
  MF l Z h0 ⟨sg1,"isLatin1","()Z"⟩ jdk_42_method_154_code 1 (some .boolean) ⟨0,0,0,0⟩ #[(.ref a)] (rb n0 h0):=by
 refine ai gL (nJ a) ?_
 intro p e s m below meth c T0 X0 hx hby hml hret hlk hnm hown hZ e0
 have N0:=Fr.nil n0
 refine a1 X0 hx hZ hown (tw hw 18 rfl) Via.refl e0 (Sta.ext O0.2 SX_.2.1) 3 (hb hby oJ) rfl ?_
 intro T162 X162 e162
 refine ax X162 hx 17 6 (hb hby oK) (by decide) (by decide) rfl (fun c163=>?_) (fun c163=>?_)
 ·skip
  exact absurd (dg c163) SX_.1
 ·skip
  refine ab X162 hx 7 (hb hby oL) rfl rfl rfl ?_
  refine ao X162 hx hZ hown (tw hw 30 rfl) Via.refl e162 Fc 10 (hb hby oM) rfl ?_
  intro T164 X164 e164
  have ll166:((1:Int32):Int32).toInt=1:=by decide
  refine aI X164 hx 17 13 (hb hby j8) (by decide) (by decide) rfl (fun c165=>?_) (fun c165=>?_)
  ·skip
   refine ac X164 hx (0:Int32) 18 (hb hby q7) rfl (by decide) ?_
   exact a4 X164 hx hlk hret (hb hby j9) (by decide) (by decide) e164 ⟨rfl,N0,rfl⟩
  ·skip
   exfalso;revert c165;decide
theorem j_:dk gY 0 (.aload_n 0) 1:=by decide +kernel
theorem kf:dk gY 1 (.getfield 9) 3:=by decide +kernel
theorem kg:dk gY 4 (.arraylength) 1:=by decide +kernel
theorem kh:dk gY 5 (.aload_n 0) 1:=by decide +kernel
theorem ki:dk gY 6 (.invokevirtual 335) 3:=by decide +kernel
theorem kj:dk gY 9 (.ishr) 1:=by decide +kernel
theorem hI:dk gY 10 (.ireturn) 1:=by decide +kernel
theorem gM:plainFor (⟨sg1,"length","()I"⟩:MethodName)=true:=plainFor_of_name (by first|(simp [plainName,overriddenIn];done)|decide +kernel)
def IM (cs:List Int32)(n0:Nat)(h0:Heap)(v:Option Value)(h:Heap)(L:List Loc):Prop:=∃k:Int32,v=some (.int k)∧k.toInt=(cs.length:Int)∧Fr n0 L∧h=h0
theorem rd (a:Addr)(m:MethodId):entryFrame m #[(.ref a)] 1=mkF m 0 #[.val (.ref a)] []:=by first|(simp [entryFrame,mkF,argsToLocals,Value.category];done)|rfl
theorem cLn (l:Launch)(Z:State)(a0:Array Value)(hw:HW a0 Z)(a:Addr)(h0:Heap)(n0:Nat)(Z0:n0≤h0.size)(cst:Int32)(fm:Option Addr)(em:Addr)(SX_:SX Z cst fm em)(O0:Old Z n0 h0)(Lw B:Nat)(cs:List Int32)(S:a3 Z h0 Lw B a cs) :
  MF l Z h0 ⟨sg1,"length","()I"⟩ jdk_42_method_54_code 1 (some .int) ⟨1,0,0,14⟩ #[(.ref a)] (IM cs n0 h0):=by
 refine ai gM (rd a) ?_
 intro p e s m below meth c T0 X0 hx hby hml hret hlk hnm hown hZ e0
 have N0:=Fr.nil n0
 obtain⟨hcs,haB,vb,kb,z,vs,co,hvB,E,Fc,Fv,V,hE⟩:=S
 have hc1:=hcs.1
 have hcl:=hcs.2.1
 rcases hE with ⟨rfl,hz,hE⟩|⟨rfl,hz,hE⟩
 ·skip
  refine ab X0 hx 1 (hb hby j_) rfl rfl rfl ?_
  refine ao X0 hx hZ hown (tw hw 32 rfl) Via.refl e0 Fv 4 (hb hby kf) rfl ?_
  intro T167 X167 e167
  refine aH X167 hx hZ e167 V 5 (hb hby kg) rfl ?_
  refine ab X167 hx 6 (hb hby kh) rfl rfl rfl ?_
  refine ak X167 hx hZ (C:=sg1) hown (tw hw 61 rfl) (tw hw 62 rfl) (tw hw 64 rfl) (tw hw 64 rfl) (tw hw 63 rfl) (tw hw 7 rfl) (tw hw 65 rfl) (by decide) (gK l Z a0 hw a h0 n0 Z0 cst fm em SX_ O0 Fc) e167 (b:=a) E (argsL:=[]) (rest:=[(.int z)]) rfl rfl 1 9 rfl (by rw[hml];rfl) (lenOf a9 rfl) (Nat.le_refl _) (by decide) (by decide) (by decide) (by decide) (hb hby ki) ?_
  intro v168 T168 L168 X168 hQ168
  obtain⟨rfl,N168,q168⟩:=hQ168
  have N169:=Fr.app N0 N168
  show Go _ _ _ _ _ (mkF _ _ _ [(.int (0:Int32)),(.int z)])
  refine cS X168 hx 10 (hb hby kj) rfl ?_
  exact ay X168 hx hlk hret (hb hby hI) (by decide) (by decide) q168 ⟨_,rfl,j2 hz (by omega),N169,rfl⟩
 ·skip
  refine ab X0 hx 1 (hb hby j_) rfl rfl rfl ?_
  refine ao X0 hx hZ hown (tw hw 32 rfl) Via.refl e0 Fv 4 (hb hby kf) rfl ?_
  intro T170 X170 e170
  refine aH X170 hx hZ e170 V 5 (hb hby kg) rfl ?_
  refine ab X170 hx 6 (hb hby kh) rfl rfl rfl ?_
  refine ak X170 hx hZ (C:=sg1) hown (tw hw 61 rfl) (tw hw 62 rfl) (tw hw 64 rfl) (tw hw 64 rfl) (tw hw 63 rfl) (tw hw 7 rfl) (tw hw 65 rfl) (by decide) (ra l Z a0 hw a h0 n0 Z0 cst fm em SX_ O0 Fc) e170 (b:=a) E (argsL:=[]) (rest:=[(.int z)]) rfl rfl 1 9 rfl (by rw[hml];rfl) (lenOf a9 rfl) (Nat.le_refl _) (by decide) (by decide) (by decide) (by decide) (hb hby ki) ?_
  intro v171 T171 L171 X171 hQ171
  obtain⟨rfl,N171,q171⟩:=hQ171
  have N172:=Fr.app N0 N171
  show Go _ _ _ _ _ (mkF _ _ _ [(.int (1:Int32)),(.int z)])
  refine cS X171 hx 10 (hb hby kj) rfl ?_
  exact ay X171 hx hlk hret (hb hby hI) (by decide) (by decide) q171 ⟨_,rfl,cG hz (by omega),N172,rfl⟩
theorem IN:dk gZ 0 (.iload_n 0) 1:=by decide +kernel
theorem IP:dk gZ 1 (.ifCond .lt 8) 3:=by decide +kernel
theorem IQ:dk gZ 4 (.iload_n 0) 1:=by decide +kernel
theorem IR:dk gZ 5 (.iload_n 1) 1:=by decide +kernel
theorem IS:dk gZ 6 (.if_icmp .lt 10) 3:=by decide +kernel
theorem re:dk gZ 16 (.iload_n 0) 1:=by decide +kernel
theorem rg:dk gZ 17 (.ireturn) 1:=by decide +kernel
theorem kl:plainFor (⟨sg8,"checkIndex","(IILjava/util/function/BiFunction;)I"⟩:MethodName)=true:=plainFor_of_name (by first|(simp [plainName,overriddenIn];done)|decide +kernel)
def IT (i:Int32)(n0:Nat)(h0:Heap)(v:Option Value)(h:Heap)(L:List Loc):Prop:=v=some (.int i)∧Fr n0 L∧h=h0
theorem rh (i k:Int32)(fm:Option Addr)(m:MethodId):entryFrame m #[(.int i),(.int k),(bp fm)] 3=mkF m 0 #[.val (.int i),.val (.int k),.val (bp fm)] []:=by first|(simp [entryFrame,mkF,argsToLocals,Value.category];done)|(cases fm<;>rfl)
theorem cPI (l:Launch)(Z:State)(a0:Array Value)(hw:HW a0 Z)(i k:Int32)(fm:Option Addr)(h0:Heap)(n0:Nat)(Z0:n0≤h0.size)(b1:0≤i.toInt)(b2:i.toInt<k.toInt) :
  MF l Z h0 ⟨sg8,"checkIndex","(IILjava/util/function/BiFunction;)I"⟩ jdk_41_method_11_code 3 (some .int) ⟨0,0,0,0⟩ #[(.int i),(.int k),(bp fm)] (IT i n0 h0):=by
 refine ai kl (rh i k fm) ?_
 intro p e s m below meth c T0 X0 hx hby hml hret hlk hnm hown hZ e0
 have N0:=Fr.nil n0
 refine aa X0 hx 1 (hb hby IN) rfl rfl ?_
 refine aB X0 hx 9 4 (hb hby IP) (by decide) (by decide) rfl (fun c173=>?_) (fun c173=>?_)
 ·skip
  exfalso;omega
 ·skip
  refine aa X0 hx 5 (hb hby IQ) rfl rfl ?_
  refine aa X0 hx 6 (hb hby IR) rfl rfl ?_
  refine an X0 hx 16 9 (hb hby IS) (by decide) (by decide) rfl (fun c174=>?_) (fun c174=>?_)
  ·skip
   refine aa X0 hx 17 (hb hby re) rfl rfl ?_
   exact ay X0 hx hlk hret (hb hby rg) (by decide) (by decide) e0 ⟨rfl,N0,rfl⟩
  ·skip
   exfalso;omega
theorem IU:dk jH 0 (.iload_n 0) 1:=by decide +kernel
theorem IV:dk jH 1 (.iload_n 1) 1:=by decide +kernel
theorem IW:dk jH 2 (.getstatic 1053) 3:=by decide +kernel
theorem IX:dk jH 5 (.invokestatic 1059) 3:=by decide +kernel
theorem IY:dk jH 8 (.pop) 1:=by decide +kernel
theorem IZ:dk jH 9 (.return_) 1:=by decide +kernel
theorem km:plainFor (⟨sg1,"checkIndex","(II)V"⟩:MethodName)=true:=plainFor_of_name (by first|(simp [plainName,overriddenIn];done)|decide +kernel)
def I0 (n0:Nat)(h0:Heap)(v:Option Value)(h:Heap)(L:List Loc):Prop:=v=none∧Fr n0 L∧h=h0
theorem ri (i k:Int32)(m:MethodId):entryFrame m #[(.int i),(.int k)] 2=mkF m 0 #[.val (.int i),.val (.int k)] []:=by first|(simp [entryFrame,mkF,argsToLocals,Value.category];done)|rfl
theorem cCI (l:Launch)(Z:State)(a0:Array Value)(hw:HW a0 Z)(i k:Int32)(h0:Heap)(n0:Nat)(Z0:n0≤h0.size)(cst:Int32)(fm:Option Addr)(em:Addr)(SX_:SX Z cst fm em)(O0:Old Z n0 h0)(b1:0≤i.toInt)(b2:i.toInt<k.toInt) :
  MF l Z h0 ⟨sg1,"checkIndex","(II)V"⟩ jdk_42_method_155_code 2 none ⟨1,0,0,14⟩ #[(.int i),(.int k)] (I0 n0 h0):=by
 refine ai km (ri i k) ?_
 intro p e s m below meth c T0 X0 hx hby hml hret hlk hnm hown hZ e0
 have N0:=Fr.nil n0
 refine aa X0 hx 1 (hb hby IU) rfl rfl ?_
 refine aa X0 hx 2 (hb hby IV) rfl rfl ?_
 refine a1 X0 hx hZ hown (tw hw 157 rfl) Via.refl e0 (Sta.ext O0.2 SX_.2.2.1) 5 (hb hby IW) rfl ?_
 intro T175 X175 e175
 refine ag X175 hx hZ hown (tw hw 159 rfl) (tw hw 160 rfl) (tw hw 158 rfl) (tw hw 161 rfl) (by decide) (cPI l Z a0 hw i k fm h0 n0 Z0 b1 b2) e175 (argsL:=[(.int i),(.int k),(bp fm)]) (rest:=[]) rfl rfl 0 8 rfl (by rw[hml];rfl) (lenOf jT rfl) (Nat.le_refl _) (by decide) (by decide) (by decide) (by decide) (hb hby IX) ?_
 intro v176 T176 L176 X176 hQ176
 obtain⟨rfl,N176,q176⟩:=hQ176
 have N177:=Fr.app N0 N176
 show Go _ _ _ _ _ (mkF _ _ _ [(.int i)])
 refine eh X176 hx 9 (hb hby IY) rfl rfl ?_
 exact aY X176 hx hlk hret (hb hby IZ) (by decide) (by decide) q176 ⟨rfl,N177,rfl⟩
theorem I1:dk jN 0 (.iload_n 0) 1:=by decide +kernel
theorem I2:dk jN 1 (.aload_n 1) 1:=by decide +kernel
theorem I3:dk jN 2 (.invokestatic 48) 3:=by decide +kernel
theorem I4:dk jN 5 (.invokestatic 414) 3:=by decide +kernel
theorem I5:dk jN 8 (.return_) 1:=by decide +kernel
theorem kn:plainFor (⟨sg4,"checkIndex","(I[B)V"⟩:MethodName)=true:=plainFor_of_name (by first|(simp [plainName,overriddenIn];done)|decide +kernel)
def I6 (n0:Nat)(h0:Heap)(v:Option Value)(h:Heap)(L:List Loc):Prop:=v=none∧Fr n0 L∧h=h0
theorem rj (i:Int32)(vb:Addr)(m:MethodId):entryFrame m #[(.int i),(.ref vb)] 2=mkF m 0 #[.val (.int i),.val (.ref vb)] []:=by first|(simp [entryFrame,mkF,argsToLocals,Value.category];done)|rfl
theorem cUI (l:Launch)(Z:State)(a0:Array Value)(hw:HW a0 Z)(i:Int32)(vb:Addr)(h0:Heap)(n0:Nat)(Z0:n0≤h0.size)(cst:Int32)(fm:Option Addr)(em:Addr)(SX_:SX Z cst fm em)(O0:Old Z n0 h0)(kb:ClassId)(z:Int32)(vs:List Value)(V:Arv Z h0 vb kb .byte z vs (.int 0))(b1:0≤i.toInt)(b2:i.toInt<(z>>>((1:Int32)&&&31)).toInt) :
  MF l Z h0 ⟨sg4,"checkIndex","(I[B)V"⟩ jdk_52_method_91_code 2 none ⟨2,0,0,27⟩ #[(.int i),(.ref vb)] (I6 n0 h0):=by
 refine ai kn (rj i vb) ?_
 intro p e s m below meth c T0 X0 hx hby hml hret hlk hnm hown hZ e0
 have N0:=Fr.nil n0
 refine aa X0 hx 1 (hb hby I1) rfl rfl ?_
 refine ab X0 hx 2 (hb hby I2) rfl rfl rfl ?_
 refine ag X0 hx hZ hown (tw hw 316 rfl) (tw hw 317 rfl) (tw hw 21 rfl) (tw hw 318 rfl) (by decide) (cLe l Z a0 hw vb h0 n0 Z0 kb z vs V) e0 (argsL:=[(.ref vb)]) (rest:=[(.int i)]) rfl rfl 1 5 rfl (by rw[hml];rfl) (lenOf eu rfl) (Nat.le_refl _) (by decide) (by decide) (by decide) (by decide) (hb hby I3) ?_
 intro v178 T178 L178 X178 hQ178
 obtain⟨rfl,N178,q178⟩:=hQ178
 have N179:=Fr.app N0 N178
 show Go _ _ _ _ _ (mkF _ _ _ [(.int (z>>>((1:Int32)&&&31))),(.int i)])
 refine ag X178 hx hZ hown (tw hw 352 rfl) (tw hw 155 rfl) (tw hw 7 rfl) (tw hw 156 rfl) (by decide) (cCI l Z a0 hw i (z>>>((1:Int32)&&&31)) h0 n0 Z0 cst fm em SX_ O0 b1 b2) q178 (argsL:=[(.int i),(.int (z>>>((1:Int32)&&&31)))]) (rest:=[]) rfl rfl 0 8 rfl (by rw[hml];rfl) (lenOf eo rfl) (Nat.le_refl _) (by decide) (by decide) (by decide) (by decide) (hb hby I4) ?_
 intro v180 T180 L180 X180 hQ180
 obtain⟨rfl,N180,q180⟩:=hQ180
 have N181:=Fr.app N179 N180
 show Go _ _ _ _ _ (mkF _ _ _ [])
 exact aY X180 hx hlk hret (hb hby I5) (by decide) (by decide) q180 ⟨rfl,N181,rfl⟩
theorem I7:dk ed 0 (.iload_n 1) 1:=by decide +kernel
theorem I8:dk ed 1 (.aload_n 0) 1:=by decide +kernel
theorem I9:dk ed 2 (.arraylength) 1:=by decide +kernel
theorem I_:dk ed 3 (.invokestatic 9) 3:=by decide +kernel
theorem Ja:dk ed 6 (.aload_n 0) 1:=by decide +kernel
theorem Jb:dk ed 7 (.iload_n 1) 1:=by decide +kernel
theorem Jc:dk ed 8 (.baload) 1:=by decide +kernel
theorem Jd:dk ed 9 (.sipush 255) 3:=by decide +kernel
theorem rk:dk ed 12 (.iand) 1:=by decide +kernel
theorem rl:dk ed 13 (.i2c) 1:=by decide +kernel
theorem rp:dk ed 14 (.ireturn) 1:=by decide +kernel
theorem ko:plainFor (⟨sg7,"charAt","([BI)C"⟩:MethodName)=true:=plainFor_of_name (by first|(simp [plainName,overriddenIn];done)|decide +kernel)
def Je (cc:Int32)(n0:Nat)(h0:Heap)(v:Option Value)(h:Heap)(L:List Loc):Prop:=v=some (.int cc)∧Fr n0 L∧h=h0
theorem rq (vb:Addr)(j:Int32)(m:MethodId):entryFrame m #[(.ref vb),(.int j)] 2=mkF m 0 #[.val (.ref vb),.val (.int j)] []:=by first|(simp [entryFrame,mkF,argsToLocals,Value.category];done)|rfl
theorem cL1 (l:Launch)(Z:State)(a0:Array Value)(hw:HW a0 Z)(vb:Addr)(j:Int32)(h0:Heap)(n0:Nat)(Z0:n0≤h0.size)(cst:Int32)(fm:Option Addr)(em:Addr)(SX_:SX Z cst fm em)(O0:Old Z n0 h0)(kb:ClassId)(z cc:Int32)(vs:List Value)(V:Arv Z h0 vb kb .byte z vs (.int 0))(b1:0≤j.toInt)(b2:j.toInt<z.toInt)(hc:0≤cc.toInt∧cc.toInt≤255)(g0:vs.getD j.toNatClampNeg (.int 0) = .int (bd cc)) :
  MF l Z h0 ⟨sg7,"charAt","([BI)C"⟩ jdk_43_method_2_code 2 (some .char) ⟨2,0,0,27⟩ #[(.ref vb),(.int j)] (Je cc n0 h0):=by
 refine ai ko (rq vb j) ?_
 intro p e s m below meth c T0 X0 hx hby hml hret hlk hnm hown hZ e0
 have N0:=Fr.nil n0
 refine aa X0 hx 1 (hb hby I7) rfl rfl ?_
 refine ab X0 hx 2 (hb hby I8) rfl rfl rfl ?_
 refine aH X0 hx hZ e0 V 3 (hb hby I9) rfl ?_
 refine ag X0 hx hZ hown (tw hw 154 rfl) (tw hw 155 rfl) (tw hw 7 rfl) (tw hw 156 rfl) (by decide) (cCI l Z a0 hw j z h0 n0 Z0 cst fm em SX_ O0 b1 b2) e0 (argsL:=[(.int j),(.int z)]) (rest:=[]) rfl rfl 0 6 rfl (by rw[hml];rfl) (lenOf eo rfl) (Nat.le_refl _) (by decide) (by decide) (by decide) (by decide) (hb hby I_) ?_
 intro v182 T182 L182 X182 hQ182
 obtain⟨rfl,N182,q182⟩:=hQ182
 have N183:=Fr.app N0 N182
 show Go _ _ _ _ _ (mkF _ _ _ [])
 refine ab X182 hx 7 (hb hby Ja) rfl rfl rfl ?_
 refine aa X182 hx 8 (hb hby Jb) rfl rfl ?_
 refine aW X182 hx hZ q182 V (by omega) (by omega) g0 9 (hb hby Jc) rfl ?_
 refine aM X182 hx (255:Int32) 12 (hb hby Jd) rfl (by decide) ?_
 refine bs X182 hx 13 (hb hby rk) rfl ?_
 refine dQ X182 hx 14 (hb hby rl) rfl ?_
 exact bo X182 hx hlk hret (by simp) (hb hby rp) (by decide) (by decide) q182 ⟨congrArg (fun x=>some (Value.int x)) (fq hc.1 hc.2).1,N183,rfl⟩
theorem Jf:dk g7 0 (.iload_n 1) 1:=by decide +kernel
theorem Jg:dk g7 1 (.aload_n 0) 1:=by decide +kernel
theorem Jh:dk g7 2 (.invokestatic 67) 3:=by decide +kernel
theorem Ji:dk g7 5 (.aload_n 0) 1:=by decide +kernel
theorem Jj:dk g7 6 (.iload_n 1) 1:=by decide +kernel
theorem Jk:dk g7 7 (.invokestatic 71) 3:=by decide +kernel
theorem ru:dk g7 10 (.ireturn) 1:=by decide +kernel
theorem kr:plainFor (⟨sg4,"charAt","([BI)C"⟩:MethodName)=true:=plainFor_of_name (by first|(simp [plainName,overriddenIn];done)|decide +kernel)
def Jl (cc:Int32)(n0:Nat)(h0:Heap)(v:Option Value)(h:Heap)(L:List Loc):Prop:=v=some (.int cc)∧Fr n0 L∧h=h0
theorem rv (vb:Addr)(j:Int32)(m:MethodId):entryFrame m #[(.ref vb),(.int j)] 2=mkF m 0 #[.val (.ref vb),.val (.int j)] []:=by first|(simp [entryFrame,mkF,argsToLocals,Value.category];done)|rfl
theorem cU1 (l:Launch)(Z:State)(a0:Array Value)(hw:HW a0 Z)(vb:Addr)(j:Int32)(h0:Heap)(n0:Nat)(Z0:n0≤h0.size)(cst:Int32)(fm:Option Addr)(em:Addr)(SX_:SX Z cst fm em)(O0:Old Z n0 h0)(kb:ClassId)(z cc:Int32)(vs:List Value)(i nn:Nat)(V:Arv Z h0 vb kb .byte z vs (.int 0))(hz:z.toInt=((2*nn:Nat):Int))(hnn:nn≤12)(hi:i<nn)(hj:j.toInt=(i:Int))(hc:a6 cc)(g0:vs.getD (2*i) (.int 0) = .int (bF cc))(g1:vs.getD (2*i+1) (.int 0) = .int (bG cc)) :
  MF l Z h0 ⟨sg4,"charAt","([BI)C"⟩ jdk_52_method_83_code 2 (some .char) ⟨3,0,0,42⟩ #[(.ref vb),(.int j)] (Jl cc n0 h0):=by
 refine ai kr (rv vb j) ?_
 intro p e s m below meth c T0 X0 hx hby hml hret hlk hnm hown hZ e0
 have N0:=Fr.nil n0
 refine aa X0 hx 1 (hb hby Jf) rfl rfl ?_
 refine ab X0 hx 2 (hb hby Jg) rfl rfl rfl ?_
 have hs:=cG hz (by omega)
 refine ag X0 hx hZ hown (tw hw 349 rfl) (tw hw 350 rfl) (tw hw 21 rfl) (tw hw 351 rfl) (by decide) (cUI l Z a0 hw j vb h0 n0 Z0 cst fm em SX_ O0 kb z vs V (by omega) (by omega)) e0 (argsL:=[(.int j),(.ref vb)]) (rest:=[]) rfl rfl 0 5 rfl (by rw[hml];rfl) (lenOf j0 rfl) (Nat.le_refl _) (by decide) (by decide) (by decide) (by decide) (hb hby Jh) ?_
 intro v184 T184 L184 X184 hQ184
 obtain⟨rfl,N184,q184⟩:=hQ184
 have N185:=Fr.app N0 N184
 show Go _ _ _ _ _ (mkF _ _ _ [])
 refine ab X184 hx 6 (hb hby Ji) rfl rfl rfl ?_
 refine aa X184 hx 7 (hb hby Jj) rfl rfl ?_
 refine ag X184 hx hZ hown (tw hw 300 rfl) (tw hw 301 rfl) (tw hw 21 rfl) (tw hw 302 rfl) (by decide) (cGe l Z a0 hw vb j h0 n0 Z0 cst fm em SX_ O0 kb z cc vs i V hc hj (by omega) (by omega) g0 g1) q184 (argsL:=[(.ref vb),(.int j)]) (rest:=[]) rfl rfl 0 10 rfl (by rw[hml];rfl) (lenOf bh rfl) (Nat.le_refl _) (by decide) (by decide) (by decide) (by decide) (hb hby Jk) ?_
 intro v186 T186 L186 X186 hQ186
 obtain⟨rfl,N186,q186⟩:=hQ186
 have N187:=Fr.app N185 N186
 show Go _ _ _ _ _ (mkF _ _ _ [(.int cc)])
 exact bo X186 hx hlk hret (by simp) (hb hby ru) (by decide) (by decide) q186 ⟨congrArg (fun x=>some (Value.int x)) (bz hc),N187,rfl⟩
theorem oN:dk c8 0 (.aload_n 0) 1:=by decide +kernel
theorem oO:dk c8 1 (.invokevirtual 492) 3:=by decide +kernel
theorem oP:dk c8 4 (.ifCond .eq 12) 3:=by decide +kernel
theorem Jm:dk c8 7 (.aload_n 0) 1:=by decide +kernel
theorem Jn:dk c8 8 (.getfield 9) 3:=by decide +kernel
theorem rx:dk c8 11 (.iload_n 1) 1:=by decide +kernel
theorem ry:dk c8 12 (.invokestatic 495) 3:=by decide +kernel
theorem rz:dk c8 15 (.ireturn) 1:=by decide +kernel
theorem rA:dk c8 16 (.aload_n 0) 1:=by decide +kernel
theorem rB:dk c8 17 (.getfield 9) 3:=by decide +kernel
theorem rC:dk c8 20 (.iload_n 1) 1:=by decide +kernel
theorem rD:dk c8 21 (.invokestatic 498) 3:=by decide +kernel
theorem rE:dk c8 24 (.ireturn) 1:=by decide +kernel
theorem kt:plainFor (⟨sg1,"charAt","(I)C"⟩:MethodName)=true:=plainFor_of_name (by first|(simp [plainName,overriddenIn];done)|decide +kernel)
def Jo (cs:List Int32)(i n0:Nat)(h0:Heap)(v:Option Value)(h:Heap)(L:List Loc):Prop:=v=some (.int (cs.getD i 0))∧Fr n0 L∧h=h0
theorem rF (a:Addr)(j:Int32)(m:MethodId):entryFrame m #[(.ref a),(.int j)] 2=mkF m 0 #[.val (.ref a),.val (.int j)] []:=by first|(simp [entryFrame,mkF,argsToLocals,Value.category];done)|rfl
theorem cCh (l:Launch)(Z:State)(a0:Array Value)(hw:HW a0 Z)(a:Addr)(j:Int32)(h0:Heap)(n0:Nat)(Z0:n0≤h0.size)(cst:Int32)(fm:Option Addr)(em:Addr)(SX_:SX Z cst fm em)(O0:Old Z n0 h0)(Lw B:Nat)(cs:List Int32)(S:a3 Z h0 Lw B a cs)(i:Nat)(hj:j.toInt=(i:Int))(hi:i<cs.length) :
  MF l Z h0 ⟨sg1,"charAt","(I)C"⟩ jdk_42_method_56_code 2 (some .char) ⟨4,0,0,60⟩ #[(.ref a),(.int j)] (Jo cs i n0 h0):=by
 refine ai kt (rF a j) ?_
 intro p e s m below meth c T0 X0 hx hby hml hret hlk hnm hown hZ e0
 have N0:=Fr.nil n0
 obtain⟨hcs,haB,vb,kb,z,vs,co,hvB,E,Fc,Fv,V,hE⟩:=S
 have hc1:=hcs.1
 have hcl:=hcs.2.1
 rcases hE with ⟨rfl,hz,hE⟩|⟨rfl,hz,hE⟩
 ·skip
  refine ab X0 hx 1 (hb hby oN) rfl rfl rfl ?_
  refine ak X0 hx hZ (C:=sg1) hown (tw hw 106 rfl) (tw hw 107 rfl) (tw hw 109 rfl) (tw hw 109 rfl) (tw hw 108 rfl) (tw hw 7 rfl) (tw hw 110 rfl) (by decide) (q9 l Z a0 hw a h0 n0 Z0 cst fm em SX_ O0 Fc) e0 (b:=a) E (argsL:=[]) (rest:=[]) rfl rfl 0 4 rfl (by rw[hml];rfl) (lenOf b6 rfl) (Nat.le_refl _) (by decide) (by decide) (by decide) (by decide) (hb hby oO) ?_
  intro v188 T188 L188 X188 hQ188
  obtain⟨rfl,N188,q188⟩:=hQ188
  have N189:=Fr.app N0 N188
  show Go _ _ _ _ _ (mkF _ _ _ [(.int (1:Int32))])
  have ll191:((1:Int32):Int32).toInt=1:=by decide
  refine ax X188 hx 16 7 (hb hby oP) (by decide) (by decide) rfl (fun c190=>?_) (fun c190=>?_)
  ·skip
   exfalso;revert c190;decide
  ·skip
   refine ab X188 hx 8 (hb hby Jm) rfl rfl rfl ?_
   refine ao X188 hx hZ hown (tw hw 32 rfl) Via.refl q188 Fv 11 (hb hby Jn) rfl ?_
   intro T192 X192 e192
   refine aa X192 hx 12 (hb hby rx) rfl rfl ?_
   refine ag X192 hx hZ hown (tw hw 151 rfl) (tw hw 152 rfl) (tw hw 113 rfl) (tw hw 153 rfl) (by decide) (cL1 l Z a0 hw vb j h0 n0 Z0 cst fm em SX_ O0 kb z (cs.getD i 0) vs V (by omega) (by omega) ⟨(hcs.2.2 i hi).1,(hE i hi).1⟩ (cp hj (hE i hi).2)) e192 (argsL:=[(.ref vb),(.int j)]) (rest:=[]) rfl rfl 0 15 rfl (by rw[hml];rfl) (lenOf bh rfl) (Nat.le_refl _) (by decide) (by decide) (by decide) (by decide) (hb hby ry) ?_
   intro v193 T193 L193 X193 hQ193
   obtain⟨rfl,N193,q193⟩:=hQ193
   have N194:=Fr.app N189 N193
   show Go _ _ _ _ _ (mkF _ _ _ [(.int (cs.getD i 0))])
   exact bo X193 hx hlk hret (by simp) (hb hby rz) (by decide) (by decide) q193 ⟨congrArg (fun x=>some (Value.int x)) (bz (hcs.2.2 i hi)),N194,rfl⟩
 ·skip
  refine ab X0 hx 1 (hb hby oN) rfl rfl rfl ?_
  refine ak X0 hx hZ (C:=sg1) hown (tw hw 106 rfl) (tw hw 107 rfl) (tw hw 109 rfl) (tw hw 109 rfl) (tw hw 108 rfl) (tw hw 7 rfl) (tw hw 110 rfl) (by decide) (rc l Z a0 hw a h0 n0 Z0 cst fm em SX_ O0 Fc) e0 (b:=a) E (argsL:=[]) (rest:=[]) rfl rfl 0 4 rfl (by rw[hml];rfl) (lenOf b6 rfl) (Nat.le_refl _) (by decide) (by decide) (by decide) (by decide) (hb hby oO) ?_
  intro v195 T195 L195 X195 hQ195
  obtain⟨rfl,N195,q195⟩:=hQ195
  have N196:=Fr.app N0 N195
  show Go _ _ _ _ _ (mkF _ _ _ [(.int (0:Int32))])
  have ll198:((0:Int32):Int32).toInt=0:=by decide
  refine ax X195 hx 16 7 (hb hby oP) (by decide) (by decide) rfl (fun c197=>?_) (fun c197=>?_)
  ·skip
   refine ab X195 hx 17 (hb hby rA) rfl rfl rfl ?_
   refine ao X195 hx hZ hown (tw hw 32 rfl) Via.refl q195 Fv 20 (hb hby rB) rfl ?_
   intro T199 X199 e199
   refine aa X199 hx 21 (hb hby rC) rfl rfl ?_
   refine ag X199 hx hZ hown (tw hw 346 rfl) (tw hw 347 rfl) (tw hw 21 rfl) (tw hw 348 rfl) (by decide) (cU1 l Z a0 hw vb j h0 n0 Z0 cst fm em SX_ O0 kb z (cs.getD i 0) vs i cs.length V hz hcl hi hj (hcs.2.2 i hi) (hE i hi).1 (hE i hi).2) e199 (argsL:=[(.ref vb),(.int j)]) (rest:=[]) rfl rfl 0 24 rfl (by rw[hml];rfl) (lenOf bh rfl) (Nat.le_refl _) (by decide) (by decide) (by decide) (by decide) (hb hby rD) ?_
   intro v200 T200 L200 X200 hQ200
   obtain⟨rfl,N200,q200⟩:=hQ200
   have N201:=Fr.app N196 N200
   show Go _ _ _ _ _ (mkF _ _ _ [(.int (cs.getD i 0))])
   exact bo X200 hx hlk hret (by simp) (hb hby rE) (by decide) (by decide) q200 ⟨congrArg (fun x=>some (Value.int x)) (bz (hcs.2.2 i hi)),N201,rfl⟩
  ·skip
   exfalso;revert c197;decide
theorem Jp:dk g8 0 (.iload_n 0) 1:=by decide +kernel
theorem Jq:dk g8 1 (.iload_n 1) 1:=by decide +kernel
theorem Jr:dk g8 2 (.if_icmp .lt 7) 3:=by decide +kernel
theorem Js:dk g8 5 (.iload_n 0) 1:=by decide +kernel
theorem Jt:dk g8 6 (.goto 4) 3:=by decide +kernel
theorem Ju:dk g8 9 (.iload_n 1) 1:=by decide +kernel
theorem kw:dk g8 10 (.ireturn) 1:=by decide +kernel
theorem kx:plainFor (⟨"java/lang/Math","max","(II)I"⟩:MethodName)=true:=Jvm.Free.JP.mathPlain rfl (by decide)
def rG (x y:Int32)(n0:Nat)(h0:Heap)(v:Option Value)(h:Heap)(L:List Loc):Prop:=∃r:Int32,v=some (.int r)∧((r.toInt=x.toInt∧y.toInt≤x.toInt)∨(r.toInt=y.toInt∧x.toInt≤y.toInt))∧Fr n0 L∧h=h0
theorem nK (x y:Int32)(m:MethodId):entryFrame m #[(.int x),(.int y)] 2=mkF m 0 #[.val (.int x),.val (.int y)] []:=by first|(simp [entryFrame,mkF,argsToLocals,Value.category];done)|rfl
theorem Jv (l:Launch)(Z:State)(a0:Array Value)(hw:HW a0 Z)(x y:Int32)(h0:Heap)(n0:Nat)(Z0:n0≤h0.size)  :
  MF l Z h0 ⟨"java/lang/Math","max","(II)I"⟩ jdk_29_method_65_code 2 (some .int) ⟨0,0,0,0⟩ #[(.int x),(.int y)] (rG x y n0 h0):=by
 refine ai kx (nK x y) ?_
 intro p e s m below meth c T0 X0 hx hby hml hret hlk hnm hown hZ e0
 have N0:=Fr.nil n0
 refine aa X0 hx 1 (hb hby Jp) rfl rfl ?_
 refine aa X0 hx 2 (hb hby Jq) rfl rfl ?_
 refine an X0 hx 9 5 (hb hby Jr) (by decide) (by decide) rfl (fun c202=>?_) (fun c202=>?_)
 ·skip
  refine aa X0 hx 10 (hb hby Ju) rfl rfl ?_
  exact ay X0 hx hlk hret (hb hby kw) (by decide) (by decide) e0 ⟨_,rfl,by omega,N0,rfl⟩
 ·skip
  refine aa X0 hx 6 (hb hby Js) rfl rfl ?_
  refine ap X0 hx 10 (hb hby Jt) (by decide) (by decide) ?_
  exact ay X0 hx hlk hret (hb hby kw) (by decide) (by decide) e0 ⟨_,rfl,by omega,N0,rfl⟩
theorem Jw:dk g9 0 (.iload_n 0) 1:=by decide +kernel
theorem Jx:dk g9 1 (.iload_n 1) 1:=by decide +kernel
theorem Jy:dk g9 2 (.if_icmp .gt 7) 3:=by decide +kernel
theorem Jz:dk g9 5 (.iload_n 0) 1:=by decide +kernel
theorem JA:dk g9 6 (.goto 4) 3:=by decide +kernel
theorem JB:dk g9 9 (.iload_n 1) 1:=by decide +kernel
theorem ky:dk g9 10 (.ireturn) 1:=by decide +kernel
theorem kz:plainFor (⟨"java/lang/Math","min","(II)I"⟩:MethodName)=true:=Jvm.Free.JP.mathPlain rfl (by decide)
def rH (x y:Int32)(n0:Nat)(h0:Heap)(v:Option Value)(h:Heap)(L:List Loc):Prop:=∃r:Int32,v=some (.int r)∧((r.toInt=x.toInt∧x.toInt≤y.toInt)∨(r.toInt=y.toInt∧y.toInt≤x.toInt))∧Fr n0 L∧h=h0
theorem nL (x y:Int32)(m:MethodId):entryFrame m #[(.int x),(.int y)] 2=mkF m 0 #[.val (.int x),.val (.int y)] []:=by first|(simp [entryFrame,mkF,argsToLocals,Value.category];done)|rfl
theorem rI (l:Launch)(Z:State)(a0:Array Value)(hw:HW a0 Z)(x y:Int32)(h0:Heap)(n0:Nat)(Z0:n0≤h0.size)  :
  MF l Z h0 ⟨"java/lang/Math","min","(II)I"⟩ jdk_29_method_69_code 2 (some .int) ⟨0,0,0,0⟩ #[(.int x),(.int y)] (rH x y n0 h0):=by
 refine ai kz (nL x y) ?_
 intro p e s m below meth c T0 X0 hx hby hml hret hlk hnm hown hZ e0
 have N0:=Fr.nil n0
 refine aa X0 hx 1 (hb hby Jw) rfl rfl ?_
 refine aa X0 hx 2 (hb hby Jx) rfl rfl ?_
 refine cJ X0 hx 9 5 (hb hby Jy) (by decide) (by decide) rfl (fun c203=>?_) (fun c203=>?_)
 ·skip
  refine aa X0 hx 10 (hb hby JB) rfl rfl ?_
  exact ay X0 hx hlk hret (hb hby ky) (by decide) (by decide) e0 ⟨_,rfl,by omega,N0,rfl⟩
 ·skip
  refine aa X0 hx 6 (hb hby Jz) rfl rfl ?_
  refine ap X0 hx 10 (hb hby JA) (by decide) (by decide) ?_
  exact ay X0 hx hlk hret (hb hby ky) (by decide) (by decide) e0 ⟨_,rfl,by omega,N0,rfl⟩
theorem JC:dk gB 0 (.iload_n 0) 1:=by decide +kernel
theorem JD:dk gB 1 (.ifCond .lt 14) 3:=by decide +kernel
theorem JE:dk gB 4 (.iload_n 0) 1:=by decide +kernel
theorem JF:dk gB 5 (.sipush 255) 3:=by decide +kernel
theorem JG:dk gB 8 (.if_icmp .gt 7) 3:=by decide +kernel
theorem rJ:dk gB 11 (.iconst 1) 1:=by decide +kernel
theorem rK:dk gB 12 (.goto 4) 3:=by decide +kernel
theorem rL:dk gB 16 (.ireturn) 1:=by decide +kernel
theorem kA:plainFor (⟨sg7,"canEncode","(I)Z"⟩:MethodName)=true:=plainFor_of_name (by first|(simp [plainName,overriddenIn];done)|decide +kernel)
def JH (n0:Nat)(h0:Heap)(v:Option Value)(h:Heap)(L:List Loc):Prop:=v=some (.int 1)∧Fr n0 L∧h=h0
theorem rM  (m:MethodId):entryFrame m #[(.int 47)] 1=mkF m 0 #[.val (.int 47)] []:=by first|(simp [entryFrame,mkF,argsToLocals,Value.category];done)|rfl
theorem cCE (l:Launch)(Z:State)(a0:Array Value)(hw:HW a0 Z)  (h0:Heap)(n0:Nat)(Z0:n0≤h0.size)  :
  MF l Z h0 ⟨sg7,"canEncode","(I)Z"⟩ jdk_43_method_4_code 1 (some .boolean) ⟨0,0,0,0⟩ #[(.int 47)] (JH n0 h0):=by
 refine ai kA (rM ) ?_
 intro p e s m below meth c T0 X0 hx hby hml hret hlk hnm hown hZ e0
 have N0:=Fr.nil n0
 refine aa X0 hx 1 (hb hby JC) rfl rfl ?_
 have ll205:((47:Int32):Int32).toInt=47:=by decide
 refine aB X0 hx 15 4 (hb hby JD) (by decide) (by decide) rfl (fun c204=>?_) (fun c204=>?_)
 ·skip
  exfalso;revert c204;decide
 ·skip
  refine aa X0 hx 5 (hb hby JE) rfl rfl ?_
  refine aM X0 hx (255:Int32) 8 (hb hby JF) rfl (by decide) ?_
  have ll207:((255:Int32):Int32).toInt=255:=by decide
  have ll208:((47:Int32):Int32).toInt=47:=by decide
  refine cJ X0 hx 15 11 (hb hby JG) (by decide) (by decide) rfl (fun c206=>?_) (fun c206=>?_)
  ·skip
   exfalso;revert c206;decide
  ·skip
   refine ac X0 hx (1:Int32) 12 (hb hby rJ) rfl (by decide) ?_
   refine ap X0 hx 16 (hb hby rK) (by decide) (by decide) ?_
   exact a4 X0 hx hlk hret (hb hby rL) (by decide) (by decide) e0 ⟨rfl,N0,rfl⟩
def gN (cs:List Int32)(k0 n0:Nat)(h0:Heap)(v:Option Value)(h:Heap)(L:List Loc):Prop:=∃r:Int32,v=some (.int r)∧Idx cs k0 r∧Fr n0 L∧h=h0
theorem JI:dk ci 0 (.iload_n 1) 1:=by decide +kernel
theorem JJ:dk ci 1 (.i2b) 1:=by decide +kernel
theorem JK:dk ci 2 (.istore 4) 2:=by decide +kernel
theorem JL:dk ci 4 (.iload_n 2) 1:=by decide +kernel
theorem JM:dk ci 5 (.istore 5) 2:=by decide +kernel
theorem oQ:dk ci 7 (.iload 5) 2:=by decide +kernel
theorem oR:dk ci 9 (.iload_n 3) 1:=by decide +kernel
theorem kB:dk ci 10 (.if_icmp .ge 21) 3:=by decide +kernel
theorem rN:dk ci 13 (.aload_n 0) 1:=by decide +kernel
theorem rO:dk ci 14 (.iload 5) 2:=by decide +kernel
theorem rP:dk ci 16 (.baload) 1:=by decide +kernel
theorem rQ:dk ci 17 (.iload 4) 2:=by decide +kernel
theorem rR:dk ci 19 (.if_icmp .ne 6) 3:=by decide +kernel
theorem rS:dk ci 22 (.iload 5) 2:=by decide +kernel
theorem rT:dk ci 24 (.ireturn) 1:=by decide +kernel
theorem rU:dk ci 25 (.iinc 5 1) 3:=by decide +kernel
theorem rV:dk ci 28 (.goto (-21)) 3:=by decide +kernel
theorem rW:dk ci 31 (.iconst (-1)) 1:=by decide +kernel
theorem rX:dk ci 32 (.ireturn) 1:=by decide +kernel
theorem JN {p:Program}{l:Launch}{e:Env}{s:State}{m:MethodId}{args:Array Value}{below:List Frame}{meth:Method}{c:Code}{T0 Z:State}{a0:Array Value}{h0:Heap}{n0:Nat}{vb:Addr}{kb:ClassId}{z nl:Int32}{cs:List Int32}{vs:List Value}{k0:Nat}{cst:Int32}{fm:Option Addr}{em:Addr}{fr:Int32}(d:Nat)(i:Int32)(k:Nat)(locs:List Loc)(X0:Stand p l e ({ frames:=0,cells:=0,slots:=0,locals:=0 }:Room) s m args below meth c T0 locs 0 0)(hx:p.tables.exec=Jvm.exec)(hby:c.code=jdk_43_method_23_code)(hml:c.maxLocals=6)(hret:meth.sig.returnType=(some .int))(hlk:meth.locks=false)(hown:s.vm.findClass sg7=some m.cls)(hZ:Z.Warmed39 s.vm)(hw:HW a0 Z)(e0:T0.heap=h0)(Z0:n0≤h0.size)(N0:Fr n0 locs)(SX_:SX Z cst fm em)(O0:Old Z n0 h0)(V:Arv Z h0 vb kb .byte z vs (.int 0))(hcs:Cs cs)(hz:z.toInt=(cs.length:Int))(hE:L1v cs vs cs.length)(hn:nl.toInt=(cs.length:Int))(hi:i.toInt=(k:Int))(hd:k+d=cs.length)(hk:k0≤k)(he:∀j,k0≤j→j<k→(cs.getD j 0).toInt≠47) :
  Go p e below (dR s (gN cs k0 n0 h0) 0 0) T0 (mkF m 7 #[.val (.ref vb),.val (.int (47:Int32)),.val (.int fr),.val (.int nl),.val (.int (47:Int32)),.val (.int i)] []):=by
 have hcl:=hcs.2.1
 induction d generalizing i k T0 h0 locs with
 | zero =>
  refine ae X0 hx 9 (hb hby oQ) rfl rfl ?_
  refine aa X0 hx 10 (hb hby oR) rfl rfl ?_
  refine am X0 hx 31 13 (hb hby kB) (by decide) (by decide) rfl (fun c209=>?_) (fun c209=>?_)
  ·skip
   refine ac X0 hx (-1:Int32) 32 (hb hby rW) rfl (by decide) ?_
   exact ay X0 hx hlk hret (hb hby rX) (by decide) (by decide) e0 ⟨_,rfl,Or.inl ⟨ft,fun j h1 h2=>he j h1 (by omega)⟩,N0,rfl⟩
  ·skip
   exfalso;omega
 | succ d ih =>
  refine ae X0 hx 9 (hb hby oQ) rfl rfl ?_
  refine aa X0 hx 10 (hb hby oR) rfl rfl ?_
  refine am X0 hx 31 13 (hb hby kB) (by decide) (by decide) rfl (fun c210=>?_) (fun c210=>?_)
  ·skip
   exfalso;omega
  ·skip
   have hk1:=hE k (by omega)
   have hk2:=hcs.2.2 k (by omega)
   have hk3:=(fq hk2.1 hk1.1).2.1
   refine ab X0 hx 14 (hb hby rN) rfl rfl rfl ?_
   refine ae X0 hx 16 (hb hby rO) rfl rfl ?_
   refine aW X0 hx hZ e0 V (by omega) (by omega) (cp hi (hE k (by omega)).2) 17 (hb hby rP) rfl ?_
   refine ae X0 hx 19 (hb hby rQ) rfl rfl ?_
   have ll212:((47:Int32):Int32).toInt=47:=by decide
   refine av X0 hx 25 22 (hb hby rR) (by decide) (by decide) rfl (fun c211=>?_) (fun c211=>?_)
   ·skip
    refine a5 (w:=(1:Int32)) (l':=#[.val (.ref vb),.val (.int (47:Int32)),.val (.int fr),.val (.int nl),.val (.int (47:Int32)),.val (.int (i+(1:Int32)))]) X0 hx 28 (hb hby rU) rfl rfl (by decide) rfl ?_
    refine ap X0 hx 7 (hb hby rV) (by decide) (by decide) ?_
    exact @ih _ _ _ (k+1) _ X0 e0 Z0 N0 O0 V (aC hi (by omega)) (by omega) (by omega) (fun j h1 h2=>by
     rcases Nat.lt_succ_iff_lt_or_eq.mp h2 with q|q
     ·exact he j h1 q
     ·subst q;skip;omega)
   ·skip
    refine ae X0 hx 24 (hb hby rS) rfl rfl ?_
    exact ay X0 hx hlk hret (hb hby rT) (by decide) (by decide) e0 ⟨_,rfl,Or.inr ⟨k,hi,by omega,by omega,by skip;omega,he⟩,N0,rfl⟩
theorem kC:plainFor (⟨sg7,"indexOfChar","([BIII)I"⟩:MethodName)=true:=plainFor_of_name (by first|(simp [plainName,overriddenIn];done)|decide +kernel)
theorem rY (vb:Addr)(fr nl:Int32)(m:MethodId):entryFrame m #[(.ref vb),(.int 47),(.int fr),(.int nl)] 6=mkF m 0 #[.val (.ref vb),.val (.int 47),.val (.int fr),.val (.int nl),.unset,.unset] []:=by first|(simp [entryFrame,mkF,argsToLocals,Value.category];done)|rfl
theorem cIC (l:Launch)(Z:State)(a0:Array Value)(hw:HW a0 Z)(vb:Addr)(fr nl:Int32)(h0:Heap)(n0:Nat)(Z0:n0≤h0.size)(cst:Int32)(fm:Option Addr)(em:Addr)(SX_:SX Z cst fm em)(O0:Old Z n0 h0)(kb:ClassId)(z:Int32)(cs:List Int32)(vs:List Value)(k0:Nat)(V:Arv Z h0 vb kb .byte z vs (.int 0))(hcs:Cs cs)(hz:z.toInt=(cs.length:Int))(hE:L1v cs vs cs.length)(hn:nl.toInt=(cs.length:Int))(hf:fr.toInt=(k0:Int))(hk0:k0≤cs.length) :
  MF l Z h0 ⟨sg7,"indexOfChar","([BIII)I"⟩ jdk_43_method_23_code 6 (some .int) ⟨0,0,0,0⟩ #[(.ref vb),(.int 47),(.int fr),(.int nl)] (gN cs k0 n0 h0):=by
 refine ai kC (rY vb fr nl) ?_
 intro p e s m below meth c T0 X0 hx hby hml hret hlk hnm hown hZ e0
 have N0:=Fr.nil n0
 refine aa X0 hx 1 (hb hby JI) rfl rfl ?_
 refine eG X0 hx 2 (hb hby JJ) rfl ?_
 show Go _ _ _ _ _ (mkF _ _ _ [(.int (47:Int32))])
 refine ah (l':=#[.val (.ref vb),.val (.int (47:Int32)),.val (.int fr),.val (.int nl),.val (.int (47:Int32)),.unset]) X0 hx 4 (hb hby JK) rfl rfl ?_
 refine aa X0 hx 5 (hb hby JL) rfl rfl ?_
 refine ah (l':=#[.val (.ref vb),.val (.int (47:Int32)),.val (.int fr),.val (.int nl),.val (.int (47:Int32)),.val (.int fr)]) X0 hx 7 (hb hby JM) rfl rfl ?_
 exact JN (cs.length-k0) fr k0 _ X0 hx hby hml hret hlk hown hZ hw e0 Z0 N0 SX_ O0 V hcs hz hE hn hf (by omega) (Nat.le_refl _) (fun j h1 h2=>absurd h2 (Nat.not_lt.mpr h1))
theorem JO:dk bJ 0 (.iload_n 1) 1:=by decide +kernel
theorem JQ:dk bJ 1 (.invokestatic 88) 3:=by decide +kernel
theorem JR:dk bJ 4 (.ifCond .ne 5) 3:=by decide +kernel
theorem JS:dk bJ 9 (.iload_n 2) 1:=by decide +kernel
theorem rZ:dk bJ 10 (.iconst 0) 1:=by decide +kernel
theorem r_:dk bJ 11 (.invokestatic 92) 3:=by decide +kernel
theorem sa:dk bJ 14 (.istore_n 2) 1:=by decide +kernel
theorem se:dk bJ 15 (.iload_n 3) 1:=by decide +kernel
theorem sf:dk bJ 16 (.aload_n 0) 1:=by decide +kernel
theorem sg:dk bJ 17 (.arraylength) 1:=by decide +kernel
theorem sh:dk bJ 18 (.invokestatic 38) 3:=by decide +kernel
theorem si:dk bJ 21 (.istore_n 3) 1:=by decide +kernel
theorem sj:dk bJ 22 (.iload_n 2) 1:=by decide +kernel
theorem sk:dk bJ 23 (.iload_n 3) 1:=by decide +kernel
theorem sm:dk bJ 24 (.if_icmp .lt 5) 3:=by decide +kernel
theorem sn:dk bJ 27 (.iconst (-1)) 1:=by decide +kernel
theorem so:dk bJ 28 (.ireturn) 1:=by decide +kernel
theorem sq:dk bJ 29 (.aload_n 0) 1:=by decide +kernel
theorem ss:dk bJ 30 (.iload_n 1) 1:=by decide +kernel
theorem sv:dk bJ 31 (.iload_n 2) 1:=by decide +kernel
theorem sx:dk bJ 32 (.iload_n 3) 1:=by decide +kernel
theorem sy:dk bJ 33 (.invokestatic 95) 3:=by decide +kernel
theorem sz:dk bJ 36 (.ireturn) 1:=by decide +kernel
theorem kD:plainFor (⟨sg7,"indexOf","([BIII)I"⟩:MethodName)=true:=plainFor_of_name (by first|(simp [plainName,overriddenIn];done)|decide +kernel)
theorem sA (vb:Addr)(fr nl:Int32)(m:MethodId):entryFrame m #[(.ref vb),(.int 47),(.int fr),(.int nl)] 4=mkF m 0 #[.val (.ref vb),.val (.int 47),.val (.int fr),.val (.int nl)] []:=by first|(simp [entryFrame,mkF,argsToLocals,Value.category];done)|rfl
theorem cLI (l:Launch)(Z:State)(a0:Array Value)(hw:HW a0 Z)(vb:Addr)(fr nl:Int32)(h0:Heap)(n0:Nat)(Z0:n0≤h0.size)(cst:Int32)(fm:Option Addr)(em:Addr)(SX_:SX Z cst fm em)(O0:Old Z n0 h0)(kb:ClassId)(z:Int32)(cs:List Int32)(vs:List Value)(k0:Nat)(V:Arv Z h0 vb kb .byte z vs (.int 0))(hcs:Cs cs)(hz:z.toInt=(cs.length:Int))(hE:L1v cs vs cs.length)(hn:nl.toInt=(cs.length:Int))(hf:fr.toInt=(k0:Int))(hk0:k0≤cs.length) :
  MF l Z h0 ⟨sg7,"indexOf","([BIII)I"⟩ jdk_43_method_22_code 4 (some .int) ⟨1,0,0,24⟩ #[(.ref vb),(.int 47),(.int fr),(.int nl)] (gN cs k0 n0 h0):=by
 refine ai kD (sA vb fr nl) ?_
 intro p e s m below meth c T0 X0 hx hby hml hret hlk hnm hown hZ e0
 have N0:=Fr.nil n0
 refine aa X0 hx 1 (hb hby JO) rfl rfl ?_
 refine ag X0 hx hZ hown (tw hw 115 rfl) (tw hw 116 rfl) (tw hw 113 rfl) (tw hw 117 rfl) (by decide) (cCE l Z a0 hw h0 n0 Z0) e0 (argsL:=[(.int (47:Int32))]) (rest:=[]) rfl rfl 0 4 rfl (by rw[hml];rfl) (lenOf jS rfl) (Nat.le_refl _) (by decide) (by decide) (by decide) (by decide) (hb hby JQ) ?_
 intro v213 T213 L213 X213 hQ213
 obtain⟨rfl,N213,q213⟩:=hQ213
 have N214:=Fr.app N0 N213
 show Go _ _ _ _ _ (mkF _ _ _ [(.int (1:Int32))])
 have ll216:((1:Int32):Int32).toInt=1:=by decide
 refine aI X213 hx 9 7 (hb hby JR) (by decide) (by decide) rfl (fun c215=>?_) (fun c215=>?_)
 ·skip
  refine aa X213 hx 10 (hb hby JS) rfl rfl ?_
  refine ac X213 hx (0:Int32) 11 (hb hby rZ) rfl (by decide) ?_
  refine ag X213 hx hZ hown (tw hw 118 rfl) (tw hw 119 rfl) (tw hw 120 rfl) (tw hw 121 rfl) (by decide) (Jv l Z a0 hw fr 0 h0 n0 Z0) q213 (argsL:=[(.int fr),(.int (0:Int32))]) (rest:=[]) rfl rfl 0 14 rfl (by rw[hml];rfl) (lenOf aG rfl) (Nat.le_refl _) (by decide) (by decide) (by decide) (by decide) (hb hby r_) ?_
  intro v217 T217 L217 X217 hQ217
  obtain⟨f1,rfl,hmf1,N217,q217⟩:=hQ217
  have N218:=Fr.app N214 N217
  show Go _ _ _ _ _ (mkF _ _ _ [(.int f1)])
  have l0:(0:Int32).toInt=0:=by decide
  have hf1:f1.toInt=(k0:Int):=by omega
  refine aq (l':=#[.val (.ref vb),.val (.int (47:Int32)),.val (.int f1),.val (.int nl)]) X217 hx 15 (hb hby sa) rfl rfl ?_
  refine aa X217 hx 16 (hb hby se) rfl rfl ?_
  refine ab X217 hx 17 (hb hby sf) rfl rfl rfl ?_
  refine aH X217 hx hZ q217 V 18 (hb hby sg) rfl ?_
  refine ag X217 hx hZ hown (tw hw 122 rfl) (tw hw 123 rfl) (tw hw 120 rfl) (tw hw 124 rfl) (by decide) (rI l Z a0 hw nl z h0 n0 Z0) q217 (argsL:=[(.int nl),(.int z)]) (rest:=[]) rfl rfl 0 21 rfl (by rw[hml];rfl) (lenOf aG rfl) (Nat.le_refl _) (by decide) (by decide) (by decide) (by decide) (hb hby sh) ?_
  intro v219 T219 L219 X219 hQ219
  obtain⟨n1,rfl,hmn1,N219,q219⟩:=hQ219
  have N220:=Fr.app N218 N219
  show Go _ _ _ _ _ (mkF _ _ _ [(.int n1)])
  have hn1:n1.toInt=(cs.length:Int):=by omega
  refine aq (l':=#[.val (.ref vb),.val (.int (47:Int32)),.val (.int f1),.val (.int n1)]) X219 hx 22 (hb hby si) rfl rfl ?_
  refine aa X219 hx 23 (hb hby sj) rfl rfl ?_
  refine aa X219 hx 24 (hb hby sk) rfl rfl ?_
  refine an X219 hx 29 27 (hb hby sm) (by decide) (by decide) rfl (fun c221=>?_) (fun c221=>?_)
  ·skip
   refine ab X219 hx 30 (hb hby sq) rfl rfl rfl ?_
   refine aa X219 hx 31 (hb hby ss) rfl rfl ?_
   refine aa X219 hx 32 (hb hby sv) rfl rfl ?_
   refine aa X219 hx 33 (hb hby sx) rfl rfl ?_
   refine ag X219 hx hZ hown (tw hw 125 rfl) (tw hw 126 rfl) (tw hw 113 rfl) (tw hw 127 rfl) (by decide) (cIC l Z a0 hw vb f1 n1 h0 n0 Z0 cst fm em SX_ O0 kb z cs vs k0 V hcs hz hE hn1 hf1 hk0) q219 (argsL:=[(.ref vb),(.int (47:Int32)),(.int f1),(.int n1)]) (rest:=[]) rfl rfl 0 36 rfl (by rw[hml];rfl) (lenOf cC rfl) (Nat.le_refl _) (by decide) (by decide) (by decide) (by decide) (hb hby sy) ?_
   intro v222 T222 L222 X222 hQ222
   obtain⟨r,rfl,hr,N222,q222⟩:=hQ222
   have N223:=Fr.app N220 N222
   show Go _ _ _ _ _ (mkF _ _ _ [(.int r)])
   exact ay X222 hx hlk hret (hb hby sz) (by decide) (by decide) q222 ⟨r,rfl,hr,N223,rfl⟩
  ·skip
   refine ac X219 hx (-1:Int32) 28 (hb hby sn) rfl (by decide) ?_
   exact ay X219 hx hlk hret (hb hby so) (by decide) (by decide) q219 ⟨_,rfl,Or.inl ⟨ft,fun j h1 h2=>by omega⟩,N220,rfl⟩
 ·skip
  exfalso;revert c215;decide
theorem JT:dk cO 0 (.iload_n 2) 1:=by decide +kernel
theorem JU:dk cO 1 (.istore 4) 2:=by decide +kernel
theorem oS:dk cO 3 (.iload 4) 2:=by decide +kernel
theorem oT:dk cO 5 (.iload_n 3) 1:=by decide +kernel
theorem oU:dk cO 6 (.if_icmp .ge 22) 3:=by decide +kernel
theorem JV:dk cO 9 (.aload_n 0) 1:=by decide +kernel
theorem sB:dk cO 10 (.iload 4) 2:=by decide +kernel
theorem sC:dk cO 12 (.invokestatic 71) 3:=by decide +kernel
theorem sD:dk cO 15 (.iload_n 1) 1:=by decide +kernel
theorem sE:dk cO 16 (.if_icmp .ne 6) 3:=by decide +kernel
theorem sF:dk cO 19 (.iload 4) 2:=by decide +kernel
theorem sG:dk cO 21 (.ireturn) 1:=by decide +kernel
theorem sH:dk cO 22 (.iinc 4 1) 3:=by decide +kernel
theorem sI:dk cO 25 (.goto (-22)) 3:=by decide +kernel
theorem sJ:dk cO 28 (.iconst (-1)) 1:=by decide +kernel
theorem sK:dk cO 29 (.ireturn) 1:=by decide +kernel
theorem JW {p:Program}{l:Launch}{e:Env}{s:State}{m:MethodId}{args:Array Value}{below:List Frame}{meth:Method}{c:Code}{T0 Z:State}{a0:Array Value}{h0:Heap}{n0:Nat}{vb:Addr}{kb:ClassId}{z nl:Int32}{cs:List Int32}{vs:List Value}{k0:Nat}{cst:Int32}{fm:Option Addr}{em:Addr}{fr:Int32}(d:Nat)(i:Int32)(k:Nat)(locs:List Loc)(X0:Stand p l e ({ frames:=1,cells:=0,slots:=0,locals:=20 }:Room) s m args below meth c T0 locs 0 0)(hx:p.tables.exec=Jvm.exec)(hby:c.code=jdk_52_method_48_code)(hml:c.maxLocals=5)(hret:meth.sig.returnType=(some .int))(hlk:meth.locks=false)(hown:s.vm.findClass sg4=some m.cls)(hZ:Z.Warmed39 s.vm)(hw:HW a0 Z)(e0:T0.heap=h0)(Z0:n0≤h0.size)(N0:Fr n0 locs)(SX_:SX Z cst fm em)(O0:Old Z n0 h0)(V:Arv Z h0 vb kb .byte z vs (.int 0))(hcs:Cs cs)(hz:z.toInt=((2*cs.length:Nat):Int))(hE:dS cs vs cs.length)(hn:nl.toInt=(cs.length:Int))(hi:i.toInt=(k:Int))(hd:k+d=cs.length)(hk:k0≤k)(he:∀j,k0≤j→j<k→(cs.getD j 0).toInt≠47) :
  Go p e below (dR s (gN cs k0 n0 h0) 0 0) T0 (mkF m 3 #[.val (.ref vb),.val (.int (47:Int32)),.val (.int fr),.val (.int nl),.val (.int i)] []):=by
 have hcl:=hcs.2.1
 induction d generalizing i k T0 h0 locs with
 | zero =>
  refine ae X0 hx 5 (hb hby oS) rfl rfl ?_
  refine aa X0 hx 6 (hb hby oT) rfl rfl ?_
  refine am X0 hx 28 9 (hb hby oU) (by decide) (by decide) rfl (fun c224=>?_) (fun c224=>?_)
  ·skip
   refine ac X0 hx (-1:Int32) 29 (hb hby sJ) rfl (by decide) ?_
   exact ay X0 hx hlk hret (hb hby sK) (by decide) (by decide) e0 ⟨_,rfl,Or.inl ⟨ft,fun j h1 h2=>he j h1 (by omega)⟩,N0,rfl⟩
  ·skip
   exfalso;omega
 | succ d ih =>
  refine ae X0 hx 5 (hb hby oS) rfl rfl ?_
  refine aa X0 hx 6 (hb hby oT) rfl rfl ?_
  refine am X0 hx 28 9 (hb hby oU) (by decide) (by decide) rfl (fun c225=>?_) (fun c225=>?_)
  ·skip
   exfalso;omega
  ·skip
   refine ab X0 hx 10 (hb hby JV) rfl rfl rfl ?_
   refine ae X0 hx 12 (hb hby sB) rfl rfl ?_
   refine ag X0 hx hZ hown (tw hw 300 rfl) (tw hw 301 rfl) (tw hw 21 rfl) (tw hw 302 rfl) (by decide) (cGe l Z a0 hw vb i h0 n0 Z0 cst fm em SX_ O0 kb z (cs.getD k 0) vs k V (hcs.2.2 k (by omega)) hi (by omega) (by omega) (hE k (by omega)).1 (hE k (by omega)).2) e0 (argsL:=[(.ref vb),(.int i)]) (rest:=[]) rfl rfl 0 15 rfl (by rw[hml];rfl) (lenOf bh rfl) (Nat.le_refl _) (by decide) (by decide) (by decide) (by decide) (hb hby sC) ?_
   intro v226 T226 L226 X226 hQ226
   obtain⟨rfl,N226,q226⟩:=hQ226
   have N227:=Fr.app N0 N226
   show Go _ _ _ _ _ (mkF _ _ _ [(.int (cs.getD k 0))])
   refine aa X226 hx 16 (hb hby sD) rfl rfl ?_
   have ll229:((47:Int32):Int32).toInt=47:=by decide
   refine av X226 hx 22 19 (hb hby sE) (by decide) (by decide) rfl (fun c228=>?_) (fun c228=>?_)
   ·skip
    refine a5 (w:=(1:Int32)) (l':=#[.val (.ref vb),.val (.int (47:Int32)),.val (.int fr),.val (.int nl),.val (.int (i+(1:Int32)))]) X226 hx 25 (hb hby sH) rfl rfl (by decide) rfl ?_
    refine ap X226 hx 3 (hb hby sI) (by decide) (by decide) ?_
    exact @ih _ _ _ (k+1) _ X226 q226 Z0 N227 O0 V (aC hi (by omega)) (by omega) (by omega) (fun j h1 h2=>by
     rcases Nat.lt_succ_iff_lt_or_eq.mp h2 with q|q
     ·exact he j h1 q
     ·subst q;skip;omega)
   ·skip
    refine ae X226 hx 21 (hb hby sF) rfl rfl ?_
    exact ay X226 hx hlk hret (hb hby sG) (by decide) (by decide) q226 ⟨_,rfl,Or.inr ⟨k,hi,by omega,by omega,by skip;omega,he⟩,N227,rfl⟩
theorem kE:plainFor (⟨sg4,"indexOfCharUnsafe","([BIII)I"⟩:MethodName)=true:=plainFor_of_name (by first|(simp [plainName,overriddenIn];done)|decide +kernel)
theorem sL (vb:Addr)(fr nl:Int32)(m:MethodId):entryFrame m #[(.ref vb),(.int 47),(.int fr),(.int nl)] 5=mkF m 0 #[.val (.ref vb),.val (.int 47),.val (.int fr),.val (.int nl),.unset] []:=by first|(simp [entryFrame,mkF,argsToLocals,Value.category];done)|rfl
theorem cIU (l:Launch)(Z:State)(a0:Array Value)(hw:HW a0 Z)(vb:Addr)(fr nl:Int32)(h0:Heap)(n0:Nat)(Z0:n0≤h0.size)(cst:Int32)(fm:Option Addr)(em:Addr)(SX_:SX Z cst fm em)(O0:Old Z n0 h0)(kb:ClassId)(z:Int32)(cs:List Int32)(vs:List Value)(k0:Nat)(V:Arv Z h0 vb kb .byte z vs (.int 0))(hcs:Cs cs)(hz:z.toInt=((2*cs.length:Nat):Int))(hE:dS cs vs cs.length)(hn:nl.toInt=(cs.length:Int))(hf:fr.toInt=(k0:Int))(hk0:k0≤cs.length) :
  MF l Z h0 ⟨sg4,"indexOfCharUnsafe","([BIII)I"⟩ jdk_52_method_48_code 5 (some .int) ⟨1,0,0,20⟩ #[(.ref vb),(.int 47),(.int fr),(.int nl)] (gN cs k0 n0 h0):=by
 refine ai kE (sL vb fr nl) ?_
 intro p e s m below meth c T0 X0 hx hby hml hret hlk hnm hown hZ e0
 have N0:=Fr.nil n0
 refine aa X0 hx 1 (hb hby JT) rfl rfl ?_
 refine ah (l':=#[.val (.ref vb),.val (.int (47:Int32)),.val (.int fr),.val (.int nl),.val (.int fr)]) X0 hx 3 (hb hby JU) rfl rfl ?_
 exact JW (cs.length-k0) fr k0 _ X0 hx hby hml hret hlk hown hZ hw e0 Z0 N0 SX_ O0 V hcs hz hE hn hf (by omega) (Nat.le_refl _) (fun j h1 h2=>absurd h2 (Nat.not_lt.mpr h1))
theorem JX:dk eD 0 (.iload_n 0) 1:=by decide +kernel
theorem JY:dk eD 1 (.ifCond .lt 13) 3:=by decide +kernel
theorem JZ:dk eD 4 (.iload_n 0) 1:=by decide +kernel
theorem J0:dk eD 5 (.iload_n 1) 1:=by decide +kernel
theorem J1:dk eD 6 (.if_icmp .gt 8) 3:=by decide +kernel
theorem J2:dk eD 9 (.iload_n 1) 1:=by decide +kernel
theorem sM:dk eD 10 (.iload_n 2) 1:=by decide +kernel
theorem sN:dk eD 11 (.if_icmp .le 11) 3:=by decide +kernel
theorem sO:dk eD 22 (.iload_n 0) 1:=by decide +kernel
theorem sP:dk eD 23 (.ireturn) 1:=by decide +kernel
theorem kF:plainFor (⟨sg8,"checkFromToIndex","(IIILjava/util/function/BiFunction;)I"⟩:MethodName)=true:=plainFor_of_name (by first|(simp [plainName,overriddenIn];done)|decide +kernel)
def J3 (i:Int32)(n0:Nat)(h0:Heap)(v:Option Value)(h:Heap)(L:List Loc):Prop:=v=some (.int i)∧Fr n0 L∧h=h0
theorem sQ (i k nl:Int32)(fm:Option Addr)(m:MethodId):entryFrame m #[(.int i),(.int k),(.int nl),(bp fm)] 4=mkF m 0 #[.val (.int i),.val (.int k),.val (.int nl),.val (bp fm)] []:=by first|(simp [entryFrame,mkF,argsToLocals,Value.category];done)|(cases fm<;>rfl)
theorem cPF (l:Launch)(Z:State)(a0:Array Value)(hw:HW a0 Z)(i k nl:Int32)(fm:Option Addr)(h0:Heap)(n0:Nat)(Z0:n0≤h0.size)(b1:0≤i.toInt)(b2:i.toInt≤k.toInt)(b3:k.toInt≤nl.toInt) :
  MF l Z h0 ⟨sg8,"checkFromToIndex","(IIILjava/util/function/BiFunction;)I"⟩ jdk_41_method_12_code 4 (some .int) ⟨0,0,0,0⟩ #[(.int i),(.int k),(.int nl),(bp fm)] (J3 i n0 h0):=by
 refine ai kF (sQ i k nl fm) ?_
 intro p e s m below meth c T0 X0 hx hby hml hret hlk hnm hown hZ e0
 have N0:=Fr.nil n0
 refine aa X0 hx 1 (hb hby JX) rfl rfl ?_
 refine aB X0 hx 14 4 (hb hby JY) (by decide) (by decide) rfl (fun c230=>?_) (fun c230=>?_)
 ·skip
  exfalso;omega
 ·skip
  refine aa X0 hx 5 (hb hby JZ) rfl rfl ?_
  refine aa X0 hx 6 (hb hby J0) rfl rfl ?_
  refine cJ X0 hx 14 9 (hb hby J1) (by decide) (by decide) rfl (fun c231=>?_) (fun c231=>?_)
  ·skip
   exfalso;omega
  ·skip
   refine aa X0 hx 10 (hb hby J2) rfl rfl ?_
   refine aa X0 hx 11 (hb hby sM) rfl rfl ?_
   refine a7 X0 hx 22 14 (hb hby sN) (by decide) (by decide) rfl (fun c232=>?_) (fun c232=>?_)
   ·skip
    refine aa X0 hx 23 (hb hby sO) rfl rfl ?_
    exact ay X0 hx hlk hret (hb hby sP) (by decide) (by decide) e0 ⟨rfl,N0,rfl⟩
   ·skip
    exfalso;omega
theorem J4:dk g_ 0 (.iload_n 0) 1:=by decide +kernel
theorem J5:dk g_ 1 (.iload_n 1) 1:=by decide +kernel
theorem J6:dk g_ 2 (.iload_n 2) 1:=by decide +kernel
theorem J7:dk g_ 3 (.getstatic 1053) 3:=by decide +kernel
theorem J8:dk g_ 6 (.invokestatic 1062) 3:=by decide +kernel
theorem J9:dk g_ 9 (.pop) 1:=by decide +kernel
theorem sR:dk g_ 10 (.return_) 1:=by decide +kernel
theorem kG:plainFor (⟨sg1,"checkBoundsBeginEnd","(III)V"⟩:MethodName)=true:=plainFor_of_name (by first|(simp [plainName,overriddenIn];done)|decide +kernel)
def J_ (n0:Nat)(h0:Heap)(v:Option Value)(h:Heap)(L:List Loc):Prop:=v=none∧Fr n0 L∧h=h0
theorem sS (i k nl:Int32)(m:MethodId):entryFrame m #[(.int i),(.int k),(.int nl)] 3=mkF m 0 #[.val (.int i),.val (.int k),.val (.int nl)] []:=by first|(simp [entryFrame,mkF,argsToLocals,Value.category];done)|rfl
theorem cBE (l:Launch)(Z:State)(a0:Array Value)(hw:HW a0 Z)(i k nl:Int32)(h0:Heap)(n0:Nat)(Z0:n0≤h0.size)(cst:Int32)(fm:Option Addr)(em:Addr)(SX_:SX Z cst fm em)(O0:Old Z n0 h0)(b1:0≤i.toInt)(b2:i.toInt≤k.toInt)(b3:k.toInt≤nl.toInt) :
  MF l Z h0 ⟨sg1,"checkBoundsBeginEnd","(III)V"⟩ jdk_42_method_158_code 3 none ⟨1,0,0,16⟩ #[(.int i),(.int k),(.int nl)] (J_ n0 h0):=by
 refine ai kG (sS i k nl) ?_
 intro p e s m below meth c T0 X0 hx hby hml hret hlk hnm hown hZ e0
 have N0:=Fr.nil n0
 refine aa X0 hx 1 (hb hby J4) rfl rfl ?_
 refine aa X0 hx 2 (hb hby J5) rfl rfl ?_
 refine aa X0 hx 3 (hb hby J6) rfl rfl ?_
 refine a1 X0 hx hZ hown (tw hw 157 rfl) Via.refl e0 (Sta.ext O0.2 SX_.2.2.1) 6 (hb hby J7) rfl ?_
 intro T233 X233 e233
 refine ag X233 hx hZ hown (tw hw 174 rfl) (tw hw 175 rfl) (tw hw 158 rfl) (tw hw 176 rfl) (by decide) (cPF l Z a0 hw i k nl fm h0 n0 Z0 b1 b2 b3) e233 (argsL:=[(.int i),(.int k),(.int nl),(bp fm)]) (rest:=[]) rfl rfl 0 9 rfl (by rw[hml];rfl) (lenOf gD rfl) (Nat.le_refl _) (by decide) (by decide) (by decide) (by decide) (hb hby J8) ?_
 intro v234 T234 L234 X234 hQ234
 obtain⟨rfl,N234,q234⟩:=hQ234
 have N235:=Fr.app N0 N234
 show Go _ _ _ _ _ (mkF _ _ _ [(.int i)])
 refine eh X234 hx 10 (hb hby J9) rfl rfl ?_
 exact aY X234 hx hlk hret (hb hby sR) (by decide) (by decide) q234 ⟨rfl,N235,rfl⟩
theorem Ka:dk jI 0 (.iload_n 0) 1:=by decide +kernel
theorem Kb:dk jI 1 (.iload_n 1) 1:=by decide +kernel
theorem Kc:dk jI 2 (.aload_n 2) 1:=by decide +kernel
theorem Kd:dk jI 3 (.invokestatic 48) 3:=by decide +kernel
theorem Ke:dk jI 6 (.invokestatic 241) 3:=by decide +kernel
theorem Kg:dk jI 9 (.return_) 1:=by decide +kernel
theorem kH:plainFor (⟨sg4,"checkBoundsBeginEnd","(II[B)V"⟩:MethodName)=true:=plainFor_of_name (by first|(simp [plainName,overriddenIn];done)|decide +kernel)
def Kh (n0:Nat)(h0:Heap)(v:Option Value)(h:Heap)(L:List Loc):Prop:=v=none∧Fr n0 L∧h=h0
theorem sT (i k:Int32)(vb:Addr)(m:MethodId):entryFrame m #[(.int i),(.int k),(.ref vb)] 3=mkF m 0 #[.val (.int i),.val (.int k),.val (.ref vb)] []:=by first|(simp [entryFrame,mkF,argsToLocals,Value.category];done)|rfl
theorem cUB (l:Launch)(Z:State)(a0:Array Value)(hw:HW a0 Z)(i k:Int32)(vb:Addr)(h0:Heap)(n0:Nat)(Z0:n0≤h0.size)(cst:Int32)(fm:Option Addr)(em:Addr)(SX_:SX Z cst fm em)(O0:Old Z n0 h0)(kb:ClassId)(z:Int32)(vs:List Value)(V:Arv Z h0 vb kb .byte z vs (.int 0))(b1:0≤i.toInt)(b2:i.toInt≤k.toInt)(b3:k.toInt≤(z>>>((1:Int32)&&&31)).toInt) :
  MF l Z h0 ⟨sg4,"checkBoundsBeginEnd","(II[B)V"⟩ jdk_52_method_93_code 3 none ⟨2,0,0,30⟩ #[(.int i),(.int k),(.ref vb)] (Kh n0 h0):=by
 refine ai kH (sT i k vb) ?_
 intro p e s m below meth c T0 X0 hx hby hml hret hlk hnm hown hZ e0
 have N0:=Fr.nil n0
 refine aa X0 hx 1 (hb hby Ka) rfl rfl ?_
 refine aa X0 hx 2 (hb hby Kb) rfl rfl ?_
 refine ab X0 hx 3 (hb hby Kc) rfl rfl rfl ?_
 refine ag X0 hx hZ hown (tw hw 316 rfl) (tw hw 317 rfl) (tw hw 21 rfl) (tw hw 318 rfl) (by decide) (cLe l Z a0 hw vb h0 n0 Z0 kb z vs V) e0 (argsL:=[(.ref vb)]) (rest:=[(.int k),(.int i)]) rfl rfl 2 6 rfl (by rw[hml];rfl) (lenOf eu rfl) (Nat.le_refl _) (by decide) (by decide) (by decide) (by decide) (hb hby Kd) ?_
 intro v236 T236 L236 X236 hQ236
 obtain⟨rfl,N236,q236⟩:=hQ236
 have N237:=Fr.app N0 N236
 show Go _ _ _ _ _ (mkF _ _ _ [(.int (z>>>((1:Int32)&&&31))),(.int k),(.int i)])
 refine ag X236 hx hZ hown (tw hw 319 rfl) (tw hw 172 rfl) (tw hw 7 rfl) (tw hw 173 rfl) (by decide) (cBE l Z a0 hw i k (z>>>((1:Int32)&&&31)) h0 n0 Z0 cst fm em SX_ O0 b1 b2 b3) q236 (argsL:=[(.int i),(.int k),(.int (z>>>((1:Int32)&&&31)))]) (rest:=[]) rfl rfl 0 9 rfl (by rw[hml];rfl) (lenOf ep rfl) (Nat.le_refl _) (by decide) (by decide) (by decide) (by decide) (hb hby Ke) ?_
 intro v238 T238 L238 X238 hQ238
 obtain⟨rfl,N238,q238⟩:=hQ238
 have N239:=Fr.app N237 N238
 show Go _ _ _ _ _ (mkF _ _ _ [])
 exact aY X238 hx hlk hret (hb hby Kg) (by decide) (by decide) q238 ⟨rfl,N239,rfl⟩
theorem Ki:dk eE 0 (.iload_n 2) 1:=by decide +kernel
theorem Kj:dk eE 1 (.iload_n 3) 1:=by decide +kernel
theorem Kk:dk eE 2 (.aload_n 0) 1:=by decide +kernel
theorem Kl:dk eE 3 (.invokestatic 96) 3:=by decide +kernel
theorem Km:dk eE 6 (.aload_n 0) 1:=by decide +kernel
theorem Kn:dk eE 7 (.iload_n 1) 1:=by decide +kernel
theorem Ko:dk eE 8 (.iload_n 2) 1:=by decide +kernel
theorem Kp:dk eE 9 (.iload_n 3) 1:=by decide +kernel
theorem sU:dk eE 10 (.invokestatic 244) 3:=by decide +kernel
theorem sV:dk eE 13 (.ireturn) 1:=by decide +kernel
theorem kI:plainFor (⟨sg4,"indexOfChar","([BIII)I"⟩:MethodName)=true:=plainFor_of_name (by first|(simp [plainName,overriddenIn];done)|decide +kernel)
theorem sW (vb:Addr)(fr nl:Int32)(m:MethodId):entryFrame m #[(.ref vb),(.int 47),(.int fr),(.int nl)] 4=mkF m 0 #[.val (.ref vb),.val (.int 47),.val (.int fr),.val (.int nl)] []:=by first|(simp [entryFrame,mkF,argsToLocals,Value.category];done)|rfl
theorem cUX (l:Launch)(Z:State)(a0:Array Value)(hw:HW a0 Z)(vb:Addr)(fr nl:Int32)(h0:Heap)(n0:Nat)(Z0:n0≤h0.size)(cst:Int32)(fm:Option Addr)(em:Addr)(SX_:SX Z cst fm em)(O0:Old Z n0 h0)(kb:ClassId)(z:Int32)(cs:List Int32)(vs:List Value)(k0:Nat)(V:Arv Z h0 vb kb .byte z vs (.int 0))(hcs:Cs cs)(hz:z.toInt=((2*cs.length:Nat):Int))(hE:dS cs vs cs.length)(hn:nl.toInt=(cs.length:Int))(hf:fr.toInt=(k0:Int))(hk0:k0≤cs.length) :
  MF l Z h0 ⟨sg4,"indexOfChar","([BIII)I"⟩ jdk_52_method_47_code 4 (some .int) ⟨3,0,0,50⟩ #[(.ref vb),(.int 47),(.int fr),(.int nl)] (gN cs k0 n0 h0):=by
 refine ai kI (sW vb fr nl) ?_
 intro p e s m below meth c T0 X0 hx hby hml hret hlk hnm hown hZ e0
 have N0:=Fr.nil n0
 have hcl:=hcs.2.1
 have hs:=cG hz (by omega)
 refine aa X0 hx 1 (hb hby Ki) rfl rfl ?_
 refine aa X0 hx 2 (hb hby Kj) rfl rfl ?_
 refine ab X0 hx 3 (hb hby Kk) rfl rfl rfl ?_
 refine ag X0 hx hZ hown (tw hw 313 rfl) (tw hw 314 rfl) (tw hw 21 rfl) (tw hw 315 rfl) (by decide) (cUB l Z a0 hw fr nl vb h0 n0 Z0 cst fm em SX_ O0 kb z vs V (by omega) (by omega) (by omega)) e0 (argsL:=[(.int fr),(.int nl),(.ref vb)]) (rest:=[]) rfl rfl 0 6 rfl (by rw[hml];rfl) (lenOf gF rfl) (Nat.le_refl _) (by decide) (by decide) (by decide) (by decide) (hb hby Kl) ?_
 intro v240 T240 L240 X240 hQ240
 obtain⟨rfl,N240,q240⟩:=hQ240
 have N241:=Fr.app N0 N240
 show Go _ _ _ _ _ (mkF _ _ _ [])
 refine ab X240 hx 7 (hb hby Km) rfl rfl rfl ?_
 refine aa X240 hx 8 (hb hby Kn) rfl rfl ?_
 refine aa X240 hx 9 (hb hby Ko) rfl rfl ?_
 refine aa X240 hx 10 (hb hby Kp) rfl rfl ?_
 refine ag X240 hx hZ hown (tw hw 320 rfl) (tw hw 321 rfl) (tw hw 21 rfl) (tw hw 322 rfl) (by decide) (cIU l Z a0 hw vb fr nl h0 n0 Z0 cst fm em SX_ O0 kb z cs vs k0 V hcs hz hE hn hf hk0) q240 (argsL:=[(.ref vb),(.int (47:Int32)),(.int fr),(.int nl)]) (rest:=[]) rfl rfl 0 13 rfl (by rw[hml];rfl) (lenOf cC rfl) (Nat.le_refl _) (by decide) (by decide) (by decide) (by decide) (hb hby sU) ?_
 intro v242 T242 L242 X242 hQ242
 obtain⟨r,rfl,hr,N242,q242⟩:=hQ242
 have N243:=Fr.app N241 N242
 show Go _ _ _ _ _ (mkF _ _ _ [(.int r)])
 exact ay X242 hx hlk hret (hb hby sV) (by decide) (by decide) q242 ⟨r,rfl,hr,N243,rfl⟩
theorem Kq:dk bB 0 (.iload_n 2) 1:=by decide +kernel
theorem Kr:dk bB 1 (.iconst 0) 1:=by decide +kernel
theorem Ks:dk bB 2 (.invokestatic 224) 3:=by decide +kernel
theorem Ku:dk bB 5 (.istore_n 2) 1:=by decide +kernel
theorem Kv:dk bB 6 (.iload_n 3) 1:=by decide +kernel
theorem Kw:dk bB 7 (.aload_n 0) 1:=by decide +kernel
theorem Kx:dk bB 8 (.arraylength) 1:=by decide +kernel
theorem Ky:dk bB 9 (.iconst 1) 1:=by decide +kernel
theorem sX:dk bB 10 (.ishr) 1:=by decide +kernel
theorem sY:dk bB 11 (.invokestatic 183) 3:=by decide +kernel
theorem sZ:dk bB 14 (.istore_n 3) 1:=by decide +kernel
theorem s5:dk bB 15 (.iload_n 2) 1:=by decide +kernel
theorem s6:dk bB 16 (.iload_n 3) 1:=by decide +kernel
theorem s7:dk bB 17 (.if_icmp .lt 5) 3:=by decide +kernel
theorem s8:dk bB 20 (.iconst (-1)) 1:=by decide +kernel
theorem s9:dk bB 21 (.ireturn) 1:=by decide +kernel
theorem s_:dk bB 22 (.iload_n 1) 1:=by decide +kernel
theorem ta:dk bB 23 (.ldc 227) 2:=by decide +kernel
theorem tc:dk bB 25 (.if_icmp .ge 11) 3:=by decide +kernel
theorem td:dk bB 28 (.aload_n 0) 1:=by decide +kernel
theorem te:dk bB 29 (.iload_n 1) 1:=by decide +kernel
theorem tf:dk bB 30 (.iload_n 2) 1:=by decide +kernel
theorem tg:dk bB 31 (.iload_n 3) 1:=by decide +kernel
theorem th:dk bB 32 (.invokestatic 228) 3:=by decide +kernel
theorem ti:dk bB 35 (.ireturn) 1:=by decide +kernel
theorem kJ:plainFor (⟨sg4,"indexOf","([BIII)I"⟩:MethodName)=true:=plainFor_of_name (by first|(simp [plainName,overriddenIn];done)|decide +kernel)
theorem tj (vb:Addr)(fr nl:Int32)(m:MethodId):entryFrame m #[(.ref vb),(.int 47),(.int fr),(.int nl)] 4=mkF m 0 #[.val (.ref vb),.val (.int 47),.val (.int fr),.val (.int nl)] []:=by first|(simp [entryFrame,mkF,argsToLocals,Value.category];done)|rfl
theorem cUN (l:Launch)(Z:State)(a0:Array Value)(hw:HW a0 Z)(vb:Addr)(fr nl:Int32)(h0:Heap)(n0:Nat)(Z0:n0≤h0.size)(cst:Int32)(fm:Option Addr)(em:Addr)(SX_:SX Z cst fm em)(O0:Old Z n0 h0)(kb:ClassId)(z:Int32)(cs:List Int32)(vs:List Value)(k0:Nat)(V:Arv Z h0 vb kb .byte z vs (.int 0))(hcs:Cs cs)(hz:z.toInt=((2*cs.length:Nat):Int))(hE:dS cs vs cs.length)(hn:nl.toInt=(cs.length:Int))(hf:fr.toInt=(k0:Int))(hk0:k0≤cs.length) :
  MF l Z h0 ⟨sg4,"indexOf","([BIII)I"⟩ jdk_52_method_40_code 4 (some .int) ⟨4,0,0,70⟩ #[(.ref vb),(.int 47),(.int fr),(.int nl)] (gN cs k0 n0 h0):=by
 refine ai kJ (tj vb fr nl) ?_
 intro p e s m below meth c T0 X0 hx hby hml hret hlk hnm hown hZ e0
 have N0:=Fr.nil n0
 have hcl:=hcs.2.1
 have hs:=cG hz (by omega)
 refine aa X0 hx 1 (hb hby Kq) rfl rfl ?_
 refine ac X0 hx (0:Int32) 2 (hb hby Kr) rfl (by decide) ?_
 refine ag X0 hx hZ hown (tw hw 307 rfl) (tw hw 119 rfl) (tw hw 120 rfl) (tw hw 121 rfl) (by decide) (Jv l Z a0 hw fr 0 h0 n0 Z0) e0 (argsL:=[(.int fr),(.int (0:Int32))]) (rest:=[]) rfl rfl 0 5 rfl (by rw[hml];rfl) (lenOf aG rfl) (Nat.le_refl _) (by decide) (by decide) (by decide) (by decide) (hb hby Ks) ?_
 intro v244 T244 L244 X244 hQ244
 obtain⟨f1,rfl,hmf1,N244,q244⟩:=hQ244
 have N245:=Fr.app N0 N244
 show Go _ _ _ _ _ (mkF _ _ _ [(.int f1)])
 have l0:(0:Int32).toInt=0:=by decide
 have hf1:f1.toInt=(k0:Int):=by omega
 refine aq (l':=#[.val (.ref vb),.val (.int (47:Int32)),.val (.int f1),.val (.int nl)]) X244 hx 6 (hb hby Ku) rfl rfl ?_
 refine aa X244 hx 7 (hb hby Kv) rfl rfl ?_
 refine ab X244 hx 8 (hb hby Kw) rfl rfl rfl ?_
 refine aH X244 hx hZ q244 V 9 (hb hby Kx) rfl ?_
 refine ac X244 hx (1:Int32) 10 (hb hby Ky) rfl (by decide) ?_
 refine cS X244 hx 11 (hb hby sX) rfl ?_
 refine ag X244 hx hZ hown (tw hw 308 rfl) (tw hw 123 rfl) (tw hw 120 rfl) (tw hw 124 rfl) (by decide) (rI l Z a0 hw nl (z>>>((1:Int32)&&&31)) h0 n0 Z0) q244 (argsL:=[(.int nl),(.int (z>>>((1:Int32)&&&31)))]) (rest:=[]) rfl rfl 0 14 rfl (by rw[hml];rfl) (lenOf aG rfl) (Nat.le_refl _) (by decide) (by decide) (by decide) (by decide) (hb hby sY) ?_
 intro v246 T246 L246 X246 hQ246
 obtain⟨n1,rfl,hmn1,N246,q246⟩:=hQ246
 have N247:=Fr.app N245 N246
 show Go _ _ _ _ _ (mkF _ _ _ [(.int n1)])
 have hn1:n1.toInt=(cs.length:Int):=by omega
 refine aq (l':=#[.val (.ref vb),.val (.int (47:Int32)),.val (.int f1),.val (.int n1)]) X246 hx 15 (hb hby sZ) rfl rfl ?_
 refine aa X246 hx 16 (hb hby s5) rfl rfl ?_
 refine aa X246 hx 17 (hb hby s6) rfl rfl ?_
 refine an X246 hx 22 20 (hb hby s7) (by decide) (by decide) rfl (fun c248=>?_) (fun c248=>?_)
 ·skip
  refine aa X246 hx 23 (hb hby s_) rfl rfl ?_
  refine jR X246 hx 25 hZ hown (tw hw 309 rfl) (hb hby ta) rfl ?_
  have ll250:((65536:Int32):Int32).toInt=65536:=by decide
  have ll251:((47:Int32):Int32).toInt=47:=by decide
  refine am X246 hx 36 28 (hb hby tc) (by decide) (by decide) rfl (fun c249=>?_) (fun c249=>?_)
  ·skip
   exfalso;revert c249;decide
  ·skip
   refine ab X246 hx 29 (hb hby td) rfl rfl rfl ?_
   refine aa X246 hx 30 (hb hby te) rfl rfl ?_
   refine aa X246 hx 31 (hb hby tf) rfl rfl ?_
   refine aa X246 hx 32 (hb hby tg) rfl rfl ?_
   refine ag X246 hx hZ hown (tw hw 310 rfl) (tw hw 311 rfl) (tw hw 21 rfl) (tw hw 312 rfl) (by decide) (cUX l Z a0 hw vb f1 n1 h0 n0 Z0 cst fm em SX_ O0 kb z cs vs k0 V hcs hz hE hn1 hf1 hk0) q246 (argsL:=[(.ref vb),(.int (47:Int32)),(.int f1),(.int n1)]) (rest:=[]) rfl rfl 0 35 rfl (by rw[hml];rfl) (lenOf cC rfl) (Nat.le_refl _) (by decide) (by decide) (by decide) (by decide) (hb hby th) ?_
   intro v252 T252 L252 X252 hQ252
   obtain⟨r,rfl,hr,N252,q252⟩:=hQ252
   have N253:=Fr.app N247 N252
   show Go _ _ _ _ _ (mkF _ _ _ [(.int r)])
   exact ay X252 hx hlk hret (hb hby ti) (by decide) (by decide) q252 ⟨r,rfl,hr,N253,rfl⟩
 ·skip
  refine ac X246 hx (-1:Int32) 21 (hb hby s8) rfl (by decide) ?_
  exact ay X246 hx hlk hret (hb hby s9) (by decide) (by decide) q246 ⟨_,rfl,Or.inl ⟨ft,fun j h1 h2=>by omega⟩,N247,rfl⟩
theorem oV:dk cj 0 (.aload_n 0) 1:=by decide +kernel
theorem oW:dk cj 1 (.invokevirtual 492) 3:=by decide +kernel
theorem oX:dk cj 4 (.ifCond .eq 19) 3:=by decide +kernel
theorem Kz:dk cj 7 (.aload_n 0) 1:=by decide +kernel
theorem KA:dk cj 8 (.getfield 9) 3:=by decide +kernel
theorem tk:dk cj 11 (.iload_n 1) 1:=by decide +kernel
theorem tl:dk cj 12 (.iload_n 2) 1:=by decide +kernel
theorem tm:dk cj 13 (.aload_n 0) 1:=by decide +kernel
theorem tn:dk cj 14 (.invokevirtual 505) 3:=by decide +kernel
theorem tp:dk cj 17 (.invokestatic 637) 3:=by decide +kernel
theorem tq:dk cj 20 (.goto 16) 3:=by decide +kernel
theorem tr:dk cj 23 (.aload_n 0) 1:=by decide +kernel
theorem tu:dk cj 24 (.getfield 9) 3:=by decide +kernel
theorem tv:dk cj 27 (.iload_n 1) 1:=by decide +kernel
theorem tx:dk cj 28 (.iload_n 2) 1:=by decide +kernel
theorem tz:dk cj 29 (.aload_n 0) 1:=by decide +kernel
theorem tA:dk cj 30 (.invokevirtual 505) 3:=by decide +kernel
theorem tB:dk cj 33 (.invokestatic 640) 3:=by decide +kernel
theorem kK:dk cj 36 (.ireturn) 1:=by decide +kernel
theorem kL:plainFor (⟨sg1,"indexOf","(II)I"⟩:MethodName)=true:=plainFor_of_name (by first|(simp [plainName,overriddenIn];done)|decide +kernel)
theorem tC (a:Addr)(fr:Int32)(m:MethodId):entryFrame m #[(.ref a),(.int 47),(.int fr)] 3=mkF m 0 #[.val (.ref a),.val (.int 47),.val (.int fr)] []:=by first|(simp [entryFrame,mkF,argsToLocals,Value.category];done)|rfl
theorem cSI (l:Launch)(Z:State)(a0:Array Value)(hw:HW a0 Z)(a:Addr)(fr:Int32)(h0:Heap)(n0:Nat)(Z0:n0≤h0.size)(cst:Int32)(fm:Option Addr)(em:Addr)(SX_:SX Z cst fm em)(O0:Old Z n0 h0)(Lw B:Nat)(cs:List Int32)(S:a3 Z h0 Lw B a cs)(k0:Nat)(hf:fr.toInt=(k0:Int))(hk0:k0≤cs.length) :
  MF l Z h0 ⟨sg1,"indexOf","(II)I"⟩ jdk_42_method_80_code 3 (some .int) ⟨5,0,0,95⟩ #[(.ref a),(.int 47),(.int fr)] (gN cs k0 n0 h0):=by
 refine ai kL (tC a fr) ?_
 intro p e s m below meth c T0 X0 hx hby hml hret hlk hnm hown hZ e0
 have N0:=Fr.nil n0
 have S0:=S
 obtain⟨hcs,haB,vb,kb,z,vs,co,hvB,E,Fc,Fv,V,hE⟩:=S
 have hc1:=hcs.1
 have hcl:=hcs.2.1
 rcases hE with ⟨rfl,hz,hE⟩|⟨rfl,hz,hE⟩
 ·skip
  refine ab X0 hx 1 (hb hby oV) rfl rfl rfl ?_
  refine ak X0 hx hZ (C:=sg1) hown (tw hw 106 rfl) (tw hw 107 rfl) (tw hw 109 rfl) (tw hw 109 rfl) (tw hw 108 rfl) (tw hw 7 rfl) (tw hw 110 rfl) (by decide) (q9 l Z a0 hw a h0 n0 Z0 cst fm em SX_ O0 Fc) e0 (b:=a) E (argsL:=[]) (rest:=[]) rfl rfl 0 4 rfl (by rw[hml];rfl) (lenOf b6 rfl) (Nat.le_refl _) (by decide) (by decide) (by decide) (by decide) (hb hby oW) ?_
  intro v254 T254 L254 X254 hQ254
  obtain⟨rfl,N254,q254⟩:=hQ254
  have N255:=Fr.app N0 N254
  show Go _ _ _ _ _ (mkF _ _ _ [(.int (1:Int32))])
  have ll257:((1:Int32):Int32).toInt=1:=by decide
  refine ax X254 hx 23 7 (hb hby oX) (by decide) (by decide) rfl (fun c256=>?_) (fun c256=>?_)
  ·skip
   exfalso;revert c256;decide
  ·skip
   refine ab X254 hx 8 (hb hby Kz) rfl rfl rfl ?_
   refine ao X254 hx hZ hown (tw hw 32 rfl) Via.refl q254 Fv 11 (hb hby KA) rfl ?_
   intro T258 X258 e258
   refine aa X258 hx 12 (hb hby tk) rfl rfl ?_
   refine aa X258 hx 13 (hb hby tl) rfl rfl ?_
   refine ab X258 hx 14 (hb hby tm) rfl rfl rfl ?_
   refine ak X258 hx hZ (C:=sg1) hown (tw hw 56 rfl) (tw hw 57 rfl) (tw hw 59 rfl) (tw hw 59 rfl) (tw hw 58 rfl) (tw hw 7 rfl) (tw hw 60 rfl) (by decide) (cLn l Z a0 hw a h0 n0 Z0 cst fm em SX_ O0 Lw B cs S0) e258 (b:=a) E (argsL:=[]) (rest:=[(.int fr),(.int (47:Int32)),(.ref vb)]) rfl rfl 3 17 rfl (by rw[hml];rfl) (lenOf aF rfl) (Nat.le_refl _) (by decide) (by decide) (by decide) (by decide) (hb hby tn) ?_
   intro v259 T259 L259 X259 hQ259
   obtain⟨nl,rfl,hn,N259,q259⟩:=hQ259
   have N260:=Fr.app N255 N259
   show Go _ _ _ _ _ (mkF _ _ _ [(.int nl),(.int fr),(.int (47:Int32)),(.ref vb)])
   refine ag X259 hx hZ hown (tw hw 111 rfl) (tw hw 112 rfl) (tw hw 113 rfl) (tw hw 114 rfl) (by decide) (cLI l Z a0 hw vb fr nl h0 n0 Z0 cst fm em SX_ O0 kb z cs vs k0 V hcs hz hE hn hf hk0) q259 (argsL:=[(.ref vb),(.int (47:Int32)),(.int fr),(.int nl)]) (rest:=[]) rfl rfl 0 20 rfl (by rw[hml];rfl) (lenOf cC rfl) (Nat.le_refl _) (by decide) (by decide) (by decide) (by decide) (hb hby tp) ?_
   intro v261 T261 L261 X261 hQ261
   obtain⟨r,rfl,hr,N261,q261⟩:=hQ261
   have N262:=Fr.app N260 N261
   show Go _ _ _ _ _ (mkF _ _ _ [(.int r)])
   refine ap X261 hx 36 (hb hby tq) (by decide) (by decide) ?_
   exact ay X261 hx hlk hret (hb hby kK) (by decide) (by decide) q261 ⟨r,rfl,hr,N262,rfl⟩
 ·skip
  refine ab X0 hx 1 (hb hby oV) rfl rfl rfl ?_
  refine ak X0 hx hZ (C:=sg1) hown (tw hw 106 rfl) (tw hw 107 rfl) (tw hw 109 rfl) (tw hw 109 rfl) (tw hw 108 rfl) (tw hw 7 rfl) (tw hw 110 rfl) (by decide) (rc l Z a0 hw a h0 n0 Z0 cst fm em SX_ O0 Fc) e0 (b:=a) E (argsL:=[]) (rest:=[]) rfl rfl 0 4 rfl (by rw[hml];rfl) (lenOf b6 rfl) (Nat.le_refl _) (by decide) (by decide) (by decide) (by decide) (hb hby oW) ?_
  intro v263 T263 L263 X263 hQ263
  obtain⟨rfl,N263,q263⟩:=hQ263
  have N264:=Fr.app N0 N263
  show Go _ _ _ _ _ (mkF _ _ _ [(.int (0:Int32))])
  have ll266:((0:Int32):Int32).toInt=0:=by decide
  refine ax X263 hx 23 7 (hb hby oX) (by decide) (by decide) rfl (fun c265=>?_) (fun c265=>?_)
  ·skip
   refine ab X263 hx 24 (hb hby tr) rfl rfl rfl ?_
   refine ao X263 hx hZ hown (tw hw 32 rfl) Via.refl q263 Fv 27 (hb hby tu) rfl ?_
   intro T267 X267 e267
   refine aa X267 hx 28 (hb hby tv) rfl rfl ?_
   refine aa X267 hx 29 (hb hby tx) rfl rfl ?_
   refine ab X267 hx 30 (hb hby tz) rfl rfl rfl ?_
   refine ak X267 hx hZ (C:=sg1) hown (tw hw 56 rfl) (tw hw 57 rfl) (tw hw 59 rfl) (tw hw 59 rfl) (tw hw 58 rfl) (tw hw 7 rfl) (tw hw 60 rfl) (by decide) (cLn l Z a0 hw a h0 n0 Z0 cst fm em SX_ O0 Lw B cs S0) e267 (b:=a) E (argsL:=[]) (rest:=[(.int fr),(.int (47:Int32)),(.ref vb)]) rfl rfl 3 33 rfl (by rw[hml];rfl) (lenOf aF rfl) (Nat.le_refl _) (by decide) (by decide) (by decide) (by decide) (hb hby tA) ?_
   intro v268 T268 L268 X268 hQ268
   obtain⟨nl,rfl,hn,N268,q268⟩:=hQ268
   have N269:=Fr.app N264 N268
   show Go _ _ _ _ _ (mkF _ _ _ [(.int nl),(.int fr),(.int (47:Int32)),(.ref vb)])
   refine ag X268 hx hZ hown (tw hw 304 rfl) (tw hw 305 rfl) (tw hw 21 rfl) (tw hw 306 rfl) (by decide) (cUN l Z a0 hw vb fr nl h0 n0 Z0 cst fm em SX_ O0 kb z cs vs k0 V hcs hz hE hn hf hk0) q268 (argsL:=[(.ref vb),(.int (47:Int32)),(.int fr),(.int nl)]) (rest:=[]) rfl rfl 0 36 rfl (by rw[hml];rfl) (lenOf cC rfl) (Nat.le_refl _) (by decide) (by decide) (by decide) (by decide) (hb hby tB) ?_
   intro v270 T270 L270 X270 hQ270
   obtain⟨r,rfl,hr,N270,q270⟩:=hQ270
   have N271:=Fr.app N269 N270
   show Go _ _ _ _ _ (mkF _ _ _ [(.int r)])
   exact ay X270 hx hlk hret (hb hby kK) (by decide) (by decide) q270 ⟨r,rfl,hr,N271,rfl⟩
  ·skip
   exfalso;revert c265;decide
section OwnKit8
variable {p:Program}{l:Launch}{e:Env}{R:Room}{s:State}{m:MethodId}{args:Array Value}{below:List Frame}{meth:Method}{c:Code}{T:State}{locs:List Loc}{cells slots:Nat}{Z:State}{a0:Array Value}{h h':Heap}{Ev:State→Outcome→Prop}
theorem gO {b:Addr}{C cd:Cell}(e:h[b]? = some cd)(q:C.cls=cd.cls∧C.vm=cd.vm∧C.slots.size=cd.slots.size):Keep h (h.setIfInBounds b C) [b]:=by
 refine⟨by simp,fun x c hx r=>?_,fun x c hx=>?_⟩
 ·have ne:b≠x:=fun z=>r (by simp [z])
  rw[Array.getElem?_setIfInBounds_ne ne]
  exact hx
 ·by_cases ne:b=x
  ·subst ne
   cases e.symm.trans hx
   exact⟨C,by rw[Array.getElem?_setIfInBounds_self_of_lt (Array.getElem?_eq_some_iff.mp e).1],q⟩
  ·exact⟨c,by rw[Array.getElem?_setIfInBounds_ne ne];exact hx,rfl,rfl,rfl⟩
theorem hJ {k:Nat}{b:Addr}{n:Nat}(q:k≤b):Fr k (copyLocs b 0 n):=fun y hy=>by
 obtain⟨i,-,rfl⟩:=List.mem_map.mp hy
 exact q
theorem nM (X:Stand p l e R s m args below meth c T locs cells slots)(hx:p.tables.exec=Jvm.exec){pc:Nat}{Ls:Array Slot}{st:List Value}(hZ:Z.Warmed39 s.vm){own:String}{i:Nat}(hown:s.vm.findClass own=some m.cls)(w1:(Jvm.Cond.methodLink own i Jvm.Stand.acN).before a0 Z=true)(w2:(Jvm.Cond.native Jvm.Stand.acN).before a0 Z=true)(w3:(Jvm.Cond.static Jvm.Stand.acN).before a0 Z=true)(w4:(Jvm.Cond.initialized "java/lang/System").before a0 Z=true)(eT:T.heap=h){a b:Addr}{k k':ClassId}{z z':Int32}{vs vs' vs2:List Value}(A:Arv Z h a k .byte z vs (.int 0))(B:Arv Z h b k' .byte z' vs' (.int 0)){sp n:Int32}(P N:Nat)(hP:sp.toInt=(P:Int))(hN:n.toInt=(N:Int))(h2:z'.toInt=(N:Int))(h1:((P+N:Nat):Int)≤z.toInt)(hv:∀j,j<N→vs2.getD j (.int 0)=vs.getD (P+j) (.int 0))(W:Nat)(q:Nat)(hd:decode c.code pc = .ok (.invokestatic i,3))(hq:pc+3=q)(hsz:Ls.size=c.maxLocals)(hf:1≤R.frames)(hW:(st.map fun v=>v.category).sum≤W)(hl:W+(nativeFrameWords "java/lang/System" "arraycopy" 5+11)≤R.locals)
  (K:∀T' h',Stand p l e R s m args below meth c T' (locs++copyLocs b 0 N) cells slots→T'.heap=h'→Keep h h' [b]→Arv Z h' b k' .byte z' vs2 (.int 0)→Go p e below Ev T' (mkF m q Ls st)):Go p e below Ev T (mkF m pc Ls (.int n :: .int 0 :: .ref b :: .int sp :: .ref a::st)):=by
 subst hq
 have rs:=rng32 sp
 have rn:=rng32 n
 obtain rfl:sp=Int32.ofNat P:=Int32.toInt_inj.mp (by rw[Int32.toInt_ofNat_of_lt (by omega)];exact hP)
 obtain rfl:n=Int32.ofNat N:=Int32.toInt_inj.mp (by rw[Int32.toInt_ofNat_of_lt (by omega)];exact hN)
 obtain⟨cs,As,q1,S,q3,H,G⟩:=A
 obtain⟨cd,Ad,q1',S',q3',H',G'⟩:=B
 obtain⟨os,ks,hks,sc,hsk⟩:=State.isArrayOf_alike hZ.alike As.2.1
 obtain⟨od,kd,hkd,sd,hdk⟩:=State.isArrayOf_alike hZ.alike Ad.2.1
 have l0:(0:Int32).toInt=0:=by decide
 have h00:(0:Int32).toNatClampNeg=0:=by decide
 have lc:(Int32.ofNat N).toNatClampNeg=N:=bO hN
 have lp:(Int32.ofNat P).toNatClampNeg=P:=bO hP
 have zs:(cs.slots.size:Int)=z.toInt:=by rw[S];simp only[Int32.toNatClampNeg];omega
 have zd:(cd.slots.size:Int)=z'.toInt:=by rw[S'];simp only[Int32.toNatClampNeg];omega
 have n0':¬Int32.ofNat N<0:=fun q=>by have:=(bQ (Int32.ofNat N)).1.mp q;omega
 have p0':¬Int32.ofNat P<0:=fun q=>by have:=(bQ (Int32.ofNat P)).1.mp q;omega
 obtain⟨vm₁,hW₁,X',st'⟩:=X.arraycopyK hx hown (mvT hZ w1) (mvT hZ w2) (mvT hZ w3) (mvT hZ w4) (n:=Int32.ofNat N) (srcPos:=Int32.ofNat P) (destPos:=0) (by rw[eT];exact As.1) (by rw[eT];exact Ad.1) os od As.2.2 Ad.2.2 hks hkd hsk hdk (by decide) p0' (by decide) n0' (by rw[hP,hN];omega) (by rw[l0,hN];omega) (fun vm₁ hw i hi=>by
  have hi':P+i<cs.slots.size:=by rw[lc] at hi;omega
  obtain⟨x,ex⟩:=fit_I (G (P+i) hi') (by simp)
  have g:=G (P+i) hi'
  have ee:=H (P+i) hi'
  rw[ex] at ee g
  rw[lp,Array.getD_eq_getD_getElem?,ee]
  exact⟨g,trivial⟩) (g:=mkF m pc Ls (.int (Int32.ofNat N) :: .int 0 :: .ref b :: .int (Int32.ofNat P) :: .ref a::st)) rfl hsz rfl hd hf (by show 2*0+_+_≤_;omega)
 have cf:=Jvm.Free.SB.copied_facts cs cd (Int32.ofNat P) 0 (Int32.ofNat N)
 have at_:=Jvm.Free.Str.copied_at2 (cs:=cs) (cd:=cd) (o:=P) (p:=0) (n:=N) (by omega) (by decide) (by omega) (by omega)
 rw[lc,h00] at X'
 refine (K _ _ X' rfl ?_ ?_).on st'
 ·show Keep h (T.heap.setIfInBounds b _) [b]
  rw[eT]
  exact gO Ad.1 cf
 ·refine⟨copied cs cd (Int32.ofNat P) 0 (Int32.ofNat N),⟨?_,?_,?_⟩,cf.1.trans q1',cf.2.2.trans S',q3',fun j hj=>?_,fun j hj=>?_⟩
  ·show (T.heap.setIfInBounds b _)[b]? = _
   rw[eT,Array.getElem?_setIfInBounds_self_of_lt (Array.getElem?_eq_some_iff.mp Ad.1).1]
  ·obtain⟨o1,k1,hk1,c1,hk2⟩:=Ad.2.1
   exact⟨fun k h=>o1 k (by rw[←cf.2.1];exact h),k1,by rw[cf.1];exact hk1,c1,hk2⟩
  ·rw[cf.2.1];exact Ad.2.2
  ·rw[cf.2.2] at hj
   have:=at_ j
   rw[show (Int32.ofNat 0)=(0:Int32) from rfl] at this
   rw[this,if_pos ⟨Nat.zero_le _,by omega⟩,Nat.sub_zero,Array.getD_eq_getD_getElem?,H (P+j) (by omega),hv j (by omega)]
   rfl
  ·rw[cf.2.2] at hj
   rw[hv j (by omega)]
   exact G (P+j) (by omega)
end OwnKit8
def ew (vs:List Value)(p n:Nat):List Value:=(List.range n).map fun j=>vs.getD (p+j) (.int 0)
theorem dY (vs:List Value){p n j:Nat}(h:j<n):(ew vs p n).getD j (.int 0)=vs.getD (p+j) (.int 0):=by
 simp only[ew,List.getD_eq_getElem?_getD,List.getElem?_map,List.getElem?_range h,Option.map_some,Option.getD_some]
def aU (cs:List Int32)(b n:Nat):List Int32:=(cs.drop b).take n
theorem aK {cs:List Int32}{b n:Nat}(h:b+n≤cs.length):(aU cs b n).length=n:=by simp only[aU,List.length_take,List.length_drop];omega
theorem bq {cs:List Int32}{b n j:Nat}(h:j<n):(aU cs b n).getD j 0=cs.getD (b+j) 0:=by
 simp only[aU,List.getD_eq_getElem?_getD,List.getElem?_take_of_lt h,List.getElem?_drop]
theorem gP {cs:List Int32}{b n:Nat}(hc:Cs cs)(h:b+n≤cs.length)(h1:1≤n):Cs (aU cs b n):=by
 have l:=aK h
 refine⟨by omega,by have:=hc.2.1;omega,fun j hj=>?_⟩
 rw[bq (by omega)]
 exact hc.2.2 _ (by omega)
theorem aT {x y:Int32}{a b:Nat}(hx:x.toInt=(a:Int))(hy:y.toInt=(b:Int))(h:b≤a)(ha:a≤1000):(x-y).toInt=((a-b:Nat):Int):=by
 have i1:=c_isub x y
 have i2:=rng32 (x-y)
 omega
theorem bN {x y:Int32}{a b:Nat}(hx:x.toInt=(a:Int))(hy:y.toInt=(b:Int))(h:a+b≤1000):(x+y).toInt=((a+b:Nat):Int):=by
 have i1:=c_iadd x y
 have i2:=rng32 (x+y)
 omega
theorem KB:dk nk 0 (.iload_n 1) 1:=by decide +kernel
theorem KC:dk nk 1 (.iload_n 0) 1:=by decide +kernel
theorem KD:dk nk 2 (.if_icmp .ge 35) 3:=by decide +kernel
theorem tD:dk nk 37 (.return_) 1:=by decide +kernel
theorem kM:plainFor (⟨"java/util/Arrays","checkLength","(II)V"⟩:MethodName)=true:=plainFor_of_name (by first|(simp [plainName,overriddenIn];done)|decide +kernel)
def KE (n0:Nat)(h0:Heap)(v:Option Value)(h:Heap)(L:List Loc):Prop:=v=none∧Fr n0 L∧h=h0
theorem tE (x y:Int32)(m:MethodId):entryFrame m #[(.int x),(.int y)] 2=mkF m 0 #[.val (.int x),.val (.int y)] []:=by first|(simp [entryFrame,mkF,argsToLocals,Value.category];done)|rfl
theorem cKL (l:Launch)(Z:State)(a0:Array Value)(hw:HW a0 Z)(x y:Int32)(h0:Heap)(n0:Nat)(Z0:n0≤h0.size)(b1:x.toInt≤y.toInt) :
  MF l Z h0 ⟨"java/util/Arrays","checkLength","(II)V"⟩ jdk_65_method_131_code 2 none ⟨0,0,0,0⟩ #[(.int x),(.int y)] (KE n0 h0):=by
 refine ai kM (tE x y) ?_
 intro p e s m below meth c T0 X0 hx hby hml hret hlk hnm hown hZ e0
 have N0:=Fr.nil n0
 refine aa X0 hx 1 (hb hby KB) rfl rfl ?_
 refine aa X0 hx 2 (hb hby KC) rfl rfl ?_
 refine am X0 hx 37 5 (hb hby KD) (by decide) (by decide) rfl (fun c272=>?_) (fun c272=>?_)
 ·skip
  exact aY X0 hx hlk hret (hb hby tD) (by decide) (by decide) e0 ⟨rfl,N0,rfl⟩
 ·skip
  exfalso;omega
def KF (Z:State)(vs:List Value)(pp nn n0:Nat)(h0:Heap)(v:Option Value)(h:Heap)(L:List Loc):Prop:=∃(b:Addr)(kb:ClassId)(z:Int32),v=some (.ref b)∧Fr n0 L∧Keep h0 h []∧n0≤b∧h0.size≤b∧z.toInt=(nn:Int)∧Arv Z h b kb .byte z (ew vs pp nn) (.int 0)
theorem KG:dk bK 0 (.iload_n 1) 1:=by decide +kernel
theorem KH:dk bK 1 (.iload_n 2) 1:=by decide +kernel
theorem KI:dk bK 2 (.invokestatic 343) 3:=by decide +kernel
theorem KJ:dk bK 5 (.iload_n 2) 1:=by decide +kernel
theorem KK:dk bK 6 (.iload_n 1) 1:=by decide +kernel
theorem KL:dk bK 7 (.isub) 1:=by decide +kernel
theorem KM:dk bK 8 (.istore_n 3) 1:=by decide +kernel
theorem KN:dk bK 9 (.iload_n 3) 1:=by decide +kernel
theorem tF:dk bK 10 (.newarray .byte) 2:=by decide +kernel
theorem tG:dk bK 12 (.astore 4) 2:=by decide +kernel
theorem tH:dk bK 14 (.aload_n 0) 1:=by decide +kernel
theorem tI:dk bK 15 (.iload_n 1) 1:=by decide +kernel
theorem tJ:dk bK 16 (.aload 4) 2:=by decide +kernel
theorem tK:dk bK 18 (.iconst 0) 1:=by decide +kernel
theorem tL:dk bK 19 (.aload_n 0) 1:=by decide +kernel
theorem tM:dk bK 20 (.arraylength) 1:=by decide +kernel
theorem tN:dk bK 21 (.iload_n 1) 1:=by decide +kernel
theorem tO:dk bK 22 (.isub) 1:=by decide +kernel
theorem tP:dk bK 23 (.iload_n 3) 1:=by decide +kernel
theorem tQ:dk bK 24 (.invokestatic 304) 3:=by decide +kernel
theorem tR:dk bK 27 (.invokestatic 150) 3:=by decide +kernel
theorem tS:dk bK 30 (.aload 4) 2:=by decide +kernel
theorem tT:dk bK 32 (.areturn) 1:=by decide +kernel
theorem kN:plainFor (⟨"java/util/Arrays","copyOfRangeByte","([BII)[B"⟩:MethodName)=true:=plainFor_of_name (by first|(simp [plainName,overriddenIn];done)|decide +kernel)
theorem tU (vv:Addr)(x y:Int32)(m:MethodId):entryFrame m #[(.ref vv),(.int x),(.int y)] 5=mkF m 0 #[.val (.ref vv),.val (.int x),.val (.int y),.unset,.unset] []:=by first|(simp [entryFrame,mkF,argsToLocals,Value.category];done)|rfl
theorem cRB (l:Launch)(Z:State)(a0:Array Value)(hw:HW a0 Z)(vv:Addr)(x y:Int32)(h0:Heap)(n0:Nat)(Z0:n0≤h0.size)(kv:ClassId)(zv:Int32)(vs:List Value)(pp nn:Nat)(V:Arv Z h0 vv kv .byte zv vs (.int 0))(hx1:x.toInt=(pp:Int))(hy1:y.toInt=((pp+nn:Nat):Int))(hz:((pp+nn:Nat):Int)≤zv.toInt)(hzz:zv.toInt≤24) :
  MF l Z h0 ⟨"java/util/Arrays","copyOfRangeByte","([BII)[B"⟩ jdk_65_method_133_code 5 (some (.array .byte)) ⟨1,1,24,40⟩ #[(.ref vv),(.int x),(.int y)] (KF Z vs pp nn n0 h0):=by
 refine ai kN (tU vv x y) ?_
 intro p e s m below meth c T0 X0 hx hby hml hret hlk hnm hown hZ e0
 have N0:=Fr.nil n0
 refine aa X0 hx 1 (hb hby KG) rfl rfl ?_
 refine aa X0 hx 2 (hb hby KH) rfl rfl ?_
 refine ag X0 hx hZ hown (tw hw 188 rfl) (tw hw 189 rfl) (tw hw 183 rfl) (tw hw 190 rfl) (by decide) (cKL l Z a0 hw x y h0 n0 Z0 (by omega)) e0 (argsL:=[(.int x),(.int y)]) (rest:=[]) rfl rfl 0 5 rfl (by rw[hml];rfl) (lenOf eo rfl) (Nat.le_refl _) (by decide) (by decide) (by decide) (by decide) (hb hby KI) ?_
 intro v273 T273 L273 X273 hQ273
 obtain⟨rfl,N273,q273⟩:=hQ273
 have N274:=Fr.app N0 N273
 show Go _ _ _ _ _ (mkF _ _ _ [])
 refine aa X273 hx 6 (hb hby KJ) rfl rfl ?_
 refine aa X273 hx 7 (hb hby KK) rfl rfl ?_
 refine bm X273 hx 8 (hb hby KL) rfl ?_
 have ht:(y-x).toInt=(nn:Int):=by
  have:=aT hy1 hx1 (by omega) (by omega)
  omega
 generalize (y-x)=t at ht ⊢
 refine aq (l':=#[.val (.ref vv),.val (.int x),.val (.int y),.val (.int t),.unset]) X273 hx 9 (hb hby KM) rfl rfl ?_
 refine aa X273 hx 10 (hb hby KN) rfl rfl ?_
 refine aO X273 hx hZ (aty := .byte) (tw hw 23 rfl) q273 (by omega) (cap:=24) (by omega) (by decide) 12 (hb hby tF) rfl (by decide) (by decide) (ad := "[B") (by decide) ?_
 intro T275 h275 k275 a275 g275 X275 e275 E275 V275 A275
 have ne276:vv≠a275:=Nat.ne_of_lt (by rw[g275];exact V.lt)
 have ge277:n0≤a275:=by rw[g275];exact Z0
 have sz278:h0.size≤a275:=by rw[g275];exact (Keep.refl h0 []).1
 have F279:=V.ext E275
 have K280:=(Keep.refl h0 []).ext E275
 have Z281:n0≤h275.size:=Nat.le_trans Z0 E275.1
 have V275':Arv Z h275 a275 k275 .byte t [(.int (0:Int32)),(.int (0:Int32)),(.int (0:Int32)),(.int (0:Int32)),(.int (0:Int32)),(.int (0:Int32)),(.int (0:Int32)),(.int (0:Int32)),(.int (0:Int32)),(.int (0:Int32)),(.int (0:Int32)),(.int (0:Int32)),(.int (0:Int32)),(.int (0:Int32)),(.int (0:Int32)),(.int (0:Int32)),(.int (0:Int32)),(.int (0:Int32)),(.int (0:Int32)),(.int (0:Int32)),(.int (0:Int32)),(.int (0:Int32)),(.int (0:Int32)),(.int (0:Int32))] (.int (0:Int32)):=V275.pad (pad_rep [] (.int (0:Int32)) 24)
 refine aE (l':=#[.val (.ref vv),.val (.int x),.val (.int y),.val (.int t),.val (.ref a275)]) X275 hx 14 (hb hby tG) rfl rfl rfl ?_
 refine ab X275 hx 15 (hb hby tH) rfl rfl rfl ?_
 refine aa X275 hx 16 (hb hby tI) rfl rfl ?_
 refine al X275 hx 18 (hb hby tJ) rfl rfl rfl ?_
 refine ac X275 hx (0:Int32) 19 (hb hby tK) rfl (by decide) ?_
 refine ab X275 hx 20 (hb hby tL) rfl rfl rfl ?_
 refine aH X275 hx hZ e275 F279 21 (hb hby tM) rfl ?_
 refine aa X275 hx 22 (hb hby tN) rfl rfl ?_
 refine bm X275 hx 23 (hb hby tO) rfl ?_
 refine aa X275 hx 24 (hb hby tP) rfl rfl ?_
 have hm1:(zv-x).toInt=zv.toInt-x.toInt:=by
  have i1:=c_isub zv x
  have i2:=rng32 (zv-x)
  omega
 refine ag X275 hx hZ hown (tw hw 191 rfl) (tw hw 123 rfl) (tw hw 120 rfl) (tw hw 124 rfl) (by decide) (rI l Z a0 hw (zv-x) t h275 n0 Z281) e275 (argsL:=[(.int (zv-x)),(.int t)]) (rest:=[(.int (0:Int32)),(.ref a275),(.int x),(.ref vv)]) rfl rfl 4 27 rfl (by rw[hml];rfl) (lenOf aG rfl) (Nat.le_refl _) (by decide) (by decide) (by decide) (by decide) (hb hby tQ) ?_
 intro v282 T282 L282 X282 hQ282
 obtain⟨r,rfl,hr,N282,q282⟩:=hQ282
 have N283:=Fr.app N274 N282
 show Go _ _ _ _ _ (mkF _ _ _ [(.int r),(.int (0:Int32)),(.ref a275),(.int x),(.ref vv)])
 have hr1:r.toInt=(nn:Int):=by omega
 refine nM X282 hx hZ hown (tw hw 192 rfl) (tw hw 195 rfl) (tw hw 193 rfl) (tw hw 194 rfl) q282 F279 V275' (vs2:=ew vs pp nn) pp nn hx1 hr1 ht hz (fun j hj=>dY vs hj) 0 30 (hb hby tR) rfl (by rw[hml];rfl) (by decide) (by decide) (by decide) ?_
 intro T284 h284 X284 e284 K284 V284
 have N285:=Fr.app N283 (hJ (n:=nn) ge277)
 have F286:=F279.keep K284 (ninS ne276 nin0)
 have F287:=A275.keep K284
 have Z289:n0≤h284.size:=Nat.le_trans Z281 K284.1
 have K290:=K280.trans K284 (allS (Or.inr sz278) all0)
 refine al X284 hx 32 (hb hby tS) rfl rfl rfl ?_
 exact aA X284 hx hlk hret rfl rfl rfl (hb hby tT) (by decide) (by decide) e284 ⟨a275,k275,t,rfl,N285,K290,ge277,sz278,ht,V284⟩
theorem KO:dk hD 0 (.iload_n 1) 1:=by decide +kernel
theorem KP:dk hD 1 (.ifCond .ne 9) 3:=by decide +kernel
theorem tV:dk hD 10 (.aload_n 0) 1:=by decide +kernel
theorem tW:dk hD 11 (.iload_n 1) 1:=by decide +kernel
theorem tX:dk hD 12 (.iload_n 2) 1:=by decide +kernel
theorem tY:dk hD 13 (.invokestatic 339) 3:=by decide +kernel
theorem tZ:dk hD 16 (.areturn) 1:=by decide +kernel
theorem kO:plainFor (⟨"java/util/Arrays","copyOfRange","([BII)[B"⟩:MethodName)=true:=plainFor_of_name (by first|(simp [plainName,overriddenIn];done)|decide +kernel)
theorem t4 (vv:Addr)(x y:Int32)(m:MethodId):entryFrame m #[(.ref vv),(.int x),(.int y)] 3=mkF m 0 #[.val (.ref vv),.val (.int x),.val (.int y)] []:=by first|(simp [entryFrame,mkF,argsToLocals,Value.category];done)|rfl
theorem cCR (l:Launch)(Z:State)(a0:Array Value)(hw:HW a0 Z)(vv:Addr)(x y:Int32)(h0:Heap)(n0:Nat)(Z0:n0≤h0.size)(kv:ClassId)(zv:Int32)(vs:List Value)(pp nn:Nat)(V:Arv Z h0 vv kv .byte zv vs (.int 0))(hx1:x.toInt=(pp:Int))(hy1:y.toInt=((pp+nn:Nat):Int))(hz:((pp+nn:Nat):Int)≤zv.toInt)(hzz:zv.toInt≤24)(hp:1≤pp) :
  MF l Z h0 ⟨"java/util/Arrays","copyOfRange","([BII)[B"⟩ jdk_65_method_132_code 3 (some (.array .byte)) ⟨2,1,24,60⟩ #[(.ref vv),(.int x),(.int y)] (KF Z vs pp nn n0 h0):=by
 refine ai kO (t4 vv x y) ?_
 intro p e s m below meth c T0 X0 hx hby hml hret hlk hnm hown hZ e0
 have N0:=Fr.nil n0
 refine aa X0 hx 1 (hb hby KO) rfl rfl ?_
 refine aI X0 hx 10 4 (hb hby KP) (by decide) (by decide) rfl (fun c291=>?_) (fun c291=>?_)
 ·skip
  refine ab X0 hx 11 (hb hby tV) rfl rfl rfl ?_
  refine aa X0 hx 12 (hb hby tW) rfl rfl ?_
  refine aa X0 hx 13 (hb hby tX) rfl rfl ?_
  refine ag X0 hx hZ hown (tw hw 185 rfl) (tw hw 186 rfl) (tw hw 183 rfl) (tw hw 187 rfl) (by decide) (cRB l Z a0 hw vv x y h0 n0 Z0 kv zv vs pp nn V hx1 hy1 hz hzz) e0 (argsL:=[(.ref vv),(.int x),(.int y)]) (rest:=[]) rfl rfl 0 16 rfl (by rw[hml];rfl) (lenOf cW rfl) (Nat.le_refl _) (by decide) (by decide) (by decide) (by decide) (hb hby tY) ?_
  intro v292 T292 L292 X292 hQ292
  obtain⟨b,kb,z,rfl,N292,K292,gb,sb,hz1,V1⟩:=hQ292
  have N293:=Fr.app N0 N292
  have Z294:n0≤T292.heap.size:=Nat.le_trans Z0 K292.1
  have K295:=(Keep.refl h0 []).trans K292 all0
  show Go _ _ _ _ _ (mkF _ _ _ [(.ref b)])
  exact aA X292 hx hlk hret rfl rfl rfl (hb hby tZ) (by decide) (by decide) rfl ⟨b,kb,z,rfl,N293,K295,gb,sb,hz1,V1⟩
 ·skip
  exfalso;omega
theorem oY:dk fi 0 (.aload_n 0) 1:=by decide +kernel
theorem oZ:dk fi 1 (.invokespecial 1) 3:=by decide +kernel
theorem o4:dk fi 4 (.aload_n 0) 1:=by decide +kernel
theorem o5:dk fi 5 (.aload_n 1) 1:=by decide +kernel
theorem o7:dk fi 6 (.putfield 9) 3:=by decide +kernel
theorem o8:dk fi 9 (.aload_n 0) 1:=by decide +kernel
theorem kQ:dk fi 10 (.iload_n 2) 1:=by decide +kernel
theorem kR:dk fi 11 (.putfield 15) 3:=by decide +kernel
theorem kS:dk fi 14 (.return_) 1:=by decide +kernel
theorem gQ:plainFor (⟨sg1,"<init>","([BB)V"⟩:MethodName)=true:=plainFor_of_name (by first|(simp [plainName,overriddenIn];done)|decide +kernel)
def t5 (Z:State)(a b:Addr)(n0:Nat)(h0:Heap)(v:Option Value)(h:Heap)(L:List Loc):Prop:=v=none∧Fr n0 L∧Keep h0 h [a]∧Fld Z h a sg1 "coder" "B" (.int 0)∧Fld Z h a sg1 "value" "[B" (.ref b)
theorem nN (a b:Addr)(m:MethodId):entryFrame m #[(.ref a),(.ref b),(.int 0)] 3=mkF m 0 #[.val (.ref a),.val (.ref b),.val (.int 0)] []:=by first|(simp [entryFrame,mkF,argsToLocals,Value.category];done)|rfl
theorem KQ (l:Launch)(Z:State)(a0:Array Value)(hw:HW a0 Z)(a b:Addr)(h0:Heap)(n0:Nat)(Z0:n0≤h0.size)(E:Exa Z h0 a sg1)(ga:n0≤a)(Fc:Fld Z h0 a sg1 "coder" "B" (.int 0))(Fv:Fld Z h0 a sg1 "value" "[B" .null) :
  MF l Z h0 ⟨sg1,"<init>","([BB)V"⟩ jdk_42_method_151_code 3 none ⟨1,0,0,12⟩ #[(.ref a),(.ref b),(.int 0)] (t5 Z a b n0 h0):=by
 refine ai gQ (nN a b) ?_
 intro p e s m below meth c T0 X0 hx hby hml hret hlk hnm hown hZ e0
 have N0:=Fr.nil n0
 refine ab X0 hx 1 (hb hby oY) rfl rfl rfl ?_
 refine bZ X0 hx hZ hown (tw hw 15 rfl) (tw hw 16 rfl) (tw hw 17 rfl) e0 0 4 (hb hby oZ) rfl (by rw[hml];rfl) (by decide) (Nat.le_refl _) (by decide) ?_
 intro T296 X296 e296
 refine ab X296 hx 5 (hb hby o4) rfl rfl rfl ?_
 refine ab X296 hx 6 (hb hby o5) rfl rfl rfl ?_
 refine aZ X296 hx hZ hown (tw hw 32 rfl) Via.refl e296 Fv E (Or.inr ⟨(tw hw 33 rfl),rfl,hnm⟩) (tw hw 6 rfl) (ty:=(.array .byte)) (by decide) rfl rfl 9 (hb hby o7) rfl ?_
 intro T297 h297 X297 e297 W297
 have F298:Fld Z h297 a sg1 "value" "[B" (.ref b):=Fv.same W297
 have F299:=E.wr W297
 have F300:=Fc.other W297 (Or.inr (slot_ne (Or.inr (tw hw 31 rfl)) (Or.inr (tw hw 33 rfl)) (by decide) (t := .byte) (t':=(.array .byte)) (by decide) (by decide)))
 have K301:=(Keep.refl h0 [a]).wr W297 (Or.inl (List.mem_of_getElem? (i:=0) rfl))
 have N302:=Fr.snoc X297 N0 ga
 have Z303:n0≤h297.size:=by rw[W297.size];exact Z0
 refine ab X297 hx 10 (hb hby o8) rfl rfl rfl ?_
 refine aa X297 hx 11 (hb hby kQ) rfl rfl ?_
 refine aZ X297 hx hZ hown (tw hw 30 rfl) Via.refl e297 F300 F299 (Or.inr ⟨(tw hw 31 rfl),rfl,hnm⟩) (tw hw 6 rfl) (ty := .byte) (by decide) rfl rfl 14 (hb hby kR) rfl ?_
 intro T304 h304 X304 e304 W304
 have F305:Fld Z h304 a sg1 "coder" "B" (.int (0:Int32)):=F300.same W304
 have F306:=F299.wr W304
 have F307:=F298.other W304 (Or.inr (slot_ne (Or.inr (tw hw 33 rfl)) (Or.inr (tw hw 31 rfl)) (by decide) (t:=(.array .byte)) (t' := .byte) (by decide) (by decide)))
 have K308:=K301.wr W304 (Or.inl (List.mem_of_getElem? (i:=0) rfl))
 have N309:=Fr.snoc X304 N302 ga
 have Z310:n0≤h304.size:=by rw[W304.size];exact Z303
 exact aY X304 hx hlk hret (hb hby kS) (by decide) (by decide) e304 ⟨rfl,N309,K308,F305,F307⟩
def t6 (Z:State)(a b:Addr)(n0:Nat)(h0:Heap)(v:Option Value)(h:Heap)(L:List Loc):Prop:=v=none∧Fr n0 L∧Keep h0 h [a]∧Fld Z h a sg1 "coder" "B" (.int 1)∧Fld Z h a sg1 "value" "[B" (.ref b)
theorem nO (a b:Addr)(m:MethodId):entryFrame m #[(.ref a),(.ref b),(.int 1)] 3=mkF m 0 #[.val (.ref a),.val (.ref b),.val (.int 1)] []:=by first|(simp [entryFrame,mkF,argsToLocals,Value.category];done)|rfl
theorem Pf (l:Launch)(Z:State)(a0:Array Value)(hw:HW a0 Z)(a b:Addr)(h0:Heap)(n0:Nat)(Z0:n0≤h0.size)(E:Exa Z h0 a sg1)(ga:n0≤a)(Fc:Fld Z h0 a sg1 "coder" "B" (.int 0))(Fv:Fld Z h0 a sg1 "value" "[B" .null) :
  MF l Z h0 ⟨sg1,"<init>","([BB)V"⟩ jdk_42_method_151_code 3 none ⟨1,0,0,12⟩ #[(.ref a),(.ref b),(.int 1)] (t6 Z a b n0 h0):=by
 refine ai gQ (nO a b) ?_
 intro p e s m below meth c T0 X0 hx hby hml hret hlk hnm hown hZ e0
 have N0:=Fr.nil n0
 refine ab X0 hx 1 (hb hby oY) rfl rfl rfl ?_
 refine bZ X0 hx hZ hown (tw hw 15 rfl) (tw hw 16 rfl) (tw hw 17 rfl) e0 0 4 (hb hby oZ) rfl (by rw[hml];rfl) (by decide) (Nat.le_refl _) (by decide) ?_
 intro T311 X311 e311
 refine ab X311 hx 5 (hb hby o4) rfl rfl rfl ?_
 refine ab X311 hx 6 (hb hby o5) rfl rfl rfl ?_
 refine aZ X311 hx hZ hown (tw hw 32 rfl) Via.refl e311 Fv E (Or.inr ⟨(tw hw 33 rfl),rfl,hnm⟩) (tw hw 6 rfl) (ty:=(.array .byte)) (by decide) rfl rfl 9 (hb hby o7) rfl ?_
 intro T312 h312 X312 e312 W312
 have F313:Fld Z h312 a sg1 "value" "[B" (.ref b):=Fv.same W312
 have F314:=E.wr W312
 have F315:=Fc.other W312 (Or.inr (slot_ne (Or.inr (tw hw 31 rfl)) (Or.inr (tw hw 33 rfl)) (by decide) (t := .byte) (t':=(.array .byte)) (by decide) (by decide)))
 have K316:=(Keep.refl h0 [a]).wr W312 (Or.inl (List.mem_of_getElem? (i:=0) rfl))
 have N317:=Fr.snoc X312 N0 ga
 have Z318:n0≤h312.size:=by rw[W312.size];exact Z0
 refine ab X312 hx 10 (hb hby o8) rfl rfl rfl ?_
 refine aa X312 hx 11 (hb hby kQ) rfl rfl ?_
 refine aZ X312 hx hZ hown (tw hw 30 rfl) Via.refl e312 F315 F314 (Or.inr ⟨(tw hw 31 rfl),rfl,hnm⟩) (tw hw 6 rfl) (ty := .byte) (by decide) rfl rfl 14 (hb hby kR) rfl ?_
 intro T319 h319 X319 e319 W319
 have F320:Fld Z h319 a sg1 "coder" "B" (.int (1:Int32)):=F315.same W319
 have F321:=F314.wr W319
 have F322:=F313.other W319 (Or.inr (slot_ne (Or.inr (tw hw 33 rfl)) (Or.inr (tw hw 31 rfl)) (by decide) (t:=(.array .byte)) (t' := .byte) (by decide) (by decide)))
 have K323:=K316.wr W319 (Or.inl (List.mem_of_getElem? (i:=0) rfl))
 have N324:=Fr.snoc X319 N317 ga
 have Z325:n0≤h319.size:=by rw[W319.size];exact Z318
 exact aY X319 hx hlk hret (hb hby kS) (by decide) (by decide) e319 ⟨rfl,N324,K323,F320,F322⟩
theorem gR {x y:Int32}(hx:0≤x.toInt∧x.toInt≤15)(hy:0≤y.toInt∧y.toInt≤15):0≤(x ||| y).toInt∧(x ||| y).toInt≤15:=by
 have h:=a_ (P:=fun x=>∀k:Fin 16,0≤(x ||| Int32.ofNat k.val).toInt∧(x ||| Int32.ofNat k.val).toInt≤15) 15 (by decide) (by decide +kernel) hx.1 hx.2
 have e:y=Int32.ofNat y.toInt.toNat:=Int32.toInt_inj.mp (by rw[Int32.toInt_ofNat_of_lt (by omega)];omega)
 have:=h ⟨y.toInt.toNat,by omega⟩
 rw[e];exact this
theorem KR:dk c9 0 (.iload_n 2) 1:=by decide +kernel
theorem KS:dk c9 1 (.iload_n 0) 1:=by decide +kernel
theorem KT:dk c9 2 (.ior) 1:=by decide +kernel
theorem KU:dk c9 3 (.iload_n 1) 1:=by decide +kernel
theorem KV:dk c9 4 (.ior) 1:=by decide +kernel
theorem KW:dk c9 5 (.ifCond .lt 10) 3:=by decide +kernel
theorem KX:dk c9 8 (.iload_n 1) 1:=by decide +kernel
theorem KY:dk c9 9 (.iload_n 2) 1:=by decide +kernel
theorem t7:dk c9 10 (.iload_n 0) 1:=by decide +kernel
theorem t8:dk c9 11 (.isub) 1:=by decide +kernel
theorem t9:dk c9 12 (.if_icmp .le 11) 3:=by decide +kernel
theorem t_:dk c9 23 (.iload_n 0) 1:=by decide +kernel
theorem ua:dk c9 24 (.ireturn) 1:=by decide +kernel
theorem kT:plainFor (⟨sg8,"checkFromIndexSize","(IIILjava/util/function/BiFunction;)I"⟩:MethodName)=true:=plainFor_of_name (by first|(simp [plainName,overriddenIn];done)|decide +kernel)
def KZ (i:Int32)(n0:Nat)(h0:Heap)(v:Option Value)(h:Heap)(L:List Loc):Prop:=v=some (.int i)∧Fr n0 L∧h=h0
theorem uc (i k nl:Int32)(fm:Option Addr)(m:MethodId):entryFrame m #[(.int i),(.int k),(.int nl),(bp fm)] 4=mkF m 0 #[.val (.int i),.val (.int k),.val (.int nl),.val (bp fm)] []:=by first|(simp [entryFrame,mkF,argsToLocals,Value.category];done)|(cases fm<;>rfl)
theorem cFS (l:Launch)(Z:State)(a0:Array Value)(hw:HW a0 Z)(i k nl:Int32)(fm:Option Addr)(h0:Heap)(n0:Nat)(Z0:n0≤h0.size)(b1:0≤i.toInt)(b2:0≤k.toInt)(b3:i.toInt+k.toInt≤nl.toInt)(b4:nl.toInt≤12) :
  MF l Z h0 ⟨sg8,"checkFromIndexSize","(IIILjava/util/function/BiFunction;)I"⟩ jdk_41_method_13_code 4 (some .int) ⟨0,0,0,0⟩ #[(.int i),(.int k),(.int nl),(bp fm)] (KZ i n0 h0):=by
 refine ai kT (uc i k nl fm) ?_
 intro p e s m below meth c T0 X0 hx hby hml hret hlk hnm hown hZ e0
 have N0:=Fr.nil n0
 have o1:=gR (x:=nl) (y:=i) (by omega) (by omega)
 have o2:=gR o1 (y:=k) (by omega)
 have o3:(nl-i).toInt=nl.toInt-i.toInt:=by
  have i1:=c_isub nl i
  have i2:=rng32 (nl-i)
  omega
 refine aa X0 hx 1 (hb hby KR) rfl rfl ?_
 refine aa X0 hx 2 (hb hby KS) rfl rfl ?_
 refine jQ X0 hx 3 (hb hby KT) rfl ?_
 refine aa X0 hx 4 (hb hby KU) rfl rfl ?_
 refine jQ X0 hx 5 (hb hby KV) rfl ?_
 refine aB X0 hx 15 8 (hb hby KW) (by decide) (by decide) rfl (fun c326=>?_) (fun c326=>?_)
 ·skip
  exfalso;omega
 ·skip
  refine aa X0 hx 9 (hb hby KX) rfl rfl ?_
  refine aa X0 hx 10 (hb hby KY) rfl rfl ?_
  refine aa X0 hx 11 (hb hby t7) rfl rfl ?_
  refine bm X0 hx 12 (hb hby t8) rfl ?_
  refine a7 X0 hx 23 15 (hb hby t9) (by decide) (by decide) rfl (fun c327=>?_) (fun c327=>?_)
  ·skip
   refine aa X0 hx 24 (hb hby t_) rfl rfl ?_
   exact ay X0 hx hlk hret (hb hby ua) (by decide) (by decide) e0 ⟨rfl,N0,rfl⟩
  ·skip
   exfalso;omega
theorem K1:dk jJ 0 (.iload_n 0) 1:=by decide +kernel
theorem K2:dk jJ 1 (.iload_n 1) 1:=by decide +kernel
theorem K3:dk jJ 2 (.iload_n 2) 1:=by decide +kernel
theorem K4:dk jJ 3 (.getstatic 1053) 3:=by decide +kernel
theorem K5:dk jJ 6 (.invokestatic 1065) 3:=by decide +kernel
theorem K6:dk jJ 9 (.ireturn) 1:=by decide +kernel
theorem kU:plainFor (⟨sg1,"checkBoundsOffCount","(III)I"⟩:MethodName)=true:=plainFor_of_name (by first|(simp [plainName,overriddenIn];done)|decide +kernel)
def K7 (i:Int32)(n0:Nat)(h0:Heap)(v:Option Value)(h:Heap)(L:List Loc):Prop:=v=some (.int i)∧Fr n0 L∧h=h0
theorem ud (i k nl:Int32)(m:MethodId):entryFrame m #[(.int i),(.int k),(.int nl)] 3=mkF m 0 #[.val (.int i),.val (.int k),.val (.int nl)] []:=by first|(simp [entryFrame,mkF,argsToLocals,Value.category];done)|rfl
theorem cBO (l:Launch)(Z:State)(a0:Array Value)(hw:HW a0 Z)(i k nl:Int32)(h0:Heap)(n0:Nat)(Z0:n0≤h0.size)(cst:Int32)(fm:Option Addr)(em:Addr)(SX_:SX Z cst fm em)(O0:Old Z n0 h0)(b1:0≤i.toInt)(b2:0≤k.toInt)(b3:i.toInt+k.toInt≤nl.toInt)(b4:nl.toInt≤12) :
  MF l Z h0 ⟨sg1,"checkBoundsOffCount","(III)I"⟩ jdk_42_method_157_code 3 (some .int) ⟨1,0,0,16⟩ #[(.int i),(.int k),(.int nl)] (K7 i n0 h0):=by
 refine ai kU (ud i k nl) ?_
 intro p e s m below meth c T0 X0 hx hby hml hret hlk hnm hown hZ e0
 have N0:=Fr.nil n0
 refine aa X0 hx 1 (hb hby K1) rfl rfl ?_
 refine aa X0 hx 2 (hb hby K2) rfl rfl ?_
 refine aa X0 hx 3 (hb hby K3) rfl rfl ?_
 refine a1 X0 hx hZ hown (tw hw 157 rfl) Via.refl e0 (Sta.ext O0.2 SX_.2.2.1) 6 (hb hby K4) rfl ?_
 intro T328 X328 e328
 refine ag X328 hx hZ hown (tw hw 339 rfl) (tw hw 340 rfl) (tw hw 158 rfl) (tw hw 341 rfl) (by decide) (cFS l Z a0 hw i k nl fm h0 n0 Z0 b1 b2 b3 b4) e328 (argsL:=[(.int i),(.int k),(.int nl),(bp fm)]) (rest:=[]) rfl rfl 0 9 rfl (by rw[hml];rfl) (lenOf gD rfl) (Nat.le_refl _) (by decide) (by decide) (by decide) (by decide) (hb hby K5) ?_
 intro v329 T329 L329 X329 hQ329
 obtain⟨rfl,N329,q329⟩:=hQ329
 have N330:=Fr.app N0 N329
 show Go _ _ _ _ _ (mkF _ _ _ [(.int i)])
 exact ay X329 hx hlk hret (hb hby K6) (by decide) (by decide) q329 ⟨rfl,N330,rfl⟩
theorem K9:dk hG 0 (.iload_n 0) 1:=by decide +kernel
theorem K_:dk hG 1 (.iload_n 1) 1:=by decide +kernel
theorem La:dk hG 2 (.aload_n 2) 1:=by decide +kernel
theorem Lb:dk hG 3 (.invokestatic 48) 3:=by decide +kernel
theorem Lc:dk hG 6 (.invokestatic 419) 3:=by decide +kernel
theorem Ld:dk hG 9 (.pop) 1:=by decide +kernel
theorem ue:dk hG 10 (.return_) 1:=by decide +kernel
theorem kV:plainFor (⟨sg4,"checkBoundsOffCount","(II[B)V"⟩:MethodName)=true:=plainFor_of_name (by first|(simp [plainName,overriddenIn];done)|decide +kernel)
def Le (n0:Nat)(h0:Heap)(v:Option Value)(h:Heap)(L:List Loc):Prop:=v=none∧Fr n0 L∧h=h0
theorem uf (i k:Int32)(vb:Addr)(m:MethodId):entryFrame m #[(.int i),(.int k),(.ref vb)] 3=mkF m 0 #[.val (.int i),.val (.int k),.val (.ref vb)] []:=by first|(simp [entryFrame,mkF,argsToLocals,Value.category];done)|rfl
theorem cUO (l:Launch)(Z:State)(a0:Array Value)(hw:HW a0 Z)(i k:Int32)(vb:Addr)(h0:Heap)(n0:Nat)(Z0:n0≤h0.size)(cst:Int32)(fm:Option Addr)(em:Addr)(SX_:SX Z cst fm em)(O0:Old Z n0 h0)(kb:ClassId)(z:Int32)(vs:List Value)(V:Arv Z h0 vb kb .byte z vs (.int 0))(b1:0≤i.toInt)(b2:0≤k.toInt)(b3:i.toInt+k.toInt≤(z>>>((1:Int32)&&&31)).toInt)(b4:(z>>>((1:Int32)&&&31)).toInt≤12) :
  MF l Z h0 ⟨sg4,"checkBoundsOffCount","(II[B)V"⟩ jdk_52_method_94_code 3 none ⟨2,0,0,30⟩ #[(.int i),(.int k),(.ref vb)] (Le n0 h0):=by
 refine ai kV (uf i k vb) ?_
 intro p e s m below meth c T0 X0 hx hby hml hret hlk hnm hown hZ e0
 have N0:=Fr.nil n0
 refine aa X0 hx 1 (hb hby K9) rfl rfl ?_
 refine aa X0 hx 2 (hb hby K_) rfl rfl ?_
 refine ab X0 hx 3 (hb hby La) rfl rfl rfl ?_
 refine ag X0 hx hZ hown (tw hw 316 rfl) (tw hw 317 rfl) (tw hw 21 rfl) (tw hw 318 rfl) (by decide) (cLe l Z a0 hw vb h0 n0 Z0 kb z vs V) e0 (argsL:=[(.ref vb)]) (rest:=[(.int k),(.int i)]) rfl rfl 2 6 rfl (by rw[hml];rfl) (lenOf eu rfl) (Nat.le_refl _) (by decide) (by decide) (by decide) (by decide) (hb hby Lb) ?_
 intro v331 T331 L331 X331 hQ331
 obtain⟨rfl,N331,q331⟩:=hQ331
 have N332:=Fr.app N0 N331
 show Go _ _ _ _ _ (mkF _ _ _ [(.int (z>>>((1:Int32)&&&31))),(.int k),(.int i)])
 refine ag X331 hx hZ hown (tw hw 336 rfl) (tw hw 337 rfl) (tw hw 7 rfl) (tw hw 338 rfl) (by decide) (cBO l Z a0 hw i k (z>>>((1:Int32)&&&31)) h0 n0 Z0 cst fm em SX_ O0 b1 b2 b3 b4) q331 (argsL:=[(.int i),(.int k),(.int (z>>>((1:Int32)&&&31)))]) (rest:=[]) rfl rfl 0 9 rfl (by rw[hml];rfl) (lenOf jZ rfl) (Nat.le_refl _) (by decide) (by decide) (by decide) (by decide) (hb hby Lc) ?_
 intro v333 T333 L333 X333 hQ333
 obtain⟨rfl,N333,q333⟩:=hQ333
 have N334:=Fr.app N332 N333
 show Go _ _ _ _ _ (mkF _ _ _ [(.int i)])
 refine eh X333 hx 10 (hb hby Ld) rfl rfl ?_
 exact aY X333 hx hlk hret (hb hby ue) (by decide) (by decide) q333 ⟨rfl,N334,rfl⟩
theorem Lf:dk bk 0 (.iload_n 1) 1:=by decide +kernel
theorem Lg:dk bk 1 (.iload 4) 2:=by decide +kernel
theorem Lh:dk bk 3 (.aload_n 0) 1:=by decide +kernel
theorem Li:dk bk 4 (.invokestatic 173) 3:=by decide +kernel
theorem Lj:dk bk 7 (.iconst 0) 1:=by decide +kernel
theorem Lk:dk bk 8 (.istore 5) 2:=by decide +kernel
theorem kW:dk bk 10 (.iload 5) 2:=by decide +kernel
theorem kX:dk bk 12 (.iload 4) 2:=by decide +kernel
theorem kY:dk bk 14 (.if_icmp .ge 39) 3:=by decide +kernel
theorem ug:dk bk 17 (.aload_n 0) 1:=by decide +kernel
theorem uh:dk bk 18 (.iload_n 1) 1:=by decide +kernel
theorem ui:dk bk 19 (.invokestatic 71) 3:=by decide +kernel
theorem uj:dk bk 22 (.istore 6) 2:=by decide +kernel
theorem uk:dk bk 24 (.iload 6) 2:=by decide +kernel
theorem ul:dk bk 26 (.sipush 255) 3:=by decide +kernel
theorem um:dk bk 29 (.if_icmp .le 6) 3:=by decide +kernel
theorem un:dk bk 32 (.iload 5) 2:=by decide +kernel
theorem uo:dk bk 34 (.ireturn) 1:=by decide +kernel
theorem uq:dk bk 35 (.aload_n 2) 1:=by decide +kernel
theorem ur:dk bk 36 (.iload_n 3) 1:=by decide +kernel
theorem ut:dk bk 37 (.iload 6) 2:=by decide +kernel
theorem uu:dk bk 39 (.i2b) 1:=by decide +kernel
theorem uv:dk bk 40 (.bastore) 1:=by decide +kernel
theorem uw:dk bk 41 (.iinc 1 1) 3:=by decide +kernel
theorem ux:dk bk 44 (.iinc 3 1) 3:=by decide +kernel
theorem uy:dk bk 47 (.iinc 5 1) 3:=by decide +kernel
theorem uz:dk bk 50 (.goto (-40)) 3:=by decide +kernel
theorem uA:dk bk 53 (.iload 4) 2:=by decide +kernel
theorem uB:dk bk 55 (.ireturn) 1:=by decide +kernel
theorem uC {p:Program}{l:Launch}{e:Env}{s:State}{m:MethodId}{args:Array Value}{below:List Frame}{meth:Method}{c:Code}{T0 Z:State}{a0:Array Value}{h0:Heap}{n0:Nat}{hB:Heap}{vb ba:Addr}{kb kba:ClassId}{z n:Int32}{cs:List Int32}{vs:List Value}{pp nl:Nat}{cst:Int32}{fm:Option Addr}{em:Addr}(d:Nat)(i i1:Int32)(k:Nat)(us:List Value)(locs:List Loc)(o6:Option Int32)(X0:Stand p l e ({ frames:=3,cells:=0,slots:=0,locals:=50 }:Room) s m args below meth c T0 locs 0 0)(hx:p.tables.exec=Jvm.exec)(hby:c.code=jdk_52_method_22_code)(hml:c.maxLocals=7)(hret:meth.sig.returnType=(some .int))(hlk:meth.locks=false)(hown:s.vm.findClass sg4=some m.cls)(hZ:Z.Warmed39 s.vm)(hw:HW a0 Z)(e0:T0.heap=h0)(Z0:n0≤h0.size)(N0:Fr n0 locs)(SX_:SX Z cst fm em)(O0:Old Z n0 h0)(V:Arv Z h0 vb kb .byte z vs (.int 0))(Vb:Arv Z h0 ba kba .byte n us (.int 0))(K0:Keep hB h0 [ba])(gb:n0≤ba)(ncb:vb≠ba)(hcs:Cs cs)(hz:z.toInt=((2*nl:Nat):Int))(hnl:nl≤12)(hpp:pp+cs.length≤nl)(hU:∀j,j<cs.length→vs.getD (2*(pp+j)) (.int 0) = .int (bF (cs.getD j 0))∧vs.getD (2*(pp+j)+1) (.int 0) = .int (bG (cs.getD j 0)))(hn:n.toInt=(cs.length:Int))(hvl:us.length=12)(hi:i.toInt=(k:Int))(hi1:i1.toInt=((pp+k:Nat):Int))(hd:k+d=cs.length)(he:L1v cs us k) :
  Go p e below (dR s (jh Z cs ba kba n n0 hB) 0 0) T0 (mkF m 10 #[.val (.ref vb),.val (.int i1),.val (.ref ba),.val (.int i),.val (.int n),.val (.int i),(j1 o6)] []):=by
 have hcl:=hcs.2.1
 induction d generalizing i i1 k us T0 h0 locs o6 with
 | zero =>
  refine ae X0 hx 12 (hb hby kW) rfl rfl ?_
  refine ae X0 hx 14 (hb hby kX) rfl rfl ?_
  refine am X0 hx 53 17 (hb hby kY) (by decide) (by decide) rfl (fun c335=>?_) (fun c335=>?_)
  ·skip
   refine ae X0 hx 55 (hb hby uA) rfl rfl ?_
   exact ay X0 hx hlk hret (hb hby uB) (by decide) (by decide) e0 ⟨_,k,us,rfl,by omega,N0,K0,Vb,Or.inl ⟨by omega,fun j hj=>he j (by omega)⟩⟩
  ·skip
   exfalso;omega
 | succ d ih =>
  refine ae X0 hx 12 (hb hby kW) rfl rfl ?_
  refine ae X0 hx 14 (hb hby kX) rfl rfl ?_
  refine am X0 hx 53 17 (hb hby kY) (by decide) (by decide) rfl (fun c336=>?_) (fun c336=>?_)
  ·skip
   exfalso;omega
  ·skip
   refine ab X0 hx 18 (hb hby ug) rfl rfl rfl ?_
   refine aa X0 hx 19 (hb hby uh) rfl rfl ?_
   refine ag X0 hx hZ hown (tw hw 300 rfl) (tw hw 301 rfl) (tw hw 21 rfl) (tw hw 302 rfl) (by decide) (cGe l Z a0 hw vb i1 h0 n0 Z0 cst fm em SX_ O0 kb z (cs.getD k 0) vs (pp+k) V (hcs.2.2 k (by omega)) hi1 (by omega) (by omega) (hU k (by omega)).1 (hU k (by omega)).2) e0 (argsL:=[(.ref vb),(.int i1)]) (rest:=[]) rfl rfl 0 22 rfl (by rw[hml];rfl) (lenOf bh rfl) (Nat.le_refl _) (by decide) (by decide) (by decide) (by decide) (hb hby ui) ?_
   intro v337 T337 L337 X337 hQ337
   obtain⟨rfl,N337,q337⟩:=hQ337
   have N338:=Fr.app N0 N337
   show Go _ _ _ _ _ (mkF _ _ _ [(.int (cs.getD k 0))])
   refine ah (l':=#[.val (.ref vb),.val (.int i1),.val (.ref ba),.val (.int i),.val (.int n),.val (.int i),.val (.int (cs.getD k 0))]) X337 hx 24 (hb hby uj) rfl (by cases o6<;>rfl) ?_
   refine ae X337 hx 26 (hb hby uk) rfl rfl ?_
   refine aM X337 hx (255:Int32) 29 (hb hby ul) rfl (by decide) ?_
   have ll340:((255:Int32):Int32).toInt=255:=by decide
   refine a7 X337 hx 35 32 (hb hby um) (by decide) (by decide) rfl (fun c339=>?_) (fun c339=>?_)
   ·skip
    refine ab X337 hx 36 (hb hby uq) rfl rfl rfl ?_
    refine aa X337 hx 37 (hb hby ur) rfl rfl ?_
    refine ae X337 hx 39 (hb hby ut) rfl rfl ?_
    refine eG X337 hx 40 (hb hby uu) rfl ?_
    refine cK X337 hx hZ q337 Vb (k) hi (by omega) (by omega) (bd (cs.getD k 0)) rfl 41 (hb hby uv) rfl ?_
    intro T341 h341 X341 e341 W341 V341
    have F342:=O0.wr W341 gb
    have F343:=V.other W341 ncb
    have K345:=K0.wr W341 (Or.inl (List.mem_of_getElem? (i:=0) rfl))
    have N346:=Fr.snoc X341 N338 gb
    have Z347:n0≤h341.size:=by rw[W341.size];exact Z0
    refine a5 (w:=(1:Int32)) (l':=#[.val (.ref vb),.val (.int (i1+(1:Int32))),.val (.ref ba),.val (.int i),.val (.int n),.val (.int i),.val (.int (cs.getD k 0))]) X341 hx 44 (hb hby uw) rfl rfl (by decide) rfl ?_
    refine a5 (w:=(1:Int32)) (l':=#[.val (.ref vb),.val (.int (i1+(1:Int32))),.val (.ref ba),.val (.int (i+(1:Int32))),.val (.int n),.val (.int i),.val (.int (cs.getD k 0))]) X341 hx 47 (hb hby ux) rfl rfl (by decide) rfl ?_
    refine a5 (w:=(1:Int32)) (l':=#[.val (.ref vb),.val (.int (i1+(1:Int32))),.val (.ref ba),.val (.int (i+(1:Int32))),.val (.int n),.val (.int (i+(1:Int32))),.val (.int (cs.getD k 0))]) X341 hx 50 (hb hby uy) rfl rfl (by decide) rfl ?_
    refine ap X341 hx 10 (hb hby uz) (by decide) (by decide) ?_
    exact @ih _ _ _ _ (k+1) _ _ (some (cs.getD k 0)) X341 e341 Z347 N346 F342 F343 V341 K345 (by rw[List.length_set];exact hvl) (aC hi (by omega)) (by rw[aC hi1 (by omega)];omega) (by omega) (L1v.step he (by omega) (by omega))
   ·skip
    refine ae X337 hx 34 (hb hby un) rfl rfl ?_
    exact ay X337 hx hlk hret (hb hby uo) (by decide) (by decide) q337 ⟨i,k,us,rfl,hi,N338,K0,Vb,Or.inr ⟨by omega,by omega⟩⟩
theorem kZ:plainFor (⟨sg4,"compress","([BI[BII)I"⟩:MethodName)=true:=plainFor_of_name (by first|(simp [plainName,overriddenIn];done)|decide +kernel)
theorem uD (vb:Addr)(i1:Int32)(ba:Addr)(n:Int32)(m:MethodId):entryFrame m #[(.ref vb),(.int i1),(.ref ba),(.int 0),(.int n)] 7=mkF m 0 #[.val (.ref vb),.val (.int i1),.val (.ref ba),.val (.int 0),.val (.int n),.unset,.unset] []:=by first|(simp [entryFrame,mkF,argsToLocals,Value.category];done)|rfl
theorem cD1 (l:Launch)(Z:State)(a0:Array Value)(hw:HW a0 Z)(vb:Addr)(i1:Int32)(ba:Addr)(n:Int32)(h0:Heap)(n0:Nat)(Z0:n0≤h0.size)(cst:Int32)(fm:Option Addr)(em:Addr)(SX_:SX Z cst fm em)(O0:Old Z n0 h0)(kb kba:ClassId)(z:Int32)(cs:List Int32)(vs us:List Value)(pp nl:Nat)(V:Arv Z h0 vb kb .byte z vs (.int 0))(Vb:Arv Z h0 ba kba .byte n us (.int 0))(gb:n0≤ba)(ncb:vb≠ba)(hcs:Cs cs)(hz:z.toInt=((2*nl:Nat):Int))(hnl:nl≤12)(hpp:pp+cs.length≤nl)(hU:∀j,j<cs.length→vs.getD (2*(pp+j)) (.int 0) = .int (bF (cs.getD j 0))∧vs.getD (2*(pp+j)+1) (.int 0) = .int (bG (cs.getD j 0)))(hn:n.toInt=(cs.length:Int))(hvl:us.length=12)(hi1:i1.toInt=(pp:Int)) :
  MF l Z h0 ⟨sg4,"compress","([BI[BII)I"⟩ jdk_52_method_22_code 7 (some .int) ⟨3,0,0,50⟩ #[(.ref vb),(.int i1),(.ref ba),(.int 0),(.int n)] (jh Z cs ba kba n n0 h0):=by
 refine ai kZ (uD vb i1 ba n) ?_
 intro p e s m below meth c T0 X0 hx hby hml hret hlk hnm hown hZ e0
 have N0:=Fr.nil n0
 have hs:=cG hz (by omega)
 refine aa X0 hx 1 (hb hby Lf) rfl rfl ?_
 refine ae X0 hx 3 (hb hby Lg) rfl rfl ?_
 refine ab X0 hx 4 (hb hby Lh) rfl rfl rfl ?_
 refine ag X0 hx hZ hown (tw hw 333 rfl) (tw hw 334 rfl) (tw hw 21 rfl) (tw hw 335 rfl) (by decide) (cUO l Z a0 hw i1 n vb h0 n0 Z0 cst fm em SX_ O0 kb z vs V (by omega) (by omega) (by omega) (by omega)) e0 (argsL:=[(.int i1),(.int n),(.ref vb)]) (rest:=[]) rfl rfl 0 7 rfl (by rw[hml];rfl) (lenOf gF rfl) (Nat.le_refl _) (by decide) (by decide) (by decide) (by decide) (hb hby Li) ?_
 intro v348 T348 L348 X348 hQ348
 obtain⟨rfl,N348,q348⟩:=hQ348
 have N349:=Fr.app N0 N348
 show Go _ _ _ _ _ (mkF _ _ _ [])
 refine ac X348 hx (0:Int32) 8 (hb hby Lj) rfl (by decide) ?_
 refine ah (l':=#[.val (.ref vb),.val (.int i1),.val (.ref ba),.val (.int (0:Int32)),.val (.int n),.val (.int (0:Int32)),.unset]) X348 hx 10 (hb hby Lk) rfl rfl ?_
 exact uC cs.length 0 i1 0 _ _ none X348 hx hby hml hret hlk hown hZ hw q348 Z0 N349 SX_ O0 V Vb (Keep.refl h0 [ba]) gb ncb hcs hz hnl hpp hU hn hvl (by decide) (by omega) (by omega) (fun j hj=>absurd hj (Nat.not_lt_zero j))
theorem Ll:dk be 0 (.iload_n 2) 1:=by decide +kernel
theorem Lm:dk be 1 (.newarray .byte) 2:=by decide +kernel
theorem Ln:dk be 3 (.astore_n 3) 1:=by decide +kernel
theorem Lo:dk be 4 (.aload_n 0) 1:=by decide +kernel
theorem Lp:dk be 5 (.iload_n 1) 1:=by decide +kernel
theorem Lq:dk be 6 (.aload_n 3) 1:=by decide +kernel
theorem Lr:dk be 7 (.iconst 0) 1:=by decide +kernel
theorem Lt:dk be 8 (.iload_n 2) 1:=by decide +kernel
theorem Lu:dk be 9 (.invokestatic 123) 3:=by decide +kernel
theorem uE:dk be 12 (.istore 4) 2:=by decide +kernel
theorem uF:dk be 14 (.iload 4) 2:=by decide +kernel
theorem uG:dk be 16 (.iload_n 2) 1:=by decide +kernel
theorem uH:dk be 17 (.if_icmp .eq 47) 3:=by decide +kernel
theorem uI:dk be 20 (.aload_n 0) 1:=by decide +kernel
theorem uJ:dk be 21 (.iload_n 1) 1:=by decide +kernel
theorem uK:dk be 22 (.iconst 1) 1:=by decide +kernel
theorem uL:dk be 23 (.ishl) 1:=by decide +kernel
theorem uM:dk be 24 (.iload_n 1) 1:=by decide +kernel
theorem uN:dk be 25 (.iload_n 2) 1:=by decide +kernel
theorem uO:dk be 26 (.iadd) 1:=by decide +kernel
theorem uP:dk be 27 (.invokestatic 11) 3:=by decide +kernel
theorem uQ:dk be 30 (.invokestatic 126) 3:=by decide +kernel
theorem uR:dk be 33 (.astore 5) 2:=by decide +kernel
theorem uS:dk be 35 (.aload 5) 2:=by decide +kernel
theorem uT:dk be 37 (.iload 4) 2:=by decide +kernel
theorem uU:dk be 39 (.invokestatic 71) 3:=by decide +kernel
theorem uV:dk be 42 (.sipush 255) 3:=by decide +kernel
theorem uW:dk be 45 (.if_icmp .gt 16) 3:=by decide +kernel
theorem uX:dk be 61 (.aload 5) 2:=by decide +kernel
theorem uY:dk be 63 (.areturn) 1:=by decide +kernel
theorem uZ:dk be 64 (.aload_n 3) 1:=by decide +kernel
theorem u_:dk be 65 (.areturn) 1:=by decide +kernel
theorem k_:plainFor (⟨sg4,"compress","([BII)[B"⟩:MethodName)=true:=plainFor_of_name (by first|(simp [plainName,overriddenIn];done)|decide +kernel)
def Lv (Z:State)(cs:List Int32)(n0:Nat)(h0:Heap)(v:Option Value)(h:Heap)(L:List Loc):Prop:=∃(b:Addr)(kb:ClassId)(z:Int32)(vs:List Value)(co:Int32),v=some (.ref b)∧Fr n0 L∧Keep h0 h []∧n0≤b∧h0.size≤b∧Enc cs z vs co∧Arv Z h b kb .byte z vs (.int 0)
theorem va (vb:Addr)(i1 n:Int32)(m:MethodId):entryFrame m #[(.ref vb),(.int i1),(.int n)] 6=mkF m 0 #[.val (.ref vb),.val (.int i1),.val (.int n),.unset,.unset,.unset] []:=by first|(simp [entryFrame,mkF,argsToLocals,Value.category];done)|rfl
theorem cD3 (l:Launch)(Z:State)(a0:Array Value)(hw:HW a0 Z)(vb:Addr)(i1 n:Int32)(h0:Heap)(n0:Nat)(Z0:n0≤h0.size)(cst:Int32)(fm:Option Addr)(em:Addr)(SX_:SX Z cst fm em)(O0:Old Z n0 h0)(kb:ClassId)(z:Int32)(cs:List Int32)(vs:List Value)(pp nl:Nat)(V:Arv Z h0 vb kb .byte z vs (.int 0))(hcs:Cs cs)(hz:z.toInt=((2*nl:Nat):Int))(hnl:nl≤12)(hpp:pp+cs.length≤nl)(hU:∀j,j<cs.length→vs.getD (2*(pp+j)) (.int 0) = .int (bF (cs.getD j 0))∧vs.getD (2*(pp+j)+1) (.int 0) = .int (bG (cs.getD j 0)))(hn:n.toInt=(cs.length:Int))(hi1:i1.toInt=(pp:Int))(hp1:1≤pp) :
  MF l Z h0 ⟨sg4,"compress","([BII)[B"⟩ jdk_52_method_17_code 6 (some (.array .byte)) ⟨4,2,36,80⟩ #[(.ref vb),(.int i1),(.int n)] (Lv Z cs n0 h0):=by
 refine ai k_ (va vb i1 n) ?_
 intro p e s m below meth c T0 X0 hx hby hml hret hlk hnm hown hZ e0
 have N0:=Fr.nil n0
 have hcl:=hcs.2.1
 refine aa X0 hx 1 (hb hby Ll) rfl rfl ?_
 refine aO X0 hx hZ (aty := .byte) (tw hw 23 rfl) e0 (by omega) (cap:=12) (by omega) (by decide) 3 (hb hby Lm) rfl (by decide) (by decide) (ad := "[B") (by decide) ?_
 intro T350 h350 k350 a350 g350 X350 e350 E350 V350 A350
 have ne351:vb≠a350:=Nat.ne_of_lt (by rw[g350];exact V.lt)
 have ge352:n0≤a350:=by rw[g350];exact Z0
 have sz353:h0.size≤a350:=by rw[g350];exact (Keep.refl h0 []).1
 have F354:=O0.ext E350
 have F355:=V.ext E350
 have K356:=(Keep.refl h0 []).ext E350
 have Z357:n0≤h350.size:=Nat.le_trans Z0 E350.1
 have V350':Arv Z h350 a350 k350 .byte n [(.int (0:Int32)),(.int (0:Int32)),(.int (0:Int32)),(.int (0:Int32)),(.int (0:Int32)),(.int (0:Int32)),(.int (0:Int32)),(.int (0:Int32)),(.int (0:Int32)),(.int (0:Int32)),(.int (0:Int32)),(.int (0:Int32))] (.int (0:Int32)):=V350.pad (pad_rep [] (.int (0:Int32)) 12)
 refine au (l':=#[.val (.ref vb),.val (.int i1),.val (.int n),.val (.ref a350),.unset,.unset]) X350 hx 4 (hb hby Ln) rfl rfl rfl ?_
 refine ab X350 hx 5 (hb hby Lo) rfl rfl rfl ?_
 refine aa X350 hx 6 (hb hby Lp) rfl rfl ?_
 refine ab X350 hx 7 (hb hby Lq) rfl rfl rfl ?_
 refine ac X350 hx (0:Int32) 8 (hb hby Lr) rfl (by decide) ?_
 refine aa X350 hx 9 (hb hby Lt) rfl rfl ?_
 refine ag X350 hx hZ hown (tw hw 330 rfl) (tw hw 331 rfl) (tw hw 21 rfl) (tw hw 332 rfl) (by decide) (cD1 l Z a0 hw vb i1 a350 n h350 n0 Z357 cst fm em SX_ F354 kb k350 z cs vs _ pp nl F355 V350' ge352 ne351 hcs hz hnl hpp hU hn (by decide) hi1) e350 (argsL:=[(.ref vb),(.int i1),(.ref a350),(.int (0:Int32)),(.int n)]) (rest:=[]) rfl rfl 0 12 rfl (by rw[hml];rfl) (lenOf ej rfl) (Nat.le_refl _) (by decide) (by decide) (by decide) (by decide) (hb hby Lu) ?_
 intro v358 T358 L358 X358 hQ358
 obtain⟨r,q,vs1,rfl,hr,N358,K358,V358,hq⟩:=hQ358
 have N359:=Fr.app N0 N358
 have F360:=F354.keep K358 (allS ge352 all0)
 have F361:=F355.keep K358 (ninS ne351 nin0)
 have F362:=A350.keep K358
 have Z364:n0≤T358.heap.size:=Nat.le_trans Z357 K358.1
 have K365:=K356.trans K358 (allS (Or.inr sz353) all0)
 show Go _ _ _ _ _ (mkF _ _ _ [(.int r)])
 refine ah (l':=#[.val (.ref vb),.val (.int i1),.val (.int n),.val (.ref a350),.val (.int r),.unset]) X358 hx 14 (hb hby uE) rfl rfl ?_
 refine ae X358 hx 16 (hb hby uF) rfl rfl ?_
 refine aa X358 hx 17 (hb hby uG) rfl rfl ?_
 refine bH X358 hx 64 20 (hb hby uH) (by decide) (by decide) rfl (fun c366=>?_) (fun c366=>?_)
 ·skip
  refine ab X358 hx 65 (hb hby uZ) rfl rfl rfl ?_
  obtain⟨q1,q2⟩:q=cs.length∧L1v cs vs1 cs.length:=by
   rcases hq with hq|hq
   ·exact hq
   ·omega
  exact aA X358 hx hlk hret rfl rfl rfl (hb hby u_) (by decide) (by decide) rfl ⟨a350,k350,n,vs1,0,rfl,N359,K365,ge352,sz353,Or.inl ⟨rfl,hn,q2⟩,V358⟩
 ·skip
  obtain⟨q1,q2⟩:q<cs.length∧255<(cs.getD q 0).toInt:=by
   rcases hq with hq|hq
   ·omega
   ·exact hq
  have hx2:=ce hi1 (by omega)
  have hs1:=bN hi1 hn (by omega)
  have hs2:=ce hs1 (by omega)
  refine ab X358 hx 21 (hb hby uI) rfl rfl rfl ?_
  refine aa X358 hx 22 (hb hby uJ) rfl rfl ?_
  refine ac X358 hx (1:Int32) 23 (hb hby uK) rfl (by decide) ?_
  refine db X358 hx 24 (hb hby uL) rfl ?_
  refine aa X358 hx 25 (hb hby uM) rfl rfl ?_
  refine aa X358 hx 26 (hb hby uN) rfl rfl ?_
  refine aQ X358 hx 27 (hb hby uO) rfl ?_
  refine ag X358 hx hZ hown (tw hw 290 rfl) (tw hw 291 rfl) (tw hw 21 rfl) (tw hw 292 rfl) (by decide) (cNL l Z a0 hw (i1+n) T358.heap n0 Z364 (by omega)) rfl (argsL:=[(.int (i1+n))]) (rest:=[(.int (i1<<<((1:Int32)&&&31))),(.ref vb)]) rfl rfl 2 30 rfl (by rw[hml];rfl) (lenOf aS rfl) (Nat.le_refl _) (by decide) (by decide) (by decide) (by decide) (hb hby uP) ?_
  intro v367 T367 L367 X367 hQ367
  obtain⟨rfl,N367,q367⟩:=hQ367
  have N368:=Fr.app N359 N367
  show Go _ _ _ _ _ (mkF _ _ _ [(.int ((i1+n)<<<((1:Int32)&&&31))),(.int (i1<<<((1:Int32)&&&31))),(.ref vb)])
  refine ag X367 hx hZ hown (tw hw 342 rfl) (tw hw 182 rfl) (tw hw 183 rfl) (tw hw 184 rfl) (by decide) (cCR l Z a0 hw vb (i1<<<((1:Int32)&&&31)) ((i1+n)<<<((1:Int32)&&&31)) T358.heap n0 Z364 kb z vs (2*pp) (2*cs.length) F361 hx2 (by rw[hs2];omega) (by omega) (by omega) (by omega)) q367 (argsL:=[(.ref vb),(.int (i1<<<((1:Int32)&&&31))),(.int ((i1+n)<<<((1:Int32)&&&31)))]) (rest:=[]) rfl rfl 0 33 rfl (by rw[hml];rfl) (lenOf cW rfl) (Nat.le_refl _) (by decide) (by decide) (by decide) (by decide) (hb hby uQ) ?_
  intro v369 T369 L369 X369 hQ369
  obtain⟨ub,ku,t,rfl,N369,K369,gu,su,ht,Vu⟩:=hQ369
  have N370:=Fr.app N368 N369
  have su1:=Nat.le_trans (K365).1 su
  have F371:=F360.keep K369 all0
  have F372:=F361.keep K369 nin0
  have F373:=F362.keep K369
  have F374:=V358.keep K369 nin0
  have Z375:n0≤T369.heap.size:=Nat.le_trans Z364 K369.1
  have K376:=K365.trans K369 all0
  show Go _ _ _ _ _ (mkF _ _ _ [(.ref ub)])
  have hu:dS cs (ew vs (2*pp) (2*cs.length)) cs.length:=fun j hj=>by
   rw[dY vs (by omega),dY vs (by omega),show 2*pp+2*j=2*(pp+j) by omega,show 2*pp+(2*j+1)=2*(pp+j)+1 by omega]
   exact hU j hj
  refine aE (l':=#[.val (.ref vb),.val (.int i1),.val (.int n),.val (.ref a350),.val (.int r),.val (.ref ub)]) X369 hx 35 (hb hby uR) rfl rfl rfl ?_
  refine al X369 hx 37 (hb hby uS) rfl rfl rfl ?_
  refine ae X369 hx 39 (hb hby uT) rfl rfl ?_
  refine ag X369 hx hZ hown (tw hw 300 rfl) (tw hw 301 rfl) (tw hw 21 rfl) (tw hw 302 rfl) (by decide) (cGe l Z a0 hw ub r T369.heap n0 Z375 cst fm em SX_ F371 ku t (cs.getD q 0) _ q Vu (hcs.2.2 q q1) hr (by omega) (by omega) (hu q q1).1 (hu q q1).2) rfl (argsL:=[(.ref ub),(.int r)]) (rest:=[]) rfl rfl 0 42 rfl (by rw[hml];rfl) (lenOf bh rfl) (Nat.le_refl _) (by decide) (by decide) (by decide) (by decide) (hb hby uU) ?_
  intro v377 T377 L377 X377 hQ377
  obtain⟨rfl,N377,q377⟩:=hQ377
  have N378:=Fr.app N370 N377
  show Go _ _ _ _ _ (mkF _ _ _ [(.int (cs.getD q 0))])
  refine aM X377 hx (255:Int32) 45 (hb hby uV) rfl (by decide) ?_
  have ll380:((255:Int32):Int32).toInt=255:=by decide
  refine cJ X377 hx 61 48 (hb hby uW) (by decide) (by decide) rfl (fun c379=>?_) (fun c379=>?_)
  ·skip
   refine al X377 hx 63 (hb hby uX) rfl rfl rfl ?_
   exact aA X377 hx hlk hret rfl rfl rfl (hb hby uY) (by decide) (by decide) q377 ⟨ub,ku,t,_,1,rfl,N378,K376,gu,su1,Or.inr ⟨rfl,ht,hu⟩,Vu⟩
  ·skip
   exfalso;omega
def vc (Z:State)(cs:List Int32)(n0:Nat)(h0:Heap)(v:Option Value)(h:Heap)(L:List Loc):Prop:=∃r:Addr,v=some (.ref r)∧Fr n0 L∧Keep h0 h []∧n0≤r∧h0.size≤r∧a3 Z h h0.size h.size r cs
theorem Lx:dk ck 0 (.iload_n 2) 1:=by decide +kernel
theorem Ly:dk ck 1 (.ifCond .ne 7) 3:=by decide +kernel
theorem Lz:dk ck 8 (.getstatic 251) 3:=by decide +kernel
theorem vd:dk ck 11 (.ifCond .eq 28) 3:=by decide +kernel
theorem ve:dk ck 14 (.aload_n 0) 1:=by decide +kernel
theorem vf:dk ck 15 (.iload_n 1) 1:=by decide +kernel
theorem vg:dk ck 16 (.iload_n 2) 1:=by decide +kernel
theorem vh:dk ck 17 (.invokestatic 257) 3:=by decide +kernel
theorem vi:dk ck 20 (.astore_n 3) 1:=by decide +kernel
theorem vj:dk ck 21 (.aload_n 3) 1:=by decide +kernel
theorem vk:dk ck 22 (.iload_n 2) 1:=by decide +kernel
theorem vl:dk ck 23 (.invokestatic 259) 3:=by decide +kernel
theorem la:dk ck 26 (.istore 4) 2:=by decide +kernel
theorem lb:dk ck 28 (.new 3) 3:=by decide +kernel
theorem ld:dk ck 31 (.dup) 1:=by decide +kernel
theorem lf:dk ck 32 (.aload_n 3) 1:=by decide +kernel
theorem lg:dk ck 33 (.iload 4) 2:=by decide +kernel
theorem lh:dk ck 35 (.invokespecial 263) 3:=by decide +kernel
theorem lj:dk ck 38 (.areturn) 1:=by decide +kernel
theorem lk:plainFor (⟨sg4,"newString","([BII)Ljava/lang/String;"⟩:MethodName)=true:=plainFor_of_name (by first|(simp [plainName,overriddenIn];done)|decide +kernel)
theorem vn (vb:Addr)(i1 n:Int32)(m:MethodId):entryFrame m #[(.ref vb),(.int i1),(.int n)] 5=mkF m 0 #[.val (.ref vb),.val (.int i1),.val (.int n),.unset,.unset] []:=by first|(simp [entryFrame,mkF,argsToLocals,Value.category];done)|rfl
theorem cUS (l:Launch)(Z:State)(a0:Array Value)(hw:HW a0 Z)(vb:Addr)(i1 n:Int32)(h0:Heap)(n0:Nat)(Z0:n0≤h0.size)(cst:Int32)(fm:Option Addr)(em:Addr)(SX_:SX Z cst fm em)(O0:Old Z n0 h0)(kb:ClassId)(z:Int32)(cs:List Int32)(vs:List Value)(pp nl:Nat)(V:Arv Z h0 vb kb .byte z vs (.int 0))(hcs:Cs cs)(hz:z.toInt=((2*nl:Nat):Int))(hnl:nl≤12)(hpp:pp+cs.length≤nl)(hU:∀j,j<cs.length→vs.getD (2*(pp+j)) (.int 0) = .int (bF (cs.getD j 0))∧vs.getD (2*(pp+j)+1) (.int 0) = .int (bG (cs.getD j 0)))(hn:n.toInt=(cs.length:Int))(hi1:i1.toInt=(pp:Int))(hp1:1≤pp) :
  MF l Z h0 ⟨sg4,"newString","([BII)Ljava/lang/String;"⟩ jdk_52_method_69_code 5 (some (.object sg1)) ⟨5,3,40,105⟩ #[(.ref vb),(.int i1),(.int n)] (vc Z cs n0 h0):=by
 refine ai lk (vn vb i1 n) ?_
 intro p e s m below meth c T0 X0 hx hby hml hret hlk hnm hown hZ e0
 have N0:=Fr.nil n0
 have hc1:=hcs.1
 have hcl:=hcs.2.1
 refine aa X0 hx 1 (hb hby Lx) rfl rfl ?_
 refine aI X0 hx 8 4 (hb hby Ly) (by decide) (by decide) rfl (fun c381=>?_) (fun c381=>?_)
 ·skip
  refine a1 X0 hx hZ hown (tw hw 326 rfl) Via.refl e0 (Sta.ext O0.2 SX_.2.1) 11 (hb hby Lz) rfl ?_
  intro T382 X382 e382
  refine ax X382 hx 39 14 (hb hby vd) (by decide) (by decide) rfl (fun c383=>?_) (fun c383=>?_)
  ·skip
   exact absurd (dg c383) SX_.1
  ·skip
   refine ab X382 hx 15 (hb hby ve) rfl rfl rfl ?_
   refine aa X382 hx 16 (hb hby vf) rfl rfl ?_
   refine aa X382 hx 17 (hb hby vg) rfl rfl ?_
   refine ag X382 hx hZ hown (tw hw 327 rfl) (tw hw 328 rfl) (tw hw 21 rfl) (tw hw 329 rfl) (by decide) (cD3 l Z a0 hw vb i1 n h0 n0 Z0 cst fm em SX_ O0 kb z cs vs pp nl V hcs hz hnl hpp hU hn hi1 hp1) e382 (argsL:=[(.ref vb),(.int i1),(.int n)]) (rest:=[]) rfl rfl 0 20 rfl (by rw[hml];rfl) (lenOf cW rfl) (Nat.le_refl _) (by decide) (by decide) (by decide) (by decide) (hb hby vh) ?_
   intro v384 T384 L384 X384 hQ384
   obtain⟨b,k2,z2,vs2,co,rfl,N384,K384,gb,sb,hE,Vb⟩:=hQ384
   have N385:=Fr.app N0 N384
   have F386:=O0.keep K384 all0
   have F387:=V.keep K384 nin0
   have Z388:n0≤T384.heap.size:=Nat.le_trans Z0 K384.1
   have K389:=(Keep.refl h0 []).trans K384 all0
   show Go _ _ _ _ _ (mkF _ _ _ [(.ref b)])
   refine au (l':=#[.val (.ref vb),.val (.int i1),.val (.int n),.val (.ref b),.unset]) X384 hx 21 (hb hby vi) rfl rfl rfl ?_
   refine ab X384 hx 22 (hb hby vj) rfl rfl rfl ?_
   refine aa X384 hx 23 (hb hby vk) rfl rfl ?_
   refine ag X384 hx hZ hown (tw hw 343 rfl) (tw hw 28 rfl) (tw hw 21 rfl) (tw hw 29 rfl) (by decide) (cCF l Z a0 hw b n T384.heap n0 Z388 k2 z2 co cs vs2 Vb hcs hn hE) rfl (argsL:=[(.ref b),(.int n)]) (rest:=[]) rfl rfl 0 26 rfl (by rw[hml];rfl) (lenOf jg rfl) (Nat.le_refl _) (by decide) (by decide) (by decide) (by decide) (hb hby vl) ?_
   intro v390 T390 L390 X390 hQ390
   obtain⟨rfl,N390,q390⟩:=hQ390
   have N391:=Fr.app N385 N390
   show Go _ _ _ _ _ (mkF _ _ _ [(.int co)])
   rcases hE with ⟨rfl,hz1,hz2⟩|⟨rfl,hz1,hz2⟩
   ·skip
    refine ah (l':=#[.val (.ref vb),.val (.int i1),.val (.int n),.val (.ref b),.val (.int (0:Int32))]) X390 hx 28 (hb hby la) rfl rfl ?_
    refine bg X390 hx hZ hown (tw hw 344 rfl) (tw hw 6 rfl) (tw hw 7 rfl) q390 31 (hb hby lb) rfl (by decide) (by decide) ?_
    intro T392 h392 a392 g392 X392 e392 E392 A392 D392
    have ne393:vb≠a392:=Nat.ne_of_lt (by rw[g392];exact F387.lt)
    have ne394:b≠a392:=Nat.ne_of_lt (by rw[g392];exact Vb.lt)
    have ge395:n0≤a392:=by rw[g392];exact Z388
    have sz396:h0.size≤a392:=by rw[g392];exact K389.1
    have F397:=F386.ext E392
    have F398:=F387.ext E392
    have F399:=Vb.ext E392
    have K400:=K389.ext E392
    have Z401:n0≤h392.size:=Nat.le_trans Z388 E392.1
    have F402:Fld Z h392 a392 sg1 "coder" "B" (.int (0:Int32)):=D392 (Or.inr (tw hw 31 rfl)) (ty := .byte) (by decide)
    have F403:Fld Z h392 a392 sg1 "value" "[B" .null:=D392 (Or.inr (tw hw 33 rfl)) (ty:=(.array .byte)) (by decide)
    refine a8 X392 hx 32 (hb hby ld) rfl rfl ?_
    refine ab X392 hx 33 (hb hby lf) rfl rfl rfl ?_
    refine ae X392 hx 35 (hb hby lg) rfl rfl ?_
    refine aN X392 hx hZ rfl hown (tw hw 345 rfl) (tw hw 197 rfl) (tw hw 7 rfl) (tw hw 198 rfl) (by decide) (KQ l Z a0 hw a392 b h392 n0 Z401 A392 ge395 F402 F403) e392 (a:=a392) (argsL:=[(.ref b),(.int (0:Int32))]) (rest:=[(.ref a392)]) rfl rfl 1 38 rfl (by rw[hml];rfl) (lenOf et rfl) (Nat.le_refl _) (by decide) (by decide) (by decide) (by decide) (hb hby lh) ?_
    intro v404 T404 L404 X404 hQ404
    obtain⟨rfl,N404,K404,c_,v_⟩:=hQ404
    have N405:=Fr.app N391 N404
    have F406:=F397.keep K404 (allS ge395 all0)
    have F407:=F398.keep K404 (ninS ne393 nin0)
    have F408:=F399.keep K404 (ninS ne394 nin0)
    have F409:=A392.keep K404
    have Z412:n0≤T404.heap.size:=Nat.le_trans Z401 K404.1
    have K413:=K400.trans K404 (allS (Or.inr sz396) all0)
    show Go _ _ _ _ _ (mkF _ _ _ [(.ref a392)])
    exact aA X404 hx hlk hret rfl rfl rfl (hb hby lj) (by decide) (by decide) rfl ⟨a392,rfl,N405,K413,ge395,sz396,hcs,⟨sz396,F409.lt⟩,b,k2,z2,vs2,0,⟨sb,F408.lt⟩,F409,c_,v_,F408,Or.inl ⟨rfl,hz1,hz2⟩⟩
   ·skip
    refine ah (l':=#[.val (.ref vb),.val (.int i1),.val (.int n),.val (.ref b),.val (.int (1:Int32))]) X390 hx 28 (hb hby la) rfl rfl ?_
    refine bg X390 hx hZ hown (tw hw 344 rfl) (tw hw 6 rfl) (tw hw 7 rfl) q390 31 (hb hby lb) rfl (by decide) (by decide) ?_
    intro T414 h414 a414 g414 X414 e414 E414 A414 D414
    have ne415:vb≠a414:=Nat.ne_of_lt (by rw[g414];exact F387.lt)
    have ne416:b≠a414:=Nat.ne_of_lt (by rw[g414];exact Vb.lt)
    have ge417:n0≤a414:=by rw[g414];exact Z388
    have sz418:h0.size≤a414:=by rw[g414];exact K389.1
    have F419:=F386.ext E414
    have F420:=F387.ext E414
    have F421:=Vb.ext E414
    have K422:=K389.ext E414
    have Z423:n0≤h414.size:=Nat.le_trans Z388 E414.1
    have F424:Fld Z h414 a414 sg1 "coder" "B" (.int (0:Int32)):=D414 (Or.inr (tw hw 31 rfl)) (ty := .byte) (by decide)
    have F425:Fld Z h414 a414 sg1 "value" "[B" .null:=D414 (Or.inr (tw hw 33 rfl)) (ty:=(.array .byte)) (by decide)
    refine a8 X414 hx 32 (hb hby ld) rfl rfl ?_
    refine ab X414 hx 33 (hb hby lf) rfl rfl rfl ?_
    refine ae X414 hx 35 (hb hby lg) rfl rfl ?_
    refine aN X414 hx hZ rfl hown (tw hw 345 rfl) (tw hw 197 rfl) (tw hw 7 rfl) (tw hw 198 rfl) (by decide) (Pf l Z a0 hw a414 b h414 n0 Z423 A414 ge417 F424 F425) e414 (a:=a414) (argsL:=[(.ref b),(.int (1:Int32))]) (rest:=[(.ref a414)]) rfl rfl 1 38 rfl (by rw[hml];rfl) (lenOf et rfl) (Nat.le_refl _) (by decide) (by decide) (by decide) (by decide) (hb hby lh) ?_
    intro v426 T426 L426 X426 hQ426
    obtain⟨rfl,N426,K426,c_,v_⟩:=hQ426
    have N427:=Fr.app N391 N426
    have F428:=F419.keep K426 (allS ge417 all0)
    have F429:=F420.keep K426 (ninS ne415 nin0)
    have F430:=F421.keep K426 (ninS ne416 nin0)
    have F431:=A414.keep K426
    have Z434:n0≤T426.heap.size:=Nat.le_trans Z423 K426.1
    have K435:=K422.trans K426 (allS (Or.inr sz418) all0)
    show Go _ _ _ _ _ (mkF _ _ _ [(.ref a414)])
    exact aA X426 hx hlk hret rfl rfl rfl (hb hby lj) (by decide) (by decide) rfl ⟨a414,rfl,N427,K435,ge417,sz418,hcs,⟨sz418,F431.lt⟩,b,k2,z2,vs2,1,⟨sb,F430.lt⟩,F431,c_,v_,F430,Or.inr ⟨rfl,hz1,hz2⟩⟩
 ·skip
  exfalso;omega
theorem LA:dk da 0 (.iload_n 2) 1:=by decide +kernel
theorem LB:dk da 1 (.ifCond .ne 6) 3:=by decide +kernel
theorem LC:dk da 7 (.new 1) 3:=by decide +kernel
theorem vo:dk da 10 (.dup) 1:=by decide +kernel
theorem vp:dk da 11 (.aload_n 0) 1:=by decide +kernel
theorem vq:dk da 12 (.iload_n 1) 1:=by decide +kernel
theorem vr:dk da 13 (.iload_n 1) 1:=by decide +kernel
theorem vt:dk da 14 (.iload_n 2) 1:=by decide +kernel
theorem vu:dk da 15 (.iadd) 1:=by decide +kernel
theorem vw:dk da 16 (.invokestatic 232) 3:=by decide +kernel
theorem vx:dk da 19 (.iconst 0) 1:=by decide +kernel
theorem vy:dk da 20 (.invokespecial 112) 3:=by decide +kernel
theorem vz:dk da 23 (.areturn) 1:=by decide +kernel
theorem ll:plainFor (⟨sg7,"newString","([BII)Ljava/lang/String;"⟩:MethodName)=true:=plainFor_of_name (by first|(simp [plainName,overriddenIn];done)|decide +kernel)
theorem vA (vb:Addr)(i1 n:Int32)(m:MethodId):entryFrame m #[(.ref vb),(.int i1),(.int n)] 3=mkF m 0 #[.val (.ref vb),.val (.int i1),.val (.int n)] []:=by first|(simp [entryFrame,mkF,argsToLocals,Value.category];done)|rfl
theorem cLS (l:Launch)(Z:State)(a0:Array Value)(hw:HW a0 Z)(vb:Addr)(i1 n:Int32)(h0:Heap)(n0:Nat)(Z0:n0≤h0.size)(kb:ClassId)(z:Int32)(cs:List Int32)(vs:List Value)(pp nl:Nat)(V:Arv Z h0 vb kb .byte z vs (.int 0))(hcs:Cs cs)(hz:z.toInt=(nl:Int))(hnl:nl≤12)(hpp:pp+cs.length≤nl)(hU:∀j,j<cs.length→(cs.getD j 0).toInt≤255∧vs.getD (pp+j) (.int 0) = .int (bd (cs.getD j 0)))(hn:n.toInt=(cs.length:Int))(hi1:i1.toInt=(pp:Int))(hp1:1≤pp) :
  MF l Z h0 ⟨sg7,"newString","([BII)Ljava/lang/String;"⟩ jdk_43_method_47_code 3 (some (.object sg1)) ⟨3,2,30,85⟩ #[(.ref vb),(.int i1),(.int n)] (vc Z cs n0 h0):=by
 refine ai ll (vA vb i1 n) ?_
 intro p e s m below meth c T0 X0 hx hby hml hret hlk hnm hown hZ e0
 have N0:=Fr.nil n0
 have hc1:=hcs.1
 have hcl:=hcs.2.1
 have hs1:=bN hi1 hn (by omega)
 refine aa X0 hx 1 (hb hby LA) rfl rfl ?_
 refine aI X0 hx 7 4 (hb hby LB) (by decide) (by decide) rfl (fun c436=>?_) (fun c436=>?_)
 ·skip
  refine bg X0 hx hZ hown (tw hw 180 rfl) (tw hw 6 rfl) (tw hw 7 rfl) e0 10 (hb hby LC) rfl (by decide) (by decide) ?_
  intro T437 h437 a437 g437 X437 e437 E437 A437 D437
  have ne438:vb≠a437:=Nat.ne_of_lt (by rw[g437];exact V.lt)
  have ge439:n0≤a437:=by rw[g437];exact Z0
  have sz440:h0.size≤a437:=by rw[g437];exact (Keep.refl h0 []).1
  have F441:=V.ext E437
  have K442:=(Keep.refl h0 []).ext E437
  have Z443:n0≤h437.size:=Nat.le_trans Z0 E437.1
  have F444:Fld Z h437 a437 sg1 "coder" "B" (.int (0:Int32)):=D437 (Or.inr (tw hw 31 rfl)) (ty := .byte) (by decide)
  have F445:Fld Z h437 a437 sg1 "value" "[B" .null:=D437 (Or.inr (tw hw 33 rfl)) (ty:=(.array .byte)) (by decide)
  refine a8 X437 hx 11 (hb hby vo) rfl rfl ?_
  refine ab X437 hx 12 (hb hby vp) rfl rfl rfl ?_
  refine aa X437 hx 13 (hb hby vq) rfl rfl ?_
  refine aa X437 hx 14 (hb hby vr) rfl rfl ?_
  refine aa X437 hx 15 (hb hby vt) rfl rfl ?_
  refine aQ X437 hx 16 (hb hby vu) rfl ?_
  refine ag X437 hx hZ hown (tw hw 181 rfl) (tw hw 182 rfl) (tw hw 183 rfl) (tw hw 184 rfl) (by decide) (cCR l Z a0 hw vb i1 (i1+n) h437 n0 Z443 kb z vs pp cs.length F441 hi1 hs1 (by omega) (by omega) hp1) e437 (argsL:=[(.ref vb),(.int i1),(.int (i1+n))]) (rest:=[(.ref a437),(.ref a437)]) rfl rfl 2 19 rfl (by rw[hml];rfl) (lenOf cW rfl) (Nat.le_refl _) (by decide) (by decide) (by decide) (by decide) (hb hby vw) ?_
  intro v446 T446 L446 X446 hQ446
  obtain⟨b,k2,z2,rfl,N446,K446,gb,sb,hz1,Vb⟩:=hQ446
  have N447:=Fr.app N0 N446
  have nab:a437≠b:=Nat.ne_of_lt (Nat.lt_of_lt_of_le A437.lt sb)
  have sb1:=Nat.le_trans (K442).1 sb
  have F448:=F441.keep K446 nin0
  have F449:=A437.keep K446
  have F450:=F444.keep K446 nin0
  have F451:=F445.keep K446 nin0
  have Z452:n0≤T446.heap.size:=Nat.le_trans Z443 K446.1
  have K453:=K442.trans K446 all0
  show Go _ _ _ _ _ (mkF _ _ _ [(.ref b),(.ref a437),(.ref a437)])
  refine ac X446 hx (0:Int32) 20 (hb hby vx) rfl (by decide) ?_
  refine aN X446 hx hZ rfl hown (tw hw 196 rfl) (tw hw 197 rfl) (tw hw 7 rfl) (tw hw 198 rfl) (by decide) (KQ l Z a0 hw a437 b T446.heap n0 Z452 F449 ge439 F450 F451) rfl (a:=a437) (argsL:=[(.ref b),(.int (0:Int32))]) (rest:=[(.ref a437)]) rfl rfl 1 23 rfl (by rw[hml];rfl) (lenOf et rfl) (Nat.le_refl _) (by decide) (by decide) (by decide) (by decide) (hb hby vy) ?_
  intro v454 T454 L454 X454 hQ454
  obtain⟨rfl,N454,K454,c_,v_⟩:=hQ454
  have N455:=Fr.app N447 N454
  have F456:=F448.keep K454 (ninS ne438 nin0)
  have F457:=F449.keep K454
  have F460:=Vb.keep K454 (ninS (Ne.symm nab) nin0)
  have Z461:n0≤T454.heap.size:=Nat.le_trans Z452 K454.1
  have K462:=K453.trans K454 (allS (Or.inr sz440) all0)
  show Go _ _ _ _ _ (mkF _ _ _ [(.ref a437)])
  exact aA X454 hx hlk hret rfl rfl rfl (hb hby vz) (by decide) (by decide) rfl ⟨a437,rfl,N455,K462,ge439,sz440,hcs,⟨sz440,F457.lt⟩,b,k2,z2,_,0,⟨sb1,F460.lt⟩,F457,c_,v_,F460,Or.inl ⟨rfl,hz1,fun j hj=>by rw[dY vs hj];exact hU j hj⟩⟩
 ·skip
  exfalso;omega
theorem o9:dk br 0 (.aload_n 0) 1:=by decide +kernel
theorem o_:dk br 1 (.invokevirtual 505) 3:=by decide +kernel
theorem pb:dk br 4 (.istore_n 3) 1:=by decide +kernel
theorem pd:dk br 5 (.iload_n 1) 1:=by decide +kernel
theorem pe:dk br 6 (.iload_n 2) 1:=by decide +kernel
theorem pf:dk br 7 (.iload_n 3) 1:=by decide +kernel
theorem pg:dk br 8 (.invokestatic 521) 3:=by decide +kernel
theorem lm:dk br 11 (.iload_n 1) 1:=by decide +kernel
theorem ln:dk br 12 (.ifCond .ne 10) 3:=by decide +kernel
theorem lq:dk br 22 (.iload_n 2) 1:=by decide +kernel
theorem lr:dk br 23 (.iload_n 1) 1:=by decide +kernel
theorem ls:dk br 24 (.isub) 1:=by decide +kernel
theorem lu:dk br 25 (.istore 4) 2:=by decide +kernel
theorem lv:dk br 27 (.aload_n 0) 1:=by decide +kernel
theorem lw:dk br 28 (.invokevirtual 492) 3:=by decide +kernel
theorem lx:dk br 31 (.ifCond .eq 16) 3:=by decide +kernel
theorem vB:dk br 34 (.aload_n 0) 1:=by decide +kernel
theorem vC:dk br 35 (.getfield 9) 3:=by decide +kernel
theorem vD:dk br 38 (.iload_n 1) 1:=by decide +kernel
theorem vE:dk br 39 (.iload 4) 2:=by decide +kernel
theorem vF:dk br 41 (.invokestatic 685) 3:=by decide +kernel
theorem vG:dk br 44 (.goto 13) 3:=by decide +kernel
theorem vH:dk br 47 (.aload_n 0) 1:=by decide +kernel
theorem vI:dk br 48 (.getfield 9) 3:=by decide +kernel
theorem vJ:dk br 51 (.iload_n 1) 1:=by decide +kernel
theorem vK:dk br 52 (.iload 4) 2:=by decide +kernel
theorem vL:dk br 54 (.invokestatic 689) 3:=by decide +kernel
theorem ly:dk br 57 (.areturn) 1:=by decide +kernel
theorem lz:plainFor (⟨sg1,"substring","(II)Ljava/lang/String;"⟩:MethodName)=true:=plainFor_of_name (by first|(simp [plainName,overriddenIn];done)|decide +kernel)
theorem vM (a:Addr)(i1 i2:Int32)(m:MethodId):entryFrame m #[(.ref a),(.int i1),(.int i2)] 5=mkF m 0 #[.val (.ref a),.val (.int i1),.val (.int i2),.unset,.unset] []:=by first|(simp [entryFrame,mkF,argsToLocals,Value.category];done)|rfl
theorem cSu (l:Launch)(Z:State)(a0:Array Value)(hw:HW a0 Z)(a:Addr)(i1 i2:Int32)(h0:Heap)(n0:Nat)(Z0:n0≤h0.size)(cst:Int32)(fm:Option Addr)(em:Addr)(SX_:SX Z cst fm em)(O0:Old Z n0 h0)(Lw B:Nat)(cs:List Int32)(S:a3 Z h0 Lw B a cs)(pp nn:Nat)(hi1:i1.toInt=(pp:Int))(hi2:i2.toInt=((pp+nn:Nat):Int))(hp1:1≤pp)(hn1:1≤nn)(hpn:pp+nn≤cs.length) :
  MF l Z h0 ⟨sg1,"substring","(II)Ljava/lang/String;"⟩ jdk_42_method_92_code 5 (some (.object sg1)) ⟨6,3,40,130⟩ #[(.ref a),(.int i1),(.int i2)] (vc Z (aU cs pp nn) n0 h0):=by
 refine ai lz (vM a i1 i2) ?_
 intro p e s m below meth c T0 X0 hx hby hml hret hlk hnm hown hZ e0
 have N0:=Fr.nil n0
 have S0:=S
 obtain⟨hcs,haB,vb,kb,z,vs,co,hvB,E,Fc,Fv,V,hE⟩:=S
 have hc1:=hcs.1
 have hcl:=hcs.2.1
 rcases hE with ⟨rfl,hz,hE⟩|⟨rfl,hz,hE⟩
 ·skip
  refine ab X0 hx 1 (hb hby o9) rfl rfl rfl ?_
  refine ak X0 hx hZ (C:=sg1) hown (tw hw 56 rfl) (tw hw 57 rfl) (tw hw 59 rfl) (tw hw 59 rfl) (tw hw 58 rfl) (tw hw 7 rfl) (tw hw 60 rfl) (by decide) (cLn l Z a0 hw a h0 n0 Z0 cst fm em SX_ O0 Lw B cs S0) e0 (b:=a) E (argsL:=[]) (rest:=[]) rfl rfl 0 4 rfl (by rw[hml];rfl) (lenOf aF rfl) (Nat.le_refl _) (by decide) (by decide) (by decide) (by decide) (hb hby o_) ?_
  intro v463 T463 L463 X463 hQ463
  obtain⟨nl,rfl,hn,N463,q463⟩:=hQ463
  have N464:=Fr.app N0 N463
  show Go _ _ _ _ _ (mkF _ _ _ [(.int nl)])
  refine aq (l':=#[.val (.ref a),.val (.int i1),.val (.int i2),.val (.int nl),.unset]) X463 hx 5 (hb hby pb) rfl rfl ?_
  refine aa X463 hx 6 (hb hby pd) rfl rfl ?_
  refine aa X463 hx 7 (hb hby pe) rfl rfl ?_
  refine aa X463 hx 8 (hb hby pf) rfl rfl ?_
  refine ag X463 hx hZ hown (tw hw 171 rfl) (tw hw 172 rfl) (tw hw 7 rfl) (tw hw 173 rfl) (by decide) (cBE l Z a0 hw i1 i2 nl h0 n0 Z0 cst fm em SX_ O0 (by omega) (by omega) (by omega)) q463 (argsL:=[(.int i1),(.int i2),(.int nl)]) (rest:=[]) rfl rfl 0 11 rfl (by rw[hml];rfl) (lenOf ep rfl) (Nat.le_refl _) (by decide) (by decide) (by decide) (by decide) (hb hby pg) ?_
  intro v465 T465 L465 X465 hQ465
  obtain⟨rfl,N465,q465⟩:=hQ465
  have N466:=Fr.app N464 N465
  show Go _ _ _ _ _ (mkF _ _ _ [])
  refine aa X465 hx 12 (hb hby lm) rfl rfl ?_
  refine aI X465 hx 22 15 (hb hby ln) (by decide) (by decide) rfl (fun c467=>?_) (fun c467=>?_)
  ·skip
   refine aa X465 hx 23 (hb hby lq) rfl rfl ?_
   refine aa X465 hx 24 (hb hby lr) rfl rfl ?_
   refine bm X465 hx 25 (hb hby ls) rfl ?_
   have ht:(i2-i1).toInt=((aU cs pp nn).length:Int):=by
    rw[aK (by omega),aT hi2 hi1 (by omega) (by omega)]
    omega
   generalize (i2-i1)=t at ht ⊢
   refine ah (l':=#[.val (.ref a),.val (.int i1),.val (.int i2),.val (.int nl),.val (.int t)]) X465 hx 27 (hb hby lu) rfl rfl ?_
   refine ab X465 hx 28 (hb hby lv) rfl rfl rfl ?_
   refine ak X465 hx hZ (C:=sg1) hown (tw hw 106 rfl) (tw hw 107 rfl) (tw hw 109 rfl) (tw hw 109 rfl) (tw hw 108 rfl) (tw hw 7 rfl) (tw hw 110 rfl) (by decide) (q9 l Z a0 hw a h0 n0 Z0 cst fm em SX_ O0 Fc) q465 (b:=a) E (argsL:=[]) (rest:=[]) rfl rfl 0 31 rfl (by rw[hml];rfl) (lenOf b6 rfl) (Nat.le_refl _) (by decide) (by decide) (by decide) (by decide) (hb hby lw) ?_
   intro v468 T468 L468 X468 hQ468
   obtain⟨rfl,N468,q468⟩:=hQ468
   have N469:=Fr.app N466 N468
   show Go _ _ _ _ _ (mkF _ _ _ [(.int (1:Int32))])
   have ll471:((1:Int32):Int32).toInt=1:=by decide
   refine ax X468 hx 47 34 (hb hby lx) (by decide) (by decide) rfl (fun c470=>?_) (fun c470=>?_)
   ·skip
    exfalso;revert c470;decide
   ·skip
    refine ab X468 hx 35 (hb hby vB) rfl rfl rfl ?_
    refine ao X468 hx hZ hown (tw hw 32 rfl) Via.refl q468 Fv 38 (hb hby vC) rfl ?_
    intro T472 X472 e472
    refine aa X472 hx 39 (hb hby vD) rfl rfl ?_
    refine ae X472 hx 41 (hb hby vE) rfl rfl ?_
    refine ag X472 hx hZ hown (tw hw 177 rfl) (tw hw 178 rfl) (tw hw 113 rfl) (tw hw 179 rfl) (by decide) (cLS l Z a0 hw vb i1 t h0 n0 Z0 kb z (aU cs pp nn) vs pp cs.length V (gP hcs (by omega) (by omega)) hz hcl (by rw[aK (by omega)];omega) (fun j hj=>by rw[aK (by omega)] at hj;rw[bq hj];exact hE (pp+j) (by omega)) ht hi1 (by omega)) e472 (argsL:=[(.ref vb),(.int i1),(.int t)]) (rest:=[]) rfl rfl 0 44 rfl (by rw[hml];rfl) (lenOf gE rfl) (Nat.le_refl _) (by decide) (by decide) (by decide) (by decide) (hb hby vF) ?_
    intro v473 T473 L473 X473 hQ473
    obtain⟨r,rfl,N473,K473,gr,sr,hS⟩:=hQ473
    have N474:=Fr.app N469 N473
    have F475:=O0.keep K473 all0
    have F476:=E.keep K473
    have F477:=Fc.keep K473 nin0
    have F478:=Fv.keep K473 nin0
    have F479:=V.keep K473 nin0
    have Z480:n0≤T473.heap.size:=Nat.le_trans Z0 K473.1
    have K481:=(Keep.refl h0 []).trans K473 all0
    show Go _ _ _ _ _ (mkF _ _ _ [(.ref r)])
    refine ap X473 hx 57 (hb hby vG) (by decide) (by decide) ?_
    exact aA X473 hx hlk hret rfl rfl rfl (hb hby ly) (by decide) (by decide) rfl ⟨r,rfl,N474,K481,gr,sr,hS⟩
  ·skip
   exfalso;omega
 ·skip
  refine ab X0 hx 1 (hb hby o9) rfl rfl rfl ?_
  refine ak X0 hx hZ (C:=sg1) hown (tw hw 56 rfl) (tw hw 57 rfl) (tw hw 59 rfl) (tw hw 59 rfl) (tw hw 58 rfl) (tw hw 7 rfl) (tw hw 60 rfl) (by decide) (cLn l Z a0 hw a h0 n0 Z0 cst fm em SX_ O0 Lw B cs S0) e0 (b:=a) E (argsL:=[]) (rest:=[]) rfl rfl 0 4 rfl (by rw[hml];rfl) (lenOf aF rfl) (Nat.le_refl _) (by decide) (by decide) (by decide) (by decide) (hb hby o_) ?_
  intro v482 T482 L482 X482 hQ482
  obtain⟨nl,rfl,hn,N482,q482⟩:=hQ482
  have N483:=Fr.app N0 N482
  show Go _ _ _ _ _ (mkF _ _ _ [(.int nl)])
  refine aq (l':=#[.val (.ref a),.val (.int i1),.val (.int i2),.val (.int nl),.unset]) X482 hx 5 (hb hby pb) rfl rfl ?_
  refine aa X482 hx 6 (hb hby pd) rfl rfl ?_
  refine aa X482 hx 7 (hb hby pe) rfl rfl ?_
  refine aa X482 hx 8 (hb hby pf) rfl rfl ?_
  refine ag X482 hx hZ hown (tw hw 171 rfl) (tw hw 172 rfl) (tw hw 7 rfl) (tw hw 173 rfl) (by decide) (cBE l Z a0 hw i1 i2 nl h0 n0 Z0 cst fm em SX_ O0 (by omega) (by omega) (by omega)) q482 (argsL:=[(.int i1),(.int i2),(.int nl)]) (rest:=[]) rfl rfl 0 11 rfl (by rw[hml];rfl) (lenOf ep rfl) (Nat.le_refl _) (by decide) (by decide) (by decide) (by decide) (hb hby pg) ?_
  intro v484 T484 L484 X484 hQ484
  obtain⟨rfl,N484,q484⟩:=hQ484
  have N485:=Fr.app N483 N484
  show Go _ _ _ _ _ (mkF _ _ _ [])
  refine aa X484 hx 12 (hb hby lm) rfl rfl ?_
  refine aI X484 hx 22 15 (hb hby ln) (by decide) (by decide) rfl (fun c486=>?_) (fun c486=>?_)
  ·skip
   refine aa X484 hx 23 (hb hby lq) rfl rfl ?_
   refine aa X484 hx 24 (hb hby lr) rfl rfl ?_
   refine bm X484 hx 25 (hb hby ls) rfl ?_
   have ht:(i2-i1).toInt=((aU cs pp nn).length:Int):=by
    rw[aK (by omega),aT hi2 hi1 (by omega) (by omega)]
    omega
   generalize (i2-i1)=t at ht ⊢
   refine ah (l':=#[.val (.ref a),.val (.int i1),.val (.int i2),.val (.int nl),.val (.int t)]) X484 hx 27 (hb hby lu) rfl rfl ?_
   refine ab X484 hx 28 (hb hby lv) rfl rfl rfl ?_
   refine ak X484 hx hZ (C:=sg1) hown (tw hw 106 rfl) (tw hw 107 rfl) (tw hw 109 rfl) (tw hw 109 rfl) (tw hw 108 rfl) (tw hw 7 rfl) (tw hw 110 rfl) (by decide) (rc l Z a0 hw a h0 n0 Z0 cst fm em SX_ O0 Fc) q484 (b:=a) E (argsL:=[]) (rest:=[]) rfl rfl 0 31 rfl (by rw[hml];rfl) (lenOf b6 rfl) (Nat.le_refl _) (by decide) (by decide) (by decide) (by decide) (hb hby lw) ?_
   intro v487 T487 L487 X487 hQ487
   obtain⟨rfl,N487,q487⟩:=hQ487
   have N488:=Fr.app N485 N487
   show Go _ _ _ _ _ (mkF _ _ _ [(.int (0:Int32))])
   have ll490:((0:Int32):Int32).toInt=0:=by decide
   refine ax X487 hx 47 34 (hb hby lx) (by decide) (by decide) rfl (fun c489=>?_) (fun c489=>?_)
   ·skip
    refine ab X487 hx 48 (hb hby vH) rfl rfl rfl ?_
    refine ao X487 hx hZ hown (tw hw 32 rfl) Via.refl q487 Fv 51 (hb hby vI) rfl ?_
    intro T491 X491 e491
    refine aa X491 hx 52 (hb hby vJ) rfl rfl ?_
    refine ae X491 hx 54 (hb hby vK) rfl rfl ?_
    refine ag X491 hx hZ hown (tw hw 323 rfl) (tw hw 324 rfl) (tw hw 21 rfl) (tw hw 325 rfl) (by decide) (cUS l Z a0 hw vb i1 t h0 n0 Z0 cst fm em SX_ O0 kb z (aU cs pp nn) vs pp cs.length V (gP hcs (by omega) (by omega)) hz hcl (by rw[aK (by omega)];omega) (fun j hj=>by rw[aK (by omega)] at hj;rw[bq hj];exact hE (pp+j) (by omega)) ht hi1 (by omega)) e491 (argsL:=[(.ref vb),(.int i1),(.int t)]) (rest:=[]) rfl rfl 0 57 rfl (by rw[hml];rfl) (lenOf gE rfl) (Nat.le_refl _) (by decide) (by decide) (by decide) (by decide) (hb hby vL) ?_
    intro v492 T492 L492 X492 hQ492
    obtain⟨r,rfl,N492,K492,gr,sr,hS⟩:=hQ492
    have N493:=Fr.app N488 N492
    have F494:=O0.keep K492 all0
    have F495:=E.keep K492
    have F496:=Fc.keep K492 nin0
    have F497:=Fv.keep K492 nin0
    have F498:=V.keep K492 nin0
    have Z499:n0≤T492.heap.size:=Nat.le_trans Z0 K492.1
    have K500:=(Keep.refl h0 []).trans K492 all0
    show Go _ _ _ _ _ (mkF _ _ _ [(.ref r)])
    exact aA X492 hx hlk hret rfl rfl rfl (hb hby ly) (by decide) (by decide) rfl ⟨r,rfl,N493,K500,gr,sr,hS⟩
   ·skip
    exfalso;revert c489;decide
  ·skip
   exfalso;omega
def LD (k:Int32)(n0:Nat)(h0:Heap)(v:Option Value)(h:Heap)(L:List Loc):Prop:=v=some (.int k)∧Fr n0 L∧h=h0
theorem vN (b:Addr)(m:MethodId):entryFrame m #[(.ref b)] 1=mkF m 0 #[.val (.ref b)] []:=by first|(simp [entryFrame,mkF,argsToLocals,Value.category];done)|rfl
theorem cLF (l:Launch)(Z:State)(a0:Array Value)(hw:HW a0 Z)(b:Addr)(h0:Heap)(n0:Nat)(Z0:n0≤h0.size)(cst:Int32)(fm:Option Addr)(em:Addr)(SX_:SX Z cst fm em)(O0:Old Z n0 h0)(pv:Addr)(kp:ClassId)(z k:Int32)(vs:List Value)(E:Exa Z h0 b sg1)(Fc:Fld Z h0 b sg1 "coder" "B" (.int 0))(Fv:Fld Z h0 b sg1 "value" "[B" (.ref pv))(V:Arv Z h0 pv kp .byte z vs (.int 0))(hk:z>>>((0:Int32)&&&31)=k) :
  MF l Z h0 ⟨sg1,"length","()I"⟩ jdk_42_method_54_code 1 (some .int) ⟨1,0,0,14⟩ #[(.ref b)] (LD k n0 h0):=by
 refine ai gM (vN b) ?_
 intro p e s m below meth c T0 X0 hx hby hml hret hlk hnm hown hZ e0
 have N0:=Fr.nil n0
 refine ab X0 hx 1 (hb hby j_) rfl rfl rfl ?_
 refine ao X0 hx hZ hown (tw hw 32 rfl) Via.refl e0 Fv 4 (hb hby kf) rfl ?_
 intro T501 X501 e501
 refine aH X501 hx hZ e501 V 5 (hb hby kg) rfl ?_
 refine ab X501 hx 6 (hb hby kh) rfl rfl rfl ?_
 refine ak X501 hx hZ (C:=sg1) hown (tw hw 61 rfl) (tw hw 62 rfl) (tw hw 64 rfl) (tw hw 64 rfl) (tw hw 63 rfl) (tw hw 7 rfl) (tw hw 65 rfl) (by decide) (gK l Z a0 hw b h0 n0 Z0 cst fm em SX_ O0 Fc) e501 (b:=b) E (argsL:=[]) (rest:=[(.int z)]) rfl rfl 1 9 rfl (by rw[hml];rfl) (lenOf a9 rfl) (Nat.le_refl _) (by decide) (by decide) (by decide) (by decide) (hb hby ki) ?_
 intro v502 T502 L502 X502 hQ502
 obtain⟨rfl,N502,q502⟩:=hQ502
 have N503:=Fr.app N0 N502
 show Go _ _ _ _ _ (mkF _ _ _ [(.int (0:Int32)),(.int z)])
 refine cS X502 hx 10 (hb hby kj) rfl ?_
 exact ay X502 hx hlk hret (hb hby hI) (by decide) (by decide) q502 ⟨congrArg (fun x=>some (Value.int x)) hk,N503,rfl⟩
theorem ph:dk bC 0 (.iconst 0) 1:=by decide +kernel
theorem pj:dk bC 1 (.istore 5) 2:=by decide +kernel
theorem pk:dk bC 3 (.iload 4) 2:=by decide +kernel
theorem pl:dk bC 5 (.bipush 7) 2:=by decide +kernel
theorem pm:dk bC 7 (.if_icmp .le 63) 3:=by decide +kernel
theorem fu:dk bC 70 (.iload 5) 2:=by decide +kernel
theorem fw:dk bC 72 (.iload 4) 2:=by decide +kernel
theorem fx:dk bC 74 (.if_icmp .ge 27) 3:=by decide +kernel
theorem hO:dk bC 77 (.aload_n 0) 1:=by decide +kernel
theorem hR:dk bC 78 (.iload_n 1) 1:=by decide +kernel
theorem hT:dk bC 79 (.iload 5) 2:=by decide +kernel
theorem hV:dk bC 81 (.iadd) 1:=by decide +kernel
theorem hX:dk bC 82 (.baload) 1:=by decide +kernel
theorem hY:dk bC 83 (.aload_n 2) 1:=by decide +kernel
theorem h8:dk bC 84 (.iload_n 3) 1:=by decide +kernel
theorem h9:dk bC 85 (.iload 5) 2:=by decide +kernel
theorem h_:dk bC 87 (.iadd) 1:=by decide +kernel
theorem ia:dk bC 88 (.baload) 1:=by decide +kernel
theorem ib:dk bC 89 (.if_icmp .eq 6) 3:=by decide +kernel
theorem lA:dk bC 92 (.iload 5) 2:=by decide +kernel
theorem lB:dk bC 94 (.ireturn) 1:=by decide +kernel
theorem lC:dk bC 95 (.iinc 5 1) 3:=by decide +kernel
theorem lD:dk bC 98 (.goto (-28)) 3:=by decide +kernel
theorem nP:dk bC 101 (.iconst (-1)) 1:=by decide +kernel
theorem nQ:dk bC 102 (.ireturn) 1:=by decide +kernel
theorem gS:plainFor (⟨"jdk/internal/util/ArraysSupport","mismatch","([BI[BII)I"⟩:MethodName)=true:=plainFor_of_name (by first|(simp [plainName,overriddenIn];done)|decide +kernel)
def LE (n0:Nat)(h0:Heap)(v:Option Value)(h:Heap)(L:List Loc):Prop:=v=some (.int (-1))∧Fr n0 L∧h=h0
theorem vO (vb pv:Addr)(m:MethodId):entryFrame m #[(.ref vb),(.int 0),(.ref pv),(.int 0),(.int 1)] 8=mkF m 0 #[.val (.ref vb),.val (.int 0),.val (.ref pv),.val (.int 0),.val (.int 1),.unset,.unset,.unset] []:=by first|(simp [entryFrame,mkF,argsToLocals,Value.category];done)|rfl
theorem cM1 (l:Launch)(Z:State)(a0:Array Value)(hw:HW a0 Z)(vb pv:Addr)(h0:Heap)(n0:Nat)(Z0:n0≤h0.size)(kb kp:ClassId)(z:Int32)(vs:List Value)(V:Arv Z h0 vb kb .byte z vs (.int 0))(Vp:Arv Z h0 pv kp .byte 1 [(.int 47)] (.int 0))(hz:0<z.toInt)(g0:vs.getD 0 (.int 0) = .int 47) :
  MF l Z h0 ⟨"jdk/internal/util/ArraysSupport","mismatch","([BI[BII)I"⟩ jdk_48_method_14_code 8 (some .int) ⟨0,0,0,0⟩ #[(.ref vb),(.int 0),(.ref pv),(.int 0),(.int 1)] (LE n0 h0):=by
 refine ai gS (vO vb pv) ?_
 intro p e s m below meth c T0 X0 hx hby hml hret hlk hnm hown hZ e0
 have N0:=Fr.nil n0
 refine ac X0 hx (0:Int32) 1 (hb hby ph) rfl (by decide) ?_
 refine ah (l':=#[.val (.ref vb),.val (.int (0:Int32)),.val (.ref pv),.val (.int (0:Int32)),.val (.int (1:Int32)),.val (.int (0:Int32)),.unset,.unset]) X0 hx 3 (hb hby pj) rfl rfl ?_
 refine ae X0 hx 5 (hb hby pk) rfl rfl ?_
 refine aj X0 hx (7:Int32) 7 (hb hby pl) rfl (by decide) ?_
 have ll505:((7:Int32):Int32).toInt=7:=by decide
 have ll506:((1:Int32):Int32).toInt=1:=by decide
 refine a7 X0 hx 70 10 (hb hby pm) (by decide) (by decide) rfl (fun c504=>?_) (fun c504=>?_)
 ·skip
  refine ae X0 hx 72 (hb hby fu) rfl rfl ?_
  refine ae X0 hx 74 (hb hby fw) rfl rfl ?_
  have ll508:((1:Int32):Int32).toInt=1:=by decide
  have ll509:((0:Int32):Int32).toInt=0:=by decide
  refine am X0 hx 101 77 (hb hby fx) (by decide) (by decide) rfl (fun c507=>?_) (fun c507=>?_)
  ·skip
   exfalso;revert c507;decide
  ·skip
   refine ab X0 hx 78 (hb hby hO) rfl rfl rfl ?_
   refine aa X0 hx 79 (hb hby hR) rfl rfl ?_
   refine ae X0 hx 81 (hb hby hT) rfl rfl ?_
   refine aL X0 hx (0:Int32) (by decide) 82 (hb hby hV) rfl ?_
   refine aW X0 hx hZ e0 V (by decide) (by rw[show (0:Int32).toInt=0 by decide];exact hz) (cp (show (0:Int32).toInt=((0:Nat):Int) by decide) g0) 83 (hb hby hX) rfl ?_
   refine ab X0 hx 84 (hb hby hY) rfl rfl rfl ?_
   refine aa X0 hx 85 (hb hby h8) rfl rfl ?_
   refine ae X0 hx 87 (hb hby h9) rfl rfl ?_
   refine aL X0 hx (0:Int32) (by decide) 88 (hb hby h_) rfl ?_
   refine aW X0 hx hZ e0 Vp (by decide) (by decide) (by rw[show ((0:Int32):Int32).toNatClampNeg=0 by decide]<;>rfl) 89 (hb hby ia) rfl ?_
   have ll511:((47:Int32):Int32).toInt=47:=by decide
   have ll512:((47:Int32):Int32).toInt=47:=by decide
   refine bH X0 hx 95 92 (hb hby ib) (by decide) (by decide) rfl (fun c510=>?_) (fun c510=>?_)
   ·skip
    refine aw X0 hx (w:=(1:Int32)) (1:Int32) (by decide) (l':=#[.val (.ref vb),.val (.int (0:Int32)),.val (.ref pv),.val (.int (0:Int32)),.val (.int (1:Int32)),.val (.int (1:Int32)),.unset,.unset]) 98 (hb hby lC) rfl rfl (by decide) rfl ?_
    refine ap X0 hx 70 (hb hby lD) (by decide) (by decide) ?_
    refine ae X0 hx 72 (hb hby fu) rfl rfl ?_
    refine ae X0 hx 74 (hb hby fw) rfl rfl ?_
    have ll514:((1:Int32):Int32).toInt=1:=by decide
    have ll515:((1:Int32):Int32).toInt=1:=by decide
    refine am X0 hx 101 77 (hb hby fx) (by decide) (by decide) rfl (fun c513=>?_) (fun c513=>?_)
    ·skip
     refine ac X0 hx (-1:Int32) 102 (hb hby nP) rfl (by decide) ?_
     exact ay X0 hx hlk hret (hb hby nQ) (by decide) (by decide) e0 ⟨rfl,N0,rfl⟩
    ·skip
     exfalso;revert c513;decide
   ·skip
    exfalso;revert c510;decide
 ·skip
  exfalso;revert c504;decide
def LF (n0:Nat)(h0:Heap)(v:Option Value)(h:Heap)(L:List Loc):Prop:=∃r:Int32,v=some (.int r)∧0≤r.toInt∧Fr n0 L∧h=h0
theorem vP (vb:Addr)(j:Int32)(pv:Addr)(m:MethodId):entryFrame m #[(.ref vb),(.int j),(.ref pv),(.int 0),(.int 2)] 8=mkF m 0 #[.val (.ref vb),.val (.int j),.val (.ref pv),.val (.int 0),.val (.int 2),.unset,.unset,.unset] []:=by first|(simp [entryFrame,mkF,argsToLocals,Value.category];done)|rfl
theorem cM2 (l:Launch)(Z:State)(a0:Array Value)(hw:HW a0 Z)(vb:Addr)(j:Int32)(pv:Addr)(h0:Heap)(n0:Nat)(Z0:n0≤h0.size)(kb kp:ClassId)(z x y:Int32)(vs:List Value)(i:Nat)(V:Arv Z h0 vb kb .byte z vs (.int 0))(Vp:Arv Z h0 pv kp .byte 2 [(.int 46),(.int 46)] (.int 0))(hj:j.toInt=(i:Int))(hi:i≤100)(hz:((i+1:Nat):Int)<z.toInt)(hx0:0≤x.toInt)(hx1:x.toInt≤255)(hy0:0≤y.toInt)(hy1:y.toInt≤255)(g0:vs.getD i (.int 0) = .int (bd x))(g1:vs.getD (i+1) (.int 0) = .int (bd y))(hne:¬(x.toInt=46∧y.toInt=46)) :
  MF l Z h0 ⟨"jdk/internal/util/ArraysSupport","mismatch","([BI[BII)I"⟩ jdk_48_method_14_code 8 (some .int) ⟨0,0,0,0⟩ #[(.ref vb),(.int j),(.ref pv),(.int 0),(.int 2)] (LF n0 h0):=by
 refine ai gS (vP vb j pv) ?_
 intro p e s m below meth c T0 X0 hx hby hml hret hlk hnm hown hZ e0
 have N0:=Fr.nil n0
 have hj0:=bN hj (show (0:Int32).toInt=((0:Nat):Int) by decide) (by omega)
 have hj1:=aC hj (by omega)
 have hx3:=(fq hx0 hx1).2.2.1
 have hy3:=(fq hy0 hy1).2.2.1
 refine ac X0 hx (0:Int32) 1 (hb hby ph) rfl (by decide) ?_
 refine ah (l':=#[.val (.ref vb),.val (.int j),.val (.ref pv),.val (.int (0:Int32)),.val (.int (2:Int32)),.val (.int (0:Int32)),.unset,.unset]) X0 hx 3 (hb hby pj) rfl rfl ?_
 refine ae X0 hx 5 (hb hby pk) rfl rfl ?_
 refine aj X0 hx (7:Int32) 7 (hb hby pl) rfl (by decide) ?_
 have ll517:((7:Int32):Int32).toInt=7:=by decide
 have ll518:((2:Int32):Int32).toInt=2:=by decide
 refine a7 X0 hx 70 10 (hb hby pm) (by decide) (by decide) rfl (fun c516=>?_) (fun c516=>?_)
 ·skip
  refine ae X0 hx 72 (hb hby fu) rfl rfl ?_
  refine ae X0 hx 74 (hb hby fw) rfl rfl ?_
  have ll520:((2:Int32):Int32).toInt=2:=by decide
  have ll521:((0:Int32):Int32).toInt=0:=by decide
  refine am X0 hx 101 77 (hb hby fx) (by decide) (by decide) rfl (fun c519=>?_) (fun c519=>?_)
  ·skip
   exfalso;revert c519;decide
  ·skip
   refine ab X0 hx 78 (hb hby hO) rfl rfl rfl ?_
   refine aa X0 hx 79 (hb hby hR) rfl rfl ?_
   refine ae X0 hx 81 (hb hby hT) rfl rfl ?_
   refine aQ X0 hx 82 (hb hby hV) rfl ?_
   refine aW X0 hx hZ e0 V (by omega) (by omega) (cp hj0 g0) 83 (hb hby hX) rfl ?_
   refine ab X0 hx 84 (hb hby hY) rfl rfl rfl ?_
   refine aa X0 hx 85 (hb hby h8) rfl rfl ?_
   refine ae X0 hx 87 (hb hby h9) rfl rfl ?_
   refine aL X0 hx (0:Int32) (by decide) 88 (hb hby h_) rfl ?_
   refine aW X0 hx hZ e0 Vp (by decide) (by decide) (by rw[show ((0:Int32):Int32).toNatClampNeg=0 by decide]<;>rfl) 89 (hb hby ia) rfl ?_
   have ll523:((46:Int32):Int32).toInt=46:=by decide
   refine bH X0 hx 95 92 (hb hby ib) (by decide) (by decide) rfl (fun c522=>?_) (fun c522=>?_)
   ·skip
    refine aw X0 hx (w:=(1:Int32)) (1:Int32) (by decide) (l':=#[.val (.ref vb),.val (.int j),.val (.ref pv),.val (.int (0:Int32)),.val (.int (2:Int32)),.val (.int (1:Int32)),.unset,.unset]) 98 (hb hby lC) rfl rfl (by decide) rfl ?_
    refine ap X0 hx 70 (hb hby lD) (by decide) (by decide) ?_
    refine ae X0 hx 72 (hb hby fu) rfl rfl ?_
    refine ae X0 hx 74 (hb hby fw) rfl rfl ?_
    have ll525:((2:Int32):Int32).toInt=2:=by decide
    have ll526:((1:Int32):Int32).toInt=1:=by decide
    refine am X0 hx 101 77 (hb hby fx) (by decide) (by decide) rfl (fun c524=>?_) (fun c524=>?_)
    ·skip
     exfalso;revert c524;decide
    ·skip
     refine ab X0 hx 78 (hb hby hO) rfl rfl rfl ?_
     refine aa X0 hx 79 (hb hby hR) rfl rfl ?_
     refine ae X0 hx 81 (hb hby hT) rfl rfl ?_
     refine aQ X0 hx 82 (hb hby hV) rfl ?_
     refine aW X0 hx hZ e0 V (by omega) (by omega) (cp hj1 g1) 83 (hb hby hX) rfl ?_
     refine ab X0 hx 84 (hb hby hY) rfl rfl rfl ?_
     refine aa X0 hx 85 (hb hby h8) rfl rfl ?_
     refine ae X0 hx 87 (hb hby h9) rfl rfl ?_
     refine aL X0 hx (1:Int32) (by decide) 88 (hb hby h_) rfl ?_
     refine aW X0 hx hZ e0 Vp (by decide) (by decide) (by rw[show ((1:Int32):Int32).toNatClampNeg=1 by decide]<;>rfl) 89 (hb hby ia) rfl ?_
     have ll528:((46:Int32):Int32).toInt=46:=by decide
     refine bH X0 hx 95 92 (hb hby ib) (by decide) (by decide) rfl (fun c527=>?_) (fun c527=>?_)
     ·skip
      exfalso;omega
     ·skip
      refine ae X0 hx 94 (hb hby lA) rfl rfl ?_
      exact ay X0 hx hlk hret (hb hby lB) (by decide) (by decide) e0 ⟨_,rfl,by decide,N0,rfl⟩
   ·skip
    refine ae X0 hx 94 (hb hby lA) rfl rfl ?_
    exact ay X0 hx hlk hret (hb hby lB) (by decide) (by decide) e0 ⟨_,rfl,by decide,N0,rfl⟩
 ·skip
  exfalso;revert c516;decide
theorem ji:dk aJ 0 (.iload_n 2) 1:=by decide +kernel
theorem jj:dk aJ 1 (.ifCond .lt 16) 3:=by decide +kernel
theorem jk:dk aJ 4 (.iload_n 2) 1:=by decide +kernel
theorem jl:dk aJ 5 (.aload_n 0) 1:=by decide +kernel
theorem jm:dk aJ 6 (.invokevirtual 505) 3:=by decide +kernel
theorem jn:dk aJ 9 (.aload_n 1) 1:=by decide +kernel
theorem fy:dk aJ 10 (.invokevirtual 505) 3:=by decide +kernel
theorem fz:dk aJ 13 (.isub) 1:=by decide +kernel
theorem fA:dk aJ 14 (.if_icmp .le 5) 3:=by decide +kernel
theorem fB:dk aJ 19 (.aload_n 0) 1:=by decide +kernel
theorem fC:dk aJ 20 (.getfield 9) 3:=by decide +kernel
theorem fD:dk aJ 23 (.astore_n 3) 1:=by decide +kernel
theorem fE:dk aJ 24 (.aload_n 1) 1:=by decide +kernel
theorem fF:dk aJ 25 (.getfield 9) 3:=by decide +kernel
theorem fG:dk aJ 28 (.astore 4) 2:=by decide +kernel
theorem fH:dk aJ 30 (.iconst 0) 1:=by decide +kernel
theorem fI:dk aJ 31 (.istore 5) 2:=by decide +kernel
theorem fJ:dk aJ 33 (.aload 4) 2:=by decide +kernel
theorem fK:dk aJ 35 (.arraylength) 1:=by decide +kernel
theorem fL:dk aJ 36 (.istore 6) 2:=by decide +kernel
theorem fM:dk aJ 38 (.aload_n 0) 1:=by decide +kernel
theorem fN:dk aJ 39 (.invokevirtual 335) 3:=by decide +kernel
theorem fO:dk aJ 42 (.istore 7) 2:=by decide +kernel
theorem fP:dk aJ 44 (.iload 7) 2:=by decide +kernel
theorem fQ:dk aJ 46 (.aload_n 1) 1:=by decide +kernel
theorem fR:dk aJ 47 (.invokevirtual 335) 3:=by decide +kernel
theorem fS:dk aJ 50 (.if_icmp .ne 32) 3:=by decide +kernel
theorem lE:dk aJ 53 (.iload 7) 2:=by decide +kernel
theorem lF:dk aJ 55 (.iconst 1) 1:=by decide +kernel
theorem lG:dk aJ 56 (.if_icmp .ne 7) 3:=by decide +kernel
theorem lH:dk aJ 63 (.aload_n 3) 1:=by decide +kernel
theorem lI:dk aJ 64 (.iload_n 2) 1:=by decide +kernel
theorem lJ:dk aJ 65 (.aload 4) 2:=by decide +kernel
theorem lK:dk aJ 67 (.iconst 0) 1:=by decide +kernel
theorem lL:dk aJ 68 (.iload 6) 2:=by decide +kernel
theorem lM:dk aJ 70 (.invokestatic 607) 3:=by decide +kernel
theorem lN:dk aJ 73 (.ifCond .ge 7) 3:=by decide +kernel
theorem vQ:dk aJ 76 (.iconst 1) 1:=by decide +kernel
theorem vR:dk aJ 77 (.goto 4) 3:=by decide +kernel
theorem vS:dk aJ 80 (.iconst 0) 1:=by decide +kernel
theorem lO:dk aJ 81 (.ireturn) 1:=by decide +kernel
theorem lP:dk aJ 82 (.iload 7) 2:=by decide +kernel
theorem lQ:dk aJ 84 (.ifCond .ne 5) 3:=by decide +kernel
theorem fT:dk aJ 89 (.iload 5) 2:=by decide +kernel
theorem fU:dk aJ 91 (.iload 6) 2:=by decide +kernel
theorem fV:dk aJ 93 (.if_icmp .ge 28) 3:=by decide +kernel
theorem ic:dk aJ 96 (.aload_n 3) 1:=by decide +kernel
theorem ie:dk aJ 97 (.iload_n 2) 1:=by decide +kernel
theorem ig:dk aJ 98 (.iinc 2 1) 3:=by decide +kernel
theorem fW:dk aJ 101 (.invokestatic 360) 3:=by decide +kernel
theorem fX:dk aJ 104 (.aload 4) 2:=by decide +kernel
theorem fY:dk aJ 106 (.iload 5) 2:=by decide +kernel
theorem fZ:dk aJ 108 (.iinc 5 1) 3:=by decide +kernel
theorem f0:dk aJ 111 (.baload) 1:=by decide +kernel
theorem f4:dk aJ 112 (.sipush 255) 3:=by decide +kernel
theorem f5:dk aJ 115 (.iand) 1:=by decide +kernel
theorem f6:dk aJ 116 (.if_icmp .eq (-27)) 3:=by decide +kernel
theorem jo:dk aJ 119 (.iconst 0) 1:=by decide +kernel
theorem jp:dk aJ 120 (.ireturn) 1:=by decide +kernel
theorem nR:dk aJ 121 (.iconst 1) 1:=by decide +kernel
theorem nS:dk aJ 122 (.ireturn) 1:=by decide +kernel
theorem gT:plainFor (⟨sg1,"startsWith","(Ljava/lang/String;I)Z"⟩:MethodName)=true:=plainFor_of_name (by first|(simp [plainName,overriddenIn];done)|decide +kernel)
def vT (n0:Nat)(h0:Heap)(v:Option Value)(h:Heap)(L:List Loc):Prop:=v=some (.int 1)∧Fr n0 L∧h=h0
theorem nT (a b:Addr)(m:MethodId):entryFrame m #[(.ref a),(.ref b),(.int 0)] 8=mkF m 0 #[.val (.ref a),.val (.ref b),.val (.int 0),.unset,.unset,.unset,.unset,.unset] []:=by first|(simp [entryFrame,mkF,argsToLocals,Value.category];done)|rfl
theorem Pg (l:Launch)(Z:State)(a0:Array Value)(hw:HW a0 Z)(a b:Addr)(h0:Heap)(n0:Nat)(Z0:n0≤h0.size)(cst:Int32)(fm:Option Addr)(em:Addr)(SX_:SX Z cst fm em)(O0:Old Z n0 h0)(Lw B:Nat)(cs:List Int32)(S:a3 Z h0 Lw B a cs)(pv:Addr)(kp:ClassId)(Ep:Exa Z h0 b sg1)(Fcp:Fld Z h0 b sg1 "coder" "B" (.int 0))(Fvp:Fld Z h0 b sg1 "value" "[B" (.ref pv))(Vp:Arv Z h0 pv kp .byte 1 [(.int 47)] (.int 0))(h0_:(cs.getD 0 0).toInt=47) :
  MF l Z h0 ⟨sg1,"startsWith","(Ljava/lang/String;I)Z"⟩ jdk_42_method_75_code 8 (some .boolean) ⟨2,0,0,34⟩ #[(.ref a),(.ref b),(.int 0)] (vT n0 h0):=by
 refine ai gT (nT a b) ?_
 intro p e s m below meth c T0 X0 hx hby hml hret hlk hnm hown hZ e0
 have N0:=Fr.nil n0
 have S0:=S
 obtain⟨hcs,haB,vb,kb,z,vs,co,hvB,E,Fc,Fv,V,hE⟩:=S
 have hc1:=hcs.1
 have hcl:=hcs.2.1
 rcases hE with ⟨rfl,hz,hE⟩|⟨rfl,hz,hE⟩
 ·skip
  have h47:((47:Int32)&&&(255:Int32)).toInt=47:=by decide
  have e47:cs.getD 0 0=47:=cF (by rw[h0_];decide)
  refine aa X0 hx 1 (hb hby ji) rfl rfl ?_
  have ll530:((0:Int32):Int32).toInt=0:=by decide
  refine aB X0 hx 17 4 (hb hby jj) (by decide) (by decide) rfl (fun c529=>?_) (fun c529=>?_)
  ·skip
   exfalso;revert c529;decide
  ·skip
   refine aa X0 hx 5 (hb hby jk) rfl rfl ?_
   refine ab X0 hx 6 (hb hby jl) rfl rfl rfl ?_
   refine ak X0 hx hZ (C:=sg1) hown (tw hw 56 rfl) (tw hw 57 rfl) (tw hw 59 rfl) (tw hw 59 rfl) (tw hw 58 rfl) (tw hw 7 rfl) (tw hw 60 rfl) (by decide) (cLn l Z a0 hw a h0 n0 Z0 cst fm em SX_ O0 Lw B cs S0) e0 (b:=a) E (argsL:=[]) (rest:=[(.int (0:Int32))]) rfl rfl 1 9 rfl (by rw[hml];rfl) (lenOf aF rfl) (Nat.le_refl _) (by decide) (by decide) (by decide) (by decide) (hb hby jm) ?_
   intro v531 T531 L531 X531 hQ531
   obtain⟨nl,rfl,hn,N531,q531⟩:=hQ531
   have N532:=Fr.app N0 N531
   show Go _ _ _ _ _ (mkF _ _ _ [(.int nl),(.int (0:Int32))])
   have hs1:=aT hn (y:=(1:Int32)) (b:=1) (by decide) (by omega) (by omega)
   refine ab X531 hx 10 (hb hby jn) rfl rfl rfl ?_
   refine ak X531 hx hZ (C:=sg1) hown (tw hw 56 rfl) (tw hw 57 rfl) (tw hw 59 rfl) (tw hw 59 rfl) (tw hw 58 rfl) (tw hw 7 rfl) (tw hw 60 rfl) (by decide) (cLF l Z a0 hw b h0 n0 Z0 cst fm em SX_ O0 pv kp 1 1 _ Ep Fcp Fvp Vp (by decide)) q531 (b:=b) Ep (argsL:=[]) (rest:=[(.int nl),(.int (0:Int32))]) rfl rfl 2 13 rfl (by rw[hml];rfl) (lenOf aF rfl) (Nat.le_refl _) (by decide) (by decide) (by decide) (by decide) (hb hby fy) ?_
   intro v533 T533 L533 X533 hQ533
   obtain⟨rfl,N533,q533⟩:=hQ533
   have N534:=Fr.app N532 N533
   show Go _ _ _ _ _ (mkF _ _ _ [(.int (1:Int32)),(.int nl),(.int (0:Int32))])
   refine bm X533 hx 14 (hb hby fz) rfl ?_
   have ll536:((0:Int32):Int32).toInt=0:=by decide
   refine a7 X533 hx 19 17 (hb hby fA) (by decide) (by decide) rfl (fun c535=>?_) (fun c535=>?_)
   ·skip
    refine ab X533 hx 20 (hb hby fB) rfl rfl rfl ?_
    refine ao X533 hx hZ hown (tw hw 32 rfl) Via.refl q533 Fv 23 (hb hby fC) rfl ?_
    intro T537 X537 e537
    refine au (l':=#[.val (.ref a),.val (.ref b),.val (.int (0:Int32)),.val (.ref vb),.unset,.unset,.unset,.unset]) X537 hx 24 (hb hby fD) rfl rfl rfl ?_
    refine ab X537 hx 25 (hb hby fE) rfl rfl rfl ?_
    refine ao X537 hx hZ hown (tw hw 32 rfl) Via.refl e537 Fvp 28 (hb hby fF) rfl ?_
    intro T538 X538 e538
    refine aE (l':=#[.val (.ref a),.val (.ref b),.val (.int (0:Int32)),.val (.ref vb),.val (.ref pv),.unset,.unset,.unset]) X538 hx 30 (hb hby fG) rfl rfl rfl ?_
    refine ac X538 hx (0:Int32) 31 (hb hby fH) rfl (by decide) ?_
    refine ah (l':=#[.val (.ref a),.val (.ref b),.val (.int (0:Int32)),.val (.ref vb),.val (.ref pv),.val (.int (0:Int32)),.unset,.unset]) X538 hx 33 (hb hby fI) rfl rfl ?_
    refine al X538 hx 35 (hb hby fJ) rfl rfl rfl ?_
    refine aH X538 hx hZ e538 Vp 36 (hb hby fK) rfl ?_
    refine ah (l':=#[.val (.ref a),.val (.ref b),.val (.int (0:Int32)),.val (.ref vb),.val (.ref pv),.val (.int (0:Int32)),.val (.int (1:Int32)),.unset]) X538 hx 38 (hb hby fL) rfl rfl ?_
    refine ab X538 hx 39 (hb hby fM) rfl rfl rfl ?_
    refine ak X538 hx hZ (C:=sg1) hown (tw hw 61 rfl) (tw hw 62 rfl) (tw hw 64 rfl) (tw hw 64 rfl) (tw hw 63 rfl) (tw hw 7 rfl) (tw hw 65 rfl) (by decide) (gK l Z a0 hw a h0 n0 Z0 cst fm em SX_ O0 Fc) e538 (b:=a) E (argsL:=[]) (rest:=[]) rfl rfl 0 42 rfl (by rw[hml];rfl) (lenOf a9 rfl) (Nat.le_refl _) (by decide) (by decide) (by decide) (by decide) (hb hby fN) ?_
    intro v539 T539 L539 X539 hQ539
    obtain⟨rfl,N539,q539⟩:=hQ539
    have N540:=Fr.app N534 N539
    show Go _ _ _ _ _ (mkF _ _ _ [(.int (0:Int32))])
    refine ah (l':=#[.val (.ref a),.val (.ref b),.val (.int (0:Int32)),.val (.ref vb),.val (.ref pv),.val (.int (0:Int32)),.val (.int (1:Int32)),.val (.int (0:Int32))]) X539 hx 44 (hb hby fO) rfl rfl ?_
    refine ae X539 hx 46 (hb hby fP) rfl rfl ?_
    refine ab X539 hx 47 (hb hby fQ) rfl rfl rfl ?_
    refine ak X539 hx hZ (C:=sg1) hown (tw hw 61 rfl) (tw hw 62 rfl) (tw hw 64 rfl) (tw hw 64 rfl) (tw hw 63 rfl) (tw hw 7 rfl) (tw hw 65 rfl) (by decide) (gK l Z a0 hw b h0 n0 Z0 cst fm em SX_ O0 Fcp) q539 (b:=b) Ep (argsL:=[]) (rest:=[(.int (0:Int32))]) rfl rfl 1 50 rfl (by rw[hml];rfl) (lenOf a9 rfl) (Nat.le_refl _) (by decide) (by decide) (by decide) (by decide) (hb hby fR) ?_
    intro v541 T541 L541 X541 hQ541
    obtain⟨rfl,N541,q541⟩:=hQ541
    have N542:=Fr.app N540 N541
    show Go _ _ _ _ _ (mkF _ _ _ [(.int (0:Int32)),(.int (0:Int32))])
    have ll544:((0:Int32):Int32).toInt=0:=by decide
    have ll545:((0:Int32):Int32).toInt=0:=by decide
    refine av X541 hx 82 53 (hb hby fS) (by decide) (by decide) rfl (fun c543=>?_) (fun c543=>?_)
    ·skip
     exfalso;revert c543;decide
    ·skip
     refine ae X541 hx 55 (hb hby lE) rfl rfl ?_
     refine ac X541 hx (1:Int32) 56 (hb hby lF) rfl (by decide) ?_
     have ll547:((1:Int32):Int32).toInt=1:=by decide
     have ll548:((0:Int32):Int32).toInt=0:=by decide
     refine av X541 hx 63 59 (hb hby lG) (by decide) (by decide) rfl (fun c546=>?_) (fun c546=>?_)
     ·skip
      refine ab X541 hx 64 (hb hby lH) rfl rfl rfl ?_
      refine aa X541 hx 65 (hb hby lI) rfl rfl ?_
      refine al X541 hx 67 (hb hby lJ) rfl rfl rfl ?_
      refine ac X541 hx (0:Int32) 68 (hb hby lK) rfl (by decide) ?_
      refine ae X541 hx 70 (hb hby lL) rfl rfl ?_
      refine ag X541 hx hZ hown (tw hw 66 rfl) (tw hw 67 rfl) (tw hw 68 rfl) (tw hw 69 rfl) (by decide) (cM1 l Z a0 hw vb pv h0 n0 Z0 kb kp z vs V Vp (by omega) (by rw[(hE 0 (by omega)).2,e47];decide)) q541 (argsL:=[(.ref vb),(.int (0:Int32)),(.ref pv),(.int (0:Int32)),(.int (1:Int32))]) (rest:=[]) rfl rfl 0 73 rfl (by rw[hml];rfl) (lenOf ej rfl) (Nat.le_refl _) (by decide) (by decide) (by decide) (by decide) (hb hby lM) ?_
      intro v549 T549 L549 X549 hQ549
      obtain⟨rfl,N549,q549⟩:=hQ549
      have N550:=Fr.app N542 N549
      show Go _ _ _ _ _ (mkF _ _ _ [(.int (-1:Int32))])
      have ll552:((-1:Int32):Int32).toInt=-1:=by decide
      refine fn X549 hx 80 76 (hb hby lN) (by decide) (by decide) rfl (fun c551=>?_) (fun c551=>?_)
      ·skip
       exfalso;revert c551;decide
      ·skip
       refine ac X549 hx (1:Int32) 77 (hb hby vQ) rfl (by decide) ?_
       refine ap X549 hx 81 (hb hby vR) (by decide) (by decide) ?_
       exact a4 X549 hx hlk hret (hb hby lO) (by decide) (by decide) q549 ⟨rfl,N550,rfl⟩
     ·skip
      exfalso;revert c546;decide
   ·skip
    exfalso;omega
 ·skip
  have h47:((47:Int32)&&&(255:Int32)).toInt=47:=by decide
  have e47:cs.getD 0 0=47:=cF (by rw[h0_];decide)
  refine aa X0 hx 1 (hb hby ji) rfl rfl ?_
  have ll554:((0:Int32):Int32).toInt=0:=by decide
  refine aB X0 hx 17 4 (hb hby jj) (by decide) (by decide) rfl (fun c553=>?_) (fun c553=>?_)
  ·skip
   exfalso;revert c553;decide
  ·skip
   refine aa X0 hx 5 (hb hby jk) rfl rfl ?_
   refine ab X0 hx 6 (hb hby jl) rfl rfl rfl ?_
   refine ak X0 hx hZ (C:=sg1) hown (tw hw 56 rfl) (tw hw 57 rfl) (tw hw 59 rfl) (tw hw 59 rfl) (tw hw 58 rfl) (tw hw 7 rfl) (tw hw 60 rfl) (by decide) (cLn l Z a0 hw a h0 n0 Z0 cst fm em SX_ O0 Lw B cs S0) e0 (b:=a) E (argsL:=[]) (rest:=[(.int (0:Int32))]) rfl rfl 1 9 rfl (by rw[hml];rfl) (lenOf aF rfl) (Nat.le_refl _) (by decide) (by decide) (by decide) (by decide) (hb hby jm) ?_
   intro v555 T555 L555 X555 hQ555
   obtain⟨nl,rfl,hn,N555,q555⟩:=hQ555
   have N556:=Fr.app N0 N555
   show Go _ _ _ _ _ (mkF _ _ _ [(.int nl),(.int (0:Int32))])
   have hs1:=aT hn (y:=(1:Int32)) (b:=1) (by decide) (by omega) (by omega)
   refine ab X555 hx 10 (hb hby jn) rfl rfl rfl ?_
   refine ak X555 hx hZ (C:=sg1) hown (tw hw 56 rfl) (tw hw 57 rfl) (tw hw 59 rfl) (tw hw 59 rfl) (tw hw 58 rfl) (tw hw 7 rfl) (tw hw 60 rfl) (by decide) (cLF l Z a0 hw b h0 n0 Z0 cst fm em SX_ O0 pv kp 1 1 _ Ep Fcp Fvp Vp (by decide)) q555 (b:=b) Ep (argsL:=[]) (rest:=[(.int nl),(.int (0:Int32))]) rfl rfl 2 13 rfl (by rw[hml];rfl) (lenOf aF rfl) (Nat.le_refl _) (by decide) (by decide) (by decide) (by decide) (hb hby fy) ?_
   intro v557 T557 L557 X557 hQ557
   obtain⟨rfl,N557,q557⟩:=hQ557
   have N558:=Fr.app N556 N557
   show Go _ _ _ _ _ (mkF _ _ _ [(.int (1:Int32)),(.int nl),(.int (0:Int32))])
   refine bm X557 hx 14 (hb hby fz) rfl ?_
   have ll560:((0:Int32):Int32).toInt=0:=by decide
   refine a7 X557 hx 19 17 (hb hby fA) (by decide) (by decide) rfl (fun c559=>?_) (fun c559=>?_)
   ·skip
    refine ab X557 hx 20 (hb hby fB) rfl rfl rfl ?_
    refine ao X557 hx hZ hown (tw hw 32 rfl) Via.refl q557 Fv 23 (hb hby fC) rfl ?_
    intro T561 X561 e561
    refine au (l':=#[.val (.ref a),.val (.ref b),.val (.int (0:Int32)),.val (.ref vb),.unset,.unset,.unset,.unset]) X561 hx 24 (hb hby fD) rfl rfl rfl ?_
    refine ab X561 hx 25 (hb hby fE) rfl rfl rfl ?_
    refine ao X561 hx hZ hown (tw hw 32 rfl) Via.refl e561 Fvp 28 (hb hby fF) rfl ?_
    intro T562 X562 e562
    refine aE (l':=#[.val (.ref a),.val (.ref b),.val (.int (0:Int32)),.val (.ref vb),.val (.ref pv),.unset,.unset,.unset]) X562 hx 30 (hb hby fG) rfl rfl rfl ?_
    refine ac X562 hx (0:Int32) 31 (hb hby fH) rfl (by decide) ?_
    refine ah (l':=#[.val (.ref a),.val (.ref b),.val (.int (0:Int32)),.val (.ref vb),.val (.ref pv),.val (.int (0:Int32)),.unset,.unset]) X562 hx 33 (hb hby fI) rfl rfl ?_
    refine al X562 hx 35 (hb hby fJ) rfl rfl rfl ?_
    refine aH X562 hx hZ e562 Vp 36 (hb hby fK) rfl ?_
    refine ah (l':=#[.val (.ref a),.val (.ref b),.val (.int (0:Int32)),.val (.ref vb),.val (.ref pv),.val (.int (0:Int32)),.val (.int (1:Int32)),.unset]) X562 hx 38 (hb hby fL) rfl rfl ?_
    refine ab X562 hx 39 (hb hby fM) rfl rfl rfl ?_
    refine ak X562 hx hZ (C:=sg1) hown (tw hw 61 rfl) (tw hw 62 rfl) (tw hw 64 rfl) (tw hw 64 rfl) (tw hw 63 rfl) (tw hw 7 rfl) (tw hw 65 rfl) (by decide) (ra l Z a0 hw a h0 n0 Z0 cst fm em SX_ O0 Fc) e562 (b:=a) E (argsL:=[]) (rest:=[]) rfl rfl 0 42 rfl (by rw[hml];rfl) (lenOf a9 rfl) (Nat.le_refl _) (by decide) (by decide) (by decide) (by decide) (hb hby fN) ?_
    intro v563 T563 L563 X563 hQ563
    obtain⟨rfl,N563,q563⟩:=hQ563
    have N564:=Fr.app N558 N563
    show Go _ _ _ _ _ (mkF _ _ _ [(.int (1:Int32))])
    refine ah (l':=#[.val (.ref a),.val (.ref b),.val (.int (0:Int32)),.val (.ref vb),.val (.ref pv),.val (.int (0:Int32)),.val (.int (1:Int32)),.val (.int (1:Int32))]) X563 hx 44 (hb hby fO) rfl rfl ?_
    refine ae X563 hx 46 (hb hby fP) rfl rfl ?_
    refine ab X563 hx 47 (hb hby fQ) rfl rfl rfl ?_
    refine ak X563 hx hZ (C:=sg1) hown (tw hw 61 rfl) (tw hw 62 rfl) (tw hw 64 rfl) (tw hw 64 rfl) (tw hw 63 rfl) (tw hw 7 rfl) (tw hw 65 rfl) (by decide) (gK l Z a0 hw b h0 n0 Z0 cst fm em SX_ O0 Fcp) q563 (b:=b) Ep (argsL:=[]) (rest:=[(.int (1:Int32))]) rfl rfl 1 50 rfl (by rw[hml];rfl) (lenOf a9 rfl) (Nat.le_refl _) (by decide) (by decide) (by decide) (by decide) (hb hby fR) ?_
    intro v565 T565 L565 X565 hQ565
    obtain⟨rfl,N565,q565⟩:=hQ565
    have N566:=Fr.app N564 N565
    show Go _ _ _ _ _ (mkF _ _ _ [(.int (0:Int32)),(.int (1:Int32))])
    have ll568:((0:Int32):Int32).toInt=0:=by decide
    have ll569:((1:Int32):Int32).toInt=1:=by decide
    refine av X565 hx 82 53 (hb hby fS) (by decide) (by decide) rfl (fun c567=>?_) (fun c567=>?_)
    ·skip
     refine ae X565 hx 84 (hb hby lP) rfl rfl ?_
     have ll571:((1:Int32):Int32).toInt=1:=by decide
     refine aI X565 hx 89 87 (hb hby lQ) (by decide) (by decide) rfl (fun c570=>?_) (fun c570=>?_)
     ·skip
      refine ae X565 hx 91 (hb hby fT) rfl rfl ?_
      refine ae X565 hx 93 (hb hby fU) rfl rfl ?_
      have ll573:((1:Int32):Int32).toInt=1:=by decide
      have ll574:((0:Int32):Int32).toInt=0:=by decide
      refine am X565 hx 121 96 (hb hby fV) (by decide) (by decide) rfl (fun c572=>?_) (fun c572=>?_)
      ·skip
       exfalso;revert c572;decide
      ·skip
       refine ab X565 hx 97 (hb hby ic) rfl rfl rfl ?_
       refine aa X565 hx 98 (hb hby ie) rfl rfl ?_
       refine aw X565 hx (w:=(1:Int32)) (1:Int32) (by decide) (l':=#[.val (.ref a),.val (.ref b),.val (.int (1:Int32)),.val (.ref vb),.val (.ref pv),.val (.int (0:Int32)),.val (.int (1:Int32)),.val (.int (1:Int32))]) 101 (hb hby ig) rfl rfl (by decide) rfl ?_
       refine ag X565 hx hZ hown (tw hw 303 rfl) (tw hw 301 rfl) (tw hw 21 rfl) (tw hw 302 rfl) (by decide) (cGe l Z a0 hw vb (0:Int32) h0 n0 Z0 cst fm em SX_ O0 kb z (cs.getD 0 0) vs 0 V (hcs.2.2 0 (by omega)) (by decide) (by omega) (by omega) (hE 0 (by omega)).1 (hE 0 (by omega)).2) q565 (argsL:=[(.ref vb),(.int (0:Int32))]) (rest:=[]) rfl rfl 0 104 rfl (by rw[hml];rfl) (lenOf bh rfl) (Nat.le_refl _) (by decide) (by decide) (by decide) (by decide) (hb hby fW) ?_
       intro v575 T575 L575 X575 hQ575
       obtain⟨rfl,N575,q575⟩:=hQ575
       have N576:=Fr.app N566 N575
       show Go _ _ _ _ _ (mkF _ _ _ [(.int (cs.getD 0 0))])
       refine al X575 hx 106 (hb hby fX) rfl rfl rfl ?_
       refine ae X575 hx 108 (hb hby fY) rfl rfl ?_
       refine aw X575 hx (w:=(1:Int32)) (1:Int32) (by decide) (l':=#[.val (.ref a),.val (.ref b),.val (.int (1:Int32)),.val (.ref vb),.val (.ref pv),.val (.int (1:Int32)),.val (.int (1:Int32)),.val (.int (1:Int32))]) 111 (hb hby fZ) rfl rfl (by decide) rfl ?_
       refine aW X575 hx hZ q575 Vp (by decide) (by decide) (by rw[show ((0:Int32):Int32).toNatClampNeg=0 by decide]<;>rfl) 112 (hb hby f0) rfl ?_
       refine aM X575 hx (255:Int32) 115 (hb hby f4) rfl (by decide) ?_
       refine bs X575 hx 116 (hb hby f5) rfl ?_
       refine bH X575 hx 89 119 (hb hby f6) (by decide) (by decide) rfl (fun c577=>?_) (fun c577=>?_)
       ·skip
        refine ae X575 hx 91 (hb hby fT) rfl rfl ?_
        refine ae X575 hx 93 (hb hby fU) rfl rfl ?_
        have ll579:((1:Int32):Int32).toInt=1:=by decide
        have ll580:((1:Int32):Int32).toInt=1:=by decide
        refine am X575 hx 121 96 (hb hby fV) (by decide) (by decide) rfl (fun c578=>?_) (fun c578=>?_)
        ·skip
         refine ac X575 hx (1:Int32) 122 (hb hby nR) rfl (by decide) ?_
         exact a4 X575 hx hlk hret (hb hby nS) (by decide) (by decide) q575 ⟨rfl,N576,rfl⟩
        ·skip
         exfalso;revert c578;decide
       ·skip
        exfalso;omega
     ·skip
      exfalso;revert c570;decide
    ·skip
     exfalso;revert c567;decide
   ·skip
    exfalso;omega
def vU (n0:Nat)(h0:Heap)(v:Option Value)(h:Heap)(L:List Loc):Prop:=v=some (.int 0)∧Fr n0 L∧h=h0
theorem nU (a b:Addr)(j:Int32)(m:MethodId):entryFrame m #[(.ref a),(.ref b),(.int j)] 8=mkF m 0 #[.val (.ref a),.val (.ref b),.val (.int j),.unset,.unset,.unset,.unset,.unset] []:=by first|(simp [entryFrame,mkF,argsToLocals,Value.category];done)|rfl
theorem LG (l:Launch)(Z:State)(a0:Array Value)(hw:HW a0 Z)(a b:Addr)(j:Int32)(h0:Heap)(n0:Nat)(Z0:n0≤h0.size)(cst:Int32)(fm:Option Addr)(em:Addr)(SX_:SX Z cst fm em)(O0:Old Z n0 h0)(Lw B:Nat)(cs:List Int32)(S:a3 Z h0 Lw B a cs)(pv:Addr)(kp:ClassId)(Ep:Exa Z h0 b sg1)(Fcp:Fld Z h0 b sg1 "coder" "B" (.int 0))(Fvp:Fld Z h0 b sg1 "value" "[B" (.ref pv))(Vp:Arv Z h0 pv kp .byte 2 [(.int 46),(.int 46)] (.int 0))(i:Nat)(hj:j.toInt=(i:Int))(hi:i+2≤cs.length)(hne:¬((cs.getD i 0).toInt=46∧(cs.getD (i+1) 0).toInt=46)) :
  MF l Z h0 ⟨sg1,"startsWith","(Ljava/lang/String;I)Z"⟩ jdk_42_method_75_code 8 (some .boolean) ⟨2,0,0,34⟩ #[(.ref a),(.ref b),(.int j)] (vU n0 h0):=by
 refine ai gT (nU a b j) ?_
 intro p e s m below meth c T0 X0 hx hby hml hret hlk hnm hown hZ e0
 have N0:=Fr.nil n0
 have S0:=S
 obtain⟨hcs,haB,vb,kb,z,vs,co,hvB,E,Fc,Fv,V,hE⟩:=S
 have hc1:=hcs.1
 have hcl:=hcs.2.1
 rcases hE with ⟨rfl,hz,hE⟩|⟨rfl,hz,hE⟩
 ·skip
  have h47:((46:Int32)&&&(255:Int32)).toInt=46:=by decide
  have hj1:=aC hj (by omega)
  have hxa:=hcs.2.2 i (by omega)
  have hxb:=hcs.2.2 (i+1) (by omega)
  refine aa X0 hx 1 (hb hby ji) rfl rfl ?_
  refine aB X0 hx 17 4 (hb hby jj) (by decide) (by decide) rfl (fun c581=>?_) (fun c581=>?_)
  ·skip
   exfalso;omega
  ·skip
   refine aa X0 hx 5 (hb hby jk) rfl rfl ?_
   refine ab X0 hx 6 (hb hby jl) rfl rfl rfl ?_
   refine ak X0 hx hZ (C:=sg1) hown (tw hw 56 rfl) (tw hw 57 rfl) (tw hw 59 rfl) (tw hw 59 rfl) (tw hw 58 rfl) (tw hw 7 rfl) (tw hw 60 rfl) (by decide) (cLn l Z a0 hw a h0 n0 Z0 cst fm em SX_ O0 Lw B cs S0) e0 (b:=a) E (argsL:=[]) (rest:=[(.int j)]) rfl rfl 1 9 rfl (by rw[hml];rfl) (lenOf aF rfl) (Nat.le_refl _) (by decide) (by decide) (by decide) (by decide) (hb hby jm) ?_
   intro v582 T582 L582 X582 hQ582
   obtain⟨nl,rfl,hn,N582,q582⟩:=hQ582
   have N583:=Fr.app N0 N582
   show Go _ _ _ _ _ (mkF _ _ _ [(.int nl),(.int j)])
   have hs1:=aT hn (y:=(2:Int32)) (b:=2) (by decide) (by omega) (by omega)
   refine ab X582 hx 10 (hb hby jn) rfl rfl rfl ?_
   refine ak X582 hx hZ (C:=sg1) hown (tw hw 56 rfl) (tw hw 57 rfl) (tw hw 59 rfl) (tw hw 59 rfl) (tw hw 58 rfl) (tw hw 7 rfl) (tw hw 60 rfl) (by decide) (cLF l Z a0 hw b h0 n0 Z0 cst fm em SX_ O0 pv kp 2 2 _ Ep Fcp Fvp Vp (by decide)) q582 (b:=b) Ep (argsL:=[]) (rest:=[(.int nl),(.int j)]) rfl rfl 2 13 rfl (by rw[hml];rfl) (lenOf aF rfl) (Nat.le_refl _) (by decide) (by decide) (by decide) (by decide) (hb hby fy) ?_
   intro v584 T584 L584 X584 hQ584
   obtain⟨rfl,N584,q584⟩:=hQ584
   have N585:=Fr.app N583 N584
   show Go _ _ _ _ _ (mkF _ _ _ [(.int (2:Int32)),(.int nl),(.int j)])
   refine bm X584 hx 14 (hb hby fz) rfl ?_
   refine a7 X584 hx 19 17 (hb hby fA) (by decide) (by decide) rfl (fun c586=>?_) (fun c586=>?_)
   ·skip
    refine ab X584 hx 20 (hb hby fB) rfl rfl rfl ?_
    refine ao X584 hx hZ hown (tw hw 32 rfl) Via.refl q584 Fv 23 (hb hby fC) rfl ?_
    intro T587 X587 e587
    refine au (l':=#[.val (.ref a),.val (.ref b),.val (.int j),.val (.ref vb),.unset,.unset,.unset,.unset]) X587 hx 24 (hb hby fD) rfl rfl rfl ?_
    refine ab X587 hx 25 (hb hby fE) rfl rfl rfl ?_
    refine ao X587 hx hZ hown (tw hw 32 rfl) Via.refl e587 Fvp 28 (hb hby fF) rfl ?_
    intro T588 X588 e588
    refine aE (l':=#[.val (.ref a),.val (.ref b),.val (.int j),.val (.ref vb),.val (.ref pv),.unset,.unset,.unset]) X588 hx 30 (hb hby fG) rfl rfl rfl ?_
    refine ac X588 hx (0:Int32) 31 (hb hby fH) rfl (by decide) ?_
    refine ah (l':=#[.val (.ref a),.val (.ref b),.val (.int j),.val (.ref vb),.val (.ref pv),.val (.int (0:Int32)),.unset,.unset]) X588 hx 33 (hb hby fI) rfl rfl ?_
    refine al X588 hx 35 (hb hby fJ) rfl rfl rfl ?_
    refine aH X588 hx hZ e588 Vp 36 (hb hby fK) rfl ?_
    refine ah (l':=#[.val (.ref a),.val (.ref b),.val (.int j),.val (.ref vb),.val (.ref pv),.val (.int (0:Int32)),.val (.int (2:Int32)),.unset]) X588 hx 38 (hb hby fL) rfl rfl ?_
    refine ab X588 hx 39 (hb hby fM) rfl rfl rfl ?_
    refine ak X588 hx hZ (C:=sg1) hown (tw hw 61 rfl) (tw hw 62 rfl) (tw hw 64 rfl) (tw hw 64 rfl) (tw hw 63 rfl) (tw hw 7 rfl) (tw hw 65 rfl) (by decide) (gK l Z a0 hw a h0 n0 Z0 cst fm em SX_ O0 Fc) e588 (b:=a) E (argsL:=[]) (rest:=[]) rfl rfl 0 42 rfl (by rw[hml];rfl) (lenOf a9 rfl) (Nat.le_refl _) (by decide) (by decide) (by decide) (by decide) (hb hby fN) ?_
    intro v589 T589 L589 X589 hQ589
    obtain⟨rfl,N589,q589⟩:=hQ589
    have N590:=Fr.app N585 N589
    show Go _ _ _ _ _ (mkF _ _ _ [(.int (0:Int32))])
    refine ah (l':=#[.val (.ref a),.val (.ref b),.val (.int j),.val (.ref vb),.val (.ref pv),.val (.int (0:Int32)),.val (.int (2:Int32)),.val (.int (0:Int32))]) X589 hx 44 (hb hby fO) rfl rfl ?_
    refine ae X589 hx 46 (hb hby fP) rfl rfl ?_
    refine ab X589 hx 47 (hb hby fQ) rfl rfl rfl ?_
    refine ak X589 hx hZ (C:=sg1) hown (tw hw 61 rfl) (tw hw 62 rfl) (tw hw 64 rfl) (tw hw 64 rfl) (tw hw 63 rfl) (tw hw 7 rfl) (tw hw 65 rfl) (by decide) (gK l Z a0 hw b h0 n0 Z0 cst fm em SX_ O0 Fcp) q589 (b:=b) Ep (argsL:=[]) (rest:=[(.int (0:Int32))]) rfl rfl 1 50 rfl (by rw[hml];rfl) (lenOf a9 rfl) (Nat.le_refl _) (by decide) (by decide) (by decide) (by decide) (hb hby fR) ?_
    intro v591 T591 L591 X591 hQ591
    obtain⟨rfl,N591,q591⟩:=hQ591
    have N592:=Fr.app N590 N591
    show Go _ _ _ _ _ (mkF _ _ _ [(.int (0:Int32)),(.int (0:Int32))])
    have ll594:((0:Int32):Int32).toInt=0:=by decide
    have ll595:((0:Int32):Int32).toInt=0:=by decide
    refine av X591 hx 82 53 (hb hby fS) (by decide) (by decide) rfl (fun c593=>?_) (fun c593=>?_)
    ·skip
     exfalso;revert c593;decide
    ·skip
     refine ae X591 hx 55 (hb hby lE) rfl rfl ?_
     refine ac X591 hx (1:Int32) 56 (hb hby lF) rfl (by decide) ?_
     have ll597:((1:Int32):Int32).toInt=1:=by decide
     have ll598:((0:Int32):Int32).toInt=0:=by decide
     refine av X591 hx 63 59 (hb hby lG) (by decide) (by decide) rfl (fun c596=>?_) (fun c596=>?_)
     ·skip
      refine ab X591 hx 64 (hb hby lH) rfl rfl rfl ?_
      refine aa X591 hx 65 (hb hby lI) rfl rfl ?_
      refine al X591 hx 67 (hb hby lJ) rfl rfl rfl ?_
      refine ac X591 hx (0:Int32) 68 (hb hby lK) rfl (by decide) ?_
      refine ae X591 hx 70 (hb hby lL) rfl rfl ?_
      refine ag X591 hx hZ hown (tw hw 66 rfl) (tw hw 67 rfl) (tw hw 68 rfl) (tw hw 69 rfl) (by decide) (cM2 l Z a0 hw vb j pv h0 n0 Z0 kb kp z (cs.getD i 0) (cs.getD (i+1) 0) vs i V Vp hj (by omega) (by omega) hxa.1 (hE i (by omega)).1 hxb.1 (hE (i+1) (by omega)).1 (hE i (by omega)).2 (hE (i+1) (by omega)).2 hne) q591 (argsL:=[(.ref vb),(.int j),(.ref pv),(.int (0:Int32)),(.int (2:Int32))]) (rest:=[]) rfl rfl 0 73 rfl (by rw[hml];rfl) (lenOf ej rfl) (Nat.le_refl _) (by decide) (by decide) (by decide) (by decide) (hb hby lM) ?_
      intro v599 T599 L599 X599 hQ599
      obtain⟨r,rfl,hr,N599,q599⟩:=hQ599
      have N600:=Fr.app N592 N599
      show Go _ _ _ _ _ (mkF _ _ _ [(.int r)])
      refine fn X599 hx 80 76 (hb hby lN) (by decide) (by decide) rfl (fun c601=>?_) (fun c601=>?_)
      ·skip
       refine ac X599 hx (0:Int32) 81 (hb hby vS) rfl (by decide) ?_
       exact a4 X599 hx hlk hret (hb hby lO) (by decide) (by decide) q599 ⟨rfl,N600,rfl⟩
      ·skip
       exfalso;omega
     ·skip
      exfalso;revert c596;decide
   ·skip
    exfalso;omega
 ·skip
  have h47:((46:Int32)&&&(255:Int32)).toInt=46:=by decide
  have hj1:=aC hj (by omega)
  have hxa:=hcs.2.2 i (by omega)
  have hxb:=hcs.2.2 (i+1) (by omega)
  refine aa X0 hx 1 (hb hby ji) rfl rfl ?_
  refine aB X0 hx 17 4 (hb hby jj) (by decide) (by decide) rfl (fun c602=>?_) (fun c602=>?_)
  ·skip
   exfalso;omega
  ·skip
   refine aa X0 hx 5 (hb hby jk) rfl rfl ?_
   refine ab X0 hx 6 (hb hby jl) rfl rfl rfl ?_
   refine ak X0 hx hZ (C:=sg1) hown (tw hw 56 rfl) (tw hw 57 rfl) (tw hw 59 rfl) (tw hw 59 rfl) (tw hw 58 rfl) (tw hw 7 rfl) (tw hw 60 rfl) (by decide) (cLn l Z a0 hw a h0 n0 Z0 cst fm em SX_ O0 Lw B cs S0) e0 (b:=a) E (argsL:=[]) (rest:=[(.int j)]) rfl rfl 1 9 rfl (by rw[hml];rfl) (lenOf aF rfl) (Nat.le_refl _) (by decide) (by decide) (by decide) (by decide) (hb hby jm) ?_
   intro v603 T603 L603 X603 hQ603
   obtain⟨nl,rfl,hn,N603,q603⟩:=hQ603
   have N604:=Fr.app N0 N603
   show Go _ _ _ _ _ (mkF _ _ _ [(.int nl),(.int j)])
   have hs1:=aT hn (y:=(2:Int32)) (b:=2) (by decide) (by omega) (by omega)
   refine ab X603 hx 10 (hb hby jn) rfl rfl rfl ?_
   refine ak X603 hx hZ (C:=sg1) hown (tw hw 56 rfl) (tw hw 57 rfl) (tw hw 59 rfl) (tw hw 59 rfl) (tw hw 58 rfl) (tw hw 7 rfl) (tw hw 60 rfl) (by decide) (cLF l Z a0 hw b h0 n0 Z0 cst fm em SX_ O0 pv kp 2 2 _ Ep Fcp Fvp Vp (by decide)) q603 (b:=b) Ep (argsL:=[]) (rest:=[(.int nl),(.int j)]) rfl rfl 2 13 rfl (by rw[hml];rfl) (lenOf aF rfl) (Nat.le_refl _) (by decide) (by decide) (by decide) (by decide) (hb hby fy) ?_
   intro v605 T605 L605 X605 hQ605
   obtain⟨rfl,N605,q605⟩:=hQ605
   have N606:=Fr.app N604 N605
   show Go _ _ _ _ _ (mkF _ _ _ [(.int (2:Int32)),(.int nl),(.int j)])
   refine bm X605 hx 14 (hb hby fz) rfl ?_
   refine a7 X605 hx 19 17 (hb hby fA) (by decide) (by decide) rfl (fun c607=>?_) (fun c607=>?_)
   ·skip
    refine ab X605 hx 20 (hb hby fB) rfl rfl rfl ?_
    refine ao X605 hx hZ hown (tw hw 32 rfl) Via.refl q605 Fv 23 (hb hby fC) rfl ?_
    intro T608 X608 e608
    refine au (l':=#[.val (.ref a),.val (.ref b),.val (.int j),.val (.ref vb),.unset,.unset,.unset,.unset]) X608 hx 24 (hb hby fD) rfl rfl rfl ?_
    refine ab X608 hx 25 (hb hby fE) rfl rfl rfl ?_
    refine ao X608 hx hZ hown (tw hw 32 rfl) Via.refl e608 Fvp 28 (hb hby fF) rfl ?_
    intro T609 X609 e609
    refine aE (l':=#[.val (.ref a),.val (.ref b),.val (.int j),.val (.ref vb),.val (.ref pv),.unset,.unset,.unset]) X609 hx 30 (hb hby fG) rfl rfl rfl ?_
    refine ac X609 hx (0:Int32) 31 (hb hby fH) rfl (by decide) ?_
    refine ah (l':=#[.val (.ref a),.val (.ref b),.val (.int j),.val (.ref vb),.val (.ref pv),.val (.int (0:Int32)),.unset,.unset]) X609 hx 33 (hb hby fI) rfl rfl ?_
    refine al X609 hx 35 (hb hby fJ) rfl rfl rfl ?_
    refine aH X609 hx hZ e609 Vp 36 (hb hby fK) rfl ?_
    refine ah (l':=#[.val (.ref a),.val (.ref b),.val (.int j),.val (.ref vb),.val (.ref pv),.val (.int (0:Int32)),.val (.int (2:Int32)),.unset]) X609 hx 38 (hb hby fL) rfl rfl ?_
    refine ab X609 hx 39 (hb hby fM) rfl rfl rfl ?_
    refine ak X609 hx hZ (C:=sg1) hown (tw hw 61 rfl) (tw hw 62 rfl) (tw hw 64 rfl) (tw hw 64 rfl) (tw hw 63 rfl) (tw hw 7 rfl) (tw hw 65 rfl) (by decide) (ra l Z a0 hw a h0 n0 Z0 cst fm em SX_ O0 Fc) e609 (b:=a) E (argsL:=[]) (rest:=[]) rfl rfl 0 42 rfl (by rw[hml];rfl) (lenOf a9 rfl) (Nat.le_refl _) (by decide) (by decide) (by decide) (by decide) (hb hby fN) ?_
    intro v610 T610 L610 X610 hQ610
    obtain⟨rfl,N610,q610⟩:=hQ610
    have N611:=Fr.app N606 N610
    show Go _ _ _ _ _ (mkF _ _ _ [(.int (1:Int32))])
    refine ah (l':=#[.val (.ref a),.val (.ref b),.val (.int j),.val (.ref vb),.val (.ref pv),.val (.int (0:Int32)),.val (.int (2:Int32)),.val (.int (1:Int32))]) X610 hx 44 (hb hby fO) rfl rfl ?_
    refine ae X610 hx 46 (hb hby fP) rfl rfl ?_
    refine ab X610 hx 47 (hb hby fQ) rfl rfl rfl ?_
    refine ak X610 hx hZ (C:=sg1) hown (tw hw 61 rfl) (tw hw 62 rfl) (tw hw 64 rfl) (tw hw 64 rfl) (tw hw 63 rfl) (tw hw 7 rfl) (tw hw 65 rfl) (by decide) (gK l Z a0 hw b h0 n0 Z0 cst fm em SX_ O0 Fcp) q610 (b:=b) Ep (argsL:=[]) (rest:=[(.int (1:Int32))]) rfl rfl 1 50 rfl (by rw[hml];rfl) (lenOf a9 rfl) (Nat.le_refl _) (by decide) (by decide) (by decide) (by decide) (hb hby fR) ?_
    intro v612 T612 L612 X612 hQ612
    obtain⟨rfl,N612,q612⟩:=hQ612
    have N613:=Fr.app N611 N612
    show Go _ _ _ _ _ (mkF _ _ _ [(.int (0:Int32)),(.int (1:Int32))])
    have ll615:((0:Int32):Int32).toInt=0:=by decide
    have ll616:((1:Int32):Int32).toInt=1:=by decide
    refine av X612 hx 82 53 (hb hby fS) (by decide) (by decide) rfl (fun c614=>?_) (fun c614=>?_)
    ·skip
     refine ae X612 hx 84 (hb hby lP) rfl rfl ?_
     have ll618:((1:Int32):Int32).toInt=1:=by decide
     refine aI X612 hx 89 87 (hb hby lQ) (by decide) (by decide) rfl (fun c617=>?_) (fun c617=>?_)
     ·skip
      refine ae X612 hx 91 (hb hby fT) rfl rfl ?_
      refine ae X612 hx 93 (hb hby fU) rfl rfl ?_
      have ll620:((2:Int32):Int32).toInt=2:=by decide
      have ll621:((0:Int32):Int32).toInt=0:=by decide
      refine am X612 hx 121 96 (hb hby fV) (by decide) (by decide) rfl (fun c619=>?_) (fun c619=>?_)
      ·skip
       exfalso;revert c619;decide
      ·skip
       refine ab X612 hx 97 (hb hby ic) rfl rfl rfl ?_
       refine aa X612 hx 98 (hb hby ie) rfl rfl ?_
       refine a5 (w:=(1:Int32)) (l':=#[.val (.ref a),.val (.ref b),.val (.int (j+(1:Int32))),.val (.ref vb),.val (.ref pv),.val (.int (0:Int32)),.val (.int (2:Int32)),.val (.int (1:Int32))]) X612 hx 101 (hb hby ig) rfl rfl (by decide) rfl ?_
       refine ag X612 hx hZ hown (tw hw 303 rfl) (tw hw 301 rfl) (tw hw 21 rfl) (tw hw 302 rfl) (by decide) (cGe l Z a0 hw vb j h0 n0 Z0 cst fm em SX_ O0 kb z (cs.getD i 0) vs i V (hcs.2.2 i (by omega)) hj (by omega) (by omega) (hE i (by omega)).1 (hE i (by omega)).2) q612 (argsL:=[(.ref vb),(.int j)]) (rest:=[]) rfl rfl 0 104 rfl (by rw[hml];rfl) (lenOf bh rfl) (Nat.le_refl _) (by decide) (by decide) (by decide) (by decide) (hb hby fW) ?_
       intro v622 T622 L622 X622 hQ622
       obtain⟨rfl,N622,q622⟩:=hQ622
       have N623:=Fr.app N613 N622
       show Go _ _ _ _ _ (mkF _ _ _ [(.int (cs.getD i 0))])
       refine al X622 hx 106 (hb hby fX) rfl rfl rfl ?_
       refine ae X622 hx 108 (hb hby fY) rfl rfl ?_
       refine aw X622 hx (w:=(1:Int32)) (1:Int32) (by decide) (l':=#[.val (.ref a),.val (.ref b),.val (.int (j+(1:Int32))),.val (.ref vb),.val (.ref pv),.val (.int (1:Int32)),.val (.int (2:Int32)),.val (.int (1:Int32))]) 111 (hb hby fZ) rfl rfl (by decide) rfl ?_
       refine aW X622 hx hZ q622 Vp (by decide) (by decide) (by rw[show ((0:Int32):Int32).toNatClampNeg=0 by decide]<;>rfl) 112 (hb hby f0) rfl ?_
       refine aM X622 hx (255:Int32) 115 (hb hby f4) rfl (by decide) ?_
       refine bs X622 hx 116 (hb hby f5) rfl ?_
       refine bH X622 hx 89 119 (hb hby f6) (by decide) (by decide) rfl (fun c624=>?_) (fun c624=>?_)
       ·skip
        refine ae X622 hx 91 (hb hby fT) rfl rfl ?_
        refine ae X622 hx 93 (hb hby fU) rfl rfl ?_
        have ll626:((2:Int32):Int32).toInt=2:=by decide
        have ll627:((1:Int32):Int32).toInt=1:=by decide
        refine am X622 hx 121 96 (hb hby fV) (by decide) (by decide) rfl (fun c625=>?_) (fun c625=>?_)
        ·skip
         exfalso;revert c625;decide
        ·skip
         refine ab X622 hx 97 (hb hby ic) rfl rfl rfl ?_
         refine aa X622 hx 98 (hb hby ie) rfl rfl ?_
         refine a5 (w:=(1:Int32)) (l':=#[.val (.ref a),.val (.ref b),.val (.int ((j+(1:Int32))+(1:Int32))),.val (.ref vb),.val (.ref pv),.val (.int (1:Int32)),.val (.int (2:Int32)),.val (.int (1:Int32))]) X622 hx 101 (hb hby ig) rfl rfl (by decide) rfl ?_
         refine ag X622 hx hZ hown (tw hw 303 rfl) (tw hw 301 rfl) (tw hw 21 rfl) (tw hw 302 rfl) (by decide) (cGe l Z a0 hw vb (j+(1:Int32)) h0 n0 Z0 cst fm em SX_ O0 kb z (cs.getD (i+1) 0) vs (i+1) V (hcs.2.2 (i+1) (by omega)) hj1 (by omega) (by omega) (hE (i+1) (by omega)).1 (hE (i+1) (by omega)).2) q622 (argsL:=[(.ref vb),(.int (j+(1:Int32)))]) (rest:=[]) rfl rfl 0 104 rfl (by rw[hml];rfl) (lenOf bh rfl) (Nat.le_refl _) (by decide) (by decide) (by decide) (by decide) (hb hby fW) ?_
         intro v628 T628 L628 X628 hQ628
         obtain⟨rfl,N628,q628⟩:=hQ628
         have N629:=Fr.app N623 N628
         show Go _ _ _ _ _ (mkF _ _ _ [(.int (cs.getD (i+1) 0))])
         refine al X628 hx 106 (hb hby fX) rfl rfl rfl ?_
         refine ae X628 hx 108 (hb hby fY) rfl rfl ?_
         refine aw X628 hx (w:=(1:Int32)) (2:Int32) (by decide) (l':=#[.val (.ref a),.val (.ref b),.val (.int ((j+(1:Int32))+(1:Int32))),.val (.ref vb),.val (.ref pv),.val (.int (2:Int32)),.val (.int (2:Int32)),.val (.int (1:Int32))]) 111 (hb hby fZ) rfl rfl (by decide) rfl ?_
         refine aW X628 hx hZ q628 Vp (by decide) (by decide) (by rw[show ((1:Int32):Int32).toNatClampNeg=1 by decide]<;>rfl) 112 (hb hby f0) rfl ?_
         refine aM X628 hx (255:Int32) 115 (hb hby f4) rfl (by decide) ?_
         refine bs X628 hx 116 (hb hby f5) rfl ?_
         refine bH X628 hx 89 119 (hb hby f6) (by decide) (by decide) rfl (fun c630=>?_) (fun c630=>?_)
         ·skip
          exfalso;omega
         ·skip
          refine ac X628 hx (0:Int32) 120 (hb hby jo) rfl (by decide) ?_
          exact a4 X628 hx hlk hret (hb hby jp) (by decide) (by decide) q628 ⟨rfl,N629,rfl⟩
       ·skip
        refine ac X622 hx (0:Int32) 120 (hb hby jo) rfl (by decide) ?_
        exact a4 X622 hx hlk hret (hb hby jp) (by decide) (by decide) q622 ⟨rfl,N623,rfl⟩
     ·skip
      exfalso;revert c617;decide
    ·skip
     exfalso;revert c614;decide
   ·skip
    exfalso;omega
theorem LH:dk jO 0 (.aload_n 0) 1:=by decide +kernel
theorem LI:dk jO 1 (.aload_n 1) 1:=by decide +kernel
theorem LJ:dk jO 2 (.iconst 0) 1:=by decide +kernel
theorem LK:dk jO 3 (.invokevirtual 624) 3:=by decide +kernel
theorem LL:dk jO 6 (.ireturn) 1:=by decide +kernel
theorem lR:plainFor (⟨sg1,"startsWith","(Ljava/lang/String;)Z"⟩:MethodName)=true:=plainFor_of_name (by first|(simp [plainName,overriddenIn];done)|decide +kernel)
def LM (n0:Nat)(h0:Heap)(v:Option Value)(h:Heap)(L:List Loc):Prop:=v=some (.int 1)∧Fr n0 L∧h=h0
theorem vV (a b:Addr)(m:MethodId):entryFrame m #[(.ref a),(.ref b)] 2=mkF m 0 #[.val (.ref a),.val (.ref b)] []:=by first|(simp [entryFrame,mkF,argsToLocals,Value.category];done)|rfl
theorem cSt (l:Launch)(Z:State)(a0:Array Value)(hw:HW a0 Z)(a b:Addr)(h0:Heap)(n0:Nat)(Z0:n0≤h0.size)(cst:Int32)(fm:Option Addr)(em:Addr)(SX_:SX Z cst fm em)(O0:Old Z n0 h0)(Lw B:Nat)(cs:List Int32)(S:a3 Z h0 Lw B a cs)(pv:Addr)(kp:ClassId)(Ep:Exa Z h0 b sg1)(Fcp:Fld Z h0 b sg1 "coder" "B" (.int 0))(Fvp:Fld Z h0 b sg1 "value" "[B" (.ref pv))(Vp:Arv Z h0 pv kp .byte 1 [(.int 47)] (.int 0))(h0_:(cs.getD 0 0).toInt=47) :
  MF l Z h0 ⟨sg1,"startsWith","(Ljava/lang/String;)Z"⟩ jdk_42_method_76_code 2 (some .boolean) ⟨3,0,0,60⟩ #[(.ref a),(.ref b)] (LM n0 h0):=by
 refine ai lR (vV a b) ?_
 intro p e s m below meth c T0 X0 hx hby hml hret hlk hnm hown hZ e0
 have N0:=Fr.nil n0
 have S0:=S
 obtain⟨hcs,haB,vb,kb,z,vs,co,hvB,E,Fc,Fv,V,hE⟩:=S
 refine ab X0 hx 1 (hb hby LH) rfl rfl rfl ?_
 refine ab X0 hx 2 (hb hby LI) rfl rfl rfl ?_
 refine ac X0 hx (0:Int32) 3 (hb hby LJ) rfl (by decide) ?_
 refine ak X0 hx hZ (C:=sg1) hown (tw hw 51 rfl) (tw hw 52 rfl) (tw hw 54 rfl) (tw hw 54 rfl) (tw hw 53 rfl) (tw hw 7 rfl) (tw hw 55 rfl) (by decide) (Pg l Z a0 hw a b h0 n0 Z0 cst fm em SX_ O0 Lw B cs S0 pv kp Ep Fcp Fvp Vp h0_) e0 (b:=a) E (argsL:=[(.ref b),(.int (0:Int32))]) (rest:=[]) rfl rfl 0 6 rfl (by rw[hml];rfl) (lenOf ei rfl) (Nat.le_refl _) (by decide) (by decide) (by decide) (by decide) (hb hby LK) ?_
 intro v631 T631 L631 X631 hQ631
 obtain⟨rfl,N631,q631⟩:=hQ631
 have N632:=Fr.app N0 N631
 show Go _ _ _ _ _ (mkF _ _ _ [(.int (1:Int32))])
 exact a4 X631 hx hlk hret (hb hby LL) (by decide) (by decide) q631 ⟨rfl,N632,rfl⟩
section OwnKit9
variable {p:Program}{l:Launch}{e:Env}{R:Room}{s:State}{m:MethodId}{args:Array Value}{below:List Frame}{meth:Method}{c:Code}{T:State}{locs:List Loc}{cells slots:Nat}{Z:State}{a0:Array Value}{h h':Heap}{Ev:State→Outcome→Prop}{vm0:Vm}{k0:Nat}{EL:List (String×Nat)}
theorem dZ (X:Stand p l e R s m args below meth c T locs cells slots)(hx:p.tables.exec=Jvm.exec){pc:Nat}{Ls:Array Slot}{st:List Value}(hZ:Z.Warmed39 s.vm){own R0 O n d host:String}{i:Nat}(hown:s.vm.findClass own=some m.cls)(w:(Jvm.Cond.fieldLinkNest own i R0 n d host).before a0 Z=true)(via:Via Z R0 O n d)(eT:T.heap=h){v:Value}(F:Sta Z h O n d v)(q:Nat)(hd:decode c.code pc = .ok (.getstatic i,3))(hq:pc+3=q)(K:∀T',Stand p l e R s m args below meth c T' locs cells slots→T'.heap=h→Go p e below Ev T' (mkF m q Ls (v::st))):Go p e below Ev T (mkF m pc Ls st):=by
 subst hq
 obtain⟨cf,i,k,f,st',cell,h1,h2,h3,h4,h5,h6,h7⟩:=F
 obtain⟨k',hi,ek⟩:=State.fieldFound?_setVm (s:=Z) hZ.alike (via _ h1)
 obtain⟨vm',X',stp⟩:=X.getstaticNest hx hown (mvN hZ w) hi h2 (by rw[ek];exact h3) (a₁:=st') (by rw[ek];exact h4) (by rw[eT];exact h5) (fun q=>by rw[q] at h6;cases h6) h7 (g:=mkF m pc Ls st) rfl hd
 exact (K _ X' eT).on stp
theorem nV (X:Stand p l e R s m args below meth c T locs cells slots)(hx:p.tables.exec=Jvm.exec){pc:Nat}{Ls:Array Slot}{st:List Value}(hZ:Z.Warmed39 s.vm){own:String}{i:Nat}{y:MethodName}{bytes:ByteArray}{maxL:Nat}{rm:Room}{as':Array Value}{Q:Option Value→Heap→List Loc→Prop}{argsL rest:List Value}{host:String}(hy1:y.name = "<init>")(hown:s.vm.findClass own=some m.cls)(w1:(Jvm.Cond.methodLinkNest own i y host).before a0 Z=true)(w2:(Jvm.Cond.instanceMethod y).before a0 Z=true)(w3:(Jvm.Cond.initialized y.cls).before a0 Z=true)(w4:(Jvm.Cond.code y bytes maxL none).before a0 Z=true)(hy:y.cls ≠ "java/lang/invoke/MethodHandle"∧y.cls ≠ "java/lang/invoke/VarHandle")(hM:MetFree l y (head1 [Jvm.Cond.code y bytes maxL none] rm) (fun a U=>a=as'∧Z.Warmed39 U.vm∧U.heap=h) (fun _ _ _ _ _=>True) (fun _ U o U'=>∃v L,o = .returned v∧Q v U'.heap L∧FrameEnd U o U' L rm.cells rm.slots))(eT:T.heap=h){a:Addr}(hst:st=argsL.reverse ++ .ref a::rest)(has:(.ref a::argsL).toArray=as')(W:Nat)(q:Nat)(hq:pc+3=q)(hsz:Ls.size=c.maxLocals)(hlen:∀sig,parseMethodDescriptor y.desc=some sig→argsL.length=sig.parameters.length)(hW:(rest.map fun v=>v.category).sum≤W)(hf:rm.frames+1≤R.frames)(hl:W+(maxL+11)+rm.locals≤R.locals)(hc:cells+rm.cells≤R.cells)(hs:slots+rm.slots≤R.slots)(hd:decode c.code pc = .ok (.invokespecial i,3))
  (K:∀(v:Option Value) (T':State) (L:List Loc),Stand p l e R s m args below meth c T' (locs++L) (cells+rm.cells) (slots+rm.slots)→Q v T'.heap L→Go p e below Ev T' (mkF m q Ls (v.toList++rest))):Go p e below Ev T (mkF m pc Ls st):=by
 subst hq hst
 obtain⟨v,vm1,⟨T',L',k',n'⟩,-,X',⟨L,hQ,l',y',z'⟩,st'⟩:=X.specialBackNest hx hy1 hown (Cond.methodLinkNest_wide hZ w1 :) (mvT hZ w2) (mvT hZ w4) hy (backOf (W:=W) hM hZ w4 w3 hf hl) (g:=mkF m pc Ls (argsL.reverse ++ .ref a::rest)) rfl hsz (Steps.refl _) (a:=a) (argsL:=argsL) (rest:=rest) hlen rfl (by show 2*0+_≤_;omega) hd (fun _ _=>⟨has,eT,hc,hs⟩)
 dsimp only[Pt.U,Pt.locs,Pt.cells,Pt.slots] at X' l' y' z' st' hQ
 subst l' y' z'
 exact (K v T' L X' hQ).on fun t k=>st'.trans k
theorem a2 (X:Stand p l e R s m args below meth c T locs cells slots)(hx:p.tables.exec=Jvm.exec){pc:Nat}{Ls:Array Slot}{st:List Value}(hZ:Z.Warmed39 s.vm)(eT:T.heap=h){a y:Addr}{k:ClassId}{C:String}{z j:Int32}{vs:List Value}{dv:Value}(V:Arv Z h a k (.object C) z vs dv)(O:Ovr Z k C)(I:Ins Z h y C true)(i:Nat)(hi:j.toInt=(i:Int))(hz:j.toInt<z.toInt)(hv:i<vs.length)(q:Nat)(hd:decode c.code pc = .ok (.aastore,1))(hq:pc+1=q)
  (K:∀T' h',Stand p l e R s m args below meth c T' (locs++[⟨a,j.toNatClampNeg⟩]) cells slots→T'.heap=h'→Wr h h' a j.toNatClampNeg (.ref y)→Arv Z h' a k (.object C) z (vs.set i (.ref y)) dv→Go p e below Ev T' (mkF m q Ls st)):Go p e below Ev T (mkF m pc Ls (.ref y :: .int j :: .ref a::st)):=by
 subst hq
 obtain⟨cl,A,q1,S,q3,H,G⟩:=V
 have hj:=cB j (by omega) z hz S
 obtain⟨T',h',X',e',W',st'⟩:=Jvm.RoadKit.stR X hx hZ eT A hj rfl (Sto.ofV A q1 O I) (g:=mkF m pc Ls (.ref y :: .int j :: .ref a::st)) rfl rfl hd
 exact (K T' h' X' e' W' (Arv.set A q1 S q3 H G rfl W' i (bO hi) hv)).on st'
abbrev pn (Z:State)(EL:List (String×Nat))(s:State)(Q:Option Value→Heap→List Loc→Prop)(K N:Nat):State→Outcome→Prop:=fun U o=>∃(v:Option Value)(L:List Loc),o = .returned v∧Q v U.heap L∧CHv Z EL U.vm U.heap∧ReturnedEndW s o U L K N
theorem ii {y:MethodName}{bytes:ByteArray}{maxL:Nat}{ret:Option FieldType}{rm:Room}{len W:Nat}{as':Array Value}{Q:Option Value→Heap→List Loc→Prop}
  (hM:MetFree l y (head1 [Jvm.Cond.code y bytes maxL ret] rm) (fun a U=>a=as'∧Z.Warmed39 U.vm∧U.heap=h∧CHv Z EL U.vm h) (fun _ _ _ _ _=>True) (fun _ U o U'=>∃v L,o = .returned v∧Q v U'.heap L∧CHv Z EL U'.vm U'.heap∧ReturnedEndW U o U' L rm.cells rm.slots))
  (hZ:Z.Warmed39 vm0) (wc:(Jvm.Cond.code y bytes maxL ret).before a0 Z=true) (wz:(Jvm.Cond.initialized y.cls).before a0 Z=true) (hf:rm.frames+1≤R.frames) (hl:W+(maxL+11)+rm.locals≤R.locals) (hEL:EW Z a0 EL) (H:CHv Z EL vm0 h) :
  BackS l R p e below (s.setVm vm0) args y len W (fun A a=>a=as'∧A.U.heap=h∧A.cells+rm.cells≤R.cells∧A.slots+rm.slots≤R.slots) (fun A _ v B=>∃L,(Q v B.U.heap L∧CHv Z EL B.U.vm B.U.heap)∧B.locs=A.locs++L∧B.cells=A.cells+rm.cells∧B.slots=A.slots+rm.slots):=by
 refine BackS.of_freeW (bytes:=bytes) (maxL:=maxL) (ret:=ret) (E:=fun _ _ o t L k n=>k=rm.cells∧n=rm.slots∧∃v,o = .returned v∧Q v t.heap L∧CHv Z EL t.vm t.heap) hM hf hl ?_ ?_ ?_ ?_ ?_
 ·intro m meth c A a Y hp
  have hU:Z.Warmed39 A.U.vm:=wtrans (s:=s.setVm vm0) hZ Y.warmed
  refine⟨?_,mv hU wc,mv hU wz,hp.2.2.1,hp.2.2.2⟩
  show (Jvm.Cond.and _ .tt).before a A.U=true
  rw[Cond.before_and,mv hU wc];rfl
 ·intro m meth c A a g mk Y hp
  exact⟨hp.1,wtrans (s:=s.setVm vm0) hZ Y.warmed,hp.2.1,(CHv.at Y hZ hEL H).1⟩
 ·intros;trivial
 ·rintro _ _ _ _ ⟨v,L,h1,h2,h3,h4⟩
  exact⟨L,_,_,h4,rfl,rfl,v,h1,h2,h3⟩
 ·rintro m meth c A a g mk v t L k n Y hp - - ⟨e1,e2,v',e3,e4,e5⟩
  cases e3;subst e1 e2
  exact⟨L,⟨e4,e5⟩,rfl,rfl,rfl⟩
theorem jL {x:MethodName}{code:ByteArray}{ml:Nat}{ret:Option FieldType}{ws:List Jvm.Cond}{rm:Room}{as:Array Value}{h0:Heap}{Q:Option Value→Heap→List Loc→Prop}{K N:Nat}{Ls:Array Slot}(hpn:plainFor x=true)(hef:∀m,entryFrame m as ml=mkF m 0 Ls [])
  (body:∀(p:Program) (e:Env) (s:State) (m:MethodId) (below:List Frame) (meth:Method) (c:Code) (T:State),Stand p l e rm (s.setVm s.vm) m as below meth c T [] 0 0→p.tables.exec=Jvm.exec→c.code=code→c.maxLocals=ml→meth.sig.returnType=ret→meth.locks=false→meth.name=x.name→(s.setVm s.vm).vm.findClass x.cls=some m.cls→Z.Warmed39 (s.setVm s.vm).vm→T.heap=h0→s.Since s.vm 0→CHv Z EL s.vm h0→Go p e below (pn Z EL s Q K N) T (mkF m 0 Ls [])) :
  MetFree l x (head1 (Jvm.Cond.code x code ml ret::ws) rm) (fun a U=>a=as∧Z.Warmed39 U.vm∧U.heap=h0∧CHv Z EL U.vm h0) (fun _ _ _ _ _=>True) (fun _ U o U'=>∃v L,o = .returned v∧Q v U'.heap L∧CHv Z EL U'.vm U'.heap∧ReturnedEndW U o U' L K N):=by
 refine MetFree.of_bodySF hpn hisR ?_
 intro p e s m args below meth c s₁ Bd hml0 hP hK
 obtain⟨rfl,hZ,hh,hC⟩:=hP
 have e0:s₁.heap=h0:=by rw[←hh,Bd.state];rfl
 obtain⟨U,o,h1,h2,h3,h4⟩:=body p e s m below meth c s₁ (Stand.of_body Bd) Bd.exec Bd.bytes hml0 Bd.returns (BodyLoose.notSynchronized Bd) (name_of_methodNamed Bd.named Bd.method).1 (findClass_of_methodNamed Bd.named) hZ e0 ⟨State.Warmed39.refl s,fun j q hj hq=>absurd (Array.getElem?_eq_some_iff.mp hq).1 (Nat.not_lt.mpr hj)⟩ hC
 rw[←hef m] at h1
 exact⟨U,o,h1,h2,h3,h4⟩
theorem bA (X:Stand p l e R (s.setVm vm0) m args below meth c T locs cells slots)(hx:p.tables.exec=Jvm.exec)(hlk:meth.locks=false){Q:Option Value→Heap→List Loc→Prop}{K N:Nat}{pc:Nat}{Ls:Array Slot}(hret:meth.sig.returnType=none)(hd:decode c.code pc = .ok (.return_,1))(hK:cells≤K)(hN:slots≤N)(eT:T.heap=h)(hS:s.Since vm0 k0)(hk:k0≤h.size)(hZ:Z.Warmed39 (s.setVm vm0).vm)(hEL:EW Z a0 EL)(H:CHv Z EL vm0 h)(hQ:Q none h locs):Go p e below (pn Z EL s Q K N) T (mkF m pc Ls []):=by
 obtain⟨fs,hr,hrun,hended,hW,hsame⟩:=X.leave (v:=none) (fun _=>rfl) hlk
 obtain⟨q1,q2,q3⟩:=hS.ended (U:=T.setFrames fs) hW (by show k0≤T.heap.size;rw[eT];exact hk) hsame
 have hC:CHv Z EL T.vm h:=(CHv.at X hZ hEL H).1
 exact⟨_,_,X.returnOut hx hret hd hr,hrun,hended,_,_,rfl,by rw[show (T.setFrames fs).heap=T.heap from rfl,eT];exact hQ,by rw[show (T.setFrames fs).heap=T.heap from rfl,eT];exact hC,⟨_,rfl⟩,q1,q2,q3.mono hK hN⟩
theorem bt (X:Stand p l e R (s.setVm vm0) m args below meth c T locs cells slots)(hx:p.tables.exec=Jvm.exec){pc:Nat}{Ls:Array Slot}{st:List Value}(hZ:Z.Warmed39 (s.setVm vm0).vm){own:String}{i:Nat}{y:MethodName}{bytes:ByteArray}{maxL:Nat}{ret:Option FieldType}{rm:Room}{as':Array Value}{Q:Option Value→Heap→List Loc→Prop}{argsL rest:List Value}(hown:(s.setVm vm0).vm.findClass own=some m.cls)(w1:(Jvm.Cond.methodLink own i y).before a0 Z=true)(w2:(Jvm.Cond.static y).before a0 Z=true)(w3:(Jvm.Cond.initialized y.cls).before a0 Z=true)(w4:(Jvm.Cond.code y bytes maxL ret).before a0 Z=true)(hy:y.cls ≠ "java/lang/invoke/MethodHandle"∧y.cls ≠ "java/lang/invoke/VarHandle")(hM:MetFree l y (head1 [Jvm.Cond.code y bytes maxL ret] rm) (fun a U=>a=as'∧Z.Warmed39 U.vm∧U.heap=h∧CHv Z EL U.vm h) (fun _ _ _ _ _=>True) (fun _ U o U'=>∃v L,o = .returned v∧Q v U'.heap L∧CHv Z EL U'.vm U'.heap∧ReturnedEndW U o U' L rm.cells rm.slots))(eT:T.heap=h)(hS:s.Since vm0 k0)(hk:k0≤h.size)(hEL:EW Z a0 EL)(H:CHv Z EL vm0 h)(hst:st=argsL.reverse++rest)(has:argsL.toArray=as')(W:Nat)(q:Nat)(hq:pc+3=q)(hsz:Ls.size=c.maxLocals)(hlen:∀sig,parseMethodDescriptor y.desc=some sig→argsL.length=sig.parameters.length)(hW:(rest.map fun v=>v.category).sum≤W)(hf:rm.frames+1≤R.frames)(hl:W+(maxL+11)+rm.locals≤R.locals)(hc:cells+rm.cells≤R.cells)(hs:slots+rm.slots≤R.slots)(hd:decode c.code pc = .ok (.invokestatic i,3))
  (K:∀(v:Option Value) (T':State) (L:List Loc),Stand p l e R (s.setVm T'.vm) m args below meth c T' (locs++L) (cells+rm.cells) (slots+rm.slots)→s.Since T'.vm T'.heap.size→Z.Warmed39 (s.setVm T'.vm).vm→(s.setVm T'.vm).vm.findClass own=some m.cls→Q v T'.heap L→CHv Z EL T'.vm T'.heap→Go p e below Ev T' (mkF m q Ls (v.toList++rest))):Go p e below Ev T (mkF m pc Ls st):=by
 subst hq hst
 obtain⟨v,vm1,⟨T',L',k',n'⟩,-,X',S',g',⟨L,⟨hQ,hC⟩,l',y',z'⟩,st'⟩:=callSS X hx hown (mvT hZ w1) (mvT hZ w2) (mvT hZ w3) (mvT hZ w4) hy (ii (W:=W) hM hZ w4 w3 hf hl hEL H) (g:=mkF m pc Ls (argsL.reverse++rest)) rfl hsz (argsL:=argsL) (rest:=rest) hlen rfl (by show 2*0+_≤_;omega) hd (fun _ _=>⟨has,eT,hc,hs⟩)
 dsimp only[Pt.U,Pt.locs,Pt.cells,Pt.slots] at X' S' g' l' y' z' st' hQ hC
 subst l' y' z'
 obtain⟨X2,S2,Z2,o2⟩:=rebS hS hk X' S' (by rw[←eT];exact g') hZ hown
 exact (K v T' L X2 S2 Z2 o2 hQ hC).on fun t k=>st'.trans k
end OwnKit9
theorem lS {p:Program}{l:Launch}{e:Env}{R:Room}{s:State}{m:MethodId}{args:Array Value}{below:List Frame}{meth:Method}{c:Code}{T:State}{locs:List Loc}{cells slots:Nat}{Ev:State→Outcome→Prop}(X:Stand p l e R s m args below meth c T locs cells slots)(hx:p.tables.exec=Jvm.exec){pc:Nat}{Ls:Array Slot}{st:List Value}{k:Int32}{df lo hi:Int}{os:Array Int}{len:Nat}(hd:decode c.code pc = .ok (.tableswitch df lo hi os,len))(q:Nat)(hk:¬(k.toInt<lo∨k.toInt > hi))(o:Int)(ho:os[(k.toInt-lo).toNat]? = some o)(h0:0≤(pc:Int)+o)(h1:((pc:Int)+o).toNat=q)(K:Go p e below Ev T (mkF m q Ls st)):Go p e below Ev T (mkF m pc Ls (.int k::st)):=by
 subst h1
 exact K.on fun t r=>X.tableswitchIn hx (g:=mkF m pc Ls (.int k::st)) rfl rfl hd hk ho h0 t r
theorem vW {p:Program}{l:Launch}{e:Env}{R:Room}{s:State}{m:MethodId}{args:Array Value}{below:List Frame}{meth:Method}{c:Code}{T:State}{locs:List Loc}{cells slots:Nat}{Ev:State→Outcome→Prop}(X:Stand p l e R s m args below meth c T locs cells slots)(hx:p.tables.exec=Jvm.exec){pc:Nat}{Ls:Array Slot}{st:List Value}{k:Int32}{df lo hi:Int}{os:Array Int}{len:Nat}(hd:decode c.code pc = .ok (.tableswitch df lo hi os,len))(q:Nat)(hk:k.toInt<lo∨k.toInt > hi)(h0:0≤(pc:Int)+df)(h1:((pc:Int)+df).toNat=q)(K:Go p e below Ev T (mkF m q Ls st)):Go p e below Ev T (mkF m pc Ls (.int k::st)):=by
 subst h1
 exact K.on fun t r=>X.tableswitchOut hx (g:=mkF m pc Ls (.int k::st)) rfl rfl hd hk h0 t r
theorem LN:dk np 0 (.aload_n 0) 1:=by decide +kernel
theorem LO:dk np 1 (.ifnonnull 11) 3:=by decide +kernel
theorem vX:dk np 12 (.aload_n 0) 1:=by decide +kernel
theorem vY:dk np 13 (.areturn) 1:=by decide +kernel
theorem lT:plainFor (⟨"java/util/Objects","requireNonNull","(Ljava/lang/Object;)Ljava/lang/Object;"⟩:MethodName)=true:=plainFor_of_name (by first|(simp [plainName,overriddenIn];done)|decide +kernel)
def LP (ob:Addr)(n0:Nat)(h0:Heap)(v:Option Value)(h:Heap)(L:List Loc):Prop:=v=some (.ref ob)∧Fr n0 L∧h=h0
theorem vZ (ob:Addr)(m:MethodId):entryFrame m #[(.ref ob)] 1=mkF m 0 #[.val (.ref ob)] []:=by first|(simp [entryFrame,mkF,argsToLocals,Value.category];done)|rfl
theorem cRN (l:Launch)(Z:State)(a0:Array Value)(hw:HW a0 Z)(ob:Addr)(h0:Heap)(n0:Nat)(Z0:n0≤h0.size)  :
  MF l Z h0 ⟨"java/util/Objects","requireNonNull","(Ljava/lang/Object;)Ljava/lang/Object;"⟩ jdk_31_method_10_code 1 (some (.object sg6)) ⟨0,0,0,0⟩ #[(.ref ob)] (LP ob n0 h0):=by
 refine ai lT (vZ ob) ?_
 intro p e s m below meth c T0 X0 hx hby hml hret hlk hnm hown hZ e0
 have N0:=Fr.nil n0
 refine ab X0 hx 1 (hb hby LN) rfl rfl rfl ?_
 refine bR X0 hx 12 (hb hby LO) (by decide) (by decide) ?_
 refine ab X0 hx 13 (hb hby vX) rfl rfl rfl ?_
 exact aA X0 hx hlk hret rfl rfl rfl (hb hby vY) (by decide) (by decide) e0 ⟨rfl,N0,rfl⟩
theorem Ph:dk nq 0 (.aload_n 0) 1:=by decide +kernel
theorem Pi:dk nq 1 (.ifnonnull 12) 3:=by decide +kernel
theorem LQ:dk nq 13 (.aload_n 0) 1:=by decide +kernel
theorem LR:dk nq 14 (.areturn) 1:=by decide +kernel
theorem lU:plainFor (⟨"java/util/Objects","requireNonNull","(Ljava/lang/Object;Ljava/lang/String;)Ljava/lang/Object;"⟩:MethodName)=true:=plainFor_of_name (by first|(simp [plainName,overriddenIn];done)|decide +kernel)
def LS (ob:Addr)(n0:Nat)(h0:Heap)(v:Option Value)(h:Heap)(L:List Loc):Prop:=v=some (.ref ob)∧Fr n0 L∧h=h0
theorem wa (ob oc:Addr)(m:MethodId):entryFrame m #[(.ref ob),(.ref oc)] 2=mkF m 0 #[.val (.ref ob),.val (.ref oc)] []:=by first|(simp [entryFrame,mkF,argsToLocals,Value.category];done)|rfl
theorem cRM (l:Launch)(Z:State)(a0:Array Value)(hw:HW a0 Z)(ob oc:Addr)(h0:Heap)(n0:Nat)(Z0:n0≤h0.size)  :
  MF l Z h0 ⟨"java/util/Objects","requireNonNull","(Ljava/lang/Object;Ljava/lang/String;)Ljava/lang/Object;"⟩ jdk_31_method_11_code 2 (some (.object sg6)) ⟨0,0,0,0⟩ #[(.ref ob),(.ref oc)] (LS ob n0 h0):=by
 refine ai lU (wa ob oc) ?_
 intro p e s m below meth c T0 X0 hx hby hml hret hlk hnm hown hZ e0
 have N0:=Fr.nil n0
 refine ab X0 hx 1 (hb hby Ph) rfl rfl rfl ?_
 refine bR X0 hx 13 (hb hby Pi) (by decide) (by decide) ?_
 refine ab X0 hx 14 (hb hby LQ) rfl rfl rfl ?_
 exact aA X0 hx hlk hret rfl rfl rfl (hb hby LR) (by decide) (by decide) e0 ⟨rfl,N0,rfl⟩
theorem LU:dk pD 0 (.aload_n 0) 1:=by decide +kernel
theorem LV:dk pD 1 (.invokespecial 1) 3:=by decide +kernel
theorem LW:dk pD 4 (.return_) 1:=by decide +kernel
theorem lV:plainFor (⟨"java/util/AbstractCollection","<init>","()V"⟩:MethodName)=true:=plainFor_of_name (by first|(simp [plainName,overriddenIn];done)|decide +kernel)
def LX (n0:Nat)(h0:Heap)(v:Option Value)(h:Heap)(L:List Loc):Prop:=v=none∧Fr n0 L∧h=h0
theorem wb (a:Addr)(m:MethodId):entryFrame m #[(.ref a)] 1=mkF m 0 #[.val (.ref a)] []:=by first|(simp [entryFrame,mkF,argsToLocals,Value.category];done)|rfl
theorem cA0 (l:Launch)(Z:State)(a0:Array Value)(hw:HW a0 Z)(a:Addr)(h0:Heap)(n0:Nat)(Z0:n0≤h0.size)  :
  MF l Z h0 ⟨"java/util/AbstractCollection","<init>","()V"⟩ jdk_22_method_1_code 1 none ⟨1,0,0,12⟩ #[(.ref a)] (LX n0 h0):=by
 refine ai lV (wb a) ?_
 intro p e s m below meth c T0 X0 hx hby hml hret hlk hnm hown hZ e0
 have N0:=Fr.nil n0
 refine ab X0 hx 1 (hb hby LU) rfl rfl rfl ?_
 refine bZ X0 hx hZ hown (tw hw 237 rfl) (tw hw 16 rfl) (tw hw 17 rfl) e0 0 4 (hb hby LV) rfl (by rw[hml];rfl) (by decide) (Nat.le_refl _) (by decide) ?_
 intro T633 X633 e633
 exact aY X633 hx hlk hret (hb hby LW) (by decide) (by decide) e633 ⟨rfl,N0,rfl⟩
theorem LY:dk pE 0 (.aload_n 0) 1:=by decide +kernel
theorem LZ:dk pE 1 (.invokespecial 1) 3:=by decide +kernel
theorem L0:dk pE 4 (.return_) 1:=by decide +kernel
theorem lW:plainFor (⟨"java/util/ImmutableCollections$AbstractImmutableCollection","<init>","()V"⟩:MethodName)=true:=plainFor_of_name (by first|(simp [plainName,overriddenIn];done)|decide +kernel)
def L1 (n0:Nat)(h0:Heap)(v:Option Value)(h:Heap)(L:List Loc):Prop:=v=none∧Fr n0 L∧h=h0
theorem wd (a:Addr)(m:MethodId):entryFrame m #[(.ref a)] 1=mkF m 0 #[.val (.ref a)] []:=by first|(simp [entryFrame,mkF,argsToLocals,Value.category];done)|rfl
theorem cA1 (l:Launch)(Z:State)(a0:Array Value)(hw:HW a0 Z)(a:Addr)(h0:Heap)(n0:Nat)(Z0:n0≤h0.size)  :
  MF l Z h0 ⟨"java/util/ImmutableCollections$AbstractImmutableCollection","<init>","()V"⟩ jdk_47_method_1_code 1 none ⟨2,0,0,24⟩ #[(.ref a)] (L1 n0 h0):=by
 refine ai lW (wd a) ?_
 intro p e s m below meth c T0 X0 hx hby hml hret hlk hnm hown hZ e0
 have N0:=Fr.nil n0
 refine ab X0 hx 1 (hb hby LY) rfl rfl rfl ?_
 refine aN X0 hx hZ rfl hown (tw hw 231 rfl) (tw hw 232 rfl) (tw hw 235 rfl) (tw hw 236 rfl) (by decide) (cA0 l Z a0 hw a h0 n0 Z0) e0 (a:=a) (argsL:=[]) (rest:=[]) rfl rfl 0 4 rfl (by rw[hml];rfl) (lenOf cU rfl) (Nat.le_refl _) (by decide) (by decide) (by decide) (by decide) (hb hby LZ) ?_
 intro v634 T634 L634 X634 hQ634
 obtain⟨rfl,N634,q634⟩:=hQ634
 have N635:=Fr.app N0 N634
 show Go _ _ _ _ _ (mkF _ _ _ [])
 exact aY X634 hx hlk hret (hb hby L0) (by decide) (by decide) q634 ⟨rfl,N635,rfl⟩
theorem L2:dk pF 0 (.aload_n 0) 1:=by decide +kernel
theorem L3:dk pF 1 (.invokespecial 1) 3:=by decide +kernel
theorem L4:dk pF 4 (.return_) 1:=by decide +kernel
theorem lX:plainFor (⟨"java/util/ImmutableCollections$AbstractImmutableList","<init>","()V"⟩:MethodName)=true:=plainFor_of_name (by first|(simp [plainName,overriddenIn];done)|decide +kernel)
def L5 (n0:Nat)(h0:Heap)(v:Option Value)(h:Heap)(L:List Loc):Prop:=v=none∧Fr n0 L∧h=h0
theorem we (a:Addr)(m:MethodId):entryFrame m #[(.ref a)] 1=mkF m 0 #[.val (.ref a)] []:=by first|(simp [entryFrame,mkF,argsToLocals,Value.category];done)|rfl
theorem cA2 (l:Launch)(Z:State)(a0:Array Value)(hw:HW a0 Z)(a:Addr)(h0:Heap)(n0:Nat)(Z0:n0≤h0.size)  :
  MF l Z h0 ⟨"java/util/ImmutableCollections$AbstractImmutableList","<init>","()V"⟩ jdk_46_method_1_code 1 none ⟨3,0,0,36⟩ #[(.ref a)] (L5 n0 h0):=by
 refine ai lX (we a) ?_
 intro p e s m below meth c T0 X0 hx hby hml hret hlk hnm hown hZ e0
 have N0:=Fr.nil n0
 refine ab X0 hx 1 (hb hby L2) rfl rfl rfl ?_
 refine aN X0 hx hZ rfl hown (tw hw 225 rfl) (tw hw 226 rfl) (tw hw 229 rfl) (tw hw 230 rfl) (by decide) (cA1 l Z a0 hw a h0 n0 Z0) e0 (a:=a) (argsL:=[]) (rest:=[]) rfl rfl 0 4 rfl (by rw[hml];rfl) (lenOf cU rfl) (Nat.le_refl _) (by decide) (by decide) (by decide) (by decide) (hb hby L3) ?_
 intro v636 T636 L636 X636 hQ636
 obtain⟨rfl,N636,q636⟩:=hQ636
 have N637:=Fr.app N0 N636
 show Go _ _ _ _ _ (mkF _ _ _ [])
 exact aY X636 hx hlk hret (hb hby L4) (by decide) (by decide) q636 ⟨rfl,N637,rfl⟩
theorem L6:dk fj 0 (.aload_n 0) 1:=by decide +kernel
theorem L7:dk fj 1 (.invokespecial 1) 3:=by decide +kernel
theorem L8:dk fj 4 (.aload_n 0) 1:=by decide +kernel
theorem L9:dk fj 5 (.aload_n 1) 1:=by decide +kernel
theorem L_:dk fj 6 (.putfield 7) 3:=by decide +kernel
theorem Ma:dk fj 9 (.aload_n 0) 1:=by decide +kernel
theorem wf:dk fj 10 (.iload_n 2) 1:=by decide +kernel
theorem wg:dk fj 11 (.putfield 13) 3:=by decide +kernel
theorem wh:dk fj 14 (.return_) 1:=by decide +kernel
theorem lY:plainFor (⟨sg3,"<init>","([Ljava/lang/Object;Z)V"⟩:MethodName)=true:=plainFor_of_name (by first|(simp [plainName,overriddenIn];done)|decide +kernel)
def Mb (Z:State)(a el:Addr)(n0:Nat)(h0:Heap)(v:Option Value)(h:Heap)(L:List Loc):Prop:=v=none∧Fr n0 L∧Keep h0 h [a]∧Fld Z h a sg3 "elements" "[Ljava/lang/Object;" (.ref el)
theorem wj (a el:Addr)(m:MethodId):entryFrame m #[(.ref a),(.ref el),(.int 0)] 3=mkF m 0 #[.val (.ref a),.val (.ref el),.val (.int 0)] []:=by first|(simp [entryFrame,mkF,argsToLocals,Value.category];done)|rfl
theorem cLN (l:Launch)(Z:State)(a0:Array Value)(hw:HW a0 Z)(a el:Addr)(h0:Heap)(n0:Nat)(Z0:n0≤h0.size)(E:Exa Z h0 a sg3)(ga:n0≤a)(F1:Fld Z h0 a sg3 "elements" "[Ljava/lang/Object;" .null)(F2:Fld Z h0 a sg3 "allowNulls" "Z" (.int 0)) :
  MF l Z h0 ⟨sg3,"<init>","([Ljava/lang/Object;Z)V"⟩ jdk_45_method_1_code 3 none ⟨4,0,0,60⟩ #[(.ref a),(.ref el),(.int 0)] (Mb Z a el n0 h0):=by
 refine ai lY (wj a el) ?_
 intro p e s m below meth c T0 X0 hx hby hml hret hlk hnm hown hZ e0
 have N0:=Fr.nil n0
 refine ab X0 hx 1 (hb hby L6) rfl rfl rfl ?_
 refine aN X0 hx hZ rfl hown (tw hw 219 rfl) (tw hw 220 rfl) (tw hw 223 rfl) (tw hw 224 rfl) (by decide) (cA2 l Z a0 hw a h0 n0 Z0) e0 (a:=a) (argsL:=[]) (rest:=[]) rfl rfl 0 4 rfl (by rw[hml];rfl) (lenOf cU rfl) (Nat.le_refl _) (by decide) (by decide) (by decide) (by decide) (hb hby L7) ?_
 intro v638 T638 L638 X638 hQ638
 obtain⟨rfl,N638,q638⟩:=hQ638
 have N639:=Fr.app N0 N638
 show Go _ _ _ _ _ (mkF _ _ _ [])
 refine ab X638 hx 5 (hb hby L8) rfl rfl rfl ?_
 refine ab X638 hx 6 (hb hby L9) rfl rfl rfl ?_
 refine aZ X638 hx hZ hown (tw hw 90 rfl) Via.refl q638 F1 E (Or.inr ⟨(tw hw 91 rfl),rfl,hnm⟩) (tw hw 214 rfl) (ty:=(.array (.object sg6))) (by decide) rfl rfl 9 (hb hby L_) rfl ?_
 intro T640 h640 X640 e640 W640
 have F641:Fld Z h640 a sg3 "elements" "[Ljava/lang/Object;" (.ref el):=F1.same W640
 have F642:=E.wr W640
 have F643:=F2.other W640 (Or.inr (slot_ne (Or.inr (tw hw 239 rfl)) (Or.inr (tw hw 91 rfl)) (by decide) (t := .boolean) (t':=(.array (.object sg6))) (by decide) (by decide)))
 have K644:=(Keep.refl h0 [a]).wr W640 (Or.inl (List.mem_of_getElem? (i:=0) rfl))
 have N645:=Fr.snoc X640 N639 ga
 have Z646:n0≤h640.size:=by rw[W640.size];exact Z0
 refine ab X640 hx 10 (hb hby Ma) rfl rfl rfl ?_
 refine aa X640 hx 11 (hb hby wf) rfl rfl ?_
 refine aZ X640 hx hZ hown (tw hw 238 rfl) Via.refl e640 F643 F642 (Or.inr ⟨(tw hw 239 rfl),rfl,hnm⟩) (tw hw 214 rfl) (ty := .boolean) (by decide) rfl rfl 14 (hb hby wg) rfl ?_
 intro T647 h647 X647 e647 W647
 have F648:Fld Z h647 a sg3 "allowNulls" "Z" (.int (0:Int32)):=F643.same W647
 have F649:=F642.wr W647
 have F650:=F641.other W647 (Or.inr (slot_ne (Or.inr (tw hw 91 rfl)) (Or.inr (tw hw 239 rfl)) (by decide) (t:=(.array (.object sg6))) (t' := .boolean) (by decide) (by decide)))
 have K651:=K644.wr W647 (Or.inl (List.mem_of_getElem? (i:=0) rfl))
 have N652:=Fr.snoc X647 N645 ga
 have Z653:n0≤h647.size:=by rw[W647.size];exact Z646
 exact aY X647 hx hlk hret (hb hby wh) (by decide) (by decide) e647 ⟨rfl,N652,K651,F650⟩
theorem Mc:dk eF 0 (.aload_n 0) 1:=by decide +kernel
theorem Md:dk eF 1 (.invokespecial 1) 3:=by decide +kernel
theorem Me:dk eF 4 (.aload_n 0) 1:=by decide +kernel
theorem Mf:dk eF 5 (.aload_n 1) 1:=by decide +kernel
theorem Mg:dk eF 6 (.invokestatic 7) 3:=by decide +kernel
theorem Mh:dk eF 9 (.putfield 13) 3:=by decide +kernel
theorem wk:dk eF 12 (.aload_n 0) 1:=by decide +kernel
theorem wl:dk eF 13 (.getstatic 19) 3:=by decide +kernel
theorem wm:dk eF 16 (.putfield 24) 3:=by decide +kernel
theorem wn:dk eF 19 (.return_) 1:=by decide +kernel
theorem lZ:plainFor (⟨sg2,"<init>","(Ljava/lang/Object;)V"⟩:MethodName)=true:=plainFor_of_name (by first|(simp [plainName,overriddenIn];done)|decide +kernel)
def Mi (Z:State)(a o0 em:Addr)(n0:Nat)(h0:Heap)(v:Option Value)(h:Heap)(L:List Loc):Prop:=v=none∧Fr n0 L∧Keep h0 h [a]∧Fld Z h a sg2 "e0" bl (.ref o0)∧Fld Z h a sg2 "e1" bl (.ref em)
theorem wo (a o0:Addr)(m:MethodId):entryFrame m #[(.ref a),(.ref o0)] 2=mkF m 0 #[.val (.ref a),.val (.ref o0)] []:=by first|(simp [entryFrame,mkF,argsToLocals,Value.category];done)|rfl
theorem cL3 (l:Launch)(Z:State)(a0:Array Value)(hw:HW a0 Z)(a o0:Addr)(h0:Heap)(n0:Nat)(Z0:n0≤h0.size)(cst:Int32)(fm:Option Addr)(em:Addr)(SX_:SX Z cst fm em)(O0:Old Z n0 h0)(E:Exa Z h0 a sg2)(ga:n0≤a)(F1:Fld Z h0 a sg2 "e0" bl .null)(F2:Fld Z h0 a sg2 "e1" bl .null) :
  MF l Z h0 ⟨sg2,"<init>","(Ljava/lang/Object;)V"⟩ jdk_44_method_1_code 2 none ⟨4,0,0,60⟩ #[(.ref a),(.ref o0)] (Mi Z a o0 em n0 h0):=by
 refine ai lZ (wo a o0) ?_
 intro p e s m below meth c T0 X0 hx hby hml hret hlk hnm hown hZ e0
 have N0:=Fr.nil n0
 refine ab X0 hx 1 (hb hby Mc) rfl rfl rfl ?_
 refine aN X0 hx hZ rfl hown (tw hw 260 rfl) (tw hw 220 rfl) (tw hw 223 rfl) (tw hw 224 rfl) (by decide) (cA2 l Z a0 hw a h0 n0 Z0) e0 (a:=a) (argsL:=[]) (rest:=[]) rfl rfl 0 4 rfl (by rw[hml];rfl) (lenOf cU rfl) (Nat.le_refl _) (by decide) (by decide) (by decide) (by decide) (hb hby Md) ?_
 intro v654 T654 L654 X654 hQ654
 obtain⟨rfl,N654,q654⟩:=hQ654
 have N655:=Fr.app N0 N654
 show Go _ _ _ _ _ (mkF _ _ _ [])
 refine ab X654 hx 5 (hb hby Me) rfl rfl rfl ?_
 refine ab X654 hx 6 (hb hby Mf) rfl rfl rfl ?_
 refine ag X654 hx hZ hown (tw hw 264 rfl) (tw hw 210 rfl) (tw hw 43 rfl) (tw hw 211 rfl) (by decide) (cRN l Z a0 hw o0 h0 n0 Z0) q654 (argsL:=[(.ref o0)]) (rest:=[(.ref a)]) rfl rfl 1 9 rfl (by rw[hml];rfl) (lenOf b9 rfl) (Nat.le_refl _) (by decide) (by decide) (by decide) (by decide) (hb hby Mg) ?_
 intro v656 T656 L656 X656 hQ656
 obtain⟨rfl,N656,q656⟩:=hQ656
 have N657:=Fr.app N655 N656
 show Go _ _ _ _ _ (mkF _ _ _ [(.ref o0),(.ref a)])
 refine aZ X656 hx hZ hown (tw hw 265 rfl) Via.refl q656 F1 E (Or.inr ⟨(tw hw 266 rfl),rfl,hnm⟩) (tw hw 254 rfl) (ty:=(.object sg6)) (by decide) rfl rfl 12 (hb hby Mh) rfl ?_
 intro T658 h658 X658 e658 W658
 have F659:Fld Z h658 a sg2 "e0" bl (.ref o0):=F1.same W658
 have F660:=O0.wr W658 ga
 have F661:=E.wr W658
 have F662:=F2.other W658 (Or.inr (slot_ne (Or.inr (tw hw 268 rfl)) (Or.inr (tw hw 266 rfl)) (by decide) (t:=(.object sg6)) (t':=(.object sg6)) (by decide) (by decide)))
 have K663:=(Keep.refl h0 [a]).wr W658 (Or.inl (List.mem_of_getElem? (i:=0) rfl))
 have N664:=Fr.snoc X658 N657 ga
 have Z665:n0≤h658.size:=by rw[W658.size];exact Z0
 refine ab X658 hx 13 (hb hby wk) rfl rfl rfl ?_
 refine dZ X658 hx hZ hown (tw hw 275 rfl) Via.refl e658 (Sta.ext F660.2 SX_.2.2.2.2.2.2) 16 (hb hby wl) rfl ?_
 intro T666 X666 e666
 refine aZ X666 hx hZ hown (tw hw 267 rfl) Via.refl e666 F662 F661 (Or.inr ⟨(tw hw 268 rfl),rfl,hnm⟩) (tw hw 254 rfl) (ty:=(.object sg6)) (by decide) rfl rfl 19 (hb hby wm) rfl ?_
 intro T667 h667 X667 e667 W667
 have F668:Fld Z h667 a sg2 "e1" bl (.ref em):=F662.same W667
 have F669:=F660.wr W667 ga
 have F670:=F661.wr W667
 have F671:=F659.other W667 (Or.inr (slot_ne (Or.inr (tw hw 266 rfl)) (Or.inr (tw hw 268 rfl)) (by decide) (t:=(.object sg6)) (t':=(.object sg6)) (by decide) (by decide)))
 have K672:=K663.wr W667 (Or.inl (List.mem_of_getElem? (i:=0) rfl))
 have N673:=Fr.snoc X667 N664 ga
 have Z674:n0≤h667.size:=by rw[W667.size];exact Z665
 exact aY X667 hx hlk hret (hb hby wn) (by decide) (by decide) e667 ⟨rfl,N673,K672,F671,F668⟩
theorem Mj:dk eg 0 (.aload_n 0) 1:=by decide +kernel
theorem Mk:dk eg 1 (.invokespecial 1) 3:=by decide +kernel
theorem Ml:dk eg 4 (.aload_n 0) 1:=by decide +kernel
theorem Mm:dk eg 5 (.aload_n 1) 1:=by decide +kernel
theorem Mn:dk eg 6 (.invokestatic 7) 3:=by decide +kernel
theorem Mo:dk eg 9 (.putfield 13) 3:=by decide +kernel
theorem wp:dk eg 12 (.aload_n 0) 1:=by decide +kernel
theorem wq:dk eg 13 (.aload_n 2) 1:=by decide +kernel
theorem wt:dk eg 14 (.invokestatic 7) 3:=by decide +kernel
theorem wu:dk eg 17 (.putfield 24) 3:=by decide +kernel
theorem wv:dk eg 20 (.return_) 1:=by decide +kernel
theorem l3:plainFor (⟨sg2,"<init>","(Ljava/lang/Object;Ljava/lang/Object;)V"⟩:MethodName)=true:=plainFor_of_name (by first|(simp [plainName,overriddenIn];done)|decide +kernel)
def Mp (Z:State)(a o0 o1:Addr)(n0:Nat)(h0:Heap)(v:Option Value)(h:Heap)(L:List Loc):Prop:=v=none∧Fr n0 L∧Keep h0 h [a]∧Fld Z h a sg2 "e0" bl (.ref o0)∧Fld Z h a sg2 "e1" bl (.ref o1)
theorem ww (a o0 o1:Addr)(m:MethodId):entryFrame m #[(.ref a),(.ref o0),(.ref o1)] 3=mkF m 0 #[.val (.ref a),.val (.ref o0),.val (.ref o1)] []:=by first|(simp [entryFrame,mkF,argsToLocals,Value.category];done)|rfl
theorem cL4 (l:Launch)(Z:State)(a0:Array Value)(hw:HW a0 Z)(a o0 o1:Addr)(h0:Heap)(n0:Nat)(Z0:n0≤h0.size)(cst:Int32)(fm:Option Addr)(em:Addr)(SX_:SX Z cst fm em)(O0:Old Z n0 h0)(E:Exa Z h0 a sg2)(ga:n0≤a)(F1:Fld Z h0 a sg2 "e0" bl .null)(F2:Fld Z h0 a sg2 "e1" bl .null) :
  MF l Z h0 ⟨sg2,"<init>","(Ljava/lang/Object;Ljava/lang/Object;)V"⟩ jdk_44_method_2_code 3 none ⟨4,0,0,60⟩ #[(.ref a),(.ref o0),(.ref o1)] (Mp Z a o0 o1 n0 h0):=by
 refine ai l3 (ww a o0 o1) ?_
 intro p e s m below meth c T0 X0 hx hby hml hret hlk hnm hown hZ e0
 have N0:=Fr.nil n0
 refine ab X0 hx 1 (hb hby Mj) rfl rfl rfl ?_
 refine aN X0 hx hZ rfl hown (tw hw 260 rfl) (tw hw 220 rfl) (tw hw 223 rfl) (tw hw 224 rfl) (by decide) (cA2 l Z a0 hw a h0 n0 Z0) e0 (a:=a) (argsL:=[]) (rest:=[]) rfl rfl 0 4 rfl (by rw[hml];rfl) (lenOf cU rfl) (Nat.le_refl _) (by decide) (by decide) (by decide) (by decide) (hb hby Mk) ?_
 intro v675 T675 L675 X675 hQ675
 obtain⟨rfl,N675,q675⟩:=hQ675
 have N676:=Fr.app N0 N675
 show Go _ _ _ _ _ (mkF _ _ _ [])
 refine ab X675 hx 5 (hb hby Ml) rfl rfl rfl ?_
 refine ab X675 hx 6 (hb hby Mm) rfl rfl rfl ?_
 refine ag X675 hx hZ hown (tw hw 264 rfl) (tw hw 210 rfl) (tw hw 43 rfl) (tw hw 211 rfl) (by decide) (cRN l Z a0 hw o0 h0 n0 Z0) q675 (argsL:=[(.ref o0)]) (rest:=[(.ref a)]) rfl rfl 1 9 rfl (by rw[hml];rfl) (lenOf b9 rfl) (Nat.le_refl _) (by decide) (by decide) (by decide) (by decide) (hb hby Mn) ?_
 intro v677 T677 L677 X677 hQ677
 obtain⟨rfl,N677,q677⟩:=hQ677
 have N678:=Fr.app N676 N677
 show Go _ _ _ _ _ (mkF _ _ _ [(.ref o0),(.ref a)])
 refine aZ X677 hx hZ hown (tw hw 265 rfl) Via.refl q677 F1 E (Or.inr ⟨(tw hw 266 rfl),rfl,hnm⟩) (tw hw 254 rfl) (ty:=(.object sg6)) (by decide) rfl rfl 12 (hb hby Mo) rfl ?_
 intro T679 h679 X679 e679 W679
 have F680:Fld Z h679 a sg2 "e0" bl (.ref o0):=F1.same W679
 have F681:=O0.wr W679 ga
 have F682:=E.wr W679
 have F683:=F2.other W679 (Or.inr (slot_ne (Or.inr (tw hw 268 rfl)) (Or.inr (tw hw 266 rfl)) (by decide) (t:=(.object sg6)) (t':=(.object sg6)) (by decide) (by decide)))
 have K684:=(Keep.refl h0 [a]).wr W679 (Or.inl (List.mem_of_getElem? (i:=0) rfl))
 have N685:=Fr.snoc X679 N678 ga
 have Z686:n0≤h679.size:=by rw[W679.size];exact Z0
 refine ab X679 hx 13 (hb hby wp) rfl rfl rfl ?_
 refine ab X679 hx 14 (hb hby wq) rfl rfl rfl ?_
 refine ag X679 hx hZ hown (tw hw 264 rfl) (tw hw 210 rfl) (tw hw 43 rfl) (tw hw 211 rfl) (by decide) (cRN l Z a0 hw o1 h679 n0 Z686) e679 (argsL:=[(.ref o1)]) (rest:=[(.ref a)]) rfl rfl 1 17 rfl (by rw[hml];rfl) (lenOf b9 rfl) (Nat.le_refl _) (by decide) (by decide) (by decide) (by decide) (hb hby wt) ?_
 intro v687 T687 L687 X687 hQ687
 obtain⟨rfl,N687,q687⟩:=hQ687
 have N688:=Fr.app N685 N687
 show Go _ _ _ _ _ (mkF _ _ _ [(.ref o1),(.ref a)])
 refine aZ X687 hx hZ hown (tw hw 267 rfl) Via.refl q687 F683 F682 (Or.inr ⟨(tw hw 268 rfl),rfl,hnm⟩) (tw hw 254 rfl) (ty:=(.object sg6)) (by decide) rfl rfl 20 (hb hby wu) rfl ?_
 intro T689 h689 X689 e689 W689
 have F690:Fld Z h689 a sg2 "e1" bl (.ref o1):=F683.same W689
 have F691:=F681.wr W689 ga
 have F692:=F682.wr W689
 have F693:=F680.other W689 (Or.inr (slot_ne (Or.inr (tw hw 266 rfl)) (Or.inr (tw hw 268 rfl)) (by decide) (t:=(.object sg6)) (t':=(.object sg6)) (by decide) (by decide)))
 have K694:=K684.wr W689 (Or.inl (List.mem_of_getElem? (i:=0) rfl))
 have N695:=Fr.snoc X689 N688 ga
 have Z696:n0≤h689.size:=by rw[W689.size];exact Z686
 exact aY X689 hx hlk hret (hb hby wv) (by decide) (by decide) e689 ⟨rfl,N695,K694,F693,F690⟩
theorem Mq:dk nr 0 (.aload_n 0) 1:=by decide +kernel
theorem Mr:dk nr 1 (.getfield 7) 3:=by decide +kernel
theorem Ms:dk nr 4 (.arraylength) 1:=by decide +kernel
theorem Mt:dk nr 5 (.ireturn) 1:=by decide +kernel
theorem l4:plainFor (⟨sg3,"size","()I"⟩:MethodName)=true:=plainFor_of_name (by first|(simp [plainName,overriddenIn];done)|decide +kernel)
def Mu (z:Int32)(n0:Nat)(h0:Heap)(v:Option Value)(h:Heap)(L:List Loc):Prop:=v=some (.int z)∧Fr n0 L∧h=h0
theorem wx (a:Addr)(m:MethodId):entryFrame m #[(.ref a)] 1=mkF m 0 #[.val (.ref a)] []:=by first|(simp [entryFrame,mkF,argsToLocals,Value.category];done)|rfl
theorem cZN (l:Launch)(Z:State)(a0:Array Value)(hw:HW a0 Z)(a:Addr)(h0:Heap)(n0:Nat)(Z0:n0≤h0.size)(el:Addr)(ke:ClassId)(z:Int32)(vs:List Value)(F1:Fld Z h0 a sg3 "elements" "[Ljava/lang/Object;" (.ref el))(V:Arv Z h0 el ke (.object sg6) z vs .null) :
  MF l Z h0 ⟨sg3,"size","()I"⟩ jdk_45_method_3_code 1 (some .int) ⟨0,0,0,0⟩ #[(.ref a)] (Mu z n0 h0):=by
 refine ai l4 (wx a) ?_
 intro p e s m below meth c T0 X0 hx hby hml hret hlk hnm hown hZ e0
 have N0:=Fr.nil n0
 refine ab X0 hx 1 (hb hby Mq) rfl rfl rfl ?_
 refine ao X0 hx hZ hown (tw hw 90 rfl) Via.refl e0 F1 4 (hb hby Mr) rfl ?_
 intro T697 X697 e697
 refine aH X697 hx hZ e697 V 5 (hb hby Ms) rfl ?_
 exact ay X697 hx hlk hret (hb hby Mt) (by decide) (by decide) e697 ⟨rfl,N0,rfl⟩
theorem Mv:dk jP 0 (.aload_n 0) 1:=by decide +kernel
theorem Mw:dk jP 1 (.getfield 7) 3:=by decide +kernel
theorem Mx:dk jP 4 (.iload_n 1) 1:=by decide +kernel
theorem My:dk jP 5 (.aaload) 1:=by decide +kernel
theorem Mz:dk jP 6 (.areturn) 1:=by decide +kernel
theorem l5:plainFor (⟨sg3,"get","(I)Ljava/lang/Object;"⟩:MethodName)=true:=plainFor_of_name (by first|(simp [plainName,overriddenIn];done)|decide +kernel)
def MA (ob:Addr)(n0:Nat)(h0:Heap)(v:Option Value)(h:Heap)(L:List Loc):Prop:=v=some (.ref ob)∧Fr n0 L∧h=h0
theorem wy (a:Addr)(j:Int32)(m:MethodId):entryFrame m #[(.ref a),(.int j)] 2=mkF m 0 #[.val (.ref a),.val (.int j)] []:=by first|(simp [entryFrame,mkF,argsToLocals,Value.category];done)|rfl
theorem cGN (l:Launch)(Z:State)(a0:Array Value)(hw:HW a0 Z)(a:Addr)(j:Int32)(h0:Heap)(n0:Nat)(Z0:n0≤h0.size)(el:Addr)(ke:ClassId)(z:Int32)(vs:List Value)(ob:Addr)(F1:Fld Z h0 a sg3 "elements" "[Ljava/lang/Object;" (.ref el))(V:Arv Z h0 el ke (.object sg6) z vs .null)(b1:0≤j.toInt)(b2:j.toInt<z.toInt)(g0:vs.getD j.toNatClampNeg .null = .ref ob) :
  MF l Z h0 ⟨sg3,"get","(I)Ljava/lang/Object;"⟩ jdk_45_method_4_code 2 (some (.object sg6)) ⟨0,0,0,0⟩ #[(.ref a),(.int j)] (MA ob n0 h0):=by
 refine ai l5 (wy a j) ?_
 intro p e s m below meth c T0 X0 hx hby hml hret hlk hnm hown hZ e0
 have N0:=Fr.nil n0
 refine ab X0 hx 1 (hb hby Mv) rfl rfl rfl ?_
 refine ao X0 hx hZ hown (tw hw 90 rfl) Via.refl e0 F1 4 (hb hby Mw) rfl ?_
 intro T698 X698 e698
 refine aa X698 hx 5 (hb hby Mx) rfl rfl ?_
 refine bM X698 hx hZ e698 V rfl b1 b2 g0 6 (hb hby My) rfl ?_
 exact aA X698 hx hlk hret rfl rfl rfl (hb hby Mz) (by decide) (by decide) e698 ⟨rfl,N0,rfl⟩
theorem po:dk gC 0 (.aload_n 0) 1:=by decide +kernel
theorem pq:dk gC 1 (.getfield 24) 3:=by decide +kernel
theorem pr:dk gC 4 (.getstatic 19) 3:=by decide +kernel
theorem ps:dk gC 7 (.if_acmp .eq 7) 3:=by decide +kernel
theorem wA:dk gC 10 (.iconst 2) 1:=by decide +kernel
theorem wB:dk gC 11 (.goto 4) 3:=by decide +kernel
theorem wC:dk gC 14 (.iconst 1) 1:=by decide +kernel
theorem l6:dk gC 15 (.ireturn) 1:=by decide +kernel
theorem gU:plainFor (⟨sg2,"size","()I"⟩:MethodName)=true:=plainFor_of_name (by first|(simp [plainName,overriddenIn];done)|decide +kernel)
def MB (n0:Nat)(h0:Heap)(v:Option Value)(h:Heap)(L:List Loc):Prop:=v=some (.int 1)∧Fr n0 L∧h=h0
theorem wD (a:Addr)(m:MethodId):entryFrame m #[(.ref a)] 1=mkF m 0 #[.val (.ref a)] []:=by first|(simp [entryFrame,mkF,argsToLocals,Value.category];done)|rfl
theorem cZ1 (l:Launch)(Z:State)(a0:Array Value)(hw:HW a0 Z)(a:Addr)(h0:Heap)(n0:Nat)(Z0:n0≤h0.size)(cst:Int32)(fm:Option Addr)(em:Addr)(SX_:SX Z cst fm em)(O0:Old Z n0 h0)(F2:Fld Z h0 a sg2 "e1" bl (.ref em)) :
  MF l Z h0 ⟨sg2,"size","()I"⟩ jdk_44_method_3_code 1 (some .int) ⟨0,0,0,0⟩ #[(.ref a)] (MB n0 h0):=by
 refine ai gU (wD a) ?_
 intro p e s m below meth c T0 X0 hx hby hml hret hlk hnm hown hZ e0
 have N0:=Fr.nil n0
 refine ab X0 hx 1 (hb hby po) rfl rfl rfl ?_
 refine ao X0 hx hZ hown (tw hw 267 rfl) Via.refl e0 F2 4 (hb hby pq) rfl ?_
 intro T699 X699 e699
 refine dZ X699 hx hZ hown (tw hw 275 rfl) Via.refl e699 (Sta.ext O0.2 SX_.2.2.2.2.2.2) 7 (hb hby pr) rfl ?_
 intro T700 X700 e700
 refine de X700 hx 14 10 (hb hby ps) (by decide) (by decide) rfl (fun c701=>?_) (fun c701=>?_)
 ·skip
  refine ac X700 hx (1:Int32) 15 (hb hby wC) rfl (by decide) ?_
  exact ay X700 hx hlk hret (hb hby l6) (by decide) (by decide) e700 ⟨rfl,N0,rfl⟩
 ·skip
  exact absurd rfl c701
def MC (n0:Nat)(h0:Heap)(v:Option Value)(h:Heap)(L:List Loc):Prop:=v=some (.int 2)∧Fr n0 L∧h=h0
theorem wE (a:Addr)(m:MethodId):entryFrame m #[(.ref a)] 1=mkF m 0 #[.val (.ref a)] []:=by first|(simp [entryFrame,mkF,argsToLocals,Value.category];done)|rfl
theorem cZ2 (l:Launch)(Z:State)(a0:Array Value)(hw:HW a0 Z)(a:Addr)(h0:Heap)(n0:Nat)(Z0:n0≤h0.size)(cst:Int32)(fm:Option Addr)(em:Addr)(SX_:SX Z cst fm em)(O0:Old Z n0 h0)(o1:Addr)(hne:o1≠em)(F2:Fld Z h0 a sg2 "e1" bl (.ref o1)) :
  MF l Z h0 ⟨sg2,"size","()I"⟩ jdk_44_method_3_code 1 (some .int) ⟨0,0,0,0⟩ #[(.ref a)] (MC n0 h0):=by
 refine ai gU (wE a) ?_
 intro p e s m below meth c T0 X0 hx hby hml hret hlk hnm hown hZ e0
 have N0:=Fr.nil n0
 refine ab X0 hx 1 (hb hby po) rfl rfl rfl ?_
 refine ao X0 hx hZ hown (tw hw 267 rfl) Via.refl e0 F2 4 (hb hby pq) rfl ?_
 intro T702 X702 e702
 refine dZ X702 hx hZ hown (tw hw 275 rfl) Via.refl e702 (Sta.ext O0.2 SX_.2.2.2.2.2.2) 7 (hb hby pr) rfl ?_
 intro T703 X703 e703
 refine de X703 hx 14 10 (hb hby ps) (by decide) (by decide) rfl (fun c704=>?_) (fun c704=>?_)
 ·skip
  exact absurd c704 hne
 ·skip
  refine ac X703 hx (2:Int32) 11 (hb hby wA) rfl (by decide) ?_
  refine ap X703 hx 15 (hb hby wB) (by decide) (by decide) ?_
  exact ay X703 hx hlk hret (hb hby l6) (by decide) (by decide) e703 ⟨rfl,N0,rfl⟩
theorem pt:dk cR 0 (.iload_n 1) 1:=by decide +kernel
theorem pu:dk cR 1 (.ifCond .ne 8) 3:=by decide +kernel
theorem MD:dk cR 4 (.aload_n 0) 1:=by decide +kernel
theorem ME:dk cR 5 (.getfield 13) 3:=by decide +kernel
theorem MG:dk cR 8 (.areturn) 1:=by decide +kernel
theorem MH:dk cR 9 (.iload_n 1) 1:=by decide +kernel
theorem wF:dk cR 10 (.iconst 1) 1:=by decide +kernel
theorem wG:dk cR 11 (.if_icmp .ne 18) 3:=by decide +kernel
theorem wH:dk cR 14 (.aload_n 0) 1:=by decide +kernel
theorem wI:dk cR 15 (.getfield 24) 3:=by decide +kernel
theorem wJ:dk cR 18 (.getstatic 19) 3:=by decide +kernel
theorem wK:dk cR 21 (.if_acmp .eq 8) 3:=by decide +kernel
theorem wL:dk cR 24 (.aload_n 0) 1:=by decide +kernel
theorem wM:dk cR 25 (.getfield 24) 3:=by decide +kernel
theorem wN:dk cR 28 (.areturn) 1:=by decide +kernel
theorem gV:plainFor (⟨sg2,"get","(I)Ljava/lang/Object;"⟩:MethodName)=true:=plainFor_of_name (by first|(simp [plainName,overriddenIn];done)|decide +kernel)
def MI (o0:Addr)(n0:Nat)(h0:Heap)(v:Option Value)(h:Heap)(L:List Loc):Prop:=v=some (.ref o0)∧Fr n0 L∧h=h0
theorem wO (a:Addr)(m:MethodId):entryFrame m #[(.ref a),(.int 0)] 2=mkF m 0 #[.val (.ref a),.val (.int 0)] []:=by first|(simp [entryFrame,mkF,argsToLocals,Value.category];done)|rfl
theorem cG1 (l:Launch)(Z:State)(a0:Array Value)(hw:HW a0 Z)(a:Addr)(h0:Heap)(n0:Nat)(Z0:n0≤h0.size)(o0:Addr)(F1:Fld Z h0 a sg2 "e0" bl (.ref o0)) :
  MF l Z h0 ⟨sg2,"get","(I)Ljava/lang/Object;"⟩ jdk_44_method_5_code 2 (some (.object sg6)) ⟨0,0,0,0⟩ #[(.ref a),(.int 0)] (MI o0 n0 h0):=by
 refine ai gV (wO a) ?_
 intro p e s m below meth c T0 X0 hx hby hml hret hlk hnm hown hZ e0
 have N0:=Fr.nil n0
 refine aa X0 hx 1 (hb hby pt) rfl rfl ?_
 have ll706:((0:Int32):Int32).toInt=0:=by decide
 refine aI X0 hx 9 4 (hb hby pu) (by decide) (by decide) rfl (fun c705=>?_) (fun c705=>?_)
 ·skip
  exfalso;revert c705;decide
 ·skip
  refine ab X0 hx 5 (hb hby MD) rfl rfl rfl ?_
  refine ao X0 hx hZ hown (tw hw 265 rfl) Via.refl e0 F1 8 (hb hby ME) rfl ?_
  intro T707 X707 e707
  exact aA X707 hx hlk hret rfl rfl rfl (hb hby MG) (by decide) (by decide) e707 ⟨rfl,N0,rfl⟩
def MJ (o1:Addr)(n0:Nat)(h0:Heap)(v:Option Value)(h:Heap)(L:List Loc):Prop:=v=some (.ref o1)∧Fr n0 L∧h=h0
theorem wP (a:Addr)(m:MethodId):entryFrame m #[(.ref a),(.int 1)] 2=mkF m 0 #[.val (.ref a),.val (.int 1)] []:=by first|(simp [entryFrame,mkF,argsToLocals,Value.category];done)|rfl
theorem cG2 (l:Launch)(Z:State)(a0:Array Value)(hw:HW a0 Z)(a:Addr)(h0:Heap)(n0:Nat)(Z0:n0≤h0.size)(cst:Int32)(fm:Option Addr)(em:Addr)(SX_:SX Z cst fm em)(O0:Old Z n0 h0)(o1:Addr)(hne:o1≠em)(F2:Fld Z h0 a sg2 "e1" bl (.ref o1)) :
  MF l Z h0 ⟨sg2,"get","(I)Ljava/lang/Object;"⟩ jdk_44_method_5_code 2 (some (.object sg6)) ⟨0,0,0,0⟩ #[(.ref a),(.int 1)] (MJ o1 n0 h0):=by
 refine ai gV (wP a) ?_
 intro p e s m below meth c T0 X0 hx hby hml hret hlk hnm hown hZ e0
 have N0:=Fr.nil n0
 refine aa X0 hx 1 (hb hby pt) rfl rfl ?_
 have ll709:((1:Int32):Int32).toInt=1:=by decide
 refine aI X0 hx 9 4 (hb hby pu) (by decide) (by decide) rfl (fun c708=>?_) (fun c708=>?_)
 ·skip
  refine aa X0 hx 10 (hb hby MH) rfl rfl ?_
  refine ac X0 hx (1:Int32) 11 (hb hby wF) rfl (by decide) ?_
  have ll711:((1:Int32):Int32).toInt=1:=by decide
  have ll712:((1:Int32):Int32).toInt=1:=by decide
  refine av X0 hx 29 14 (hb hby wG) (by decide) (by decide) rfl (fun c710=>?_) (fun c710=>?_)
  ·skip
   exfalso;revert c710;decide
  ·skip
   refine ab X0 hx 15 (hb hby wH) rfl rfl rfl ?_
   refine ao X0 hx hZ hown (tw hw 267 rfl) Via.refl e0 F2 18 (hb hby wI) rfl ?_
   intro T713 X713 e713
   refine dZ X713 hx hZ hown (tw hw 275 rfl) Via.refl e713 (Sta.ext O0.2 SX_.2.2.2.2.2.2) 21 (hb hby wJ) rfl ?_
   intro T714 X714 e714
   refine de X714 hx 29 24 (hb hby wK) (by decide) (by decide) rfl (fun c715=>?_) (fun c715=>?_)
   ·skip
    exact absurd c715 hne
   ·skip
    refine ab X714 hx 25 (hb hby wL) rfl rfl rfl ?_
    refine ao X714 hx hZ hown (tw hw 267 rfl) Via.refl e714 F2 28 (hb hby wM) rfl ?_
    intro T716 X716 e716
    exact aA X716 hx hlk hret rfl rfl rfl (hb hby wN) (by decide) (by decide) e716 ⟨rfl,N0,rfl⟩
 ·skip
  exfalso;revert c708;decide
theorem MK:dk bD 0 (.aload_n 0) 1:=by decide +kernel
theorem ML:dk bD 1 (.arraylength) 1:=by decide +kernel
theorem MM:dk bD 2 (.anewarray 2) 3:=by decide +kernel
theorem MN:dk bD 5 (.astore_n 1) 1:=by decide +kernel
theorem MO:dk bD 6 (.iconst 0) 1:=by decide +kernel
theorem MP:dk bD 7 (.istore_n 2) 1:=by decide +kernel
theorem jq:dk bD 8 (.iload_n 2) 1:=by decide +kernel
theorem jr:dk bD 9 (.aload_n 0) 1:=by decide +kernel
theorem f7:dk bD 10 (.arraylength) 1:=by decide +kernel
theorem f8:dk bD 11 (.if_icmp .ge 18) 3:=by decide +kernel
theorem ij:dk bD 14 (.aload_n 1) 1:=by decide +kernel
theorem ik:dk bD 15 (.iload_n 2) 1:=by decide +kernel
theorem il:dk bD 16 (.aload_n 0) 1:=by decide +kernel
theorem im:dk bD 17 (.iload_n 2) 1:=by decide +kernel
theorem ip:dk bD 18 (.aaload) 1:=by decide +kernel
theorem iq:dk bD 19 (.invokestatic 37) 3:=by decide +kernel
theorem ir:dk bD 22 (.aastore) 1:=by decide +kernel
theorem it:dk bD 23 (.iinc 2 1) 3:=by decide +kernel
theorem iu:dk bD 26 (.goto (-18)) 3:=by decide +kernel
theorem wQ:dk bD 29 (.new 12) 3:=by decide +kernel
theorem wR:dk bD 32 (.dup) 1:=by decide +kernel
theorem wT:dk bD 33 (.aload_n 1) 1:=by decide +kernel
theorem wU:dk bD 34 (.iconst 0) 1:=by decide +kernel
theorem wV:dk bD 35 (.invokespecial 43) 3:=by decide +kernel
theorem wW:dk bD 38 (.areturn) 1:=by decide +kernel
theorem l7:plainFor (⟨pG,"listFromArray","([Ljava/lang/Object;)Ljava/util/List;"⟩:MethodName)=true:=plainFor_of_name (by first|(simp [plainName,overriddenIn];done)|decide +kernel)
def MQ (Z:State)(o0 o1 o2:Addr)(n0:Nat)(h0:Heap)(v:Option Value)(h:Heap)(L:List Loc):Prop:=∃r:Addr,v=some (.ref r)∧Fr n0 L∧Keep h0 h []∧n0≤r∧h0.size≤r∧Exa Z h r sg3∧∃(el:Addr)(ke:ClassId),h0.size≤el∧Fld Z h r sg3 "elements" "[Ljava/lang/Object;" (.ref el)∧Arv Z h el ke (.object sg6) 3 [(.ref o0),(.ref o1),(.ref o2)] .null
theorem wX (ar:Addr)(m:MethodId):entryFrame m #[(.ref ar)] 3=mkF m 0 #[.val (.ref ar),.unset,.unset] []:=by first|(simp [entryFrame,mkF,argsToLocals,Value.category];done)|rfl
theorem cLf (l:Launch)(Z:State)(a0:Array Value)(hw:HW a0 Z)(ar:Addr)(h0:Heap)(n0:Nat)(Z0:n0≤h0.size)(cst:Int32)(fm:Option Addr)(em:Addr)(SX_:SX Z cst fm em)(O0:Old Z n0 h0)(o0 o1 o2:Addr)(ka:ClassId)(Eo0:Exa Z h0 o0 sg1)(Eo1:Exa Z h0 o1 sg1)(Eo2:Exa Z h0 o2 sg1)(V:Arv Z h0 ar ka (.object sg1) 3 [(.ref o0),(.ref o1),(.ref o2)] .null) :
  MF l Z h0 ⟨pG,"listFromArray","([Ljava/lang/Object;)Ljava/util/List;"⟩ jdk_56_method_4_code 3 (some (.object sg9)) ⟨5,2,8,85⟩ #[(.ref ar)] (MQ Z o0 o1 o2 n0 h0):=by
 refine ai l7 (wX ar) ?_
 intro p e s m below meth c T0 X0 hx hby hml hret hlk hnm hown hZ e0
 have N0:=Fr.nil n0
 refine ab X0 hx 1 (hb hby MK) rfl rfl rfl ?_
 refine aH X0 hx hZ e0 V 2 (hb hby ML) rfl ?_
 refine fp X0 hx hZ hown (tw hw 207 rfl) (tw hw 208 rfl) e0 (by decide) (cap:=3) (by decide) (by decide) 5 (hb hby MM) rfl (by decide) (by decide) ?_
 intro T717 h717 k717 a717 g717 X717 e717 E717 V717 O717
 have ne718:o0≠a717:=Nat.ne_of_lt (by rw[g717];exact Eo0.lt)
 have ne719:o1≠a717:=Nat.ne_of_lt (by rw[g717];exact Eo1.lt)
 have ne720:o2≠a717:=Nat.ne_of_lt (by rw[g717];exact Eo2.lt)
 have ne721:ar≠a717:=Nat.ne_of_lt (by rw[g717];exact V.lt)
 have ge722:n0≤a717:=by rw[g717];exact Z0
 have sz723:h0.size≤a717:=by rw[g717];exact (Keep.refl h0 []).1
 have F724:=O0.ext E717
 have F725:=Eo0.ext E717
 have F726:=Eo1.ext E717
 have F727:=Eo2.ext E717
 have F728:=V.ext E717
 have K729:=(Keep.refl h0 []).ext E717
 have Z730:n0≤h717.size:=Nat.le_trans Z0 E717.1
 have V731:Arv Z h717 a717 k717 (.object sg6) (3:Int32) [.null,.null,.null] .null:=V717.pad (pad_rep [] .null 3)
 refine au (l':=#[.val (.ref ar),.val (.ref a717),.unset]) X717 hx 6 (hb hby MN) rfl rfl rfl ?_
 refine ac X717 hx (0:Int32) 7 (hb hby MO) rfl (by decide) ?_
 refine aq (l':=#[.val (.ref ar),.val (.ref a717),.val (.int (0:Int32))]) X717 hx 8 (hb hby MP) rfl rfl ?_
 refine aa X717 hx 9 (hb hby jq) rfl rfl ?_
 refine ab X717 hx 10 (hb hby jr) rfl rfl rfl ?_
 refine aH X717 hx hZ e717 F728 11 (hb hby f7) rfl ?_
 have ll733:((3:Int32):Int32).toInt=3:=by decide
 have ll734:((0:Int32):Int32).toInt=0:=by decide
 refine am X717 hx 29 14 (hb hby f8) (by decide) (by decide) rfl (fun c732=>?_) (fun c732=>?_)
 ·skip
  exfalso;revert c732;decide
 ·skip
  refine ab X717 hx 15 (hb hby ij) rfl rfl rfl ?_
  refine aa X717 hx 16 (hb hby ik) rfl rfl ?_
  refine ab X717 hx 17 (hb hby il) rfl rfl rfl ?_
  refine aa X717 hx 18 (hb hby im) rfl rfl ?_
  refine bM X717 hx hZ e717 F728 rfl (by decide) (by decide) (by rw[show ((0:Int32):Int32).toNatClampNeg=0 by decide]<;>rfl) 19 (hb hby ip) rfl ?_
  refine ag X717 hx hZ hown (tw hw 209 rfl) (tw hw 210 rfl) (tw hw 43 rfl) (tw hw 211 rfl) (by decide) (cRN l Z a0 hw o0 h717 n0 Z730) e717 (argsL:=[(.ref o0)]) (rest:=[(.int (0:Int32)),(.ref a717)]) rfl rfl 2 22 rfl (by rw[hml];rfl) (lenOf b9 rfl) (Nat.le_refl _) (by decide) (by decide) (by decide) (by decide) (hb hby iq) ?_
  intro v735 T735 L735 X735 hQ735
  obtain⟨rfl,N735,q735⟩:=hQ735
  have N736:=Fr.app N0 N735
  show Go _ _ _ _ _ (mkF _ _ _ [(.ref o0),(.int (0:Int32)),(.ref a717)])
  refine a2 X735 hx hZ q735 V731 O717 (Ins.of_exa F725 (tw hw 212 rfl)) 0 (by decide) (by decide) (by show 0<3;decide) 23 (hb hby ir) rfl ?_
  intro T737 h737 X737 e737 W737 V737
  have F738:=F724.wr W737 ge722
  have F739:=F725.wr W737
  have F740:=F726.wr W737
  have F741:=F727.wr W737
  have F742:=F728.other W737 ne721
  have K744:=K729.wr W737 (Or.inr sz723)
  have N745:=Fr.snoc X737 N736 ge722
  have Z746:n0≤h737.size:=by rw[W737.size];exact Z730
  have V737':Arv Z h737 a717 k717 (.object sg6) (3:Int32) [(.ref o0),.null,.null] .null:=V737
  refine aw X737 hx (w:=(1:Int32)) (1:Int32) (by decide) (l':=#[.val (.ref ar),.val (.ref a717),.val (.int (1:Int32))]) 26 (hb hby it) rfl rfl (by decide) rfl ?_
  refine ap X737 hx 8 (hb hby iu) (by decide) (by decide) ?_
  refine aa X737 hx 9 (hb hby jq) rfl rfl ?_
  refine ab X737 hx 10 (hb hby jr) rfl rfl rfl ?_
  refine aH X737 hx hZ e737 F742 11 (hb hby f7) rfl ?_
  have ll748:((3:Int32):Int32).toInt=3:=by decide
  have ll749:((1:Int32):Int32).toInt=1:=by decide
  refine am X737 hx 29 14 (hb hby f8) (by decide) (by decide) rfl (fun c747=>?_) (fun c747=>?_)
  ·skip
   exfalso;revert c747;decide
  ·skip
   refine ab X737 hx 15 (hb hby ij) rfl rfl rfl ?_
   refine aa X737 hx 16 (hb hby ik) rfl rfl ?_
   refine ab X737 hx 17 (hb hby il) rfl rfl rfl ?_
   refine aa X737 hx 18 (hb hby im) rfl rfl ?_
   refine bM X737 hx hZ e737 F742 rfl (by decide) (by decide) (by rw[show ((1:Int32):Int32).toNatClampNeg=1 by decide]<;>rfl) 19 (hb hby ip) rfl ?_
   refine ag X737 hx hZ hown (tw hw 209 rfl) (tw hw 210 rfl) (tw hw 43 rfl) (tw hw 211 rfl) (by decide) (cRN l Z a0 hw o1 h737 n0 Z746) e737 (argsL:=[(.ref o1)]) (rest:=[(.int (1:Int32)),(.ref a717)]) rfl rfl 2 22 rfl (by rw[hml];rfl) (lenOf b9 rfl) (Nat.le_refl _) (by decide) (by decide) (by decide) (by decide) (hb hby iq) ?_
   intro v750 T750 L750 X750 hQ750
   obtain⟨rfl,N750,q750⟩:=hQ750
   have N751:=Fr.app N745 N750
   show Go _ _ _ _ _ (mkF _ _ _ [(.ref o1),(.int (1:Int32)),(.ref a717)])
   refine a2 X750 hx hZ q750 V737' O717 (Ins.of_exa F740 (tw hw 212 rfl)) 1 (by decide) (by decide) (by show 1<3;decide) 23 (hb hby ir) rfl ?_
   intro T752 h752 X752 e752 W752 V752
   have F753:=F738.wr W752 ge722
   have F754:=F739.wr W752
   have F755:=F740.wr W752
   have F756:=F741.wr W752
   have F757:=F742.other W752 ne721
   have K759:=K744.wr W752 (Or.inr sz723)
   have N760:=Fr.snoc X752 N751 ge722
   have Z761:n0≤h752.size:=by rw[W752.size];exact Z746
   have V752':Arv Z h752 a717 k717 (.object sg6) (3:Int32) [(.ref o0),(.ref o1),.null] .null:=V752
   refine aw X752 hx (w:=(1:Int32)) (2:Int32) (by decide) (l':=#[.val (.ref ar),.val (.ref a717),.val (.int (2:Int32))]) 26 (hb hby it) rfl rfl (by decide) rfl ?_
   refine ap X752 hx 8 (hb hby iu) (by decide) (by decide) ?_
   refine aa X752 hx 9 (hb hby jq) rfl rfl ?_
   refine ab X752 hx 10 (hb hby jr) rfl rfl rfl ?_
   refine aH X752 hx hZ e752 F757 11 (hb hby f7) rfl ?_
   have ll763:((3:Int32):Int32).toInt=3:=by decide
   have ll764:((2:Int32):Int32).toInt=2:=by decide
   refine am X752 hx 29 14 (hb hby f8) (by decide) (by decide) rfl (fun c762=>?_) (fun c762=>?_)
   ·skip
    exfalso;revert c762;decide
   ·skip
    refine ab X752 hx 15 (hb hby ij) rfl rfl rfl ?_
    refine aa X752 hx 16 (hb hby ik) rfl rfl ?_
    refine ab X752 hx 17 (hb hby il) rfl rfl rfl ?_
    refine aa X752 hx 18 (hb hby im) rfl rfl ?_
    refine bM X752 hx hZ e752 F757 rfl (by decide) (by decide) (by rw[show ((2:Int32):Int32).toNatClampNeg=2 by decide]<;>rfl) 19 (hb hby ip) rfl ?_
    refine ag X752 hx hZ hown (tw hw 209 rfl) (tw hw 210 rfl) (tw hw 43 rfl) (tw hw 211 rfl) (by decide) (cRN l Z a0 hw o2 h752 n0 Z761) e752 (argsL:=[(.ref o2)]) (rest:=[(.int (2:Int32)),(.ref a717)]) rfl rfl 2 22 rfl (by rw[hml];rfl) (lenOf b9 rfl) (Nat.le_refl _) (by decide) (by decide) (by decide) (by decide) (hb hby iq) ?_
    intro v765 T765 L765 X765 hQ765
    obtain⟨rfl,N765,q765⟩:=hQ765
    have N766:=Fr.app N760 N765
    show Go _ _ _ _ _ (mkF _ _ _ [(.ref o2),(.int (2:Int32)),(.ref a717)])
    refine a2 X765 hx hZ q765 V752' O717 (Ins.of_exa F756 (tw hw 212 rfl)) 2 (by decide) (by decide) (by show 2<3;decide) 23 (hb hby ir) rfl ?_
    intro T767 h767 X767 e767 W767 V767
    have F768:=F753.wr W767 ge722
    have F769:=F754.wr W767
    have F770:=F755.wr W767
    have F771:=F756.wr W767
    have F772:=F757.other W767 ne721
    have K774:=K759.wr W767 (Or.inr sz723)
    have N775:=Fr.snoc X767 N766 ge722
    have Z776:n0≤h767.size:=by rw[W767.size];exact Z761
    have V767':Arv Z h767 a717 k717 (.object sg6) (3:Int32) [(.ref o0),(.ref o1),(.ref o2)] .null:=V767
    refine aw X767 hx (w:=(1:Int32)) (3:Int32) (by decide) (l':=#[.val (.ref ar),.val (.ref a717),.val (.int (3:Int32))]) 26 (hb hby it) rfl rfl (by decide) rfl ?_
    refine ap X767 hx 8 (hb hby iu) (by decide) (by decide) ?_
    refine aa X767 hx 9 (hb hby jq) rfl rfl ?_
    refine ab X767 hx 10 (hb hby jr) rfl rfl rfl ?_
    refine aH X767 hx hZ e767 F772 11 (hb hby f7) rfl ?_
    have ll778:((3:Int32):Int32).toInt=3:=by decide
    have ll779:((3:Int32):Int32).toInt=3:=by decide
    refine am X767 hx 29 14 (hb hby f8) (by decide) (by decide) rfl (fun c777=>?_) (fun c777=>?_)
    ·skip
     refine bg X767 hx hZ hown (tw hw 213 rfl) (tw hw 214 rfl) (tw hw 88 rfl) e767 32 (hb hby wQ) rfl (by decide) (by decide) ?_
     intro T780 h780 a780 g780 X780 e780 E780 A780 D780
     have ne781:o0≠a780:=Nat.ne_of_lt (by rw[g780];exact F769.lt)
     have ne782:o1≠a780:=Nat.ne_of_lt (by rw[g780];exact F770.lt)
     have ne783:o2≠a780:=Nat.ne_of_lt (by rw[g780];exact F771.lt)
     have ne784:ar≠a780:=Nat.ne_of_lt (by rw[g780];exact F772.lt)
     have ne785:a717≠a780:=Nat.ne_of_lt (by rw[g780];exact V767'.lt)
     have ge786:n0≤a780:=by rw[g780];exact Z776
     have sz787:h0.size≤a780:=by rw[g780];exact K774.1
     have F788:=F768.ext E780
     have F789:=F769.ext E780
     have F790:=F770.ext E780
     have F791:=F771.ext E780
     have F792:=F772.ext E780
     have F793:=V767'.ext E780
     have K794:=K774.ext E780
     have Z795:n0≤h780.size:=Nat.le_trans Z776 E780.1
     have F796:Fld Z h780 a780 sg3 "elements" "[Ljava/lang/Object;" .null:=D780 (Or.inr (tw hw 91 rfl)) (ty:=(.array (.object sg6))) (by decide)
     have F797:Fld Z h780 a780 sg3 "allowNulls" "Z" (.int (0:Int32)):=D780 (Or.inr (tw hw 239 rfl)) (ty := .boolean) (by decide)
     refine a8 X780 hx 33 (hb hby wR) rfl rfl ?_
     refine ab X780 hx 34 (hb hby wT) rfl rfl rfl ?_
     refine ac X780 hx (0:Int32) 35 (hb hby wU) rfl (by decide) ?_
     refine nV X780 hx hZ rfl hown (tw hw 215 rfl) (tw hw 216 rfl) (tw hw 88 rfl) (tw hw 218 rfl) (by decide) (cLN l Z a0 hw a780 a717 h780 n0 Z795 A780 ge786 F796 F797) e780 (a:=a780) (argsL:=[(.ref a717),(.int (0:Int32))]) (rest:=[(.ref a780)]) rfl rfl 1 38 rfl (by rw[hml];rfl) (lenOf jU rfl) (Nat.le_refl _) (by decide) (by decide) (by decide) (by decide) (hb hby wV) ?_
     intro v798 T798 L798 X798 hQ798
     obtain⟨rfl,N798,K798,Fl⟩:=hQ798
     have N799:=Fr.app N775 N798
     have F800:=F788.keep K798 (allS ge786 all0)
     have F801:=F789.keep K798
     have F802:=F790.keep K798
     have F803:=F791.keep K798
     have F804:=F792.keep K798 (ninS ne784 nin0)
     have F805:=F793.keep K798 (ninS ne785 nin0)
     have F806:=A780.keep K798
     have Z809:n0≤T798.heap.size:=Nat.le_trans Z795 K798.1
     have K810:=K794.trans K798 (allS (Or.inr sz787) all0)
     show Go _ _ _ _ _ (mkF _ _ _ [(.ref a780)])
     exact aA X798 hx hlk hret rfl rfl rfl (hb hby wW) (by decide) (by decide) rfl ⟨a780,rfl,N799,K810,ge786,sz787,F806,a717,k717,sz723,Fl,F805⟩
    ·skip
     exfalso;revert c777;decide
theorem l8:dk bL 0 (.aload_n 0) 1:=by decide +kernel
theorem l9:dk bL 1 (.arraylength) 1:=by decide +kernel
theorem ma:dk bL 2 (.tableswitch 57 0 2 #[26,32,43]) 26:=by decide +kernel
theorem wY:dk bL 34 (.new 96) 3:=by decide +kernel
theorem wZ:dk bL 37 (.dup) 1:=by decide +kernel
theorem w_:dk bL 38 (.aload_n 0) 1:=by decide +kernel
theorem xa:dk bL 39 (.iconst 0) 1:=by decide +kernel
theorem xb:dk bL 40 (.aaload) 1:=by decide +kernel
theorem xc:dk bL 41 (.invokespecial 98) 3:=by decide +kernel
theorem xd:dk bL 44 (.areturn) 1:=by decide +kernel
theorem xe:dk bL 45 (.new 96) 3:=by decide +kernel
theorem xf:dk bL 48 (.dup) 1:=by decide +kernel
theorem xg:dk bL 49 (.aload_n 0) 1:=by decide +kernel
theorem xh:dk bL 50 (.iconst 0) 1:=by decide +kernel
theorem xi:dk bL 51 (.aaload) 1:=by decide +kernel
theorem xj:dk bL 52 (.aload_n 0) 1:=by decide +kernel
theorem xk:dk bL 53 (.iconst 1) 1:=by decide +kernel
theorem xl:dk bL 54 (.aaload) 1:=by decide +kernel
theorem xm:dk bL 55 (.invokespecial 100) 3:=by decide +kernel
theorem xn:dk bL 58 (.areturn) 1:=by decide +kernel
theorem xo:dk bL 59 (.aload_n 0) 1:=by decide +kernel
theorem xp:dk bL 60 (.invokestatic 109) 3:=by decide +kernel
theorem xq:dk bL 63 (.areturn) 1:=by decide +kernel
theorem ey:plainFor (⟨sg9,"of","([Ljava/lang/Object;)Ljava/util/List;"⟩:MethodName)=true:=plainFor_of_name (by first|(simp [plainName,overriddenIn];done)|decide +kernel)
def xr (Z:State)(o0 em:Addr)(n0:Nat)(h0:Heap)(v:Option Value)(h:Heap)(L:List Loc):Prop:=∃r:Addr,v=some (.ref r)∧Fr n0 L∧Keep h0 h []∧n0≤r∧h0.size≤r∧Exa Z h r sg2∧Fld Z h r sg2 "e0" bl (.ref o0)∧Fld Z h r sg2 "e1" bl (.ref em)
theorem nW (ar:Addr)(m:MethodId):entryFrame m #[(.ref ar)] 2=mkF m 0 #[.val (.ref ar),.unset] []:=by first|(simp [entryFrame,mkF,argsToLocals,Value.category];done)|rfl
theorem Pj (l:Launch)(Z:State)(a0:Array Value)(hw:HW a0 Z)(ar:Addr)(h0:Heap)(n0:Nat)(Z0:n0≤h0.size)(cst:Int32)(fm:Option Addr)(em:Addr)(SX_:SX Z cst fm em)(O0:Old Z n0 h0)(o0:Addr)(ka:ClassId)(Eo0:Exa Z h0 o0 sg1)(V:Arv Z h0 ar ka (.object sg1) 1 [(.ref o0)] .null) :
  MF l Z h0 ⟨sg9,"of","([Ljava/lang/Object;)Ljava/util/List;"⟩ jdk_40_method_47_code 2 (some (.object sg9)) ⟨6,2,8,105⟩ #[(.ref ar)] (xr Z o0 em n0 h0):=by
 refine ai ey (nW ar) ?_
 intro p e s m below meth c T0 X0 hx hby hml hret hlk hnm hown hZ e0
 have N0:=Fr.nil n0
 refine ab X0 hx 1 (hb hby l8) rfl rfl rfl ?_
 refine aH X0 hx hZ e0 V 2 (hb hby l9) rfl ?_
 refine lS X0 hx (hb hby ma) 34 (by decide) 32 (by decide) (by decide) (by decide) ?_
 show Go _ _ _ _ _ (mkF _ _ _ [])
 refine bg X0 hx hZ hown (tw hw 253 rfl) (tw hw 254 rfl) (tw hw 255 rfl) e0 37 (hb hby wY) rfl (by decide) (by decide) ?_
 intro T811 h811 a811 g811 X811 e811 E811 A811 D811
 have ne812:o0≠a811:=Nat.ne_of_lt (by rw[g811];exact Eo0.lt)
 have ne813:ar≠a811:=Nat.ne_of_lt (by rw[g811];exact V.lt)
 have ge814:n0≤a811:=by rw[g811];exact Z0
 have sz815:h0.size≤a811:=by rw[g811];exact (Keep.refl h0 []).1
 have F816:=O0.ext E811
 have F817:=Eo0.ext E811
 have F818:=V.ext E811
 have K819:=(Keep.refl h0 []).ext E811
 have Z820:n0≤h811.size:=Nat.le_trans Z0 E811.1
 have F821:Fld Z h811 a811 sg2 "e0" bl .null:=D811 (Or.inr (tw hw 266 rfl)) (ty:=(.object sg6)) (by decide)
 have F822:Fld Z h811 a811 sg2 "e1" bl .null:=D811 (Or.inr (tw hw 268 rfl)) (ty:=(.object sg6)) (by decide)
 refine a8 X811 hx 38 (hb hby wZ) rfl rfl ?_
 refine ab X811 hx 39 (hb hby w_) rfl rfl rfl ?_
 refine ac X811 hx (0:Int32) 40 (hb hby xa) rfl (by decide) ?_
 refine bM X811 hx hZ e811 F818 rfl (by decide) (by decide) (by rw[show ((0:Int32):Int32).toNatClampNeg=0 by decide]<;>rfl) 41 (hb hby xb) rfl ?_
 refine aN X811 hx hZ rfl hown (tw hw 281 rfl) (tw hw 282 rfl) (tw hw 255 rfl) (tw hw 283 rfl) (by decide) (cL3 l Z a0 hw a811 o0 h811 n0 Z820 cst fm em SX_ F816 A811 ge814 F821 F822) e811 (a:=a811) (argsL:=[(.ref o0)]) (rest:=[(.ref a811)]) rfl rfl 1 44 rfl (by rw[hml];rfl) (lenOf jW rfl) (Nat.le_refl _) (by decide) (by decide) (by decide) (by decide) (hb hby xc) ?_
 intro v823 T823 L823 X823 hQ823
 obtain⟨rfl,N823,K823,f1,f2⟩:=hQ823
 have N824:=Fr.app N0 N823
 have F825:=F816.keep K823 (allS ge814 all0)
 have F826:=F817.keep K823
 have F827:=F818.keep K823 (ninS ne813 nin0)
 have F828:=A811.keep K823
 have Z831:n0≤T823.heap.size:=Nat.le_trans Z820 K823.1
 have K832:=K819.trans K823 (allS (Or.inr sz815) all0)
 show Go _ _ _ _ _ (mkF _ _ _ [(.ref a811)])
 exact aA X823 hx hlk hret rfl rfl rfl (hb hby xd) (by decide) (by decide) rfl ⟨a811,rfl,N824,K832,ge814,sz815,F828,f1,f2⟩
def xs (Z:State)(o0 o1:Addr)(n0:Nat)(h0:Heap)(v:Option Value)(h:Heap)(L:List Loc):Prop:=∃r:Addr,v=some (.ref r)∧Fr n0 L∧Keep h0 h []∧n0≤r∧h0.size≤r∧Exa Z h r sg2∧Fld Z h r sg2 "e0" bl (.ref o0)∧Fld Z h r sg2 "e1" bl (.ref o1)
theorem nX (ar:Addr)(m:MethodId):entryFrame m #[(.ref ar)] 2=mkF m 0 #[.val (.ref ar),.unset] []:=by first|(simp [entryFrame,mkF,argsToLocals,Value.category];done)|rfl
theorem Pk (l:Launch)(Z:State)(a0:Array Value)(hw:HW a0 Z)(ar:Addr)(h0:Heap)(n0:Nat)(Z0:n0≤h0.size)(cst:Int32)(fm:Option Addr)(em:Addr)(SX_:SX Z cst fm em)(O0:Old Z n0 h0)(o0 o1:Addr)(ka:ClassId)(Eo0:Exa Z h0 o0 sg1)(Eo1:Exa Z h0 o1 sg1)(V:Arv Z h0 ar ka (.object sg1) 2 [(.ref o0),(.ref o1)] .null) :
  MF l Z h0 ⟨sg9,"of","([Ljava/lang/Object;)Ljava/util/List;"⟩ jdk_40_method_47_code 2 (some (.object sg9)) ⟨6,2,8,105⟩ #[(.ref ar)] (xs Z o0 o1 n0 h0):=by
 refine ai ey (nX ar) ?_
 intro p e s m below meth c T0 X0 hx hby hml hret hlk hnm hown hZ e0
 have N0:=Fr.nil n0
 refine ab X0 hx 1 (hb hby l8) rfl rfl rfl ?_
 refine aH X0 hx hZ e0 V 2 (hb hby l9) rfl ?_
 refine lS X0 hx (hb hby ma) 45 (by decide) 43 (by decide) (by decide) (by decide) ?_
 show Go _ _ _ _ _ (mkF _ _ _ [])
 refine bg X0 hx hZ hown (tw hw 253 rfl) (tw hw 254 rfl) (tw hw 255 rfl) e0 48 (hb hby xe) rfl (by decide) (by decide) ?_
 intro T833 h833 a833 g833 X833 e833 E833 A833 D833
 have ne834:o0≠a833:=Nat.ne_of_lt (by rw[g833];exact Eo0.lt)
 have ne835:o1≠a833:=Nat.ne_of_lt (by rw[g833];exact Eo1.lt)
 have ne836:ar≠a833:=Nat.ne_of_lt (by rw[g833];exact V.lt)
 have ge837:n0≤a833:=by rw[g833];exact Z0
 have sz838:h0.size≤a833:=by rw[g833];exact (Keep.refl h0 []).1
 have F839:=O0.ext E833
 have F840:=Eo0.ext E833
 have F841:=Eo1.ext E833
 have F842:=V.ext E833
 have K843:=(Keep.refl h0 []).ext E833
 have Z844:n0≤h833.size:=Nat.le_trans Z0 E833.1
 have F845:Fld Z h833 a833 sg2 "e0" bl .null:=D833 (Or.inr (tw hw 266 rfl)) (ty:=(.object sg6)) (by decide)
 have F846:Fld Z h833 a833 sg2 "e1" bl .null:=D833 (Or.inr (tw hw 268 rfl)) (ty:=(.object sg6)) (by decide)
 refine a8 X833 hx 49 (hb hby xf) rfl rfl ?_
 refine ab X833 hx 50 (hb hby xg) rfl rfl rfl ?_
 refine ac X833 hx (0:Int32) 51 (hb hby xh) rfl (by decide) ?_
 refine bM X833 hx hZ e833 F842 rfl (by decide) (by decide) (by rw[show ((0:Int32):Int32).toNatClampNeg=0 by decide]<;>rfl) 52 (hb hby xi) rfl ?_
 refine ab X833 hx 53 (hb hby xj) rfl rfl rfl ?_
 refine ac X833 hx (1:Int32) 54 (hb hby xk) rfl (by decide) ?_
 refine bM X833 hx hZ e833 F842 rfl (by decide) (by decide) (by rw[show ((1:Int32):Int32).toNatClampNeg=1 by decide]<;>rfl) 55 (hb hby xl) rfl ?_
 refine aN X833 hx hZ rfl hown (tw hw 256 rfl) (tw hw 257 rfl) (tw hw 255 rfl) (tw hw 259 rfl) (by decide) (cL4 l Z a0 hw a833 o0 o1 h833 n0 Z844 cst fm em SX_ F839 A833 ge837 F845 F846) e833 (a:=a833) (argsL:=[(.ref o0),(.ref o1)]) (rest:=[(.ref a833)]) rfl rfl 1 58 rfl (by rw[hml];rfl) (lenOf jV rfl) (Nat.le_refl _) (by decide) (by decide) (by decide) (by decide) (hb hby xm) ?_
 intro v847 T847 L847 X847 hQ847
 obtain⟨rfl,N847,K847,f1,f2⟩:=hQ847
 have N848:=Fr.app N0 N847
 have F849:=F839.keep K847 (allS ge837 all0)
 have F850:=F840.keep K847
 have F851:=F841.keep K847
 have F852:=F842.keep K847 (ninS ne836 nin0)
 have F853:=A833.keep K847
 have Z856:n0≤T847.heap.size:=Nat.le_trans Z844 K847.1
 have K857:=K843.trans K847 (allS (Or.inr sz838) all0)
 show Go _ _ _ _ _ (mkF _ _ _ [(.ref a833)])
 exact aA X847 hx hlk hret rfl rfl rfl (hb hby xn) (by decide) (by decide) rfl ⟨a833,rfl,N848,K857,ge837,sz838,F853,f1,f2⟩
def xt (Z:State)(o0 o1 o2:Addr)(n0:Nat)(h0:Heap)(v:Option Value)(h:Heap)(L:List Loc):Prop:=∃r:Addr,v=some (.ref r)∧Fr n0 L∧Keep h0 h []∧n0≤r∧h0.size≤r∧Exa Z h r sg3∧∃(el:Addr)(ke:ClassId),h0.size≤el∧Fld Z h r sg3 "elements" "[Ljava/lang/Object;" (.ref el)∧Arv Z h el ke (.object sg6) 3 [(.ref o0),(.ref o1),(.ref o2)] .null
theorem nY (ar:Addr)(m:MethodId):entryFrame m #[(.ref ar)] 2=mkF m 0 #[.val (.ref ar),.unset] []:=by first|(simp [entryFrame,mkF,argsToLocals,Value.category];done)|rfl
theorem Pl (l:Launch)(Z:State)(a0:Array Value)(hw:HW a0 Z)(ar:Addr)(h0:Heap)(n0:Nat)(Z0:n0≤h0.size)(cst:Int32)(fm:Option Addr)(em:Addr)(SX_:SX Z cst fm em)(O0:Old Z n0 h0)(o0 o1 o2:Addr)(ka:ClassId)(Eo0:Exa Z h0 o0 sg1)(Eo1:Exa Z h0 o1 sg1)(Eo2:Exa Z h0 o2 sg1)(V:Arv Z h0 ar ka (.object sg1) 3 [(.ref o0),(.ref o1),(.ref o2)] .null) :
  MF l Z h0 ⟨sg9,"of","([Ljava/lang/Object;)Ljava/util/List;"⟩ jdk_40_method_47_code 2 (some (.object sg9)) ⟨6,2,8,105⟩ #[(.ref ar)] (xt Z o0 o1 o2 n0 h0):=by
 refine ai ey (nY ar) ?_
 intro p e s m below meth c T0 X0 hx hby hml hret hlk hnm hown hZ e0
 have N0:=Fr.nil n0
 refine ab X0 hx 1 (hb hby l8) rfl rfl rfl ?_
 refine aH X0 hx hZ e0 V 2 (hb hby l9) rfl ?_
 refine vW X0 hx (hb hby ma) 59 (by decide) (by decide) (by decide) ?_
 show Go _ _ _ _ _ (mkF _ _ _ [])
 refine ab X0 hx 60 (hb hby xo) rfl rfl rfl ?_
 refine ag X0 hx hZ hown (tw hw 203 rfl) (tw hw 204 rfl) (tw hw 205 rfl) (tw hw 206 rfl) (by decide) (cLf l Z a0 hw ar h0 n0 Z0 cst fm em SX_ O0 o0 o1 o2 ka Eo0 Eo1 Eo2 V) e0 (argsL:=[(.ref ar)]) (rest:=[]) rfl rfl 0 63 rfl (by rw[hml];rfl) (lenOf cX rfl) (Nat.le_refl _) (by decide) (by decide) (by decide) (by decide) (hb hby xp) ?_
 intro v858 T858 L858 X858 hQ858
 obtain⟨r,rfl,N858,K858,gr,sr,hL⟩:=hQ858
 have N859:=Fr.app N0 N858
 have F860:=O0.keep K858 all0
 have F861:=Eo0.keep K858
 have F862:=Eo1.keep K858
 have F863:=Eo2.keep K858
 have F864:=V.keep K858 nin0
 have Z865:n0≤T858.heap.size:=Nat.le_trans Z0 K858.1
 have K866:=(Keep.refl h0 []).trans K858 all0
 show Go _ _ _ _ _ (mkF _ _ _ [(.ref r)])
 exact aA X858 hx hlk hret rfl rfl rfl (hb hby xq) (by decide) (by decide) rfl ⟨r,rfl,N859,K866,gr,sr,hL⟩
theorem MR:dk fk 0 (.aload_n 0) 1:=by decide +kernel
theorem MS:dk fk 1 (.invokespecial 1) 3:=by decide +kernel
theorem MT:dk fk 4 (.aload_n 0) 1:=by decide +kernel
theorem MU:dk fk 5 (.aload_n 1) 1:=by decide +kernel
theorem MV:dk fk 6 (.putfield 7) 3:=by decide +kernel
theorem MW:dk fk 9 (.aload_n 0) 1:=by decide +kernel
theorem xu:dk fk 10 (.aload_n 2) 1:=by decide +kernel
theorem xv:dk fk 11 (.putfield 13) 3:=by decide +kernel
theorem xw:dk fk 14 (.return_) 1:=by decide +kernel
theorem mb:plainFor (⟨sg0,"<init>","(Ljava/lang/String;[I)V"⟩:MethodName)=true:=plainFor_of_name (by first|(simp [plainName,overriddenIn];done)|decide +kernel)
def MX (Z:State)(a wr st:Addr)(n0:Nat)(h0:Heap)(v:Option Value)(h:Heap)(L:List Loc):Prop:=v=none∧Fr n0 L∧Keep h0 h [a]∧Fld Z h a sg0 "written" cA (.ref wr)∧Fld Z h a sg0 "starts" "[I" (.ref st)∧Fld Z h a sg0 "names" cQ .null
theorem xx (a wr st:Addr)(m:MethodId):entryFrame m #[(.ref a),(.ref wr),(.ref st)] 3=mkF m 0 #[.val (.ref a),.val (.ref wr),.val (.ref st)] []:=by first|(simp [entryFrame,mkF,argsToLocals,Value.category];done)|rfl
theorem cRi (l:Launch)(Z:State)(a0:Array Value)(hw:HW a0 Z)(a wr st:Addr)(h0:Heap)(n0:Nat)(Z0:n0≤h0.size)(E:Exa Z h0 a sg0)(ga:n0≤a)(F1:Fld Z h0 a sg0 "written" cA .null)(F2:Fld Z h0 a sg0 "starts" "[I" .null)(F3:Fld Z h0 a sg0 "names" cQ .null) :
  MF l Z h0 ⟨sg0,"<init>","(Ljava/lang/String;[I)V"⟩ prog_26_method_2_code 3 none ⟨1,0,0,14⟩ #[(.ref a),(.ref wr),(.ref st)] (MX Z a wr st n0 h0):=by
 refine ai mb (xx a wr st) ?_
 intro p e s m below meth c T0 X0 hx hby hml hret hlk hnm hown hZ e0
 have N0:=Fr.nil n0
 refine ab X0 hx 1 (hb hby MR) rfl rfl rfl ?_
 refine bZ X0 hx hZ hown (tw hw 134 rfl) (tw hw 16 rfl) (tw hw 17 rfl) e0 0 4 (hb hby MS) rfl (by rw[hml];rfl) (by decide) (Nat.le_refl _) (by decide) ?_
 intro T867 X867 e867
 refine ab X867 hx 5 (hb hby MT) rfl rfl rfl ?_
 refine ab X867 hx 6 (hb hby MU) rfl rfl rfl ?_
 refine aZ X867 hx hZ hown (tw hw 135 rfl) Via.refl e867 F1 E (Or.inr ⟨(tw hw 136 rfl),rfl,hnm⟩) (tw hw 130 rfl) (ty:=(.object sg1)) (by decide) rfl rfl 9 (hb hby MV) rfl ?_
 intro T868 h868 X868 e868 W868
 have F869:Fld Z h868 a sg0 "written" cA (.ref wr):=F1.same W868
 have F870:=E.wr W868
 have F871:=F2.other W868 (Or.inr (slot_ne (Or.inr (tw hw 138 rfl)) (Or.inr (tw hw 136 rfl)) (by decide) (t:=(.array .int)) (t':=(.object sg1)) (by decide) (by decide)))
 have F872:=F3.other W868 (Or.inr (slot_ne (Or.inl (tw hw 79 rfl)) (Or.inr (tw hw 136 rfl)) (by decide) (t:=(.object sg9)) (t':=(.object sg1)) (by decide) (by decide)))
 have K873:=(Keep.refl h0 [a]).wr W868 (Or.inl (List.mem_of_getElem? (i:=0) rfl))
 have N874:=Fr.snoc X868 N0 ga
 have Z875:n0≤h868.size:=by rw[W868.size];exact Z0
 refine ab X868 hx 10 (hb hby MW) rfl rfl rfl ?_
 refine ab X868 hx 11 (hb hby xu) rfl rfl rfl ?_
 refine aZ X868 hx hZ hown (tw hw 137 rfl) Via.refl e868 F871 F870 (Or.inr ⟨(tw hw 138 rfl),rfl,hnm⟩) (tw hw 130 rfl) (ty:=(.array .int)) (by decide) rfl rfl 14 (hb hby xv) rfl ?_
 intro T876 h876 X876 e876 W876
 have F877:Fld Z h876 a sg0 "starts" "[I" (.ref st):=F871.same W876
 have F878:=F870.wr W876
 have F879:=F872.other W876 (Or.inr (slot_ne (Or.inl (tw hw 79 rfl)) (Or.inr (tw hw 138 rfl)) (by decide) (t:=(.object sg9)) (t':=(.array .int)) (by decide) (by decide)))
 have F880:=F869.other W876 (Or.inr (slot_ne (Or.inr (tw hw 136 rfl)) (Or.inr (tw hw 138 rfl)) (by decide) (t:=(.object sg1)) (t':=(.array .int)) (by decide) (by decide)))
 have K881:=K873.wr W876 (Or.inl (List.mem_of_getElem? (i:=0) rfl))
 have N882:=Fr.snoc X876 N874 ga
 have Z883:n0≤h876.size:=by rw[W876.size];exact Z875
 exact aY X876 hx hlk hret (hb hby xw) (by decide) (by decide) e876 ⟨rfl,N882,K881,F880,F877,F879⟩
theorem eH:dk bX 0 (.iload_n 1) 1:=by decide +kernel
theorem eI:dk bX 1 (.iconst 1) 1:=by decide +kernel
theorem eJ:dk bX 2 (.iadd) 1:=by decide +kernel
theorem eK:dk bX 3 (.aload_n 0) 1:=by decide +kernel
theorem eL:dk bX 4 (.getfield 13) 3:=by decide +kernel
theorem eM:dk bX 7 (.arraylength) 1:=by decide +kernel
theorem eN:dk bX 8 (.if_icmp .ge 16) 3:=by decide +kernel
theorem iv:dk bX 11 (.aload_n 0) 1:=by decide +kernel
theorem iw:dk bX 12 (.getfield 13) 3:=by decide +kernel
theorem ix:dk bX 15 (.iload_n 1) 1:=by decide +kernel
theorem iy:dk bX 16 (.iconst 1) 1:=by decide +kernel
theorem iz:dk bX 17 (.iadd) 1:=by decide +kernel
theorem iA:dk bX 18 (.iaload) 1:=by decide +kernel
theorem iB:dk bX 19 (.iconst 1) 1:=by decide +kernel
theorem iC:dk bX 20 (.isub) 1:=by decide +kernel
theorem iD:dk bX 21 (.goto 10) 3:=by decide +kernel
theorem iE:dk bX 24 (.aload_n 0) 1:=by decide +kernel
theorem iF:dk bX 25 (.getfield 7) 3:=by decide +kernel
theorem iG:dk bX 28 (.invokevirtual 33) 3:=by decide +kernel
theorem dh:dk bX 31 (.ireturn) 1:=by decide +kernel
theorem cg:plainFor (⟨sg0,"end","(I)I"⟩:MethodName)=true:=plainFor_of_name (by first|(simp [plainName,overriddenIn];done)|decide +kernel)
def nZ (cs:List Int32)(n0:Nat)(h0:Heap)(v:Option Value)(h:Heap)(L:List Loc):Prop:=∃r:Int32,v=some (.int r)∧r.toInt=(cs.length:Int)∧Fr n0 L∧h=h0
theorem mc (pa:Addr)(m:MethodId):entryFrame m #[(.ref pa),(.int 0)] 2=mkF m 0 #[.val (.ref pa),.val (.int 0)] []:=by first|(simp [entryFrame,mkF,argsToLocals,Value.category];done)|rfl
theorem pw (l:Launch)(Z:State)(a0:Array Value)(hw:HW a0 Z)(pa:Addr)(h0:Heap)(n0:Nat)(Z0:n0≤h0.size)(cst:Int32)(fm:Option Addr)(em:Addr)(SX_:SX Z cst fm em)(O0:Old Z n0 h0)(wr st:Addr)(ks:ClassId)(s0:Int32)(Lw B:Nat)(cs:List Int32)(Ep:Exa Z h0 pa sg0)(Fw:Fld Z h0 pa sg0 "written" cA (.ref wr))(Fs:Fld Z h0 pa sg0 "starts" "[I" (.ref st))(Vs:Arv Z h0 st ks .int 1 [(.int s0)] (.int 0))(S:a3 Z h0 Lw B wr cs) :
  MF l Z h0 ⟨sg0,"end","(I)I"⟩ prog_26_method_7_code 2 (some .int) ⟨2,0,0,28⟩ #[(.ref pa),(.int 0)] (nZ cs n0 h0):=by
 refine ai cg (mc pa) ?_
 intro p e s m below meth c T0 X0 hx hby hml hret hlk hnm hown hZ e0
 have N0:=Fr.nil n0
 have Ew:=S.exa
 refine aa X0 hx 1 (hb hby eH) rfl rfl ?_
 refine ac X0 hx (1:Int32) 2 (hb hby eI) rfl (by decide) ?_
 refine aL X0 hx (1:Int32) (by decide) 3 (hb hby eJ) rfl ?_
 refine ab X0 hx 4 (hb hby eK) rfl rfl rfl ?_
 refine ao X0 hx hZ hown (tw hw 137 rfl) Via.refl e0 Fs 7 (hb hby eL) rfl ?_
 intro T884 X884 e884
 refine aH X884 hx hZ e884 Vs 8 (hb hby eM) rfl ?_
 have ll886:((1:Int32):Int32).toInt=1:=by decide
 have ll887:((1:Int32):Int32).toInt=1:=by decide
 refine am X884 hx 24 11 (hb hby eN) (by decide) (by decide) rfl (fun c885=>?_) (fun c885=>?_)
 ·skip
  refine ab X884 hx 25 (hb hby iE) rfl rfl rfl ?_
  refine ao X884 hx hZ hown (tw hw 135 rfl) Via.refl e884 Fw 28 (hb hby iF) rfl ?_
  intro T888 X888 e888
  refine ak X888 hx hZ (C:=sg1) hown (tw hw 72 rfl) (tw hw 57 rfl) (tw hw 59 rfl) (tw hw 59 rfl) (tw hw 58 rfl) (tw hw 7 rfl) (tw hw 60 rfl) (by decide) (cLn l Z a0 hw wr h0 n0 Z0 cst fm em SX_ O0 Lw B cs S) e888 (b:=wr) Ew (argsL:=[]) (rest:=[]) rfl rfl 0 31 rfl (by rw[hml];rfl) (lenOf aF rfl) (Nat.le_refl _) (by decide) (by decide) (by decide) (by decide) (hb hby iG) ?_
  intro v889 T889 L889 X889 hQ889
  obtain⟨nl,rfl,hn,N889,q889⟩:=hQ889
  have N890:=Fr.app N0 N889
  show Go _ _ _ _ _ (mkF _ _ _ [(.int nl)])
  exact ay X889 hx hlk hret (hb hby dh) (by decide) (by decide) q889 ⟨nl,rfl,hn,N890,rfl⟩
 ·skip
  exfalso;revert c885;decide
def n4 (s1:Int32)(n0:Nat)(h0:Heap)(v:Option Value)(h:Heap)(L:List Loc):Prop:=∃r:Int32,v=some (.int r)∧r=s1-(1:Int32)∧Fr n0 L∧h=h0
theorem md (pa:Addr)(m:MethodId):entryFrame m #[(.ref pa),(.int 0)] 2=mkF m 0 #[.val (.ref pa),.val (.int 0)] []:=by first|(simp [entryFrame,mkF,argsToLocals,Value.category];done)|rfl
theorem px (l:Launch)(Z:State)(a0:Array Value)(hw:HW a0 Z)(pa:Addr)(h0:Heap)(n0:Nat)(Z0:n0≤h0.size)(cst:Int32)(fm:Option Addr)(em:Addr)(SX_:SX Z cst fm em)(O0:Old Z n0 h0)(wr st:Addr)(ks:ClassId)(s0 s1:Int32)(Lw B:Nat)(cs:List Int32)(Ep:Exa Z h0 pa sg0)(Fw:Fld Z h0 pa sg0 "written" cA (.ref wr))(Fs:Fld Z h0 pa sg0 "starts" "[I" (.ref st))(Vs:Arv Z h0 st ks .int 2 [(.int s0),(.int s1)] (.int 0))(S:a3 Z h0 Lw B wr cs) :
  MF l Z h0 ⟨sg0,"end","(I)I"⟩ prog_26_method_7_code 2 (some .int) ⟨2,0,0,28⟩ #[(.ref pa),(.int 0)] (n4 s1 n0 h0):=by
 refine ai cg (md pa) ?_
 intro p e s m below meth c T0 X0 hx hby hml hret hlk hnm hown hZ e0
 have N0:=Fr.nil n0
 have Ew:=S.exa
 refine aa X0 hx 1 (hb hby eH) rfl rfl ?_
 refine ac X0 hx (1:Int32) 2 (hb hby eI) rfl (by decide) ?_
 refine aL X0 hx (1:Int32) (by decide) 3 (hb hby eJ) rfl ?_
 refine ab X0 hx 4 (hb hby eK) rfl rfl rfl ?_
 refine ao X0 hx hZ hown (tw hw 137 rfl) Via.refl e0 Fs 7 (hb hby eL) rfl ?_
 intro T891 X891 e891
 refine aH X891 hx hZ e891 Vs 8 (hb hby eM) rfl ?_
 have ll893:((2:Int32):Int32).toInt=2:=by decide
 have ll894:((1:Int32):Int32).toInt=1:=by decide
 refine am X891 hx 24 11 (hb hby eN) (by decide) (by decide) rfl (fun c892=>?_) (fun c892=>?_)
 ·skip
  exfalso;revert c892;decide
 ·skip
  refine ab X891 hx 12 (hb hby iv) rfl rfl rfl ?_
  refine ao X891 hx hZ hown (tw hw 137 rfl) Via.refl e891 Fs 15 (hb hby iw) rfl ?_
  intro T895 X895 e895
  refine aa X895 hx 16 (hb hby ix) rfl rfl ?_
  refine ac X895 hx (1:Int32) 17 (hb hby iy) rfl (by decide) ?_
  refine aL X895 hx (1:Int32) (by decide) 18 (hb hby iz) rfl ?_
  refine aP X895 hx hZ e895 Vs (by decide) (by decide) (by rw[show ((1:Int32):Int32).toNatClampNeg=1 by decide]<;>rfl) 19 (hb hby iA) rfl ?_
  refine ac X895 hx (1:Int32) 20 (hb hby iB) rfl (by decide) ?_
  refine bm X895 hx 21 (hb hby iC) rfl ?_
  refine ap X895 hx 31 (hb hby iD) (by decide) (by decide) ?_
  exact ay X895 hx hlk hret (hb hby dh) (by decide) (by decide) e895 ⟨_,rfl,rfl,N0,rfl⟩
def n5 (cs:List Int32)(n0:Nat)(h0:Heap)(v:Option Value)(h:Heap)(L:List Loc):Prop:=∃r:Int32,v=some (.int r)∧r.toInt=(cs.length:Int)∧Fr n0 L∧h=h0
theorem me (pa:Addr)(m:MethodId):entryFrame m #[(.ref pa),(.int 1)] 2=mkF m 0 #[.val (.ref pa),.val (.int 1)] []:=by first|(simp [entryFrame,mkF,argsToLocals,Value.category];done)|rfl
theorem pz (l:Launch)(Z:State)(a0:Array Value)(hw:HW a0 Z)(pa:Addr)(h0:Heap)(n0:Nat)(Z0:n0≤h0.size)(cst:Int32)(fm:Option Addr)(em:Addr)(SX_:SX Z cst fm em)(O0:Old Z n0 h0)(wr st:Addr)(ks:ClassId)(s0 s1:Int32)(Lw B:Nat)(cs:List Int32)(Ep:Exa Z h0 pa sg0)(Fw:Fld Z h0 pa sg0 "written" cA (.ref wr))(Fs:Fld Z h0 pa sg0 "starts" "[I" (.ref st))(Vs:Arv Z h0 st ks .int 2 [(.int s0),(.int s1)] (.int 0))(S:a3 Z h0 Lw B wr cs) :
  MF l Z h0 ⟨sg0,"end","(I)I"⟩ prog_26_method_7_code 2 (some .int) ⟨2,0,0,28⟩ #[(.ref pa),(.int 1)] (n5 cs n0 h0):=by
 refine ai cg (me pa) ?_
 intro p e s m below meth c T0 X0 hx hby hml hret hlk hnm hown hZ e0
 have N0:=Fr.nil n0
 have Ew:=S.exa
 refine aa X0 hx 1 (hb hby eH) rfl rfl ?_
 refine ac X0 hx (1:Int32) 2 (hb hby eI) rfl (by decide) ?_
 refine aL X0 hx (2:Int32) (by decide) 3 (hb hby eJ) rfl ?_
 refine ab X0 hx 4 (hb hby eK) rfl rfl rfl ?_
 refine ao X0 hx hZ hown (tw hw 137 rfl) Via.refl e0 Fs 7 (hb hby eL) rfl ?_
 intro T896 X896 e896
 refine aH X896 hx hZ e896 Vs 8 (hb hby eM) rfl ?_
 have ll898:((2:Int32):Int32).toInt=2:=by decide
 have ll899:((2:Int32):Int32).toInt=2:=by decide
 refine am X896 hx 24 11 (hb hby eN) (by decide) (by decide) rfl (fun c897=>?_) (fun c897=>?_)
 ·skip
  refine ab X896 hx 25 (hb hby iE) rfl rfl rfl ?_
  refine ao X896 hx hZ hown (tw hw 135 rfl) Via.refl e896 Fw 28 (hb hby iF) rfl ?_
  intro T900 X900 e900
  refine ak X900 hx hZ (C:=sg1) hown (tw hw 72 rfl) (tw hw 57 rfl) (tw hw 59 rfl) (tw hw 59 rfl) (tw hw 58 rfl) (tw hw 7 rfl) (tw hw 60 rfl) (by decide) (cLn l Z a0 hw wr h0 n0 Z0 cst fm em SX_ O0 Lw B cs S) e900 (b:=wr) Ew (argsL:=[]) (rest:=[]) rfl rfl 0 31 rfl (by rw[hml];rfl) (lenOf aF rfl) (Nat.le_refl _) (by decide) (by decide) (by decide) (by decide) (hb hby iG) ?_
  intro v901 T901 L901 X901 hQ901
  obtain⟨nl,rfl,hn,N901,q901⟩:=hQ901
  have N902:=Fr.app N0 N901
  show Go _ _ _ _ _ (mkF _ _ _ [(.int nl)])
  exact ay X901 hx hlk hret (hb hby dh) (by decide) (by decide) q901 ⟨nl,rfl,hn,N902,rfl⟩
 ·skip
  exfalso;revert c897;decide
def n6 (s1:Int32)(n0:Nat)(h0:Heap)(v:Option Value)(h:Heap)(L:List Loc):Prop:=∃r:Int32,v=some (.int r)∧r=s1-(1:Int32)∧Fr n0 L∧h=h0
theorem mf (pa:Addr)(m:MethodId):entryFrame m #[(.ref pa),(.int 0)] 2=mkF m 0 #[.val (.ref pa),.val (.int 0)] []:=by first|(simp [entryFrame,mkF,argsToLocals,Value.category];done)|rfl
theorem pA (l:Launch)(Z:State)(a0:Array Value)(hw:HW a0 Z)(pa:Addr)(h0:Heap)(n0:Nat)(Z0:n0≤h0.size)(cst:Int32)(fm:Option Addr)(em:Addr)(SX_:SX Z cst fm em)(O0:Old Z n0 h0)(wr st:Addr)(ks:ClassId)(s0 s1 s2:Int32)(Lw B:Nat)(cs:List Int32)(Ep:Exa Z h0 pa sg0)(Fw:Fld Z h0 pa sg0 "written" cA (.ref wr))(Fs:Fld Z h0 pa sg0 "starts" "[I" (.ref st))(Vs:Arv Z h0 st ks .int 3 [(.int s0),(.int s1),(.int s2)] (.int 0))(S:a3 Z h0 Lw B wr cs) :
  MF l Z h0 ⟨sg0,"end","(I)I"⟩ prog_26_method_7_code 2 (some .int) ⟨2,0,0,28⟩ #[(.ref pa),(.int 0)] (n6 s1 n0 h0):=by
 refine ai cg (mf pa) ?_
 intro p e s m below meth c T0 X0 hx hby hml hret hlk hnm hown hZ e0
 have N0:=Fr.nil n0
 have Ew:=S.exa
 refine aa X0 hx 1 (hb hby eH) rfl rfl ?_
 refine ac X0 hx (1:Int32) 2 (hb hby eI) rfl (by decide) ?_
 refine aL X0 hx (1:Int32) (by decide) 3 (hb hby eJ) rfl ?_
 refine ab X0 hx 4 (hb hby eK) rfl rfl rfl ?_
 refine ao X0 hx hZ hown (tw hw 137 rfl) Via.refl e0 Fs 7 (hb hby eL) rfl ?_
 intro T903 X903 e903
 refine aH X903 hx hZ e903 Vs 8 (hb hby eM) rfl ?_
 have ll905:((3:Int32):Int32).toInt=3:=by decide
 have ll906:((1:Int32):Int32).toInt=1:=by decide
 refine am X903 hx 24 11 (hb hby eN) (by decide) (by decide) rfl (fun c904=>?_) (fun c904=>?_)
 ·skip
  exfalso;revert c904;decide
 ·skip
  refine ab X903 hx 12 (hb hby iv) rfl rfl rfl ?_
  refine ao X903 hx hZ hown (tw hw 137 rfl) Via.refl e903 Fs 15 (hb hby iw) rfl ?_
  intro T907 X907 e907
  refine aa X907 hx 16 (hb hby ix) rfl rfl ?_
  refine ac X907 hx (1:Int32) 17 (hb hby iy) rfl (by decide) ?_
  refine aL X907 hx (1:Int32) (by decide) 18 (hb hby iz) rfl ?_
  refine aP X907 hx hZ e907 Vs (by decide) (by decide) (by rw[show ((1:Int32):Int32).toNatClampNeg=1 by decide]<;>rfl) 19 (hb hby iA) rfl ?_
  refine ac X907 hx (1:Int32) 20 (hb hby iB) rfl (by decide) ?_
  refine bm X907 hx 21 (hb hby iC) rfl ?_
  refine ap X907 hx 31 (hb hby iD) (by decide) (by decide) ?_
  exact ay X907 hx hlk hret (hb hby dh) (by decide) (by decide) e907 ⟨_,rfl,rfl,N0,rfl⟩
def n7 (s2:Int32)(n0:Nat)(h0:Heap)(v:Option Value)(h:Heap)(L:List Loc):Prop:=∃r:Int32,v=some (.int r)∧r=s2-(1:Int32)∧Fr n0 L∧h=h0
theorem mg (pa:Addr)(m:MethodId):entryFrame m #[(.ref pa),(.int 1)] 2=mkF m 0 #[.val (.ref pa),.val (.int 1)] []:=by first|(simp [entryFrame,mkF,argsToLocals,Value.category];done)|rfl
theorem pB (l:Launch)(Z:State)(a0:Array Value)(hw:HW a0 Z)(pa:Addr)(h0:Heap)(n0:Nat)(Z0:n0≤h0.size)(cst:Int32)(fm:Option Addr)(em:Addr)(SX_:SX Z cst fm em)(O0:Old Z n0 h0)(wr st:Addr)(ks:ClassId)(s0 s1 s2:Int32)(Lw B:Nat)(cs:List Int32)(Ep:Exa Z h0 pa sg0)(Fw:Fld Z h0 pa sg0 "written" cA (.ref wr))(Fs:Fld Z h0 pa sg0 "starts" "[I" (.ref st))(Vs:Arv Z h0 st ks .int 3 [(.int s0),(.int s1),(.int s2)] (.int 0))(S:a3 Z h0 Lw B wr cs) :
  MF l Z h0 ⟨sg0,"end","(I)I"⟩ prog_26_method_7_code 2 (some .int) ⟨2,0,0,28⟩ #[(.ref pa),(.int 1)] (n7 s2 n0 h0):=by
 refine ai cg (mg pa) ?_
 intro p e s m below meth c T0 X0 hx hby hml hret hlk hnm hown hZ e0
 have N0:=Fr.nil n0
 have Ew:=S.exa
 refine aa X0 hx 1 (hb hby eH) rfl rfl ?_
 refine ac X0 hx (1:Int32) 2 (hb hby eI) rfl (by decide) ?_
 refine aL X0 hx (2:Int32) (by decide) 3 (hb hby eJ) rfl ?_
 refine ab X0 hx 4 (hb hby eK) rfl rfl rfl ?_
 refine ao X0 hx hZ hown (tw hw 137 rfl) Via.refl e0 Fs 7 (hb hby eL) rfl ?_
 intro T908 X908 e908
 refine aH X908 hx hZ e908 Vs 8 (hb hby eM) rfl ?_
 have ll910:((3:Int32):Int32).toInt=3:=by decide
 have ll911:((2:Int32):Int32).toInt=2:=by decide
 refine am X908 hx 24 11 (hb hby eN) (by decide) (by decide) rfl (fun c909=>?_) (fun c909=>?_)
 ·skip
  exfalso;revert c909;decide
 ·skip
  refine ab X908 hx 12 (hb hby iv) rfl rfl rfl ?_
  refine ao X908 hx hZ hown (tw hw 137 rfl) Via.refl e908 Fs 15 (hb hby iw) rfl ?_
  intro T912 X912 e912
  refine aa X912 hx 16 (hb hby ix) rfl rfl ?_
  refine ac X912 hx (1:Int32) 17 (hb hby iy) rfl (by decide) ?_
  refine aL X912 hx (2:Int32) (by decide) 18 (hb hby iz) rfl ?_
  refine aP X912 hx hZ e912 Vs (by decide) (by decide) (by rw[show ((2:Int32):Int32).toNatClampNeg=2 by decide]<;>rfl) 19 (hb hby iA) rfl ?_
  refine ac X912 hx (1:Int32) 20 (hb hby iB) rfl (by decide) ?_
  refine bm X912 hx 21 (hb hby iC) rfl ?_
  refine ap X912 hx 31 (hb hby iD) (by decide) (by decide) ?_
  exact ay X912 hx hlk hret (hb hby dh) (by decide) (by decide) e912 ⟨_,rfl,rfl,N0,rfl⟩
def n8 (cs:List Int32)(n0:Nat)(h0:Heap)(v:Option Value)(h:Heap)(L:List Loc):Prop:=∃r:Int32,v=some (.int r)∧r.toInt=(cs.length:Int)∧Fr n0 L∧h=h0
theorem mh (pa:Addr)(m:MethodId):entryFrame m #[(.ref pa),(.int 2)] 2=mkF m 0 #[.val (.ref pa),.val (.int 2)] []:=by first|(simp [entryFrame,mkF,argsToLocals,Value.category];done)|rfl
theorem pC (l:Launch)(Z:State)(a0:Array Value)(hw:HW a0 Z)(pa:Addr)(h0:Heap)(n0:Nat)(Z0:n0≤h0.size)(cst:Int32)(fm:Option Addr)(em:Addr)(SX_:SX Z cst fm em)(O0:Old Z n0 h0)(wr st:Addr)(ks:ClassId)(s0 s1 s2:Int32)(Lw B:Nat)(cs:List Int32)(Ep:Exa Z h0 pa sg0)(Fw:Fld Z h0 pa sg0 "written" cA (.ref wr))(Fs:Fld Z h0 pa sg0 "starts" "[I" (.ref st))(Vs:Arv Z h0 st ks .int 3 [(.int s0),(.int s1),(.int s2)] (.int 0))(S:a3 Z h0 Lw B wr cs) :
  MF l Z h0 ⟨sg0,"end","(I)I"⟩ prog_26_method_7_code 2 (some .int) ⟨2,0,0,28⟩ #[(.ref pa),(.int 2)] (n8 cs n0 h0):=by
 refine ai cg (mh pa) ?_
 intro p e s m below meth c T0 X0 hx hby hml hret hlk hnm hown hZ e0
 have N0:=Fr.nil n0
 have Ew:=S.exa
 refine aa X0 hx 1 (hb hby eH) rfl rfl ?_
 refine ac X0 hx (1:Int32) 2 (hb hby eI) rfl (by decide) ?_
 refine aL X0 hx (3:Int32) (by decide) 3 (hb hby eJ) rfl ?_
 refine ab X0 hx 4 (hb hby eK) rfl rfl rfl ?_
 refine ao X0 hx hZ hown (tw hw 137 rfl) Via.refl e0 Fs 7 (hb hby eL) rfl ?_
 intro T913 X913 e913
 refine aH X913 hx hZ e913 Vs 8 (hb hby eM) rfl ?_
 have ll915:((3:Int32):Int32).toInt=3:=by decide
 have ll916:((3:Int32):Int32).toInt=3:=by decide
 refine am X913 hx 24 11 (hb hby eN) (by decide) (by decide) rfl (fun c914=>?_) (fun c914=>?_)
 ·skip
  refine ab X913 hx 25 (hb hby iE) rfl rfl rfl ?_
  refine ao X913 hx hZ hown (tw hw 135 rfl) Via.refl e913 Fw 28 (hb hby iF) rfl ?_
  intro T917 X917 e917
  refine ak X917 hx hZ (C:=sg1) hown (tw hw 72 rfl) (tw hw 57 rfl) (tw hw 59 rfl) (tw hw 59 rfl) (tw hw 58 rfl) (tw hw 7 rfl) (tw hw 60 rfl) (by decide) (cLn l Z a0 hw wr h0 n0 Z0 cst fm em SX_ O0 Lw B cs S) e917 (b:=wr) Ew (argsL:=[]) (rest:=[]) rfl rfl 0 31 rfl (by rw[hml];rfl) (lenOf aF rfl) (Nat.le_refl _) (by decide) (by decide) (by decide) (by decide) (hb hby iG) ?_
  intro v918 T918 L918 X918 hQ918
  obtain⟨nl,rfl,hn,N918,q918⟩:=hQ918
  have N919:=Fr.app N0 N918
  show Go _ _ _ _ _ (mkF _ _ _ [(.int nl)])
  exact ay X918 hx hlk hret (hb hby dh) (by decide) (by decide) q918 ⟨nl,rfl,hn,N919,rfl⟩
 ·skip
  exfalso;revert c914;decide
theorem js:dk aX 0 (.aload_n 0) 1:=by decide +kernel
theorem jt:dk aX 1 (.getfield 17) 3:=by decide +kernel
theorem ju:dk aX 4 (.astore_n 1) 1:=by decide +kernel
theorem jv:dk aX 5 (.aload_n 1) 1:=by decide +kernel
theorem jw:dk aX 6 (.ifnonnull 57) 3:=by decide +kernel
theorem mi:dk aX 9 (.aload_n 0) 1:=by decide +kernel
theorem iH:dk aX 10 (.getfield 13) 3:=by decide +kernel
theorem iI:dk aX 13 (.arraylength) 1:=by decide +kernel
theorem iJ:dk aX 14 (.anewarray 34) 3:=by decide +kernel
theorem iK:dk aX 17 (.astore_n 2) 1:=by decide +kernel
theorem iL:dk aX 18 (.iconst 0) 1:=by decide +kernel
theorem iM:dk aX 19 (.istore_n 3) 1:=by decide +kernel
theorem cr:dk aX 20 (.iload_n 3) 1:=by decide +kernel
theorem ct:dk aX 21 (.aload_n 2) 1:=by decide +kernel
theorem cu:dk aX 22 (.arraylength) 1:=by decide +kernel
theorem cv:dk aX 23 (.if_icmp .ge 30) 3:=by decide +kernel
theorem di:dk aX 26 (.aload_n 2) 1:=by decide +kernel
theorem dj:dk aX 27 (.iload_n 3) 1:=by decide +kernel
theorem dl:dk aX 28 (.aload_n 0) 1:=by decide +kernel
theorem dm:dk aX 29 (.getfield 7) 3:=by decide +kernel
theorem dn:dk aX 32 (.aload_n 0) 1:=by decide +kernel
theorem dp:dk aX 33 (.getfield 13) 3:=by decide +kernel
theorem dq:dk aX 36 (.iload_n 3) 1:=by decide +kernel
theorem dr:dk aX 37 (.iaload) 1:=by decide +kernel
theorem ds:dk aX 38 (.aload_n 0) 1:=by decide +kernel
theorem dt:dk aX 39 (.iload_n 3) 1:=by decide +kernel
theorem du:dk aX 40 (.invokevirtual 94) 3:=by decide +kernel
theorem dw:dk aX 43 (.invokevirtual 109) 3:=by decide +kernel
theorem dx:dk aX 46 (.aastore) 1:=by decide +kernel
theorem dy:dk aX 47 (.iinc 3 1) 3:=by decide +kernel
theorem dz:dk aX 50 (.goto (-30)) 3:=by decide +kernel
theorem iN:dk aX 53 (.aload_n 2) 1:=by decide +kernel
theorem iO:dk aX 54 (.invokestatic 127) 3:=by decide +kernel
theorem iP:dk aX 57 (.astore_n 1) 1:=by decide +kernel
theorem iQ:dk aX 58 (.aload_n 0) 1:=by decide +kernel
theorem iR:dk aX 59 (.aload_n 1) 1:=by decide +kernel
theorem iS:dk aX 60 (.putfield 17) 3:=by decide +kernel
theorem f9:dk aX 63 (.aload_n 1) 1:=by decide +kernel
theorem f_:dk aX 64 (.areturn) 1:=by decide +kernel
theorem c0:plainFor (⟨sg0,"names","()Ljava/util/List;"⟩:MethodName)=true:=plainFor_of_name (by first|(simp [plainName,overriddenIn];done)|decide +kernel)
def xy (Z:State)(pa em:Addr)(cs:List Int32)(ee0 l0 n0:Nat)(h0:Heap)(v:Option Value)(h:Heap)(L:List Loc):Prop:=∃r o0:Addr,v=some (.ref r)∧Fr n0 L∧Keep h0 h [pa]∧h0.size≤o0∧(∃Lw B:Nat,a3 Z h Lw B o0 (aU cs (ee0+1) l0))∧Exa Z h r sg2∧Fld Z h r sg2 "e0" bl (.ref o0)∧Fld Z h r sg2 "e1" bl (.ref em)
theorem n9 (pa:Addr)(m:MethodId):entryFrame m #[(.ref pa)] 4=mkF m 0 #[.val (.ref pa),.unset,.unset,.unset] []:=by first|(simp [entryFrame,mkF,argsToLocals,Value.category];done)|rfl
theorem Pm (l:Launch)(Z:State)(a0:Array Value)(hw:HW a0 Z)(pa:Addr)(h0:Heap)(n0:Nat)(Z0:n0≤h0.size)(cst:Int32)(fm:Option Addr)(em:Addr)(SX_:SX Z cst fm em)(O0:Old Z n0 h0)(wr st:Addr)(ks:ClassId)(s0:Int32)(Lw B:Nat)(cs:List Int32)(Ep:Exa Z h0 pa sg0)(Fw:Fld Z h0 pa sg0 "written" cA (.ref wr))(Fs:Fld Z h0 pa sg0 "starts" "[I" (.ref st))(Vs:Arv Z h0 st ks .int 1 [(.int s0)] (.int 0))(S:a3 Z h0 Lw B wr cs)(ee0 l0:Nat)(gp:n0≤pa)(Fn:Fld Z h0 pa sg0 "names" cQ .null)(nwp:wr≠pa)(nsp:st≠pa)(hBp:B≤pa)(hBz:B≤h0.size)(ha0:s0.toInt=((ee0+1:Nat):Int))(hb0_:1≤l0)  (hlen:cs.length=ee0+1+l0) :
  MF l Z h0 ⟨sg0,"names","()Ljava/util/List;"⟩ prog_26_method_9_code 4 (some (.object sg9)) ⟨7,12,140,160⟩ #[(.ref pa)] (xy Z pa em cs ee0 l0 n0 h0):=by
 refine ai c0 (n9 pa) ?_
 intro p e s m below meth c T0 X0 hx hby hml hret hlk hnm hown hZ e0
 have N0:=Fr.nil n0
 have Ew:=S.exa
 have hcl:=S.1.2.1
 refine ab X0 hx 1 (hb hby js) rfl rfl rfl ?_
 refine ao X0 hx hZ hown (tw hw 78 rfl) Via.refl e0 Fn 4 (hb hby jt) rfl ?_
 intro T920 X920 e920
 refine au (l':=#[.val (.ref pa),.val .null,.unset,.unset]) X920 hx 5 (hb hby ju) rfl rfl rfl ?_
 refine ab X920 hx 6 (hb hby jv) rfl rfl rfl ?_
 refine bS X920 hx 9 (hb hby jw) rfl ?_
 refine ab X920 hx 10 (hb hby mi) rfl rfl rfl ?_
 refine ao X920 hx hZ hown (tw hw 137 rfl) Via.refl e920 Fs 13 (hb hby iH) rfl ?_
 intro T921 X921 e921
 refine aH X921 hx hZ e921 Vs 14 (hb hby iI) rfl ?_
 refine fp X921 hx hZ hown (tw hw 164 rfl) (tw hw 165 rfl) e921 (by decide) (cap:=1) (by decide) (by decide) 17 (hb hby iJ) rfl (by decide) (by decide) ?_
 intro T922 h922 k922 a922 g922 X922 e922 E922 V922 O922
 have ne923:pa≠a922:=Nat.ne_of_lt (by rw[g922];exact Ep.lt)
 have ne924:st≠a922:=Nat.ne_of_lt (by rw[g922];exact Vs.lt)
 have ne925:wr≠a922:=Nat.ne_of_lt (by rw[g922];exact Ew.lt)
 have ge926:n0≤a922:=by rw[g922];exact Z0
 have sz927:h0.size≤a922:=by rw[g922];exact (Keep.refl h0 [pa]).1
 have F928:=O0.ext E922
 have F929:=Ep.ext E922
 have F930:=Fw.ext E922
 have F931:=Fs.ext E922
 have F932:=Vs.ext E922
 have F933:=Ew.ext E922
 have F934:=Fn.ext E922
 have K935:=(Keep.refl h0 [pa]).ext E922
 have S936:=S.ext E922
 have Z937:n0≤h922.size:=Nat.le_trans Z0 E922.1
 have V938:Arv Z h922 a922 k922 (.object sg1) (1:Int32) [.null] .null:=V922.pad (pad_rep [] .null 1)
 refine au (l':=#[.val (.ref pa),.val .null,.val (.ref a922),.unset]) X922 hx 18 (hb hby iK) rfl rfl rfl ?_
 refine ac X922 hx (0:Int32) 19 (hb hby iL) rfl (by decide) ?_
 refine aq (l':=#[.val (.ref pa),.val .null,.val (.ref a922),.val (.int (0:Int32))]) X922 hx 20 (hb hby iM) rfl rfl ?_
 refine aa X922 hx 21 (hb hby cr) rfl rfl ?_
 refine ab X922 hx 22 (hb hby ct) rfl rfl rfl ?_
 refine aH X922 hx hZ e922 V938 23 (hb hby cu) rfl ?_
 have ll940:((1:Int32):Int32).toInt=1:=by decide
 have ll941:((0:Int32):Int32).toInt=0:=by decide
 refine am X922 hx 53 26 (hb hby cv) (by decide) (by decide) rfl (fun c939=>?_) (fun c939=>?_)
 ·skip
  exfalso;revert c939;decide
 ·skip
  refine ab X922 hx 27 (hb hby di) rfl rfl rfl ?_
  refine aa X922 hx 28 (hb hby dj) rfl rfl ?_
  refine ab X922 hx 29 (hb hby dl) rfl rfl rfl ?_
  refine ao X922 hx hZ hown (tw hw 135 rfl) Via.refl e922 F930 32 (hb hby dm) rfl ?_
  intro T942 X942 e942
  refine ab X942 hx 33 (hb hby dn) rfl rfl rfl ?_
  refine ao X942 hx hZ hown (tw hw 137 rfl) Via.refl e942 F931 36 (hb hby dp) rfl ?_
  intro T943 X943 e943
  refine aa X943 hx 37 (hb hby dq) rfl rfl ?_
  refine aP X943 hx hZ e943 F932 (by decide) (by decide) (by rw[show ((0:Int32):Int32).toNatClampNeg=0 by decide]<;>rfl) 38 (hb hby dr) rfl ?_
  refine ab X943 hx 39 (hb hby ds) rfl rfl rfl ?_
  refine aa X943 hx 40 (hb hby dt) rfl rfl ?_
  refine bE X943 hx hZ (C:=sg0) (z:=({ cls:=sg0,name := "names",desc := "()Ljava/util/List;" }:Jvm.MethodName)) hown (tw hw 139 rfl) (tw hw 141 rfl) (tw hw 76 rfl) rfl (tw hw 140 rfl) (tw hw 36 rfl) (tw hw 142 rfl) (by decide) (pw l Z a0 hw pa h922 n0 Z937 cst fm em SX_ F928 wr st ks s0 Lw B cs F929 F930 F931 F932 S936) e943 (b:=pa) F929 (argsL:=[(.int (0:Int32))]) (rest:=[(.int s0),(.ref wr),(.int (0:Int32)),(.ref a922)]) rfl rfl 4 43 rfl (by rw[hml];rfl) (lenOf aS rfl) (Nat.le_refl _) (by decide) (by decide) (by decide) (by decide) (hb hby du) ?_
  intro v944 T944 L944 X944 hQ944
  obtain⟨r0,rfl,hr0,N944,q944⟩:=hQ944
  have N945:=Fr.app N0 N944
  show Go _ _ _ _ _ (mkF _ _ _ [(.int r0),(.int s0),(.ref wr),(.int (0:Int32)),(.ref a922)])
  have hx0:r0.toInt=((ee0+1+l0:Nat):Int):=by
   rw[hr0,hlen]
  refine ak X944 hx hZ (C:=sg1) hown (tw hw 166 rfl) (tw hw 167 rfl) (tw hw 169 rfl) (tw hw 169 rfl) (tw hw 168 rfl) (tw hw 7 rfl) (tw hw 170 rfl) (by decide) (cSu l Z a0 hw wr s0 r0 h922 n0 Z937 cst fm em SX_ F928 Lw B cs S936 (ee0+1) l0 ha0 hx0 (by omega) (by omega) (by omega)) q944 (b:=wr) F933 (argsL:=[(.int s0),(.int r0)]) (rest:=[(.int (0:Int32)),(.ref a922)]) rfl rfl 2 46 rfl (by rw[hml];rfl) (lenOf b8 rfl) (Nat.le_refl _) (by decide) (by decide) (by decide) (by decide) (hb hby dw) ?_
  intro v946 T946 L946 X946 hQ946
  obtain⟨o0,rfl,N946,K946,g0,z0,S0⟩:=hQ946
  have N947:=Fr.app N945 N946
  have la0:a922<h922.size:=V938.lt
  have y0:=Nat.le_trans (K935).1 z0
  have F948:=F928.keep K946 all0
  have F949:=F929.keep K946
  have F950:=F930.keep K946 nin0
  have F951:=F931.keep K946 nin0
  have F952:=F932.keep K946 nin0
  have F953:=F933.keep K946
  have F954:=F934.keep K946 nin0
  have F955:=V938.keep K946 nin0
  have Z956:n0≤T946.heap.size:=Nat.le_trans Z937 K946.1
  have K957:=K935.trans K946 all0
  have S958:=S936.keep K946 all0
  have pz0:pa<h922.size:=Nat.lt_of_lt_of_le Ep.lt (K935).1
  show Go _ _ _ _ _ (mkF _ _ _ [(.ref o0),(.int (0:Int32)),(.ref a922)])
  refine a2 X946 hx hZ rfl F955 O922 (Ins.self S0.exa) 0 (by decide) (by decide) (by show 0<1;decide) 47 (hb hby dx) rfl ?_
  intro T959 h959 X959 e959 W959 V959
  have F960:=F948.wr W959 ge926
  have F961:=F949.wr W959
  have F962:=F950.other W959 (Or.inl ne923)
  have F963:=F951.other W959 (Or.inl ne923)
  have F964:=F952.other W959 ne924
  have F965:=F953.wr W959
  have F966:=F954.other W959 (Or.inl ne923)
  have F968:=S0.exa.wr W959
  have K969:=K957.wr W959 (Or.inr sz927)
  have N970:=Fr.snoc X959 N947 ge926
  have S971:=S958.keep (Keep.of_wr W959) (allS (Or.inr (Nat.le_trans hBz sz927)) all0)
  have S972:=S0.keep (Keep.of_wr W959) (allS (Or.inl la0) all0)
  have Z973:n0≤h959.size:=by rw[W959.size];exact Z956
  have V959':Arv Z h959 a922 k922 (.object sg1) (1:Int32) [(.ref o0)] .null:=V959
  refine aw X959 hx (w:=(1:Int32)) (1:Int32) (by decide) (l':=#[.val (.ref pa),.val .null,.val (.ref a922),.val (.int (1:Int32))]) 50 (hb hby dy) rfl rfl (by decide) rfl ?_
  refine ap X959 hx 20 (hb hby dz) (by decide) (by decide) ?_
  refine aa X959 hx 21 (hb hby cr) rfl rfl ?_
  refine ab X959 hx 22 (hb hby ct) rfl rfl rfl ?_
  refine aH X959 hx hZ e959 V959' 23 (hb hby cu) rfl ?_
  have ll975:((1:Int32):Int32).toInt=1:=by decide
  have ll976:((1:Int32):Int32).toInt=1:=by decide
  refine am X959 hx 53 26 (hb hby cv) (by decide) (by decide) rfl (fun c974=>?_) (fun c974=>?_)
  ·skip
   refine ab X959 hx 54 (hb hby iN) rfl rfl rfl ?_
   refine ag X959 hx hZ hown (tw hw 199 rfl) (tw hw 200 rfl) (tw hw 201 rfl) (tw hw 202 rfl) (by decide) (Pj l Z a0 hw a922 h959 n0 Z973 cst fm em SX_ F960 o0 k922 F968 V959') e959 (argsL:=[(.ref a922)]) (rest:=[]) rfl rfl 0 57 rfl (by rw[hml];rfl) (lenOf cX rfl) (Nat.le_refl _) (by decide) (by decide) (by decide) (by decide) (hb hby iO) ?_
   intro v977 T977 L977 X977 hQ977
   obtain⟨r,rfl,N977,K977,gr,sr,hL⟩:=hQ977
   have N978:=Fr.app N970 N977
   have sr1:=Nat.le_trans (K969).1 sr
   have prn:r≠pa:=Ne.symm (Nat.ne_of_lt (Nat.lt_of_lt_of_le Ep.lt sr1))
   obtain⟨L1_,L2_,L3_⟩:=hL
   have F979:=F960.keep K977 all0
   have F980:=F961.keep K977
   have F981:=F962.keep K977 nin0
   have F982:=F963.keep K977 nin0
   have F983:=F964.keep K977 nin0
   have F984:=F965.keep K977
   have F985:=F966.keep K977 nin0
   have F986:=V959'.keep K977 nin0
   have F987:=F968.keep K977
   have Z988:n0≤T977.heap.size:=Nat.le_trans Z973 K977.1
   have K989:=K969.trans K977 all0
   have S990:=S971.keep K977 all0
   have S991:=S972.keep K977 all0
   show Go _ _ _ _ _ (mkF _ _ _ [(.ref r)])
   refine au (l':=#[.val (.ref pa),.val (.ref r),.val (.ref a922),.val (.int (1:Int32))]) X977 hx 58 (hb hby iP) rfl rfl rfl ?_
   refine ab X977 hx 59 (hb hby iQ) rfl rfl rfl ?_
   refine ab X977 hx 60 (hb hby iR) rfl rfl rfl ?_
   refine aZ X977 hx hZ hown (tw hw 78 rfl) Via.refl rfl F985 F980 (Or.inl (tw hw 79 rfl)) (tw hw 130 rfl) (ty:=(.object sg9)) (by decide) rfl rfl 63 (hb hby iS) rfl ?_
   intro T992 h992 X992 e992 W992
   have F993:Fld Z h992 pa sg0 "names" cQ (.ref r):=F985.same W992
   have F994:=F979.wr W992 gp
   have F995:=F980.wr W992
   have F996:=F981.other W992 (Or.inr (slot_ne (Or.inr (tw hw 136 rfl)) (Or.inl (tw hw 79 rfl)) (by decide) (t:=(.object sg1)) (t':=(.object sg9)) (by decide) (by decide)))
   have F997:=F982.other W992 (Or.inr (slot_ne (Or.inr (tw hw 138 rfl)) (Or.inl (tw hw 79 rfl)) (by decide) (t:=(.array .int)) (t':=(.object sg9)) (by decide) (by decide)))
   have F998:=F983.other W992 nsp
   have F999:=F984.wr W992
   have F1000:=F986.other W992 (Ne.symm ne923)
   have F1001:=F987.wr W992
   have F1002:=L1_.wr W992
   have F1003:=L2_.other W992 (Or.inl prn)
   have F1004:=L3_.other W992 (Or.inl prn)
   have K1005:=K989.wr W992 (Or.inl (List.mem_of_getElem? (i:=0) rfl))
   have N1006:=Fr.snoc X992 N978 gp
   have S1007:=S990.keep (Keep.of_wr W992) (allS (Or.inr hBp) all0)
   have S1008:=S991.keep (Keep.of_wr W992) (allS (Or.inl (Nat.lt_of_lt_of_le pz0 (Nat.le_refl _))) all0)
   have Z1009:n0≤h992.size:=by rw[W992.size];exact Z988
   refine ab X992 hx 64 (hb hby f9) rfl rfl rfl ?_
   exact aA X992 hx hlk hret rfl rfl rfl (hb hby f_) (by decide) (by decide) e992 ⟨r,o0,rfl,N1006,K1005,y0,⟨_,_,S1008⟩,F1002,F1003,F1004⟩
  ·skip
   exfalso;revert c974;decide
def xz (Z:State)(pa:Addr)(cs:List Int32)(ee0 l0 ee1 l1 n0:Nat)(h0:Heap)(v:Option Value)(h:Heap)(L:List Loc):Prop:=∃r o0 o1:Addr,v=some (.ref r)∧Fr n0 L∧Keep h0 h [pa]∧h0.size≤o0∧(∃Lw B:Nat,a3 Z h Lw B o0 (aU cs (ee0+1) l0))∧h0.size≤o1∧(∃Lw B:Nat,a3 Z h Lw B o1 (aU cs (ee1+1) l1))∧Exa Z h r sg2∧Fld Z h r sg2 "e0" bl (.ref o0)∧Fld Z h r sg2 "e1" bl (.ref o1)
theorem n_ (pa:Addr)(m:MethodId):entryFrame m #[(.ref pa)] 4=mkF m 0 #[.val (.ref pa),.unset,.unset,.unset] []:=by first|(simp [entryFrame,mkF,argsToLocals,Value.category];done)|rfl
theorem Pn (l:Launch)(Z:State)(a0:Array Value)(hw:HW a0 Z)(pa:Addr)(h0:Heap)(n0:Nat)(Z0:n0≤h0.size)(cst:Int32)(fm:Option Addr)(em:Addr)(SX_:SX Z cst fm em)(O0:Old Z n0 h0)(wr st:Addr)(ks:ClassId)(s0 s1:Int32)(Lw B:Nat)(cs:List Int32)(Ep:Exa Z h0 pa sg0)(Fw:Fld Z h0 pa sg0 "written" cA (.ref wr))(Fs:Fld Z h0 pa sg0 "starts" "[I" (.ref st))(Vs:Arv Z h0 st ks .int 2 [(.int s0),(.int s1)] (.int 0))(S:a3 Z h0 Lw B wr cs)(ee0 l0 ee1 l1:Nat)(gp:n0≤pa)(Fn:Fld Z h0 pa sg0 "names" cQ .null)(nwp:wr≠pa)(nsp:st≠pa)(hBp:B≤pa)(hBz:B≤h0.size)(ha0:s0.toInt=((ee0+1:Nat):Int))(hb0_:1≤l0)(ha1:s1.toInt=((ee1+1:Nat):Int))(hb1_:1≤l1)(c1:ee1=ee0+1+l0)(hlen:cs.length=ee1+1+l1) :
  MF l Z h0 ⟨sg0,"names","()Ljava/util/List;"⟩ prog_26_method_9_code 4 (some (.object sg9)) ⟨7,12,140,160⟩ #[(.ref pa)] (xz Z pa cs ee0 l0 ee1 l1 n0 h0):=by
 refine ai c0 (n_ pa) ?_
 intro p e s m below meth c T0 X0 hx hby hml hret hlk hnm hown hZ e0
 have N0:=Fr.nil n0
 have Ew:=S.exa
 have hcl:=S.1.2.1
 refine ab X0 hx 1 (hb hby js) rfl rfl rfl ?_
 refine ao X0 hx hZ hown (tw hw 78 rfl) Via.refl e0 Fn 4 (hb hby jt) rfl ?_
 intro T1010 X1010 e1010
 refine au (l':=#[.val (.ref pa),.val .null,.unset,.unset]) X1010 hx 5 (hb hby ju) rfl rfl rfl ?_
 refine ab X1010 hx 6 (hb hby jv) rfl rfl rfl ?_
 refine bS X1010 hx 9 (hb hby jw) rfl ?_
 refine ab X1010 hx 10 (hb hby mi) rfl rfl rfl ?_
 refine ao X1010 hx hZ hown (tw hw 137 rfl) Via.refl e1010 Fs 13 (hb hby iH) rfl ?_
 intro T1011 X1011 e1011
 refine aH X1011 hx hZ e1011 Vs 14 (hb hby iI) rfl ?_
 refine fp X1011 hx hZ hown (tw hw 164 rfl) (tw hw 165 rfl) e1011 (by decide) (cap:=2) (by decide) (by decide) 17 (hb hby iJ) rfl (by decide) (by decide) ?_
 intro T1012 h1012 k1012 a1012 g1012 X1012 e1012 E1012 V1012 O1012
 have ne1013:pa≠a1012:=Nat.ne_of_lt (by rw[g1012];exact Ep.lt)
 have ne1014:st≠a1012:=Nat.ne_of_lt (by rw[g1012];exact Vs.lt)
 have ne1015:wr≠a1012:=Nat.ne_of_lt (by rw[g1012];exact Ew.lt)
 have ge1016:n0≤a1012:=by rw[g1012];exact Z0
 have sz1017:h0.size≤a1012:=by rw[g1012];exact (Keep.refl h0 [pa]).1
 have F1018:=O0.ext E1012
 have F1019:=Ep.ext E1012
 have F1020:=Fw.ext E1012
 have F1021:=Fs.ext E1012
 have F1022:=Vs.ext E1012
 have F1023:=Ew.ext E1012
 have F1024:=Fn.ext E1012
 have K1025:=(Keep.refl h0 [pa]).ext E1012
 have S1026:=S.ext E1012
 have Z1027:n0≤h1012.size:=Nat.le_trans Z0 E1012.1
 have V1028:Arv Z h1012 a1012 k1012 (.object sg1) (2:Int32) [.null,.null] .null:=V1012.pad (pad_rep [] .null 2)
 refine au (l':=#[.val (.ref pa),.val .null,.val (.ref a1012),.unset]) X1012 hx 18 (hb hby iK) rfl rfl rfl ?_
 refine ac X1012 hx (0:Int32) 19 (hb hby iL) rfl (by decide) ?_
 refine aq (l':=#[.val (.ref pa),.val .null,.val (.ref a1012),.val (.int (0:Int32))]) X1012 hx 20 (hb hby iM) rfl rfl ?_
 refine aa X1012 hx 21 (hb hby cr) rfl rfl ?_
 refine ab X1012 hx 22 (hb hby ct) rfl rfl rfl ?_
 refine aH X1012 hx hZ e1012 V1028 23 (hb hby cu) rfl ?_
 have ll1030:((2:Int32):Int32).toInt=2:=by decide
 have ll1031:((0:Int32):Int32).toInt=0:=by decide
 refine am X1012 hx 53 26 (hb hby cv) (by decide) (by decide) rfl (fun c1029=>?_) (fun c1029=>?_)
 ·skip
  exfalso;revert c1029;decide
 ·skip
  refine ab X1012 hx 27 (hb hby di) rfl rfl rfl ?_
  refine aa X1012 hx 28 (hb hby dj) rfl rfl ?_
  refine ab X1012 hx 29 (hb hby dl) rfl rfl rfl ?_
  refine ao X1012 hx hZ hown (tw hw 135 rfl) Via.refl e1012 F1020 32 (hb hby dm) rfl ?_
  intro T1032 X1032 e1032
  refine ab X1032 hx 33 (hb hby dn) rfl rfl rfl ?_
  refine ao X1032 hx hZ hown (tw hw 137 rfl) Via.refl e1032 F1021 36 (hb hby dp) rfl ?_
  intro T1033 X1033 e1033
  refine aa X1033 hx 37 (hb hby dq) rfl rfl ?_
  refine aP X1033 hx hZ e1033 F1022 (by decide) (by decide) (by rw[show ((0:Int32):Int32).toNatClampNeg=0 by decide]<;>rfl) 38 (hb hby dr) rfl ?_
  refine ab X1033 hx 39 (hb hby ds) rfl rfl rfl ?_
  refine aa X1033 hx 40 (hb hby dt) rfl rfl ?_
  refine bE X1033 hx hZ (C:=sg0) (z:=({ cls:=sg0,name := "names",desc := "()Ljava/util/List;" }:Jvm.MethodName)) hown (tw hw 139 rfl) (tw hw 141 rfl) (tw hw 76 rfl) rfl (tw hw 140 rfl) (tw hw 36 rfl) (tw hw 142 rfl) (by decide) (px l Z a0 hw pa h1012 n0 Z1027 cst fm em SX_ F1018 wr st ks s0 s1 Lw B cs F1019 F1020 F1021 F1022 S1026) e1033 (b:=pa) F1019 (argsL:=[(.int (0:Int32))]) (rest:=[(.int s0),(.ref wr),(.int (0:Int32)),(.ref a1012)]) rfl rfl 4 43 rfl (by rw[hml];rfl) (lenOf aS rfl) (Nat.le_refl _) (by decide) (by decide) (by decide) (by decide) (hb hby du) ?_
  intro v1034 T1034 L1034 X1034 hQ1034
  obtain⟨r0,rfl,hr0,N1034,q1034⟩:=hQ1034
  have N1035:=Fr.app N0 N1034
  show Go _ _ _ _ _ (mkF _ _ _ [(.int r0),(.int s0),(.ref wr),(.int (0:Int32)),(.ref a1012)])
  have hx0:r0.toInt=((ee0+1+l0:Nat):Int):=by
   rw[hr0,aT ha1 (y:=(1:Int32)) (b:=1) (by decide) (by omega) (by omega)]
   omega
  refine ak X1034 hx hZ (C:=sg1) hown (tw hw 166 rfl) (tw hw 167 rfl) (tw hw 169 rfl) (tw hw 169 rfl) (tw hw 168 rfl) (tw hw 7 rfl) (tw hw 170 rfl) (by decide) (cSu l Z a0 hw wr s0 r0 h1012 n0 Z1027 cst fm em SX_ F1018 Lw B cs S1026 (ee0+1) l0 ha0 hx0 (by omega) (by omega) (by omega)) q1034 (b:=wr) F1023 (argsL:=[(.int s0),(.int r0)]) (rest:=[(.int (0:Int32)),(.ref a1012)]) rfl rfl 2 46 rfl (by rw[hml];rfl) (lenOf b8 rfl) (Nat.le_refl _) (by decide) (by decide) (by decide) (by decide) (hb hby dw) ?_
  intro v1036 T1036 L1036 X1036 hQ1036
  obtain⟨o0,rfl,N1036,K1036,g0,z0,S0⟩:=hQ1036
  have N1037:=Fr.app N1035 N1036
  have la0:a1012<h1012.size:=V1028.lt
  have y0:=Nat.le_trans (K1025).1 z0
  have F1038:=F1018.keep K1036 all0
  have F1039:=F1019.keep K1036
  have F1040:=F1020.keep K1036 nin0
  have F1041:=F1021.keep K1036 nin0
  have F1042:=F1022.keep K1036 nin0
  have F1043:=F1023.keep K1036
  have F1044:=F1024.keep K1036 nin0
  have F1045:=V1028.keep K1036 nin0
  have Z1046:n0≤T1036.heap.size:=Nat.le_trans Z1027 K1036.1
  have K1047:=K1025.trans K1036 all0
  have S1048:=S1026.keep K1036 all0
  have pz0:pa<h1012.size:=Nat.lt_of_lt_of_le Ep.lt (K1025).1
  show Go _ _ _ _ _ (mkF _ _ _ [(.ref o0),(.int (0:Int32)),(.ref a1012)])
  refine a2 X1036 hx hZ rfl F1045 O1012 (Ins.self S0.exa) 0 (by decide) (by decide) (by show 0<2;decide) 47 (hb hby dx) rfl ?_
  intro T1049 h1049 X1049 e1049 W1049 V1049
  have F1050:=F1038.wr W1049 ge1016
  have F1051:=F1039.wr W1049
  have F1052:=F1040.other W1049 (Or.inl ne1013)
  have F1053:=F1041.other W1049 (Or.inl ne1013)
  have F1054:=F1042.other W1049 ne1014
  have F1055:=F1043.wr W1049
  have F1056:=F1044.other W1049 (Or.inl ne1013)
  have F1058:=S0.exa.wr W1049
  have K1059:=K1047.wr W1049 (Or.inr sz1017)
  have N1060:=Fr.snoc X1049 N1037 ge1016
  have S1061:=S1048.keep (Keep.of_wr W1049) (allS (Or.inr (Nat.le_trans hBz sz1017)) all0)
  have S1062:=S0.keep (Keep.of_wr W1049) (allS (Or.inl la0) all0)
  have Z1063:n0≤h1049.size:=by rw[W1049.size];exact Z1046
  have V1049':Arv Z h1049 a1012 k1012 (.object sg1) (2:Int32) [(.ref o0),.null] .null:=V1049
  refine aw X1049 hx (w:=(1:Int32)) (1:Int32) (by decide) (l':=#[.val (.ref pa),.val .null,.val (.ref a1012),.val (.int (1:Int32))]) 50 (hb hby dy) rfl rfl (by decide) rfl ?_
  refine ap X1049 hx 20 (hb hby dz) (by decide) (by decide) ?_
  refine aa X1049 hx 21 (hb hby cr) rfl rfl ?_
  refine ab X1049 hx 22 (hb hby ct) rfl rfl rfl ?_
  refine aH X1049 hx hZ e1049 V1049' 23 (hb hby cu) rfl ?_
  have ll1065:((2:Int32):Int32).toInt=2:=by decide
  have ll1066:((1:Int32):Int32).toInt=1:=by decide
  refine am X1049 hx 53 26 (hb hby cv) (by decide) (by decide) rfl (fun c1064=>?_) (fun c1064=>?_)
  ·skip
   exfalso;revert c1064;decide
  ·skip
   refine ab X1049 hx 27 (hb hby di) rfl rfl rfl ?_
   refine aa X1049 hx 28 (hb hby dj) rfl rfl ?_
   refine ab X1049 hx 29 (hb hby dl) rfl rfl rfl ?_
   refine ao X1049 hx hZ hown (tw hw 135 rfl) Via.refl e1049 F1052 32 (hb hby dm) rfl ?_
   intro T1067 X1067 e1067
   refine ab X1067 hx 33 (hb hby dn) rfl rfl rfl ?_
   refine ao X1067 hx hZ hown (tw hw 137 rfl) Via.refl e1067 F1053 36 (hb hby dp) rfl ?_
   intro T1068 X1068 e1068
   refine aa X1068 hx 37 (hb hby dq) rfl rfl ?_
   refine aP X1068 hx hZ e1068 F1054 (by decide) (by decide) (by rw[show ((1:Int32):Int32).toNatClampNeg=1 by decide]<;>rfl) 38 (hb hby dr) rfl ?_
   refine ab X1068 hx 39 (hb hby ds) rfl rfl rfl ?_
   refine aa X1068 hx 40 (hb hby dt) rfl rfl ?_
   refine bE X1068 hx hZ (C:=sg0) (z:=({ cls:=sg0,name := "names",desc := "()Ljava/util/List;" }:Jvm.MethodName)) hown (tw hw 139 rfl) (tw hw 141 rfl) (tw hw 76 rfl) rfl (tw hw 140 rfl) (tw hw 36 rfl) (tw hw 142 rfl) (by decide) (pz l Z a0 hw pa h1049 n0 Z1063 cst fm em SX_ F1050 wr st ks s0 s1 Lw B cs F1051 F1052 F1053 F1054 S1061) e1068 (b:=pa) F1051 (argsL:=[(.int (1:Int32))]) (rest:=[(.int s1),(.ref wr),(.int (1:Int32)),(.ref a1012)]) rfl rfl 4 43 rfl (by rw[hml];rfl) (lenOf aS rfl) (Nat.le_refl _) (by decide) (by decide) (by decide) (by decide) (hb hby du) ?_
   intro v1069 T1069 L1069 X1069 hQ1069
   obtain⟨r1,rfl,hr1,N1069,q1069⟩:=hQ1069
   have N1070:=Fr.app N1060 N1069
   show Go _ _ _ _ _ (mkF _ _ _ [(.int r1),(.int s1),(.ref wr),(.int (1:Int32)),(.ref a1012)])
   have hx1:r1.toInt=((ee1+1+l1:Nat):Int):=by
    rw[hr1,hlen]
   refine ak X1069 hx hZ (C:=sg1) hown (tw hw 166 rfl) (tw hw 167 rfl) (tw hw 169 rfl) (tw hw 169 rfl) (tw hw 168 rfl) (tw hw 7 rfl) (tw hw 170 rfl) (by decide) (cSu l Z a0 hw wr s1 r1 h1049 n0 Z1063 cst fm em SX_ F1050 Lw B cs S1061 (ee1+1) l1 ha1 hx1 (by omega) (by omega) (by omega)) q1069 (b:=wr) F1055 (argsL:=[(.int s1),(.int r1)]) (rest:=[(.int (1:Int32)),(.ref a1012)]) rfl rfl 2 46 rfl (by rw[hml];rfl) (lenOf b8 rfl) (Nat.le_refl _) (by decide) (by decide) (by decide) (by decide) (hb hby dw) ?_
   intro v1071 T1071 L1071 X1071 hQ1071
   obtain⟨o1,rfl,N1071,K1071,g1,z1,S1⟩:=hQ1071
   have N1072:=Fr.app N1070 N1071
   have la1:a1012<h1049.size:=V1049'.lt
   have y1:=Nat.le_trans (K1059).1 z1
   have F1073:=F1050.keep K1071 all0
   have F1074:=F1051.keep K1071
   have F1075:=F1052.keep K1071 nin0
   have F1076:=F1053.keep K1071 nin0
   have F1077:=F1054.keep K1071 nin0
   have F1078:=F1055.keep K1071
   have F1079:=F1056.keep K1071 nin0
   have F1080:=V1049'.keep K1071 nin0
   have F1081:=F1058.keep K1071
   have Z1082:n0≤T1071.heap.size:=Nat.le_trans Z1063 K1071.1
   have K1083:=K1059.trans K1071 all0
   have S1084:=S1061.keep K1071 all0
   have S1085:=S1062.keep K1071 all0
   have pz1:pa<h1049.size:=Nat.lt_of_lt_of_le Ep.lt (K1059).1
   show Go _ _ _ _ _ (mkF _ _ _ [(.ref o1),(.int (1:Int32)),(.ref a1012)])
   refine a2 X1071 hx hZ rfl F1080 O1012 (Ins.self S1.exa) 1 (by decide) (by decide) (by show 1<2;decide) 47 (hb hby dx) rfl ?_
   intro T1086 h1086 X1086 e1086 W1086 V1086
   have F1087:=F1073.wr W1086 ge1016
   have F1088:=F1074.wr W1086
   have F1089:=F1075.other W1086 (Or.inl ne1013)
   have F1090:=F1076.other W1086 (Or.inl ne1013)
   have F1091:=F1077.other W1086 ne1014
   have F1092:=F1078.wr W1086
   have F1093:=F1079.other W1086 (Or.inl ne1013)
   have F1095:=F1081.wr W1086
   have F1096:=S1.exa.wr W1086
   have K1097:=K1083.wr W1086 (Or.inr sz1017)
   have N1098:=Fr.snoc X1086 N1072 ge1016
   have S1099:=S1084.keep (Keep.of_wr W1086) (allS (Or.inr (Nat.le_trans hBz sz1017)) all0)
   have S1100:=S1085.keep (Keep.of_wr W1086) (allS (Or.inl la0) all0)
   have S1101:=S1.keep (Keep.of_wr W1086) (allS (Or.inl la1) all0)
   have Z1102:n0≤h1086.size:=by rw[W1086.size];exact Z1082
   have V1086':Arv Z h1086 a1012 k1012 (.object sg1) (2:Int32) [(.ref o0),(.ref o1)] .null:=V1086
   refine aw X1086 hx (w:=(1:Int32)) (2:Int32) (by decide) (l':=#[.val (.ref pa),.val .null,.val (.ref a1012),.val (.int (2:Int32))]) 50 (hb hby dy) rfl rfl (by decide) rfl ?_
   refine ap X1086 hx 20 (hb hby dz) (by decide) (by decide) ?_
   refine aa X1086 hx 21 (hb hby cr) rfl rfl ?_
   refine ab X1086 hx 22 (hb hby ct) rfl rfl rfl ?_
   refine aH X1086 hx hZ e1086 V1086' 23 (hb hby cu) rfl ?_
   have ll1104:((2:Int32):Int32).toInt=2:=by decide
   have ll1105:((2:Int32):Int32).toInt=2:=by decide
   refine am X1086 hx 53 26 (hb hby cv) (by decide) (by decide) rfl (fun c1103=>?_) (fun c1103=>?_)
   ·skip
    refine ab X1086 hx 54 (hb hby iN) rfl rfl rfl ?_
    refine ag X1086 hx hZ hown (tw hw 199 rfl) (tw hw 200 rfl) (tw hw 201 rfl) (tw hw 202 rfl) (by decide) (Pk l Z a0 hw a1012 h1086 n0 Z1102 cst fm em SX_ F1087 o0 o1 k1012 F1095 F1096 V1086') e1086 (argsL:=[(.ref a1012)]) (rest:=[]) rfl rfl 0 57 rfl (by rw[hml];rfl) (lenOf cX rfl) (Nat.le_refl _) (by decide) (by decide) (by decide) (by decide) (hb hby iO) ?_
    intro v1106 T1106 L1106 X1106 hQ1106
    obtain⟨r,rfl,N1106,K1106,gr,sr,hL⟩:=hQ1106
    have N1107:=Fr.app N1098 N1106
    have sr1:=Nat.le_trans (K1097).1 sr
    have prn:r≠pa:=Ne.symm (Nat.ne_of_lt (Nat.lt_of_lt_of_le Ep.lt sr1))
    obtain⟨L1_,L2_,L3_⟩:=hL
    have F1108:=F1087.keep K1106 all0
    have F1109:=F1088.keep K1106
    have F1110:=F1089.keep K1106 nin0
    have F1111:=F1090.keep K1106 nin0
    have F1112:=F1091.keep K1106 nin0
    have F1113:=F1092.keep K1106
    have F1114:=F1093.keep K1106 nin0
    have F1115:=V1086'.keep K1106 nin0
    have F1116:=F1095.keep K1106
    have F1117:=F1096.keep K1106
    have Z1118:n0≤T1106.heap.size:=Nat.le_trans Z1102 K1106.1
    have K1119:=K1097.trans K1106 all0
    have S1120:=S1099.keep K1106 all0
    have S1121:=S1100.keep K1106 all0
    have S1122:=S1101.keep K1106 all0
    show Go _ _ _ _ _ (mkF _ _ _ [(.ref r)])
    refine au (l':=#[.val (.ref pa),.val (.ref r),.val (.ref a1012),.val (.int (2:Int32))]) X1106 hx 58 (hb hby iP) rfl rfl rfl ?_
    refine ab X1106 hx 59 (hb hby iQ) rfl rfl rfl ?_
    refine ab X1106 hx 60 (hb hby iR) rfl rfl rfl ?_
    refine aZ X1106 hx hZ hown (tw hw 78 rfl) Via.refl rfl F1114 F1109 (Or.inl (tw hw 79 rfl)) (tw hw 130 rfl) (ty:=(.object sg9)) (by decide) rfl rfl 63 (hb hby iS) rfl ?_
    intro T1123 h1123 X1123 e1123 W1123
    have F1124:Fld Z h1123 pa sg0 "names" cQ (.ref r):=F1114.same W1123
    have F1125:=F1108.wr W1123 gp
    have F1126:=F1109.wr W1123
    have F1127:=F1110.other W1123 (Or.inr (slot_ne (Or.inr (tw hw 136 rfl)) (Or.inl (tw hw 79 rfl)) (by decide) (t:=(.object sg1)) (t':=(.object sg9)) (by decide) (by decide)))
    have F1128:=F1111.other W1123 (Or.inr (slot_ne (Or.inr (tw hw 138 rfl)) (Or.inl (tw hw 79 rfl)) (by decide) (t:=(.array .int)) (t':=(.object sg9)) (by decide) (by decide)))
    have F1129:=F1112.other W1123 nsp
    have F1130:=F1113.wr W1123
    have F1131:=F1115.other W1123 (Ne.symm ne1013)
    have F1132:=F1116.wr W1123
    have F1133:=F1117.wr W1123
    have F1134:=L1_.wr W1123
    have F1135:=L2_.other W1123 (Or.inl prn)
    have F1136:=L3_.other W1123 (Or.inl prn)
    have K1137:=K1119.wr W1123 (Or.inl (List.mem_of_getElem? (i:=0) rfl))
    have N1138:=Fr.snoc X1123 N1107 gp
    have S1139:=S1120.keep (Keep.of_wr W1123) (allS (Or.inr hBp) all0)
    have S1140:=S1121.keep (Keep.of_wr W1123) (allS (Or.inl (Nat.lt_of_lt_of_le pz0 (Nat.le_refl _))) all0)
    have S1141:=S1122.keep (Keep.of_wr W1123) (allS (Or.inl (Nat.lt_of_lt_of_le pz1 (Nat.le_refl _))) all0)
    have Z1142:n0≤h1123.size:=by rw[W1123.size];exact Z1118
    refine ab X1123 hx 64 (hb hby f9) rfl rfl rfl ?_
    exact aA X1123 hx hlk hret rfl rfl rfl (hb hby f_) (by decide) (by decide) e1123 ⟨r,o0,o1,rfl,N1138,K1137,y0,⟨_,_,S1140⟩,y1,⟨_,_,S1141⟩,F1134,F1135,F1136⟩
   ·skip
    exfalso;revert c1103;decide
def xA (Z:State)(pa:Addr)(cs:List Int32)(ee0 l0 ee1 l1 ee2 l2 n0:Nat)(h0:Heap)(v:Option Value)(h:Heap)(L:List Loc):Prop:=∃r o0 o1 o2:Addr,v=some (.ref r)∧Fr n0 L∧Keep h0 h [pa]∧h0.size≤o0∧(∃Lw B:Nat,a3 Z h Lw B o0 (aU cs (ee0+1) l0))∧h0.size≤o1∧(∃Lw B:Nat,a3 Z h Lw B o1 (aU cs (ee1+1) l1))∧h0.size≤o2∧(∃Lw B:Nat,a3 Z h Lw B o2 (aU cs (ee2+1) l2))∧Exa Z h r sg3∧∃(el:Addr)(ke:ClassId),h0.size≤el∧Fld Z h r sg3 "elements" "[Ljava/lang/Object;" (.ref el)∧Arv Z h el ke (.object sg6) 3 [(.ref o0),(.ref o1),(.ref o2)] .null
theorem oa (pa:Addr)(m:MethodId):entryFrame m #[(.ref pa)] 4=mkF m 0 #[.val (.ref pa),.unset,.unset,.unset] []:=by first|(simp [entryFrame,mkF,argsToLocals,Value.category];done)|rfl
theorem Po (l:Launch)(Z:State)(a0:Array Value)(hw:HW a0 Z)(pa:Addr)(h0:Heap)(n0:Nat)(Z0:n0≤h0.size)(cst:Int32)(fm:Option Addr)(em:Addr)(SX_:SX Z cst fm em)(O0:Old Z n0 h0)(wr st:Addr)(ks:ClassId)(s0 s1 s2:Int32)(Lw B:Nat)(cs:List Int32)(Ep:Exa Z h0 pa sg0)(Fw:Fld Z h0 pa sg0 "written" cA (.ref wr))(Fs:Fld Z h0 pa sg0 "starts" "[I" (.ref st))(Vs:Arv Z h0 st ks .int 3 [(.int s0),(.int s1),(.int s2)] (.int 0))(S:a3 Z h0 Lw B wr cs)(ee0 l0 ee1 l1 ee2 l2:Nat)(gp:n0≤pa)(Fn:Fld Z h0 pa sg0 "names" cQ .null)(nwp:wr≠pa)(nsp:st≠pa)(hBp:B≤pa)(hBz:B≤h0.size)(ha0:s0.toInt=((ee0+1:Nat):Int))(hb0_:1≤l0)(ha1:s1.toInt=((ee1+1:Nat):Int))(hb1_:1≤l1)(ha2:s2.toInt=((ee2+1:Nat):Int))(hb2_:1≤l2)(c1:ee1=ee0+1+l0)(c2:ee2=ee1+1+l1)(hlen:cs.length=ee2+1+l2) :
  MF l Z h0 ⟨sg0,"names","()Ljava/util/List;"⟩ prog_26_method_9_code 4 (some (.object sg9)) ⟨7,12,140,160⟩ #[(.ref pa)] (xA Z pa cs ee0 l0 ee1 l1 ee2 l2 n0 h0):=by
 refine ai c0 (oa pa) ?_
 intro p e s m below meth c T0 X0 hx hby hml hret hlk hnm hown hZ e0
 have N0:=Fr.nil n0
 have Ew:=S.exa
 have hcl:=S.1.2.1
 refine ab X0 hx 1 (hb hby js) rfl rfl rfl ?_
 refine ao X0 hx hZ hown (tw hw 78 rfl) Via.refl e0 Fn 4 (hb hby jt) rfl ?_
 intro T1143 X1143 e1143
 refine au (l':=#[.val (.ref pa),.val .null,.unset,.unset]) X1143 hx 5 (hb hby ju) rfl rfl rfl ?_
 refine ab X1143 hx 6 (hb hby jv) rfl rfl rfl ?_
 refine bS X1143 hx 9 (hb hby jw) rfl ?_
 refine ab X1143 hx 10 (hb hby mi) rfl rfl rfl ?_
 refine ao X1143 hx hZ hown (tw hw 137 rfl) Via.refl e1143 Fs 13 (hb hby iH) rfl ?_
 intro T1144 X1144 e1144
 refine aH X1144 hx hZ e1144 Vs 14 (hb hby iI) rfl ?_
 refine fp X1144 hx hZ hown (tw hw 164 rfl) (tw hw 165 rfl) e1144 (by decide) (cap:=3) (by decide) (by decide) 17 (hb hby iJ) rfl (by decide) (by decide) ?_
 intro T1145 h1145 k1145 a1145 g1145 X1145 e1145 E1145 V1145 O1145
 have ne1146:pa≠a1145:=Nat.ne_of_lt (by rw[g1145];exact Ep.lt)
 have ne1147:st≠a1145:=Nat.ne_of_lt (by rw[g1145];exact Vs.lt)
 have ne1148:wr≠a1145:=Nat.ne_of_lt (by rw[g1145];exact Ew.lt)
 have ge1149:n0≤a1145:=by rw[g1145];exact Z0
 have sz1150:h0.size≤a1145:=by rw[g1145];exact (Keep.refl h0 [pa]).1
 have F1151:=O0.ext E1145
 have F1152:=Ep.ext E1145
 have F1153:=Fw.ext E1145
 have F1154:=Fs.ext E1145
 have F1155:=Vs.ext E1145
 have F1156:=Ew.ext E1145
 have F1157:=Fn.ext E1145
 have K1158:=(Keep.refl h0 [pa]).ext E1145
 have S1159:=S.ext E1145
 have Z1160:n0≤h1145.size:=Nat.le_trans Z0 E1145.1
 have V1161:Arv Z h1145 a1145 k1145 (.object sg1) (3:Int32) [.null,.null,.null] .null:=V1145.pad (pad_rep [] .null 3)
 refine au (l':=#[.val (.ref pa),.val .null,.val (.ref a1145),.unset]) X1145 hx 18 (hb hby iK) rfl rfl rfl ?_
 refine ac X1145 hx (0:Int32) 19 (hb hby iL) rfl (by decide) ?_
 refine aq (l':=#[.val (.ref pa),.val .null,.val (.ref a1145),.val (.int (0:Int32))]) X1145 hx 20 (hb hby iM) rfl rfl ?_
 refine aa X1145 hx 21 (hb hby cr) rfl rfl ?_
 refine ab X1145 hx 22 (hb hby ct) rfl rfl rfl ?_
 refine aH X1145 hx hZ e1145 V1161 23 (hb hby cu) rfl ?_
 have ll1163:((3:Int32):Int32).toInt=3:=by decide
 have ll1164:((0:Int32):Int32).toInt=0:=by decide
 refine am X1145 hx 53 26 (hb hby cv) (by decide) (by decide) rfl (fun c1162=>?_) (fun c1162=>?_)
 ·skip
  exfalso;revert c1162;decide
 ·skip
  refine ab X1145 hx 27 (hb hby di) rfl rfl rfl ?_
  refine aa X1145 hx 28 (hb hby dj) rfl rfl ?_
  refine ab X1145 hx 29 (hb hby dl) rfl rfl rfl ?_
  refine ao X1145 hx hZ hown (tw hw 135 rfl) Via.refl e1145 F1153 32 (hb hby dm) rfl ?_
  intro T1165 X1165 e1165
  refine ab X1165 hx 33 (hb hby dn) rfl rfl rfl ?_
  refine ao X1165 hx hZ hown (tw hw 137 rfl) Via.refl e1165 F1154 36 (hb hby dp) rfl ?_
  intro T1166 X1166 e1166
  refine aa X1166 hx 37 (hb hby dq) rfl rfl ?_
  refine aP X1166 hx hZ e1166 F1155 (by decide) (by decide) (by rw[show ((0:Int32):Int32).toNatClampNeg=0 by decide]<;>rfl) 38 (hb hby dr) rfl ?_
  refine ab X1166 hx 39 (hb hby ds) rfl rfl rfl ?_
  refine aa X1166 hx 40 (hb hby dt) rfl rfl ?_
  refine bE X1166 hx hZ (C:=sg0) (z:=({ cls:=sg0,name := "names",desc := "()Ljava/util/List;" }:Jvm.MethodName)) hown (tw hw 139 rfl) (tw hw 141 rfl) (tw hw 76 rfl) rfl (tw hw 140 rfl) (tw hw 36 rfl) (tw hw 142 rfl) (by decide) (pA l Z a0 hw pa h1145 n0 Z1160 cst fm em SX_ F1151 wr st ks s0 s1 s2 Lw B cs F1152 F1153 F1154 F1155 S1159) e1166 (b:=pa) F1152 (argsL:=[(.int (0:Int32))]) (rest:=[(.int s0),(.ref wr),(.int (0:Int32)),(.ref a1145)]) rfl rfl 4 43 rfl (by rw[hml];rfl) (lenOf aS rfl) (Nat.le_refl _) (by decide) (by decide) (by decide) (by decide) (hb hby du) ?_
  intro v1167 T1167 L1167 X1167 hQ1167
  obtain⟨r0,rfl,hr0,N1167,q1167⟩:=hQ1167
  have N1168:=Fr.app N0 N1167
  show Go _ _ _ _ _ (mkF _ _ _ [(.int r0),(.int s0),(.ref wr),(.int (0:Int32)),(.ref a1145)])
  have hx0:r0.toInt=((ee0+1+l0:Nat):Int):=by
   rw[hr0,aT ha1 (y:=(1:Int32)) (b:=1) (by decide) (by omega) (by omega)]
   omega
  refine ak X1167 hx hZ (C:=sg1) hown (tw hw 166 rfl) (tw hw 167 rfl) (tw hw 169 rfl) (tw hw 169 rfl) (tw hw 168 rfl) (tw hw 7 rfl) (tw hw 170 rfl) (by decide) (cSu l Z a0 hw wr s0 r0 h1145 n0 Z1160 cst fm em SX_ F1151 Lw B cs S1159 (ee0+1) l0 ha0 hx0 (by omega) (by omega) (by omega)) q1167 (b:=wr) F1156 (argsL:=[(.int s0),(.int r0)]) (rest:=[(.int (0:Int32)),(.ref a1145)]) rfl rfl 2 46 rfl (by rw[hml];rfl) (lenOf b8 rfl) (Nat.le_refl _) (by decide) (by decide) (by decide) (by decide) (hb hby dw) ?_
  intro v1169 T1169 L1169 X1169 hQ1169
  obtain⟨o0,rfl,N1169,K1169,g0,z0,S0⟩:=hQ1169
  have N1170:=Fr.app N1168 N1169
  have la0:a1145<h1145.size:=V1161.lt
  have y0:=Nat.le_trans (K1158).1 z0
  have F1171:=F1151.keep K1169 all0
  have F1172:=F1152.keep K1169
  have F1173:=F1153.keep K1169 nin0
  have F1174:=F1154.keep K1169 nin0
  have F1175:=F1155.keep K1169 nin0
  have F1176:=F1156.keep K1169
  have F1177:=F1157.keep K1169 nin0
  have F1178:=V1161.keep K1169 nin0
  have Z1179:n0≤T1169.heap.size:=Nat.le_trans Z1160 K1169.1
  have K1180:=K1158.trans K1169 all0
  have S1181:=S1159.keep K1169 all0
  have pz0:pa<h1145.size:=Nat.lt_of_lt_of_le Ep.lt (K1158).1
  show Go _ _ _ _ _ (mkF _ _ _ [(.ref o0),(.int (0:Int32)),(.ref a1145)])
  refine a2 X1169 hx hZ rfl F1178 O1145 (Ins.self S0.exa) 0 (by decide) (by decide) (by show 0<3;decide) 47 (hb hby dx) rfl ?_
  intro T1182 h1182 X1182 e1182 W1182 V1182
  have F1183:=F1171.wr W1182 ge1149
  have F1184:=F1172.wr W1182
  have F1185:=F1173.other W1182 (Or.inl ne1146)
  have F1186:=F1174.other W1182 (Or.inl ne1146)
  have F1187:=F1175.other W1182 ne1147
  have F1188:=F1176.wr W1182
  have F1189:=F1177.other W1182 (Or.inl ne1146)
  have F1191:=S0.exa.wr W1182
  have K1192:=K1180.wr W1182 (Or.inr sz1150)
  have N1193:=Fr.snoc X1182 N1170 ge1149
  have S1194:=S1181.keep (Keep.of_wr W1182) (allS (Or.inr (Nat.le_trans hBz sz1150)) all0)
  have S1195:=S0.keep (Keep.of_wr W1182) (allS (Or.inl la0) all0)
  have Z1196:n0≤h1182.size:=by rw[W1182.size];exact Z1179
  have V1182':Arv Z h1182 a1145 k1145 (.object sg1) (3:Int32) [(.ref o0),.null,.null] .null:=V1182
  refine aw X1182 hx (w:=(1:Int32)) (1:Int32) (by decide) (l':=#[.val (.ref pa),.val .null,.val (.ref a1145),.val (.int (1:Int32))]) 50 (hb hby dy) rfl rfl (by decide) rfl ?_
  refine ap X1182 hx 20 (hb hby dz) (by decide) (by decide) ?_
  refine aa X1182 hx 21 (hb hby cr) rfl rfl ?_
  refine ab X1182 hx 22 (hb hby ct) rfl rfl rfl ?_
  refine aH X1182 hx hZ e1182 V1182' 23 (hb hby cu) rfl ?_
  have ll1198:((3:Int32):Int32).toInt=3:=by decide
  have ll1199:((1:Int32):Int32).toInt=1:=by decide
  refine am X1182 hx 53 26 (hb hby cv) (by decide) (by decide) rfl (fun c1197=>?_) (fun c1197=>?_)
  ·skip
   exfalso;revert c1197;decide
  ·skip
   refine ab X1182 hx 27 (hb hby di) rfl rfl rfl ?_
   refine aa X1182 hx 28 (hb hby dj) rfl rfl ?_
   refine ab X1182 hx 29 (hb hby dl) rfl rfl rfl ?_
   refine ao X1182 hx hZ hown (tw hw 135 rfl) Via.refl e1182 F1185 32 (hb hby dm) rfl ?_
   intro T1200 X1200 e1200
   refine ab X1200 hx 33 (hb hby dn) rfl rfl rfl ?_
   refine ao X1200 hx hZ hown (tw hw 137 rfl) Via.refl e1200 F1186 36 (hb hby dp) rfl ?_
   intro T1201 X1201 e1201
   refine aa X1201 hx 37 (hb hby dq) rfl rfl ?_
   refine aP X1201 hx hZ e1201 F1187 (by decide) (by decide) (by rw[show ((1:Int32):Int32).toNatClampNeg=1 by decide]<;>rfl) 38 (hb hby dr) rfl ?_
   refine ab X1201 hx 39 (hb hby ds) rfl rfl rfl ?_
   refine aa X1201 hx 40 (hb hby dt) rfl rfl ?_
   refine bE X1201 hx hZ (C:=sg0) (z:=({ cls:=sg0,name := "names",desc := "()Ljava/util/List;" }:Jvm.MethodName)) hown (tw hw 139 rfl) (tw hw 141 rfl) (tw hw 76 rfl) rfl (tw hw 140 rfl) (tw hw 36 rfl) (tw hw 142 rfl) (by decide) (pB l Z a0 hw pa h1182 n0 Z1196 cst fm em SX_ F1183 wr st ks s0 s1 s2 Lw B cs F1184 F1185 F1186 F1187 S1194) e1201 (b:=pa) F1184 (argsL:=[(.int (1:Int32))]) (rest:=[(.int s1),(.ref wr),(.int (1:Int32)),(.ref a1145)]) rfl rfl 4 43 rfl (by rw[hml];rfl) (lenOf aS rfl) (Nat.le_refl _) (by decide) (by decide) (by decide) (by decide) (hb hby du) ?_
   intro v1202 T1202 L1202 X1202 hQ1202
   obtain⟨r1,rfl,hr1,N1202,q1202⟩:=hQ1202
   have N1203:=Fr.app N1193 N1202
   show Go _ _ _ _ _ (mkF _ _ _ [(.int r1),(.int s1),(.ref wr),(.int (1:Int32)),(.ref a1145)])
   have hx1:r1.toInt=((ee1+1+l1:Nat):Int):=by
    rw[hr1,aT ha2 (y:=(1:Int32)) (b:=1) (by decide) (by omega) (by omega)]
    omega
   refine ak X1202 hx hZ (C:=sg1) hown (tw hw 166 rfl) (tw hw 167 rfl) (tw hw 169 rfl) (tw hw 169 rfl) (tw hw 168 rfl) (tw hw 7 rfl) (tw hw 170 rfl) (by decide) (cSu l Z a0 hw wr s1 r1 h1182 n0 Z1196 cst fm em SX_ F1183 Lw B cs S1194 (ee1+1) l1 ha1 hx1 (by omega) (by omega) (by omega)) q1202 (b:=wr) F1188 (argsL:=[(.int s1),(.int r1)]) (rest:=[(.int (1:Int32)),(.ref a1145)]) rfl rfl 2 46 rfl (by rw[hml];rfl) (lenOf b8 rfl) (Nat.le_refl _) (by decide) (by decide) (by decide) (by decide) (hb hby dw) ?_
   intro v1204 T1204 L1204 X1204 hQ1204
   obtain⟨o1,rfl,N1204,K1204,g1,z1,S1⟩:=hQ1204
   have N1205:=Fr.app N1203 N1204
   have la1:a1145<h1182.size:=V1182'.lt
   have y1:=Nat.le_trans (K1192).1 z1
   have F1206:=F1183.keep K1204 all0
   have F1207:=F1184.keep K1204
   have F1208:=F1185.keep K1204 nin0
   have F1209:=F1186.keep K1204 nin0
   have F1210:=F1187.keep K1204 nin0
   have F1211:=F1188.keep K1204
   have F1212:=F1189.keep K1204 nin0
   have F1213:=V1182'.keep K1204 nin0
   have F1214:=F1191.keep K1204
   have Z1215:n0≤T1204.heap.size:=Nat.le_trans Z1196 K1204.1
   have K1216:=K1192.trans K1204 all0
   have S1217:=S1194.keep K1204 all0
   have S1218:=S1195.keep K1204 all0
   have pz1:pa<h1182.size:=Nat.lt_of_lt_of_le Ep.lt (K1192).1
   show Go _ _ _ _ _ (mkF _ _ _ [(.ref o1),(.int (1:Int32)),(.ref a1145)])
   refine a2 X1204 hx hZ rfl F1213 O1145 (Ins.self S1.exa) 1 (by decide) (by decide) (by show 1<3;decide) 47 (hb hby dx) rfl ?_
   intro T1219 h1219 X1219 e1219 W1219 V1219
   have F1220:=F1206.wr W1219 ge1149
   have F1221:=F1207.wr W1219
   have F1222:=F1208.other W1219 (Or.inl ne1146)
   have F1223:=F1209.other W1219 (Or.inl ne1146)
   have F1224:=F1210.other W1219 ne1147
   have F1225:=F1211.wr W1219
   have F1226:=F1212.other W1219 (Or.inl ne1146)
   have F1228:=F1214.wr W1219
   have F1229:=S1.exa.wr W1219
   have K1230:=K1216.wr W1219 (Or.inr sz1150)
   have N1231:=Fr.snoc X1219 N1205 ge1149
   have S1232:=S1217.keep (Keep.of_wr W1219) (allS (Or.inr (Nat.le_trans hBz sz1150)) all0)
   have S1233:=S1218.keep (Keep.of_wr W1219) (allS (Or.inl la0) all0)
   have S1234:=S1.keep (Keep.of_wr W1219) (allS (Or.inl la1) all0)
   have Z1235:n0≤h1219.size:=by rw[W1219.size];exact Z1215
   have V1219':Arv Z h1219 a1145 k1145 (.object sg1) (3:Int32) [(.ref o0),(.ref o1),.null] .null:=V1219
   refine aw X1219 hx (w:=(1:Int32)) (2:Int32) (by decide) (l':=#[.val (.ref pa),.val .null,.val (.ref a1145),.val (.int (2:Int32))]) 50 (hb hby dy) rfl rfl (by decide) rfl ?_
   refine ap X1219 hx 20 (hb hby dz) (by decide) (by decide) ?_
   refine aa X1219 hx 21 (hb hby cr) rfl rfl ?_
   refine ab X1219 hx 22 (hb hby ct) rfl rfl rfl ?_
   refine aH X1219 hx hZ e1219 V1219' 23 (hb hby cu) rfl ?_
   have ll1237:((3:Int32):Int32).toInt=3:=by decide
   have ll1238:((2:Int32):Int32).toInt=2:=by decide
   refine am X1219 hx 53 26 (hb hby cv) (by decide) (by decide) rfl (fun c1236=>?_) (fun c1236=>?_)
   ·skip
    exfalso;revert c1236;decide
   ·skip
    refine ab X1219 hx 27 (hb hby di) rfl rfl rfl ?_
    refine aa X1219 hx 28 (hb hby dj) rfl rfl ?_
    refine ab X1219 hx 29 (hb hby dl) rfl rfl rfl ?_
    refine ao X1219 hx hZ hown (tw hw 135 rfl) Via.refl e1219 F1222 32 (hb hby dm) rfl ?_
    intro T1239 X1239 e1239
    refine ab X1239 hx 33 (hb hby dn) rfl rfl rfl ?_
    refine ao X1239 hx hZ hown (tw hw 137 rfl) Via.refl e1239 F1223 36 (hb hby dp) rfl ?_
    intro T1240 X1240 e1240
    refine aa X1240 hx 37 (hb hby dq) rfl rfl ?_
    refine aP X1240 hx hZ e1240 F1224 (by decide) (by decide) (by rw[show ((2:Int32):Int32).toNatClampNeg=2 by decide]<;>rfl) 38 (hb hby dr) rfl ?_
    refine ab X1240 hx 39 (hb hby ds) rfl rfl rfl ?_
    refine aa X1240 hx 40 (hb hby dt) rfl rfl ?_
    refine bE X1240 hx hZ (C:=sg0) (z:=({ cls:=sg0,name := "names",desc := "()Ljava/util/List;" }:Jvm.MethodName)) hown (tw hw 139 rfl) (tw hw 141 rfl) (tw hw 76 rfl) rfl (tw hw 140 rfl) (tw hw 36 rfl) (tw hw 142 rfl) (by decide) (pC l Z a0 hw pa h1219 n0 Z1235 cst fm em SX_ F1220 wr st ks s0 s1 s2 Lw B cs F1221 F1222 F1223 F1224 S1232) e1240 (b:=pa) F1221 (argsL:=[(.int (2:Int32))]) (rest:=[(.int s2),(.ref wr),(.int (2:Int32)),(.ref a1145)]) rfl rfl 4 43 rfl (by rw[hml];rfl) (lenOf aS rfl) (Nat.le_refl _) (by decide) (by decide) (by decide) (by decide) (hb hby du) ?_
    intro v1241 T1241 L1241 X1241 hQ1241
    obtain⟨r2,rfl,hr2,N1241,q1241⟩:=hQ1241
    have N1242:=Fr.app N1231 N1241
    show Go _ _ _ _ _ (mkF _ _ _ [(.int r2),(.int s2),(.ref wr),(.int (2:Int32)),(.ref a1145)])
    have hx2:r2.toInt=((ee2+1+l2:Nat):Int):=by
     rw[hr2,hlen]
    refine ak X1241 hx hZ (C:=sg1) hown (tw hw 166 rfl) (tw hw 167 rfl) (tw hw 169 rfl) (tw hw 169 rfl) (tw hw 168 rfl) (tw hw 7 rfl) (tw hw 170 rfl) (by decide) (cSu l Z a0 hw wr s2 r2 h1219 n0 Z1235 cst fm em SX_ F1220 Lw B cs S1232 (ee2+1) l2 ha2 hx2 (by omega) (by omega) (by omega)) q1241 (b:=wr) F1225 (argsL:=[(.int s2),(.int r2)]) (rest:=[(.int (2:Int32)),(.ref a1145)]) rfl rfl 2 46 rfl (by rw[hml];rfl) (lenOf b8 rfl) (Nat.le_refl _) (by decide) (by decide) (by decide) (by decide) (hb hby dw) ?_
    intro v1243 T1243 L1243 X1243 hQ1243
    obtain⟨o2,rfl,N1243,K1243,g2,z2,S2⟩:=hQ1243
    have N1244:=Fr.app N1242 N1243
    have la2:a1145<h1219.size:=V1219'.lt
    have y2:=Nat.le_trans (K1230).1 z2
    have F1245:=F1220.keep K1243 all0
    have F1246:=F1221.keep K1243
    have F1247:=F1222.keep K1243 nin0
    have F1248:=F1223.keep K1243 nin0
    have F1249:=F1224.keep K1243 nin0
    have F1250:=F1225.keep K1243
    have F1251:=F1226.keep K1243 nin0
    have F1252:=V1219'.keep K1243 nin0
    have F1253:=F1228.keep K1243
    have F1254:=F1229.keep K1243
    have Z1255:n0≤T1243.heap.size:=Nat.le_trans Z1235 K1243.1
    have K1256:=K1230.trans K1243 all0
    have S1257:=S1232.keep K1243 all0
    have S1258:=S1233.keep K1243 all0
    have S1259:=S1234.keep K1243 all0
    have pz2:pa<h1219.size:=Nat.lt_of_lt_of_le Ep.lt (K1230).1
    show Go _ _ _ _ _ (mkF _ _ _ [(.ref o2),(.int (2:Int32)),(.ref a1145)])
    refine a2 X1243 hx hZ rfl F1252 O1145 (Ins.self S2.exa) 2 (by decide) (by decide) (by show 2<3;decide) 47 (hb hby dx) rfl ?_
    intro T1260 h1260 X1260 e1260 W1260 V1260
    have F1261:=F1245.wr W1260 ge1149
    have F1262:=F1246.wr W1260
    have F1263:=F1247.other W1260 (Or.inl ne1146)
    have F1264:=F1248.other W1260 (Or.inl ne1146)
    have F1265:=F1249.other W1260 ne1147
    have F1266:=F1250.wr W1260
    have F1267:=F1251.other W1260 (Or.inl ne1146)
    have F1269:=F1253.wr W1260
    have F1270:=F1254.wr W1260
    have F1271:=S2.exa.wr W1260
    have K1272:=K1256.wr W1260 (Or.inr sz1150)
    have N1273:=Fr.snoc X1260 N1244 ge1149
    have S1274:=S1257.keep (Keep.of_wr W1260) (allS (Or.inr (Nat.le_trans hBz sz1150)) all0)
    have S1275:=S1258.keep (Keep.of_wr W1260) (allS (Or.inl la0) all0)
    have S1276:=S1259.keep (Keep.of_wr W1260) (allS (Or.inl la1) all0)
    have S1277:=S2.keep (Keep.of_wr W1260) (allS (Or.inl la2) all0)
    have Z1278:n0≤h1260.size:=by rw[W1260.size];exact Z1255
    have V1260':Arv Z h1260 a1145 k1145 (.object sg1) (3:Int32) [(.ref o0),(.ref o1),(.ref o2)] .null:=V1260
    refine aw X1260 hx (w:=(1:Int32)) (3:Int32) (by decide) (l':=#[.val (.ref pa),.val .null,.val (.ref a1145),.val (.int (3:Int32))]) 50 (hb hby dy) rfl rfl (by decide) rfl ?_
    refine ap X1260 hx 20 (hb hby dz) (by decide) (by decide) ?_
    refine aa X1260 hx 21 (hb hby cr) rfl rfl ?_
    refine ab X1260 hx 22 (hb hby ct) rfl rfl rfl ?_
    refine aH X1260 hx hZ e1260 V1260' 23 (hb hby cu) rfl ?_
    have ll1280:((3:Int32):Int32).toInt=3:=by decide
    have ll1281:((3:Int32):Int32).toInt=3:=by decide
    refine am X1260 hx 53 26 (hb hby cv) (by decide) (by decide) rfl (fun c1279=>?_) (fun c1279=>?_)
    ·skip
     refine ab X1260 hx 54 (hb hby iN) rfl rfl rfl ?_
     refine ag X1260 hx hZ hown (tw hw 199 rfl) (tw hw 200 rfl) (tw hw 201 rfl) (tw hw 202 rfl) (by decide) (Pl l Z a0 hw a1145 h1260 n0 Z1278 cst fm em SX_ F1261 o0 o1 o2 k1145 F1269 F1270 F1271 V1260') e1260 (argsL:=[(.ref a1145)]) (rest:=[]) rfl rfl 0 57 rfl (by rw[hml];rfl) (lenOf cX rfl) (Nat.le_refl _) (by decide) (by decide) (by decide) (by decide) (hb hby iO) ?_
     intro v1282 T1282 L1282 X1282 hQ1282
     obtain⟨r,rfl,N1282,K1282,gr,sr,hL⟩:=hQ1282
     have N1283:=Fr.app N1273 N1282
     have sr1:=Nat.le_trans (K1272).1 sr
     have prn:r≠pa:=Ne.symm (Nat.ne_of_lt (Nat.lt_of_lt_of_le Ep.lt sr1))
     obtain⟨L1_,el,ke,sel,L2_,L3_⟩:=hL
     have sel1:=Nat.le_trans (K1272).1 sel
     have epn:el≠pa:=Ne.symm (Nat.ne_of_lt (Nat.lt_of_lt_of_le Ep.lt sel1))
     have F1284:=F1261.keep K1282 all0
     have F1285:=F1262.keep K1282
     have F1286:=F1263.keep K1282 nin0
     have F1287:=F1264.keep K1282 nin0
     have F1288:=F1265.keep K1282 nin0
     have F1289:=F1266.keep K1282
     have F1290:=F1267.keep K1282 nin0
     have F1291:=V1260'.keep K1282 nin0
     have F1292:=F1269.keep K1282
     have F1293:=F1270.keep K1282
     have F1294:=F1271.keep K1282
     have Z1295:n0≤T1282.heap.size:=Nat.le_trans Z1278 K1282.1
     have K1296:=K1272.trans K1282 all0
     have S1297:=S1274.keep K1282 all0
     have S1298:=S1275.keep K1282 all0
     have S1299:=S1276.keep K1282 all0
     have S1300:=S1277.keep K1282 all0
     show Go _ _ _ _ _ (mkF _ _ _ [(.ref r)])
     refine au (l':=#[.val (.ref pa),.val (.ref r),.val (.ref a1145),.val (.int (3:Int32))]) X1282 hx 58 (hb hby iP) rfl rfl rfl ?_
     refine ab X1282 hx 59 (hb hby iQ) rfl rfl rfl ?_
     refine ab X1282 hx 60 (hb hby iR) rfl rfl rfl ?_
     refine aZ X1282 hx hZ hown (tw hw 78 rfl) Via.refl rfl F1290 F1285 (Or.inl (tw hw 79 rfl)) (tw hw 130 rfl) (ty:=(.object sg9)) (by decide) rfl rfl 63 (hb hby iS) rfl ?_
     intro T1301 h1301 X1301 e1301 W1301
     have F1302:Fld Z h1301 pa sg0 "names" cQ (.ref r):=F1290.same W1301
     have F1303:=F1284.wr W1301 gp
     have F1304:=F1285.wr W1301
     have F1305:=F1286.other W1301 (Or.inr (slot_ne (Or.inr (tw hw 136 rfl)) (Or.inl (tw hw 79 rfl)) (by decide) (t:=(.object sg1)) (t':=(.object sg9)) (by decide) (by decide)))
     have F1306:=F1287.other W1301 (Or.inr (slot_ne (Or.inr (tw hw 138 rfl)) (Or.inl (tw hw 79 rfl)) (by decide) (t:=(.array .int)) (t':=(.object sg9)) (by decide) (by decide)))
     have F1307:=F1288.other W1301 nsp
     have F1308:=F1289.wr W1301
     have F1309:=F1291.other W1301 (Ne.symm ne1146)
     have F1310:=F1292.wr W1301
     have F1311:=F1293.wr W1301
     have F1312:=F1294.wr W1301
     have F1313:=L1_.wr W1301
     have F1314:=L2_.other W1301 (Or.inl prn)
     have F1315:=L3_.other W1301 epn
     have K1316:=K1296.wr W1301 (Or.inl (List.mem_of_getElem? (i:=0) rfl))
     have N1317:=Fr.snoc X1301 N1283 gp
     have S1318:=S1297.keep (Keep.of_wr W1301) (allS (Or.inr hBp) all0)
     have S1319:=S1298.keep (Keep.of_wr W1301) (allS (Or.inl (Nat.lt_of_lt_of_le pz0 (Nat.le_refl _))) all0)
     have S1320:=S1299.keep (Keep.of_wr W1301) (allS (Or.inl (Nat.lt_of_lt_of_le pz1 (Nat.le_refl _))) all0)
     have S1321:=S1300.keep (Keep.of_wr W1301) (allS (Or.inl (Nat.lt_of_lt_of_le pz2 (Nat.le_refl _))) all0)
     have Z1322:n0≤h1301.size:=by rw[W1301.size];exact Z1295
     refine ab X1301 hx 64 (hb hby f9) rfl rfl rfl ?_
     exact aA X1301 hx hlk hret rfl rfl rfl (hb hby f_) (by decide) (by decide) e1301 ⟨r,o0,o1,o2,rfl,N1317,K1316,y0,⟨_,_,S1319⟩,y1,⟨_,_,S1320⟩,y2,⟨_,_,S1321⟩,F1313,el,ke,sel1,F1314,F1315⟩
    ·skip
     exfalso;revert c1279;decide
theorem d0 (x:Int32):0≤(x&&&(255:Int32)).toInt∧(x&&&(255:Int32)).toInt≤255:=by
 have:=c_mask x 255 8 (by decide) (by decide)
 have e:((2 ^ 8:Nat):Int)=256:=rfl
 rw[e] at this
 omega
theorem gc {x:Int32}(h:a6 x):nar .char x.toUInt32.toUInt16.toUInt32.toInt32=x:=a_ (P:=fun c=>nar .char c.toUInt32.toUInt16.toUInt32.toInt32=c) 303 (by decide) (by decide +kernel) h.1 h.2
def chx (p k:Int32):Int32:=(p.toUInt32>>>(k&&&31).toUInt32).toInt32&&&(255:Int32)
def chf (p k:Int32):Int32:=if (chx p k).toInt=47 then 303 else chx p k
def chn (p:Int32):Nat→Int32
 | 0=>chf p 0
 | 1=>chf p 8
 | _=>chf p 16
theorem gd (p k:Int32):a6 (chf p k)∧(chf p k).toInt≠47:=by
 have h:=d0 ((p.toUInt32>>>(k&&&31).toUInt32).toInt32)
 have e3:(303:Int32).toInt=303:=by decide
 unfold chf a6
 split
 ·rw[e3];omega
 ·rename_i q
  exact⟨⟨h.1,by have:=h.2;show (chx p k).toInt≤303;unfold chx;omega⟩,q⟩
theorem bw (p:Int32)(j:Nat):a6 (chn p j)∧(chn p j).toInt≠47:=by
 match j with
 | 0=>exact gd p 0
 | 1=>exact gd p 8
 | _+2=>exact gd p 16
def NoD (p len:Int32):Prop:=¬(len.toInt=1∧(chn p 0).toInt=46)∧¬(len.toInt=2∧(chn p 0).toInt=46∧(chn p 1).toInt=46)
theorem bx {B:List Int32}{i:Nat}{y:Int32}:(B.map Value.int).set i (.int y)=(B.set i y).map Value.int:=by rw[List.map_set]
theorem bV {B:List Int32}{i j:Nat}{y:Int32}(h:i<B.length):(B.set i y).getD j 0=if i=j then y else B.getD j 0:=by
 simp only[List.getD_eq_getElem?_getD,List.getElem?_set]
 by_cases q:i=j
 ·rw[if_pos q,if_pos q,if_pos (q▸h)];rfl
 ·rw[if_neg q,if_neg q]
def Put (B B':List Int32)(p:Int32)(i l:Nat):Prop:=B'.length=12∧(∀j,j<i→B'.getD j 0=B.getD j 0)∧∀j,j<l→B'.getD (i+j) 0=chn p j
section OwnKitC
variable {p:Program}{l:Launch}{e:Env}{R:Room}{s:State}{m:MethodId}{args:Array Value}{below:List Frame}{meth:Method}{c:Code}{T:State}{locs:List Loc}{cells slots:Nat}{Z:State}{a0:Array Value}{h h':Heap}{Ev:State→Outcome→Prop}
theorem az (X:Stand p l e R s m args below meth c T locs cells slots)(hx:p.tables.exec=Jvm.exec){pc:Nat}{Ls:Array Slot}{st:List Value}(hZ:Z.Warmed39 s.vm)(eT:T.heap=h){b ca:Addr}{kb kc:ClassId}{z:Int32}{B:List Int32}{vs:List Value}(V:Arv Z h b kb .char 12 (B.map Value.int) (.int 0))(C:Arv Z h ca kc .char z vs (.int 0))(nn:b≠ca){v:Int}(j:Int32)(i:Nat)(hvj:Int32.ofInt v=j)(hj:j.toInt=(i:Int))(hi:i<12)(hz:j.toInt<z.toInt)(hv:i<vs.length)(hch:a6 (B.getD i 0))(hl:Ls[(0:Fin 4).val]? = some (.val (.ref b)))(d1:decode c.code pc = .ok (.dup,1))(d2:decode c.code (pc+1) = .ok (.iconst v,1))(d3:decode c.code (pc+2) = .ok (.aload_n 0,1))(d4:decode c.code (pc+3) = .ok (.iconst v,1))(d5:decode c.code (pc+4) = .ok (.caload,1))(d6:decode c.code (pc+5) = .ok (.castore,1))(q:Nat)(hq:pc+6=q)
  (K:∀T' h',Stand p l e R s m args below meth c T' (locs++[⟨ca,j.toNatClampNeg⟩]) cells slots→T'.heap=h'→Keep h h' [ca]→Arv Z h' b kb .char 12 (B.map Value.int) (.int 0)→Arv Z h' ca kc .char z (vs.set i (.int (B.getD i 0))) (.int 0)→Go p e below Ev T' (mkF m q Ls (.ref ca::st))):Go p e below Ev T (mkF m pc Ls (.ref ca::st)):=by
 subst hq
 have l12:(12:Int32).toInt=12:=by decide
 refine a8 X hx _ d1 rfl rfl ?_
 refine ac X hx j _ d2 rfl hvj ?_
 refine ab X hx _ d3 rfl hl rfl ?_
 refine ac X hx j _ d4 rfl hvj ?_
 refine cY X hx hZ eT V (by omega) (by omega) (cZ B hj) _ d5 rfl ?_
 refine aR X hx hZ eT C i hj hz hv (B.getD i 0) (bz hch) _ d6 rfl ?_
 intro T' h' X' e' W' C'
 exact K T' h' X' e' (Keep.of_wr W') (V.other W' nn) C'
theorem bi (X:Stand p l e R s m args below meth c T locs cells slots)(hx:p.tables.exec=Jvm.exec){pc:Nat}{Ls:Array Slot}{st:List Value}(hZ:Z.Warmed39 s.vm)(eT:T.heap=h){b ca:Addr}{kb kc:ClassId}{z:Int32}{B:List Int32}{vs:List Value}(V:Arv Z h b kb .char 12 (B.map Value.int) (.int 0))(C:Arv Z h ca kc .char z vs (.int 0))(nn:b≠ca){v:Int}(j:Int32)(i:Nat)(hvj:(Int8.ofInt v).toInt32=j)(hj:j.toInt=(i:Int))(hi:i<12)(hz:j.toInt<z.toInt)(hv:i<vs.length)(hch:a6 (B.getD i 0))(hl:Ls[(0:Fin 4).val]? = some (.val (.ref b)))(d1:decode c.code pc = .ok (.dup,1))(d2:decode c.code (pc+1) = .ok (.bipush v,2))(d3:decode c.code (pc+3) = .ok (.aload_n 0,1))(d4:decode c.code (pc+4) = .ok (.bipush v,2))(d5:decode c.code (pc+6) = .ok (.caload,1))(d6:decode c.code (pc+7) = .ok (.castore,1))(q:Nat)(hq:pc+8=q)
  (K:∀T' h',Stand p l e R s m args below meth c T' (locs++[⟨ca,j.toNatClampNeg⟩]) cells slots→T'.heap=h'→Keep h h' [ca]→Arv Z h' b kb .char 12 (B.map Value.int) (.int 0)→Arv Z h' ca kc .char z (vs.set i (.int (B.getD i 0))) (.int 0)→Go p e below Ev T' (mkF m q Ls (.ref ca::st))):Go p e below Ev T (mkF m pc Ls (.ref ca::st)):=by
 subst hq
 have l12:(12:Int32).toInt=12:=by decide
 refine a8 X hx _ d1 rfl rfl ?_
 refine aj X hx j _ d2 rfl hvj ?_
 refine ab X hx _ d3 rfl hl rfl ?_
 refine aj X hx j _ d4 rfl hvj ?_
 refine cY X hx hZ eT V (by omega) (by omega) (cZ B hj) _ d5 rfl ?_
 refine aR X hx hZ eT C i hj hz hv (B.getD i 0) (bz hch) _ d6 rfl ?_
 intro T' h' X' e' W' C'
 exact K T' h' X' e' (Keep.of_wr W') (V.other W' nn) C'
end OwnKitC
theorem mj:dk cP 0 (.iload_n 0) 1:=by decide +kernel
theorem mn:dk cP 1 (.bipush 8) 2:=by decide +kernel
theorem mo:dk cP 3 (.iload_n 1) 1:=by decide +kernel
theorem mq:dk cP 4 (.imul) 1:=by decide +kernel
theorem mr:dk cP 5 (.iushr) 1:=by decide +kernel
theorem mt:dk cP 6 (.sipush 255) 3:=by decide +kernel
theorem mu:dk cP 9 (.iand) 1:=by decide +kernel
theorem iT:dk cP 10 (.istore_n 2) 1:=by decide +kernel
theorem iU:dk cP 11 (.iload_n 2) 1:=by decide +kernel
theorem iV:dk cP 12 (.bipush 47) 2:=by decide +kernel
theorem iW:dk cP 14 (.if_icmp .ne 7) 3:=by decide +kernel
theorem iX:dk cP 17 (.sipush 303) 3:=by decide +kernel
theorem iY:dk cP 20 (.istore_n 2) 1:=by decide +kernel
theorem dA:dk cP 21 (.iload_n 2) 1:=by decide +kernel
theorem dB:dk cP 22 (.i2c) 1:=by decide +kernel
theorem dC:dk cP 23 (.ireturn) 1:=by decide +kernel
theorem ez:plainFor (⟨sg5,"ch","(II)C"⟩:MethodName)=true:=plainFor_of_name (by first|(simp [plainName,overriddenIn];done)|decide +kernel)
def MY (pp:Int32)(n0:Nat)(h0:Heap)(v:Option Value)(h:Heap)(L:List Loc):Prop:=v=some (.int (chn pp 0))∧Fr n0 L∧h=h0
theorem xB (pp:Int32)(m:MethodId):entryFrame m #[(.int pp),(.int 0)] 3=mkF m 0 #[.val (.int pp),.val (.int 0),.unset] []:=by first|(simp [entryFrame,mkF,argsToLocals,Value.category];done)|rfl
theorem cK0 (l:Launch)(Z:State)(a0:Array Value)(hw:HW a0 Z)(pp:Int32)(h0:Heap)(n0:Nat)(Z0:n0≤h0.size)  :
  MF l Z h0 ⟨sg5,"ch","(II)C"⟩ method_2_code 3 (some .char) ⟨0,0,0,0⟩ #[(.int pp),(.int 0)] (MY pp n0 h0):=by
 refine ai ez (xB pp) ?_
 intro p e s m below meth c T0 X0 hx hby hml hret hlk hnm hown hZ e0
 have N0:=Fr.nil n0
 refine aa X0 hx 1 (hb hby mj) rfl rfl ?_
 refine aj X0 hx (8:Int32) 3 (hb hby mn) rfl (by decide) ?_
 refine aa X0 hx 4 (hb hby mo) rfl rfl ?_
 refine fo X0 hx (0:Int32) (by decide) 5 (hb hby mq) rfl ?_
 refine cm X0 hx 6 (hb hby mr) rfl ?_
 refine aM X0 hx (255:Int32) 9 (hb hby mt) rfl (by decide) ?_
 refine bs X0 hx 10 (hb hby mu) rfl ?_
 refine aq (l':=#[.val (.int pp),.val (.int (0:Int32)),.val (.int (((pp.toUInt32>>>((0:Int32)&&&31).toUInt32).toInt32)&&&(255:Int32)))]) X0 hx 11 (hb hby iT) rfl rfl ?_
 refine aa X0 hx 12 (hb hby iU) rfl rfl ?_
 refine aj X0 hx (47:Int32) 14 (hb hby iV) rfl (by decide) ?_
 have hc:=d0 ((pp.toUInt32>>>((0:Int32)&&&31).toUInt32).toInt32)
 have ll1324:((47:Int32):Int32).toInt=47:=by decide
 refine av X0 hx 21 17 (hb hby iW) (by decide) (by decide) rfl (fun c1323=>?_) (fun c1323=>?_)
 ·skip
  refine aa X0 hx 22 (hb hby dA) rfl rfl ?_
  refine dQ X0 hx 23 (hb hby dB) rfl ?_
  exact bo X0 hx hlk hret (by simp) (hb hby dC) (by decide) (by decide) e0 ⟨by show _=some (Value.int (chf pp 0));unfold chf;rw[if_neg (show ¬(chx pp 0).toInt=47 from c1323)];exact congrArg (fun x=>some (Value.int x)) (gc ⟨hc.1,by omega⟩),N0,rfl⟩
 ·skip
  refine aM X0 hx (303:Int32) 20 (hb hby iX) rfl (by decide) ?_
  refine aq (l':=#[.val (.int pp),.val (.int (0:Int32)),.val (.int (303:Int32))]) X0 hx 21 (hb hby iY) rfl rfl ?_
  refine aa X0 hx 22 (hb hby dA) rfl rfl ?_
  refine dQ X0 hx 23 (hb hby dB) rfl ?_
  exact bo X0 hx hlk hret (by simp) (hb hby dC) (by decide) (by decide) e0 ⟨by show _=some (Value.int (chf pp 0));unfold chf;rw[if_pos (show (chx pp 0).toInt=47 from c1323)];decide,N0,rfl⟩
def MZ (pp:Int32)(n0:Nat)(h0:Heap)(v:Option Value)(h:Heap)(L:List Loc):Prop:=v=some (.int (chn pp 1))∧Fr n0 L∧h=h0
theorem xC (pp:Int32)(m:MethodId):entryFrame m #[(.int pp),(.int 1)] 3=mkF m 0 #[.val (.int pp),.val (.int 1),.unset] []:=by first|(simp [entryFrame,mkF,argsToLocals,Value.category];done)|rfl
theorem cK1 (l:Launch)(Z:State)(a0:Array Value)(hw:HW a0 Z)(pp:Int32)(h0:Heap)(n0:Nat)(Z0:n0≤h0.size)  :
  MF l Z h0 ⟨sg5,"ch","(II)C"⟩ method_2_code 3 (some .char) ⟨0,0,0,0⟩ #[(.int pp),(.int 1)] (MZ pp n0 h0):=by
 refine ai ez (xC pp) ?_
 intro p e s m below meth c T0 X0 hx hby hml hret hlk hnm hown hZ e0
 have N0:=Fr.nil n0
 refine aa X0 hx 1 (hb hby mj) rfl rfl ?_
 refine aj X0 hx (8:Int32) 3 (hb hby mn) rfl (by decide) ?_
 refine aa X0 hx 4 (hb hby mo) rfl rfl ?_
 refine fo X0 hx (8:Int32) (by decide) 5 (hb hby mq) rfl ?_
 refine cm X0 hx 6 (hb hby mr) rfl ?_
 refine aM X0 hx (255:Int32) 9 (hb hby mt) rfl (by decide) ?_
 refine bs X0 hx 10 (hb hby mu) rfl ?_
 refine aq (l':=#[.val (.int pp),.val (.int (1:Int32)),.val (.int (((pp.toUInt32>>>((8:Int32)&&&31).toUInt32).toInt32)&&&(255:Int32)))]) X0 hx 11 (hb hby iT) rfl rfl ?_
 refine aa X0 hx 12 (hb hby iU) rfl rfl ?_
 refine aj X0 hx (47:Int32) 14 (hb hby iV) rfl (by decide) ?_
 have hc:=d0 ((pp.toUInt32>>>((8:Int32)&&&31).toUInt32).toInt32)
 have ll1326:((47:Int32):Int32).toInt=47:=by decide
 refine av X0 hx 21 17 (hb hby iW) (by decide) (by decide) rfl (fun c1325=>?_) (fun c1325=>?_)
 ·skip
  refine aa X0 hx 22 (hb hby dA) rfl rfl ?_
  refine dQ X0 hx 23 (hb hby dB) rfl ?_
  exact bo X0 hx hlk hret (by simp) (hb hby dC) (by decide) (by decide) e0 ⟨by show _=some (Value.int (chf pp 8));unfold chf;rw[if_neg (show ¬(chx pp 8).toInt=47 from c1325)];exact congrArg (fun x=>some (Value.int x)) (gc ⟨hc.1,by omega⟩),N0,rfl⟩
 ·skip
  refine aM X0 hx (303:Int32) 20 (hb hby iX) rfl (by decide) ?_
  refine aq (l':=#[.val (.int pp),.val (.int (1:Int32)),.val (.int (303:Int32))]) X0 hx 21 (hb hby iY) rfl rfl ?_
  refine aa X0 hx 22 (hb hby dA) rfl rfl ?_
  refine dQ X0 hx 23 (hb hby dB) rfl ?_
  exact bo X0 hx hlk hret (by simp) (hb hby dC) (by decide) (by decide) e0 ⟨by show _=some (Value.int (chf pp 8));unfold chf;rw[if_pos (show (chx pp 8).toInt=47 from c1325)];decide,N0,rfl⟩
def M0 (pp:Int32)(n0:Nat)(h0:Heap)(v:Option Value)(h:Heap)(L:List Loc):Prop:=v=some (.int (chn pp 2))∧Fr n0 L∧h=h0
theorem xD (pp:Int32)(m:MethodId):entryFrame m #[(.int pp),(.int 2)] 3=mkF m 0 #[.val (.int pp),.val (.int 2),.unset] []:=by first|(simp [entryFrame,mkF,argsToLocals,Value.category];done)|rfl
theorem cK2 (l:Launch)(Z:State)(a0:Array Value)(hw:HW a0 Z)(pp:Int32)(h0:Heap)(n0:Nat)(Z0:n0≤h0.size)  :
  MF l Z h0 ⟨sg5,"ch","(II)C"⟩ method_2_code 3 (some .char) ⟨0,0,0,0⟩ #[(.int pp),(.int 2)] (M0 pp n0 h0):=by
 refine ai ez (xD pp) ?_
 intro p e s m below meth c T0 X0 hx hby hml hret hlk hnm hown hZ e0
 have N0:=Fr.nil n0
 refine aa X0 hx 1 (hb hby mj) rfl rfl ?_
 refine aj X0 hx (8:Int32) 3 (hb hby mn) rfl (by decide) ?_
 refine aa X0 hx 4 (hb hby mo) rfl rfl ?_
 refine fo X0 hx (16:Int32) (by decide) 5 (hb hby mq) rfl ?_
 refine cm X0 hx 6 (hb hby mr) rfl ?_
 refine aM X0 hx (255:Int32) 9 (hb hby mt) rfl (by decide) ?_
 refine bs X0 hx 10 (hb hby mu) rfl ?_
 refine aq (l':=#[.val (.int pp),.val (.int (2:Int32)),.val (.int (((pp.toUInt32>>>((16:Int32)&&&31).toUInt32).toInt32)&&&(255:Int32)))]) X0 hx 11 (hb hby iT) rfl rfl ?_
 refine aa X0 hx 12 (hb hby iU) rfl rfl ?_
 refine aj X0 hx (47:Int32) 14 (hb hby iV) rfl (by decide) ?_
 have hc:=d0 ((pp.toUInt32>>>((16:Int32)&&&31).toUInt32).toInt32)
 have ll1328:((47:Int32):Int32).toInt=47:=by decide
 refine av X0 hx 21 17 (hb hby iW) (by decide) (by decide) rfl (fun c1327=>?_) (fun c1327=>?_)
 ·skip
  refine aa X0 hx 22 (hb hby dA) rfl rfl ?_
  refine dQ X0 hx 23 (hb hby dB) rfl ?_
  exact bo X0 hx hlk hret (by simp) (hb hby dC) (by decide) (by decide) e0 ⟨by show _=some (Value.int (chf pp 16));unfold chf;rw[if_neg (show ¬(chx pp 16).toInt=47 from c1327)];exact congrArg (fun x=>some (Value.int x)) (gc ⟨hc.1,by omega⟩),N0,rfl⟩
 ·skip
  refine aM X0 hx (303:Int32) 20 (hb hby iX) rfl (by decide) ?_
  refine aq (l':=#[.val (.int pp),.val (.int (2:Int32)),.val (.int (303:Int32))]) X0 hx 21 (hb hby iY) rfl rfl ?_
  refine aa X0 hx 22 (hb hby dA) rfl rfl ?_
  refine dQ X0 hx 23 (hb hby dB) rfl ?_
  exact bo X0 hx hlk hret (by simp) (hb hby dC) (by decide) (by decide) e0 ⟨by show _=some (Value.int (chf pp 16));unfold chf;rw[if_pos (show (chx pp 16).toInt=47 from c1327)];decide,N0,rfl⟩
theorem M1:dk bY 0 (.iload_n 1) 1:=by decide +kernel
theorem M2:dk bY 1 (.iconst 2) 1:=by decide +kernel
theorem M3:dk bY 2 (.if_icmp .gt 32) 3:=by decide +kernel
theorem M4:dk bY 5 (.iload_n 0) 1:=by decide +kernel
theorem M5:dk bY 6 (.iconst 0) 1:=by decide +kernel
theorem M6:dk bY 7 (.invokestatic 7) 3:=by decide +kernel
theorem xE:dk bY 10 (.bipush 46) 2:=by decide +kernel
theorem xF:dk bY 12 (.if_icmp .ne 22) 3:=by decide +kernel
theorem xG:dk bY 15 (.iload_n 1) 1:=by decide +kernel
theorem xH:dk bY 16 (.iconst 1) 1:=by decide +kernel
theorem xI:dk bY 17 (.if_icmp .eq 13) 3:=by decide +kernel
theorem xJ:dk bY 20 (.iload_n 0) 1:=by decide +kernel
theorem xK:dk bY 21 (.iconst 1) 1:=by decide +kernel
theorem xL:dk bY 22 (.invokestatic 7) 3:=by decide +kernel
theorem xM:dk bY 25 (.bipush 46) 2:=by decide +kernel
theorem xN:dk bY 27 (.if_icmp .ne 7) 3:=by decide +kernel
theorem mw:dk bY 30 (.iconst 1) 1:=by decide +kernel
theorem my:dk bY 31 (.goto 4) 3:=by decide +kernel
theorem iZ:dk bY 34 (.iconst 0) 1:=by decide +kernel
theorem eA:dk bY 35 (.ireturn) 1:=by decide +kernel
theorem mz:plainFor (⟨sg5,"dots","(II)Z"⟩:MethodName)=true:=plainFor_of_name (by first|(simp [plainName,overriddenIn];done)|decide +kernel)
def M7 (pp len:Int32)(n0:Nat)(h0:Heap)(v:Option Value)(h:Heap)(L:List Loc):Prop:=∃r:Int32,v=some (.int r)∧(r.toInt=0→NoD pp len)∧Fr n0 L∧h=h0
theorem xO (pp len:Int32)(m:MethodId):entryFrame m #[(.int pp),(.int len)] 2=mkF m 0 #[.val (.int pp),.val (.int len)] []:=by first|(simp [entryFrame,mkF,argsToLocals,Value.category];done)|rfl
theorem cDo (l:Launch)(Z:State)(a0:Array Value)(hw:HW a0 Z)(pp len:Int32)(h0:Heap)(n0:Nat)(Z0:n0≤h0.size)  :
  MF l Z h0 ⟨sg5,"dots","(II)Z"⟩ method_3_code 2 (some .boolean) ⟨1,0,0,17⟩ #[(.int pp),(.int len)] (M7 pp len n0 h0):=by
 refine ai mz (xO pp len) ?_
 intro p e s m below meth c T0 X0 hx hby hml hret hlk hnm hown hZ e0
 have N0:=Fr.nil n0
 refine aa X0 hx 1 (hb hby M1) rfl rfl ?_
 refine ac X0 hx (2:Int32) 2 (hb hby M2) rfl (by decide) ?_
 have ll1330:((2:Int32):Int32).toInt=2:=by decide
 refine cJ X0 hx 34 5 (hb hby M3) (by decide) (by decide) rfl (fun c1329=>?_) (fun c1329=>?_)
 ·skip
  refine ac X0 hx (0:Int32) 35 (hb hby iZ) rfl (by decide) ?_
  exact a4 X0 hx hlk hret (hb hby eA) (by decide) (by decide) e0 ⟨_,rfl,fun q=>⟨fun z=>by omega,fun z=>by omega⟩,N0,rfl⟩
 ·skip
  refine aa X0 hx 6 (hb hby M4) rfl rfl ?_
  refine ac X0 hx (0:Int32) 7 (hb hby M5) rfl (by decide) ?_
  refine ag X0 hx hZ hown (tw hw 95 rfl) (tw hw 96 rfl) (tw hw 3 rfl) (tw hw 97 rfl) (by decide) (cK0 l Z a0 hw pp h0 n0 Z0) e0 (argsL:=[(.int pp),(.int (0:Int32))]) (rest:=[]) rfl rfl 0 10 rfl (by rw[hml];rfl) (lenOf bn rfl) (Nat.le_refl _) (by decide) (by decide) (by decide) (by decide) (hb hby M6) ?_
  intro v1331 T1331 L1331 X1331 hQ1331
  obtain⟨rfl,N1331,q1331⟩:=hQ1331
  have N1332:=Fr.app N0 N1331
  show Go _ _ _ _ _ (mkF _ _ _ [(.int (chn pp 0))])
  refine aj X1331 hx (46:Int32) 12 (hb hby xE) rfl (by decide) ?_
  have ll1334:((46:Int32):Int32).toInt=46:=by decide
  refine av X1331 hx 34 15 (hb hby xF) (by decide) (by decide) rfl (fun c1333=>?_) (fun c1333=>?_)
  ·skip
   refine ac X1331 hx (0:Int32) 35 (hb hby iZ) rfl (by decide) ?_
   exact a4 X1331 hx hlk hret (hb hby eA) (by decide) (by decide) q1331 ⟨_,rfl,fun q=>⟨fun z=>by omega,fun z=>by omega⟩,N1332,rfl⟩
  ·skip
   refine aa X1331 hx 16 (hb hby xG) rfl rfl ?_
   refine ac X1331 hx (1:Int32) 17 (hb hby xH) rfl (by decide) ?_
   have ll1336:((1:Int32):Int32).toInt=1:=by decide
   refine bH X1331 hx 30 20 (hb hby xI) (by decide) (by decide) rfl (fun c1335=>?_) (fun c1335=>?_)
   ·skip
    refine ac X1331 hx (1:Int32) 31 (hb hby mw) rfl (by decide) ?_
    refine ap X1331 hx 35 (hb hby my) (by decide) (by decide) ?_
    exact a4 X1331 hx hlk hret (hb hby eA) (by decide) (by decide) q1331 ⟨_,rfl,fun q=>absurd q (by decide),N1332,rfl⟩
   ·skip
    refine aa X1331 hx 21 (hb hby xJ) rfl rfl ?_
    refine ac X1331 hx (1:Int32) 22 (hb hby xK) rfl (by decide) ?_
    refine ag X1331 hx hZ hown (tw hw 95 rfl) (tw hw 96 rfl) (tw hw 3 rfl) (tw hw 97 rfl) (by decide) (cK1 l Z a0 hw pp h0 n0 Z0) q1331 (argsL:=[(.int pp),(.int (1:Int32))]) (rest:=[]) rfl rfl 0 25 rfl (by rw[hml];rfl) (lenOf bn rfl) (Nat.le_refl _) (by decide) (by decide) (by decide) (by decide) (hb hby xL) ?_
    intro v1337 T1337 L1337 X1337 hQ1337
    obtain⟨rfl,N1337,q1337⟩:=hQ1337
    have N1338:=Fr.app N1332 N1337
    show Go _ _ _ _ _ (mkF _ _ _ [(.int (chn pp 1))])
    refine aj X1337 hx (46:Int32) 27 (hb hby xM) rfl (by decide) ?_
    have ll1340:((46:Int32):Int32).toInt=46:=by decide
    refine av X1337 hx 34 30 (hb hby xN) (by decide) (by decide) rfl (fun c1339=>?_) (fun c1339=>?_)
    ·skip
     refine ac X1337 hx (0:Int32) 35 (hb hby iZ) rfl (by decide) ?_
     exact a4 X1337 hx hlk hret (hb hby eA) (by decide) (by decide) q1337 ⟨_,rfl,fun q=>⟨fun z=>by omega,fun z=>by omega⟩,N1338,rfl⟩
    ·skip
     refine ac X1337 hx (1:Int32) 31 (hb hby mw) rfl (by decide) ?_
     refine ap X1337 hx 35 (hb hby my) (by decide) (by decide) ?_
     exact a4 X1337 hx hlk hret (hb hby eA) (by decide) (by decide) q1337 ⟨_,rfl,fun q=>absurd q (by decide),N1338,rfl⟩
theorem M8:dk bf 0 (.aload_n 0) 1:=by decide +kernel
theorem M9:dk bf 1 (.iload_n 1) 1:=by decide +kernel
theorem M_:dk bf 2 (.iload_n 2) 1:=by decide +kernel
theorem Na:dk bf 3 (.iconst 0) 1:=by decide +kernel
theorem Nb:dk bf 4 (.invokestatic 7) 3:=by decide +kernel
theorem Nc:dk bf 7 (.castore) 1:=by decide +kernel
theorem Nd:dk bf 8 (.iload_n 3) 1:=by decide +kernel
theorem Nf:dk bf 9 (.iconst 2) 1:=by decide +kernel
theorem xP:dk bf 10 (.if_icmp .lt 13) 3:=by decide +kernel
theorem xQ:dk bf 13 (.aload_n 0) 1:=by decide +kernel
theorem xR:dk bf 14 (.iload_n 1) 1:=by decide +kernel
theorem xS:dk bf 15 (.iconst 1) 1:=by decide +kernel
theorem xT:dk bf 16 (.iadd) 1:=by decide +kernel
theorem xU:dk bf 17 (.iload_n 2) 1:=by decide +kernel
theorem xV:dk bf 18 (.iconst 1) 1:=by decide +kernel
theorem xW:dk bf 19 (.invokestatic 7) 3:=by decide +kernel
theorem xX:dk bf 22 (.castore) 1:=by decide +kernel
theorem mA:dk bf 23 (.iload_n 3) 1:=by decide +kernel
theorem mB:dk bf 24 (.iconst 3) 1:=by decide +kernel
theorem mC:dk bf 25 (.if_icmp .lt 13) 3:=by decide +kernel
theorem xY:dk bf 28 (.aload_n 0) 1:=by decide +kernel
theorem xZ:dk bf 29 (.iload_n 1) 1:=by decide +kernel
theorem x3:dk bf 30 (.iconst 2) 1:=by decide +kernel
theorem x4:dk bf 31 (.iadd) 1:=by decide +kernel
theorem x5:dk bf 32 (.iload_n 2) 1:=by decide +kernel
theorem x6:dk bf 33 (.iconst 2) 1:=by decide +kernel
theorem x7:dk bf 34 (.invokestatic 7) 3:=by decide +kernel
theorem x8:dk bf 37 (.castore) 1:=by decide +kernel
theorem i4:dk bf 38 (.iload_n 1) 1:=by decide +kernel
theorem i5:dk bf 39 (.iload_n 3) 1:=by decide +kernel
theorem i6:dk bf 40 (.iadd) 1:=by decide +kernel
theorem i7:dk bf 41 (.ireturn) 1:=by decide +kernel
theorem gW {B:List Int32}{pp:Int32}{i:Nat}(hB:B.length=12)(h:i+1≤12):Put B (B.set i (chn pp 0)) pp i 1:=by
 refine⟨by rw[List.length_set];exact hB,fun j hj=>?_,fun j hj=>?_⟩
 ·rw[bV (by omega),if_neg (by omega)]
 ·obtain rfl:j=0:=by omega
  rw[Nat.add_zero,bV (by omega),if_pos rfl]
theorem gX {B:List Int32}{pp:Int32}{i:Nat}(hB:B.length=12)(h:i+2≤12):Put B ((B.set i (chn pp 0)).set (i+1) (chn pp 1)) pp i 2:=by
 have b1:=gW (pp:=pp) hB (i:=i) (by omega)
 refine⟨by rw[List.length_set];exact b1.1,fun j hj=>?_,fun j hj=>?_⟩
 ·rw[bV (by rw[List.length_set];omega),if_neg (by omega)];exact b1.2.1 j hj
 ·rcases (show j=0∨j=1 by omega) with rfl|rfl
  ·rw[bV (by rw[List.length_set];omega),if_neg (by omega)];exact b1.2.2 0 (by omega)
  ·rw[bV (by rw[List.length_set];omega),if_pos rfl]
theorem mD {B:List Int32}{pp:Int32}{i:Nat}(hB:B.length=12)(h:i+3≤12):Put B (((B.set i (chn pp 0)).set (i+1) (chn pp 1)).set (i+2) (chn pp 2)) pp i 3:=by
 have b1:=gX (pp:=pp) hB (i:=i) (by omega)
 have b2:=b1.1
 refine⟨by rw[List.length_set];exact b1.1,fun j hj=>?_,fun j hj=>?_⟩
 ·rw[bV (by omega),if_neg (by omega)];exact b1.2.1 j hj
 ·rcases (show j<2∨j=2 by omega) with q|rfl
  ·rw[bV (by omega),if_neg (by omega)];exact b1.2.2 j q
  ·rw[bV (by omega),if_pos rfl]
theorem mE:plainFor (⟨sg5,"put","([CIII)I"⟩:MethodName)=true:=plainFor_of_name (by first|(simp [plainName,overriddenIn];done)|decide +kernel)
def Ng (Z:State)(b:Addr)(kb:ClassId)(B:List Int32)(pp:Int32)(i l_ n0:Nat)(h0:Heap)(v:Option Value)(h:Heap)(L:List Loc):Prop:=∃(B':List Int32)(r:Int32),v=some (.int r)∧r.toInt=((i+l_:Nat):Int)∧Fr n0 L∧Keep h0 h [b]∧Put B B' pp i l_∧Arv Z h b kb .char 12 (B'.map Value.int) (.int 0)
theorem x9 (b:Addr)(pos pp len:Int32)(m:MethodId):entryFrame m #[(.ref b),(.int pos),(.int pp),(.int len)] 4=mkF m 0 #[.val (.ref b),.val (.int pos),.val (.int pp),.val (.int len)] []:=by first|(simp [entryFrame,mkF,argsToLocals,Value.category];done)|rfl
theorem cPt (l:Launch)(Z:State)(a0:Array Value)(hw:HW a0 Z)(b:Addr)(pos pp len:Int32)(h0:Heap)(n0:Nat)(Z0:n0≤h0.size)(kb:ClassId)(B:List Int32)(i l_:Nat)(V:Arv Z h0 b kb .char 12 (B.map Value.int) (.int 0))(gb:n0≤b)(hB:B.length=12)(hpos:pos.toInt=(i:Int))(hlen:len.toInt=(l_:Int))(hl1:1≤l_)(hl3:l_≤3)(hil:i+l_≤12) :
  MF l Z h0 ⟨sg5,"put","([CIII)I"⟩ method_4_code 4 (some .int) ⟨1,0,0,20⟩ #[(.ref b),(.int pos),(.int pp),(.int len)] (Ng Z b kb B pp i l_ n0 h0):=by
 refine ai mE (x9 b pos pp len) ?_
 intro p e s m below meth c T0 X0 hx hby hml hret hlk hnm hown hZ e0
 have N0:=Fr.nil n0
 have l12:(12:Int32).toInt=12:=by decide
 have l2:(2:Int32).toInt=((2:Nat):Int):=by decide
 have hp0:=hpos
 have hp1:=aC hpos (by omega)
 have hp2:=bN hpos l2 (by omega)
 refine ab X0 hx 1 (hb hby M8) rfl rfl rfl ?_
 refine aa X0 hx 2 (hb hby M9) rfl rfl ?_
 refine aa X0 hx 3 (hb hby M_) rfl rfl ?_
 refine ac X0 hx (0:Int32) 4 (hb hby Na) rfl (by decide) ?_
 refine ag X0 hx hZ hown (tw hw 95 rfl) (tw hw 96 rfl) (tw hw 3 rfl) (tw hw 97 rfl) (by decide) (cK0 l Z a0 hw pp h0 n0 Z0) e0 (argsL:=[(.int pp),(.int (0:Int32))]) (rest:=[(.int pos),(.ref b)]) rfl rfl 2 7 rfl (by rw[hml];rfl) (lenOf bn rfl) (Nat.le_refl _) (by decide) (by decide) (by decide) (by decide) (hb hby Nb) ?_
 intro v1341 T1341 L1341 X1341 hQ1341
 obtain⟨rfl,N1341,q1341⟩:=hQ1341
 have N1342:=Fr.app N0 N1341
 show Go _ _ _ _ _ (mkF _ _ _ [(.int (chn pp 0)),(.int pos),(.ref b)])
 refine aR X1341 hx hZ q1341 V (i) hp0 (by omega) (by rw[List.length_map];omega) (chn pp 0) (bz (bw pp 0).1) 8 (hb hby Nc) rfl ?_
 intro T1343 h1343 X1343 e1343 W1343 V1343
 have K1345:=(Keep.refl h0 [b]).wr W1343 (Or.inl (List.mem_of_getElem? (i:=0) rfl))
 have N1346:=Fr.snoc X1343 N1342 gb
 have Z1347:n0≤h1343.size:=by rw[W1343.size];exact Z0
 have V1348:=V1343
 rw[bx] at V1348
 refine aa X1343 hx 9 (hb hby Nd) rfl rfl ?_
 refine ac X1343 hx (2:Int32) 10 (hb hby Nf) rfl (by decide) ?_
 have ll1350:((2:Int32):Int32).toInt=2:=by decide
 refine an X1343 hx 23 13 (hb hby xP) (by decide) (by decide) rfl (fun c1349=>?_) (fun c1349=>?_)
 ·skip
  refine aa X1343 hx 24 (hb hby mA) rfl rfl ?_
  refine ac X1343 hx (3:Int32) 25 (hb hby mB) rfl (by decide) ?_
  have ll1352:((3:Int32):Int32).toInt=3:=by decide
  refine an X1343 hx 38 28 (hb hby mC) (by decide) (by decide) rfl (fun c1351=>?_) (fun c1351=>?_)
  ·skip
   refine aa X1343 hx 39 (hb hby i4) rfl rfl ?_
   refine aa X1343 hx 40 (hb hby i5) rfl rfl ?_
   refine aQ X1343 hx 41 (hb hby i6) rfl ?_
   have hl:l_=1:=by omega
   subst hl
   exact ay X1343 hx hlk hret (hb hby i7) (by decide) (by decide) e1343 ⟨(B.set (i) (chn pp 0)),_,rfl,by rw[bN hpos hlen (by omega)],N1346,K1345,gW hB (by omega),V1348⟩
  ·skip
   exfalso;omega
 ·skip
  refine ab X1343 hx 14 (hb hby xQ) rfl rfl rfl ?_
  refine aa X1343 hx 15 (hb hby xR) rfl rfl ?_
  refine ac X1343 hx (1:Int32) 16 (hb hby xS) rfl (by decide) ?_
  refine aQ X1343 hx 17 (hb hby xT) rfl ?_
  refine aa X1343 hx 18 (hb hby xU) rfl rfl ?_
  refine ac X1343 hx (1:Int32) 19 (hb hby xV) rfl (by decide) ?_
  refine ag X1343 hx hZ hown (tw hw 95 rfl) (tw hw 96 rfl) (tw hw 3 rfl) (tw hw 97 rfl) (by decide) (cK1 l Z a0 hw pp h1343 n0 Z1347) e1343 (argsL:=[(.int pp),(.int (1:Int32))]) (rest:=[(.int (pos+(1:Int32))),(.ref b)]) rfl rfl 2 22 rfl (by rw[hml];rfl) (lenOf bn rfl) (Nat.le_refl _) (by decide) (by decide) (by decide) (by decide) (hb hby xW) ?_
  intro v1353 T1353 L1353 X1353 hQ1353
  obtain⟨rfl,N1353,q1353⟩:=hQ1353
  have N1354:=Fr.app N1346 N1353
  show Go _ _ _ _ _ (mkF _ _ _ [(.int (chn pp 1)),(.int (pos+(1:Int32))),(.ref b)])
  refine aR X1353 hx hZ q1353 V1348 (i+1) hp1 (by omega) (by rw[List.length_map,List.length_set];omega) (chn pp 1) (bz (bw pp 1).1) 23 (hb hby xX) rfl ?_
  intro T1355 h1355 X1355 e1355 W1355 V1355
  have K1357:=K1345.wr W1355 (Or.inl (List.mem_of_getElem? (i:=0) rfl))
  have N1358:=Fr.snoc X1355 N1354 gb
  have Z1359:n0≤h1355.size:=by rw[W1355.size];exact Z1347
  have V1360:=V1355
  rw[bx] at V1360
  refine aa X1355 hx 24 (hb hby mA) rfl rfl ?_
  refine ac X1355 hx (3:Int32) 25 (hb hby mB) rfl (by decide) ?_
  have ll1362:((3:Int32):Int32).toInt=3:=by decide
  refine an X1355 hx 38 28 (hb hby mC) (by decide) (by decide) rfl (fun c1361=>?_) (fun c1361=>?_)
  ·skip
   refine aa X1355 hx 39 (hb hby i4) rfl rfl ?_
   refine aa X1355 hx 40 (hb hby i5) rfl rfl ?_
   refine aQ X1355 hx 41 (hb hby i6) rfl ?_
   have hl:l_=2:=by omega
   subst hl
   exact ay X1355 hx hlk hret (hb hby i7) (by decide) (by decide) e1355 ⟨((B.set (i) (chn pp 0)).set (i+1) (chn pp 1)),_,rfl,by rw[bN hpos hlen (by omega)],N1358,K1357,gX hB (by omega),V1360⟩
  ·skip
   refine ab X1355 hx 29 (hb hby xY) rfl rfl rfl ?_
   refine aa X1355 hx 30 (hb hby xZ) rfl rfl ?_
   refine ac X1355 hx (2:Int32) 31 (hb hby x3) rfl (by decide) ?_
   refine aQ X1355 hx 32 (hb hby x4) rfl ?_
   refine aa X1355 hx 33 (hb hby x5) rfl rfl ?_
   refine ac X1355 hx (2:Int32) 34 (hb hby x6) rfl (by decide) ?_
   refine ag X1355 hx hZ hown (tw hw 95 rfl) (tw hw 96 rfl) (tw hw 3 rfl) (tw hw 97 rfl) (by decide) (cK2 l Z a0 hw pp h1355 n0 Z1359) e1355 (argsL:=[(.int pp),(.int (2:Int32))]) (rest:=[(.int (pos+(2:Int32))),(.ref b)]) rfl rfl 2 37 rfl (by rw[hml];rfl) (lenOf bn rfl) (Nat.le_refl _) (by decide) (by decide) (by decide) (by decide) (hb hby x7) ?_
   intro v1363 T1363 L1363 X1363 hQ1363
   obtain⟨rfl,N1363,q1363⟩:=hQ1363
   have N1364:=Fr.app N1358 N1363
   show Go _ _ _ _ _ (mkF _ _ _ [(.int (chn pp 2)),(.int (pos+(2:Int32))),(.ref b)])
   refine aR X1363 hx hZ q1363 V1360 (i+2) hp2 (by omega) (by rw[List.length_map,List.length_set,List.length_set];omega) (chn pp 2) (bz (bw pp 2).1) 38 (hb hby x8) rfl ?_
   intro T1365 h1365 X1365 e1365 W1365 V1365
   have K1367:=K1357.wr W1365 (Or.inl (List.mem_of_getElem? (i:=0) rfl))
   have N1368:=Fr.snoc X1365 N1364 gb
   have Z1369:n0≤h1365.size:=by rw[W1365.size];exact Z1359
   have V1370:=V1365
   rw[bx] at V1370
   refine aa X1365 hx 39 (hb hby i4) rfl rfl ?_
   refine aa X1365 hx 40 (hb hby i5) rfl rfl ?_
   refine aQ X1365 hx 41 (hb hby i6) rfl ?_
   have hl:l_=3:=by omega
   subst hl
   exact ay X1365 hx hlk hret (hb hby i7) (by decide) (by decide) e1365 ⟨(((B.set (i) (chn pp 0)).set (i+1) (chn pp 1)).set (i+2) (chn pp 2)),_,rfl,by rw[bN hpos hlen (by omega)],N1368,K1367,mD hB (by omega),V1370⟩
theorem Nh:dk bc 0 (.aload_n 0) 1:=by decide +kernel
theorem Ni:dk bc 1 (.invokevirtual 13) 3:=by decide +kernel
theorem Nj:dk bc 4 (.iload_n 2) 1:=by decide +kernel
theorem Nk:dk bc 5 (.if_icmp .ne 56) 3:=by decide +kernel
theorem Nl:dk bc 8 (.aload_n 0) 1:=by decide +kernel
theorem Nn:dk bc 9 (.iconst 0) 1:=by decide +kernel
theorem x_:dk bc 10 (.invokevirtual 19) 3:=by decide +kernel
theorem ya:dk bc 13 (.iload_n 1) 1:=by decide +kernel
theorem yb:dk bc 14 (.iconst 0) 1:=by decide +kernel
theorem yc:dk bc 15 (.invokestatic 7) 3:=by decide +kernel
theorem yd:dk bc 18 (.if_icmp .ne 43) 3:=by decide +kernel
theorem ye:dk bc 21 (.iload_n 2) 1:=by decide +kernel
theorem yf:dk bc 22 (.iconst 2) 1:=by decide +kernel
theorem yg:dk bc 23 (.if_icmp .lt 16) 3:=by decide +kernel
theorem yh:dk bc 26 (.aload_n 0) 1:=by decide +kernel
theorem yi:dk bc 27 (.iconst 1) 1:=by decide +kernel
theorem yj:dk bc 28 (.invokevirtual 19) 3:=by decide +kernel
theorem yk:dk bc 31 (.iload_n 1) 1:=by decide +kernel
theorem yl:dk bc 32 (.iconst 1) 1:=by decide +kernel
theorem ym:dk bc 33 (.invokestatic 7) 3:=by decide +kernel
theorem yn:dk bc 36 (.if_icmp .ne 25) 3:=by decide +kernel
theorem mF:dk bc 39 (.iload_n 2) 1:=by decide +kernel
theorem mG:dk bc 40 (.iconst 3) 1:=by decide +kernel
theorem mH:dk bc 41 (.if_icmp .lt 16) 3:=by decide +kernel
theorem mI:dk bc 44 (.aload_n 0) 1:=by decide +kernel
theorem mJ:dk bc 45 (.iconst 2) 1:=by decide +kernel
theorem mK:dk bc 46 (.invokevirtual 19) 3:=by decide +kernel
theorem mL:dk bc 49 (.iload_n 1) 1:=by decide +kernel
theorem mM:dk bc 50 (.iconst 2) 1:=by decide +kernel
theorem mN:dk bc 51 (.invokestatic 7) 3:=by decide +kernel
theorem mO:dk bc 54 (.if_icmp .ne 7) 3:=by decide +kernel
theorem gf:dk bc 57 (.iconst 1) 1:=by decide +kernel
theorem gg:dk bc 58 (.goto 4) 3:=by decide +kernel
theorem gh:dk bc 62 (.ireturn) 1:=by decide +kernel
theorem mP:plainFor (⟨sg5,"same","(Ljava/lang/String;II)Z"⟩:MethodName)=true:=plainFor_of_name (by first|(simp [plainName,overriddenIn];done)|decide +kernel)
def No (n0:Nat)(h0:Heap)(v:Option Value)(h:Heap)(L:List Loc):Prop:=v=some (.int 1)∧Fr n0 L∧h=h0
theorem yo (a:Addr)(pp len:Int32)(m:MethodId):entryFrame m #[(.ref a),(.int pp),(.int len)] 3=mkF m 0 #[.val (.ref a),.val (.int pp),.val (.int len)] []:=by first|(simp [entryFrame,mkF,argsToLocals,Value.category];done)|rfl
theorem cSm (l:Launch)(Z:State)(a0:Array Value)(hw:HW a0 Z)(a:Addr)(pp len:Int32)(h0:Heap)(n0:Nat)(Z0:n0≤h0.size)(cst:Int32)(fm:Option Addr)(em:Addr)(SX_:SX Z cst fm em)(O0:Old Z n0 h0)(Lw B:Nat)(cs:List Int32)(S:a3 Z h0 Lw B a cs)(hlen:len.toInt=(cs.length:Int))(hch:∀j,j<cs.length→cs.getD j 0=chn pp j) :
  MF l Z h0 ⟨sg5,"same","(Ljava/lang/String;II)Z"⟩ method_5_code 3 (some .boolean) ⟨5,0,0,80⟩ #[(.ref a),(.int pp),(.int len)] (No n0 h0):=by
 refine ai mP (yo a pp len) ?_
 intro p e s m below meth c T0 X0 hx hby hml hret hlk hnm hown hZ e0
 have N0:=Fr.nil n0
 have Ew:=S.exa
 have hc1:=S.1.1
 refine ab X0 hx 1 (hb hby Nh) rfl rfl rfl ?_
 refine ak X0 hx hZ (C:=sg1) hown (tw hw 251 rfl) (tw hw 57 rfl) (tw hw 59 rfl) (tw hw 59 rfl) (tw hw 58 rfl) (tw hw 7 rfl) (tw hw 60 rfl) (by decide) (cLn l Z a0 hw a h0 n0 Z0 cst fm em SX_ O0 Lw B cs S) e0 (b:=a) Ew (argsL:=[]) (rest:=[]) rfl rfl 0 4 rfl (by rw[hml];rfl) (lenOf aF rfl) (Nat.le_refl _) (by decide) (by decide) (by decide) (by decide) (hb hby Ni) ?_
 intro v1371 T1371 L1371 X1371 hQ1371
 obtain⟨nl,rfl,hn,N1371,q1371⟩:=hQ1371
 have N1372:=Fr.app N0 N1371
 show Go _ _ _ _ _ (mkF _ _ _ [(.int nl)])
 refine aa X1371 hx 5 (hb hby Nj) rfl rfl ?_
 refine av X1371 hx 61 8 (hb hby Nk) (by decide) (by decide) rfl (fun c1373=>?_) (fun c1373=>?_)
 ·skip
  exfalso;omega
 ·skip
  refine ab X1371 hx 9 (hb hby Nl) rfl rfl rfl ?_
  refine ac X1371 hx (0:Int32) 10 (hb hby Nn) rfl (by decide) ?_
  refine ak X1371 hx hZ (C:=sg1) hown (tw hw 252 rfl) (tw hw 147 rfl) (tw hw 149 rfl) (tw hw 149 rfl) (tw hw 148 rfl) (tw hw 7 rfl) (tw hw 150 rfl) (by decide) (cCh l Z a0 hw a (0:Int32) h0 n0 Z0 cst fm em SX_ O0 Lw B cs S 0 (by decide) (by omega)) q1371 (b:=a) Ew (argsL:=[(.int (0:Int32))]) (rest:=[]) rfl rfl 0 13 rfl (by rw[hml];rfl) (lenOf cD rfl) (Nat.le_refl _) (by decide) (by decide) (by decide) (by decide) (hb hby x_) ?_
  intro v1374 T1374 L1374 X1374 hQ1374
  obtain⟨rfl,N1374,q1374⟩:=hQ1374
  have N1375:=Fr.app N1372 N1374
  show Go _ _ _ _ _ (mkF _ _ _ [(.int (cs.getD 0 0))])
  refine aa X1374 hx 14 (hb hby ya) rfl rfl ?_
  refine ac X1374 hx (0:Int32) 15 (hb hby yb) rfl (by decide) ?_
  refine ag X1374 hx hZ hown (tw hw 95 rfl) (tw hw 96 rfl) (tw hw 3 rfl) (tw hw 97 rfl) (by decide) (cK0 l Z a0 hw pp h0 n0 Z0) q1374 (argsL:=[(.int pp),(.int (0:Int32))]) (rest:=[(.int (cs.getD 0 0))]) rfl rfl 1 18 rfl (by rw[hml];rfl) (lenOf bn rfl) (Nat.le_refl _) (by decide) (by decide) (by decide) (by decide) (hb hby yc) ?_
  intro v1376 T1376 L1376 X1376 hQ1376
  obtain⟨rfl,N1376,q1376⟩:=hQ1376
  have N1377:=Fr.app N1375 N1376
  show Go _ _ _ _ _ (mkF _ _ _ [(.int (chn pp 0)),(.int (cs.getD 0 0))])
  refine av X1376 hx 61 21 (hb hby yd) (by decide) (by decide) rfl (fun c1378=>?_) (fun c1378=>?_)
  ·skip
   exact absurd (by rw[hch 0 (by omega)]) c1378
  ·skip
   refine aa X1376 hx 22 (hb hby ye) rfl rfl ?_
   refine ac X1376 hx (2:Int32) 23 (hb hby yf) rfl (by decide) ?_
   have ll1380:((2:Int32):Int32).toInt=2:=by decide
   refine an X1376 hx 39 26 (hb hby yg) (by decide) (by decide) rfl (fun c1379=>?_) (fun c1379=>?_)
   ·skip
    refine aa X1376 hx 40 (hb hby mF) rfl rfl ?_
    refine ac X1376 hx (3:Int32) 41 (hb hby mG) rfl (by decide) ?_
    have ll1382:((3:Int32):Int32).toInt=3:=by decide
    refine an X1376 hx 57 44 (hb hby mH) (by decide) (by decide) rfl (fun c1381=>?_) (fun c1381=>?_)
    ·skip
     refine ac X1376 hx (1:Int32) 58 (hb hby gf) rfl (by decide) ?_
     refine ap X1376 hx 62 (hb hby gg) (by decide) (by decide) ?_
     exact a4 X1376 hx hlk hret (hb hby gh) (by decide) (by decide) q1376 ⟨rfl,N1377,rfl⟩
    ·skip
     refine ab X1376 hx 45 (hb hby mI) rfl rfl rfl ?_
     refine ac X1376 hx (2:Int32) 46 (hb hby mJ) rfl (by decide) ?_
     refine ak X1376 hx hZ (C:=sg1) hown (tw hw 252 rfl) (tw hw 147 rfl) (tw hw 149 rfl) (tw hw 149 rfl) (tw hw 148 rfl) (tw hw 7 rfl) (tw hw 150 rfl) (by decide) (cCh l Z a0 hw a (2:Int32) h0 n0 Z0 cst fm em SX_ O0 Lw B cs S 2 (by decide) (by omega)) q1376 (b:=a) Ew (argsL:=[(.int (2:Int32))]) (rest:=[]) rfl rfl 0 49 rfl (by rw[hml];rfl) (lenOf cD rfl) (Nat.le_refl _) (by decide) (by decide) (by decide) (by decide) (hb hby mK) ?_
     intro v1383 T1383 L1383 X1383 hQ1383
     obtain⟨rfl,N1383,q1383⟩:=hQ1383
     have N1384:=Fr.app N1377 N1383
     show Go _ _ _ _ _ (mkF _ _ _ [(.int (cs.getD 2 0))])
     refine aa X1383 hx 50 (hb hby mL) rfl rfl ?_
     refine ac X1383 hx (2:Int32) 51 (hb hby mM) rfl (by decide) ?_
     refine ag X1383 hx hZ hown (tw hw 95 rfl) (tw hw 96 rfl) (tw hw 3 rfl) (tw hw 97 rfl) (by decide) (cK2 l Z a0 hw pp h0 n0 Z0) q1383 (argsL:=[(.int pp),(.int (2:Int32))]) (rest:=[(.int (cs.getD 2 0))]) rfl rfl 1 54 rfl (by rw[hml];rfl) (lenOf bn rfl) (Nat.le_refl _) (by decide) (by decide) (by decide) (by decide) (hb hby mN) ?_
     intro v1385 T1385 L1385 X1385 hQ1385
     obtain⟨rfl,N1385,q1385⟩:=hQ1385
     have N1386:=Fr.app N1384 N1385
     show Go _ _ _ _ _ (mkF _ _ _ [(.int (chn pp 2)),(.int (cs.getD 2 0))])
     refine av X1385 hx 61 57 (hb hby mO) (by decide) (by decide) rfl (fun c1387=>?_) (fun c1387=>?_)
     ·skip
      exact absurd (by rw[hch 2 (by omega)]) c1387
     ·skip
      refine ac X1385 hx (1:Int32) 58 (hb hby gf) rfl (by decide) ?_
      refine ap X1385 hx 62 (hb hby gg) (by decide) (by decide) ?_
      exact a4 X1385 hx hlk hret (hb hby gh) (by decide) (by decide) q1385 ⟨rfl,N1386,rfl⟩
   ·skip
    refine ab X1376 hx 27 (hb hby yh) rfl rfl rfl ?_
    refine ac X1376 hx (1:Int32) 28 (hb hby yi) rfl (by decide) ?_
    refine ak X1376 hx hZ (C:=sg1) hown (tw hw 252 rfl) (tw hw 147 rfl) (tw hw 149 rfl) (tw hw 149 rfl) (tw hw 148 rfl) (tw hw 7 rfl) (tw hw 150 rfl) (by decide) (cCh l Z a0 hw a (1:Int32) h0 n0 Z0 cst fm em SX_ O0 Lw B cs S 1 (by decide) (by omega)) q1376 (b:=a) Ew (argsL:=[(.int (1:Int32))]) (rest:=[]) rfl rfl 0 31 rfl (by rw[hml];rfl) (lenOf cD rfl) (Nat.le_refl _) (by decide) (by decide) (by decide) (by decide) (hb hby yj) ?_
    intro v1388 T1388 L1388 X1388 hQ1388
    obtain⟨rfl,N1388,q1388⟩:=hQ1388
    have N1389:=Fr.app N1377 N1388
    show Go _ _ _ _ _ (mkF _ _ _ [(.int (cs.getD 1 0))])
    refine aa X1388 hx 32 (hb hby yk) rfl rfl ?_
    refine ac X1388 hx (1:Int32) 33 (hb hby yl) rfl (by decide) ?_
    refine ag X1388 hx hZ hown (tw hw 95 rfl) (tw hw 96 rfl) (tw hw 3 rfl) (tw hw 97 rfl) (by decide) (cK1 l Z a0 hw pp h0 n0 Z0) q1388 (argsL:=[(.int pp),(.int (1:Int32))]) (rest:=[(.int (cs.getD 1 0))]) rfl rfl 1 36 rfl (by rw[hml];rfl) (lenOf bn rfl) (Nat.le_refl _) (by decide) (by decide) (by decide) (by decide) (hb hby ym) ?_
    intro v1390 T1390 L1390 X1390 hQ1390
    obtain⟨rfl,N1390,q1390⟩:=hQ1390
    have N1391:=Fr.app N1389 N1390
    show Go _ _ _ _ _ (mkF _ _ _ [(.int (chn pp 1)),(.int (cs.getD 1 0))])
    refine av X1390 hx 61 39 (hb hby yn) (by decide) (by decide) rfl (fun c1392=>?_) (fun c1392=>?_)
    ·skip
     exact absurd (by rw[hch 1 (by omega)]) c1392
    ·skip
     refine aa X1390 hx 40 (hb hby mF) rfl rfl ?_
     refine ac X1390 hx (3:Int32) 41 (hb hby mG) rfl (by decide) ?_
     have ll1394:((3:Int32):Int32).toInt=3:=by decide
     refine an X1390 hx 57 44 (hb hby mH) (by decide) (by decide) rfl (fun c1393=>?_) (fun c1393=>?_)
     ·skip
      refine ac X1390 hx (1:Int32) 58 (hb hby gf) rfl (by decide) ?_
      refine ap X1390 hx 62 (hb hby gg) (by decide) (by decide) ?_
      exact a4 X1390 hx hlk hret (hb hby gh) (by decide) (by decide) q1390 ⟨rfl,N1391,rfl⟩
     ·skip
      refine ab X1390 hx 45 (hb hby mI) rfl rfl rfl ?_
      refine ac X1390 hx (2:Int32) 46 (hb hby mJ) rfl (by decide) ?_
      refine ak X1390 hx hZ (C:=sg1) hown (tw hw 252 rfl) (tw hw 147 rfl) (tw hw 149 rfl) (tw hw 149 rfl) (tw hw 148 rfl) (tw hw 7 rfl) (tw hw 150 rfl) (by decide) (cCh l Z a0 hw a (2:Int32) h0 n0 Z0 cst fm em SX_ O0 Lw B cs S 2 (by decide) (by omega)) q1390 (b:=a) Ew (argsL:=[(.int (2:Int32))]) (rest:=[]) rfl rfl 0 49 rfl (by rw[hml];rfl) (lenOf cD rfl) (Nat.le_refl _) (by decide) (by decide) (by decide) (by decide) (hb hby mK) ?_
      intro v1395 T1395 L1395 X1395 hQ1395
      obtain⟨rfl,N1395,q1395⟩:=hQ1395
      have N1396:=Fr.app N1391 N1395
      show Go _ _ _ _ _ (mkF _ _ _ [(.int (cs.getD 2 0))])
      refine aa X1395 hx 50 (hb hby mL) rfl rfl ?_
      refine ac X1395 hx (2:Int32) 51 (hb hby mM) rfl (by decide) ?_
      refine ag X1395 hx hZ hown (tw hw 95 rfl) (tw hw 96 rfl) (tw hw 3 rfl) (tw hw 97 rfl) (by decide) (cK2 l Z a0 hw pp h0 n0 Z0) q1395 (argsL:=[(.int pp),(.int (2:Int32))]) (rest:=[(.int (cs.getD 2 0))]) rfl rfl 1 54 rfl (by rw[hml];rfl) (lenOf bn rfl) (Nat.le_refl _) (by decide) (by decide) (by decide) (by decide) (hb hby mN) ?_
      intro v1397 T1397 L1397 X1397 hQ1397
      obtain⟨rfl,N1397,q1397⟩:=hQ1397
      have N1398:=Fr.app N1396 N1397
      show Go _ _ _ _ _ (mkF _ _ _ [(.int (chn pp 2)),(.int (cs.getD 2 0))])
      refine av X1397 hx 61 57 (hb hby mO) (by decide) (by decide) rfl (fun c1399=>?_) (fun c1399=>?_)
      ·skip
       exact absurd (by rw[hch 2 (by omega)]) c1399
      ·skip
       refine ac X1397 hx (1:Int32) 58 (hb hby gf) rfl (by decide) ?_
       refine ap X1397 hx 62 (hb hby gg) (by decide) (by decide) ?_
       exact a4 X1397 hx hlk hret (hb hby gh) (by decide) (by decide) q1397 ⟨rfl,N1398,rfl⟩
theorem Pp:dk af 0 (.iload_n 1) 1:=by decide +kernel
theorem Pq:dk af 1 (.iconst 1) 1:=by decide +kernel
theorem Pr:dk af 2 (.if_icmp .ne 20) 3:=by decide +kernel
theorem Ps:dk af 5 (.new 14) 3:=by decide +kernel
theorem Pu:dk af 8 (.dup) 1:=by decide +kernel
theorem Pv:dk af 9 (.iconst 1) 1:=by decide +kernel
theorem Np:dk af 10 (.newarray .char) 2:=by decide +kernel
theorem Nq:dk af 12 (.dup) 1:=by decide +kernel
theorem Nr:dk af 13 (.iconst 0) 1:=by decide +kernel
theorem Ns:dk af 14 (.aload_n 0) 1:=by decide +kernel
theorem Nt:dk af 15 (.iconst 0) 1:=by decide +kernel
theorem Nu:dk af 16 (.caload) 1:=by decide +kernel
theorem Nv:dk af 17 (.castore) 1:=by decide +kernel
theorem Nw:dk af 18 (.invokespecial 23) 3:=by decide +kernel
theorem Nx:dk af 21 (.areturn) 1:=by decide +kernel
theorem Ny:dk af 22 (.iload_n 1) 1:=by decide +kernel
theorem Nz:dk af 23 (.iconst 2) 1:=by decide +kernel
theorem NA:dk af 24 (.if_icmp .ne 26) 3:=by decide +kernel
theorem NB:dk af 27 (.new 14) 3:=by decide +kernel
theorem NC:dk af 30 (.dup) 1:=by decide +kernel
theorem ND:dk af 31 (.iconst 2) 1:=by decide +kernel
theorem NE:dk af 32 (.newarray .char) 2:=by decide +kernel
theorem NF:dk af 34 (.dup) 1:=by decide +kernel
theorem NG:dk af 35 (.iconst 0) 1:=by decide +kernel
theorem NH:dk af 36 (.aload_n 0) 1:=by decide +kernel
theorem NI:dk af 37 (.iconst 0) 1:=by decide +kernel
theorem NJ:dk af 38 (.caload) 1:=by decide +kernel
theorem NK:dk af 39 (.castore) 1:=by decide +kernel
theorem NL:dk af 40 (.dup) 1:=by decide +kernel
theorem NM:dk af 41 (.iconst 1) 1:=by decide +kernel
theorem NN:dk af 42 (.aload_n 0) 1:=by decide +kernel
theorem NO:dk af 43 (.iconst 1) 1:=by decide +kernel
theorem NP:dk af 44 (.caload) 1:=by decide +kernel
theorem NQ:dk af 45 (.castore) 1:=by decide +kernel
theorem NR:dk af 46 (.invokespecial 23) 3:=by decide +kernel
theorem NS:dk af 49 (.areturn) 1:=by decide +kernel
theorem NT:dk af 50 (.iload_n 1) 1:=by decide +kernel
theorem NU:dk af 51 (.iconst 3) 1:=by decide +kernel
theorem NV:dk af 52 (.if_icmp .ne 32) 3:=by decide +kernel
theorem NW:dk af 55 (.new 14) 3:=by decide +kernel
theorem NX:dk af 58 (.dup) 1:=by decide +kernel
theorem NY:dk af 59 (.iconst 3) 1:=by decide +kernel
theorem NZ:dk af 60 (.newarray .char) 2:=by decide +kernel
theorem N1:dk af 62 (.dup) 1:=by decide +kernel
theorem N2:dk af 63 (.iconst 0) 1:=by decide +kernel
theorem N3:dk af 64 (.aload_n 0) 1:=by decide +kernel
theorem N4:dk af 65 (.iconst 0) 1:=by decide +kernel
theorem N5:dk af 66 (.caload) 1:=by decide +kernel
theorem N6:dk af 67 (.castore) 1:=by decide +kernel
theorem N7:dk af 68 (.dup) 1:=by decide +kernel
theorem N8:dk af 69 (.iconst 1) 1:=by decide +kernel
theorem N_:dk af 70 (.aload_n 0) 1:=by decide +kernel
theorem Oa:dk af 71 (.iconst 1) 1:=by decide +kernel
theorem Ob:dk af 72 (.caload) 1:=by decide +kernel
theorem Oc:dk af 73 (.castore) 1:=by decide +kernel
theorem Od:dk af 74 (.dup) 1:=by decide +kernel
theorem Oe:dk af 75 (.iconst 2) 1:=by decide +kernel
theorem Of:dk af 76 (.aload_n 0) 1:=by decide +kernel
theorem Og:dk af 77 (.iconst 2) 1:=by decide +kernel
theorem Oh:dk af 78 (.caload) 1:=by decide +kernel
theorem Oi:dk af 79 (.castore) 1:=by decide +kernel
theorem Oj:dk af 80 (.invokespecial 23) 3:=by decide +kernel
theorem Ok:dk af 83 (.areturn) 1:=by decide +kernel
theorem Ol:dk af 84 (.iload_n 1) 1:=by decide +kernel
theorem Om:dk af 85 (.iconst 4) 1:=by decide +kernel
theorem On:dk af 86 (.if_icmp .ne 38) 3:=by decide +kernel
theorem Oo:dk af 89 (.new 14) 3:=by decide +kernel
theorem Oq:dk af 92 (.dup) 1:=by decide +kernel
theorem Os:dk af 93 (.iconst 4) 1:=by decide +kernel
theorem Ot:dk af 94 (.newarray .char) 2:=by decide +kernel
theorem Ou:dk af 96 (.dup) 1:=by decide +kernel
theorem Ov:dk af 97 (.iconst 0) 1:=by decide +kernel
theorem Ow:dk af 98 (.aload_n 0) 1:=by decide +kernel
theorem Ox:dk af 99 (.iconst 0) 1:=by decide +kernel
theorem yp:dk af 100 (.caload) 1:=by decide +kernel
theorem yq:dk af 101 (.castore) 1:=by decide +kernel
theorem yr:dk af 102 (.dup) 1:=by decide +kernel
theorem ys:dk af 103 (.iconst 1) 1:=by decide +kernel
theorem yt:dk af 104 (.aload_n 0) 1:=by decide +kernel
theorem yu:dk af 105 (.iconst 1) 1:=by decide +kernel
theorem yv:dk af 106 (.caload) 1:=by decide +kernel
theorem yw:dk af 107 (.castore) 1:=by decide +kernel
theorem yx:dk af 108 (.dup) 1:=by decide +kernel
theorem yy:dk af 109 (.iconst 2) 1:=by decide +kernel
theorem yz:dk af 110 (.aload_n 0) 1:=by decide +kernel
theorem yA:dk af 111 (.iconst 2) 1:=by decide +kernel
theorem yB:dk af 112 (.caload) 1:=by decide +kernel
theorem yC:dk af 113 (.castore) 1:=by decide +kernel
theorem yD:dk af 114 (.dup) 1:=by decide +kernel
theorem yE:dk af 115 (.iconst 3) 1:=by decide +kernel
theorem yF:dk af 116 (.aload_n 0) 1:=by decide +kernel
theorem yG:dk af 117 (.iconst 3) 1:=by decide +kernel
theorem yH:dk af 118 (.caload) 1:=by decide +kernel
theorem yI:dk af 119 (.castore) 1:=by decide +kernel
theorem yJ:dk af 120 (.invokespecial 23) 3:=by decide +kernel
theorem yK:dk af 123 (.areturn) 1:=by decide +kernel
theorem yL:dk af 124 (.iload_n 1) 1:=by decide +kernel
theorem yM:dk af 125 (.iconst 5) 1:=by decide +kernel
theorem yN:dk af 126 (.if_icmp .ne 44) 3:=by decide +kernel
theorem yO:dk af 129 (.new 14) 3:=by decide +kernel
theorem yP:dk af 132 (.dup) 1:=by decide +kernel
theorem yQ:dk af 133 (.iconst 5) 1:=by decide +kernel
theorem yR:dk af 134 (.newarray .char) 2:=by decide +kernel
theorem yS:dk af 136 (.dup) 1:=by decide +kernel
theorem yT:dk af 137 (.iconst 0) 1:=by decide +kernel
theorem yU:dk af 138 (.aload_n 0) 1:=by decide +kernel
theorem yV:dk af 139 (.iconst 0) 1:=by decide +kernel
theorem yW:dk af 140 (.caload) 1:=by decide +kernel
theorem yX:dk af 141 (.castore) 1:=by decide +kernel
theorem yY:dk af 142 (.dup) 1:=by decide +kernel
theorem yZ:dk af 143 (.iconst 1) 1:=by decide +kernel
theorem y3:dk af 144 (.aload_n 0) 1:=by decide +kernel
theorem y4:dk af 145 (.iconst 1) 1:=by decide +kernel
theorem y5:dk af 146 (.caload) 1:=by decide +kernel
theorem y6:dk af 147 (.castore) 1:=by decide +kernel
theorem y7:dk af 148 (.dup) 1:=by decide +kernel
theorem y8:dk af 149 (.iconst 2) 1:=by decide +kernel
theorem y9:dk af 150 (.aload_n 0) 1:=by decide +kernel
theorem y_:dk af 151 (.iconst 2) 1:=by decide +kernel
theorem za:dk af 152 (.caload) 1:=by decide +kernel
theorem zb:dk af 153 (.castore) 1:=by decide +kernel
theorem zc:dk af 154 (.dup) 1:=by decide +kernel
theorem ze:dk af 155 (.iconst 3) 1:=by decide +kernel
theorem zf:dk af 156 (.aload_n 0) 1:=by decide +kernel
theorem zg:dk af 157 (.iconst 3) 1:=by decide +kernel
theorem zh:dk af 158 (.caload) 1:=by decide +kernel
theorem zi:dk af 159 (.castore) 1:=by decide +kernel
theorem zj:dk af 160 (.dup) 1:=by decide +kernel
theorem zk:dk af 161 (.iconst 4) 1:=by decide +kernel
theorem zl:dk af 162 (.aload_n 0) 1:=by decide +kernel
theorem zm:dk af 163 (.iconst 4) 1:=by decide +kernel
theorem zn:dk af 164 (.caload) 1:=by decide +kernel
theorem zo:dk af 165 (.castore) 1:=by decide +kernel
theorem zp:dk af 166 (.invokespecial 23) 3:=by decide +kernel
theorem zq:dk af 169 (.areturn) 1:=by decide +kernel
theorem zr:dk af 170 (.iload_n 1) 1:=by decide +kernel
theorem zt:dk af 171 (.bipush 6) 2:=by decide +kernel
theorem zu:dk af 173 (.if_icmp .ne 51) 3:=by decide +kernel
theorem zw:dk af 176 (.new 14) 3:=by decide +kernel
theorem zx:dk af 179 (.dup) 1:=by decide +kernel
theorem zy:dk af 180 (.bipush 6) 2:=by decide +kernel
theorem zA:dk af 182 (.newarray .char) 2:=by decide +kernel
theorem zB:dk af 184 (.dup) 1:=by decide +kernel
theorem zC:dk af 185 (.iconst 0) 1:=by decide +kernel
theorem zD:dk af 186 (.aload_n 0) 1:=by decide +kernel
theorem zE:dk af 187 (.iconst 0) 1:=by decide +kernel
theorem zF:dk af 188 (.caload) 1:=by decide +kernel
theorem zG:dk af 189 (.castore) 1:=by decide +kernel
theorem zH:dk af 190 (.dup) 1:=by decide +kernel
theorem zI:dk af 191 (.iconst 1) 1:=by decide +kernel
theorem zJ:dk af 192 (.aload_n 0) 1:=by decide +kernel
theorem zK:dk af 193 (.iconst 1) 1:=by decide +kernel
theorem zL:dk af 194 (.caload) 1:=by decide +kernel
theorem zM:dk af 195 (.castore) 1:=by decide +kernel
theorem zN:dk af 196 (.dup) 1:=by decide +kernel
theorem zO:dk af 197 (.iconst 2) 1:=by decide +kernel
theorem zP:dk af 198 (.aload_n 0) 1:=by decide +kernel
theorem zQ:dk af 199 (.iconst 2) 1:=by decide +kernel
theorem zR:dk af 200 (.caload) 1:=by decide +kernel
theorem zS:dk af 201 (.castore) 1:=by decide +kernel
theorem zT:dk af 202 (.dup) 1:=by decide +kernel
theorem zU:dk af 203 (.iconst 3) 1:=by decide +kernel
theorem zV:dk af 204 (.aload_n 0) 1:=by decide +kernel
theorem zW:dk af 205 (.iconst 3) 1:=by decide +kernel
theorem zX:dk af 206 (.caload) 1:=by decide +kernel
theorem zY:dk af 207 (.castore) 1:=by decide +kernel
theorem zZ:dk af 208 (.dup) 1:=by decide +kernel
theorem z3:dk af 209 (.iconst 4) 1:=by decide +kernel
theorem z4:dk af 210 (.aload_n 0) 1:=by decide +kernel
theorem z5:dk af 211 (.iconst 4) 1:=by decide +kernel
theorem z6:dk af 212 (.caload) 1:=by decide +kernel
theorem z7:dk af 213 (.castore) 1:=by decide +kernel
theorem z8:dk af 214 (.dup) 1:=by decide +kernel
theorem z9:dk af 215 (.iconst 5) 1:=by decide +kernel
theorem z_:dk af 216 (.aload_n 0) 1:=by decide +kernel
theorem Aa:dk af 217 (.iconst 5) 1:=by decide +kernel
theorem Ab:dk af 218 (.caload) 1:=by decide +kernel
theorem Ae:dk af 219 (.castore) 1:=by decide +kernel
theorem Af:dk af 220 (.invokespecial 23) 3:=by decide +kernel
theorem Ag:dk af 223 (.areturn) 1:=by decide +kernel
theorem Ah:dk af 224 (.iload_n 1) 1:=by decide +kernel
theorem Ai:dk af 225 (.bipush 7) 2:=by decide +kernel
theorem Aj:dk af 227 (.if_icmp .ne 59) 3:=by decide +kernel
theorem Ak:dk af 230 (.new 14) 3:=by decide +kernel
theorem Al:dk af 233 (.dup) 1:=by decide +kernel
theorem Am:dk af 234 (.bipush 7) 2:=by decide +kernel
theorem An:dk af 236 (.newarray .char) 2:=by decide +kernel
theorem Ao:dk af 238 (.dup) 1:=by decide +kernel
theorem Ap:dk af 239 (.iconst 0) 1:=by decide +kernel
theorem Aq:dk af 240 (.aload_n 0) 1:=by decide +kernel
theorem Ar:dk af 241 (.iconst 0) 1:=by decide +kernel
theorem At:dk af 242 (.caload) 1:=by decide +kernel
theorem Au:dk af 243 (.castore) 1:=by decide +kernel
theorem Av:dk af 244 (.dup) 1:=by decide +kernel
theorem Aw:dk af 245 (.iconst 1) 1:=by decide +kernel
theorem Ax:dk af 246 (.aload_n 0) 1:=by decide +kernel
theorem Ay:dk af 247 (.iconst 1) 1:=by decide +kernel
theorem Az:dk af 248 (.caload) 1:=by decide +kernel
theorem AA:dk af 249 (.castore) 1:=by decide +kernel
theorem AB:dk af 250 (.dup) 1:=by decide +kernel
theorem AC:dk af 251 (.iconst 2) 1:=by decide +kernel
theorem AD:dk af 252 (.aload_n 0) 1:=by decide +kernel
theorem AE:dk af 253 (.iconst 2) 1:=by decide +kernel
theorem AF:dk af 254 (.caload) 1:=by decide +kernel
theorem AG:dk af 255 (.castore) 1:=by decide +kernel
theorem AH:dk af 256 (.dup) 1:=by decide +kernel
theorem AI:dk af 257 (.iconst 3) 1:=by decide +kernel
theorem AJ:dk af 258 (.aload_n 0) 1:=by decide +kernel
theorem AK:dk af 259 (.iconst 3) 1:=by decide +kernel
theorem AL:dk af 260 (.caload) 1:=by decide +kernel
theorem AM:dk af 261 (.castore) 1:=by decide +kernel
theorem AN:dk af 262 (.dup) 1:=by decide +kernel
theorem AO:dk af 263 (.iconst 4) 1:=by decide +kernel
theorem AP:dk af 264 (.aload_n 0) 1:=by decide +kernel
theorem AQ:dk af 265 (.iconst 4) 1:=by decide +kernel
theorem AR:dk af 266 (.caload) 1:=by decide +kernel
theorem AS:dk af 267 (.castore) 1:=by decide +kernel
theorem AT:dk af 268 (.dup) 1:=by decide +kernel
theorem AU:dk af 269 (.iconst 5) 1:=by decide +kernel
theorem AV:dk af 270 (.aload_n 0) 1:=by decide +kernel
theorem AW:dk af 271 (.iconst 5) 1:=by decide +kernel
theorem AX:dk af 272 (.caload) 1:=by decide +kernel
theorem AY:dk af 273 (.castore) 1:=by decide +kernel
theorem AZ:dk af 274 (.dup) 1:=by decide +kernel
theorem A0:dk af 275 (.bipush 6) 2:=by decide +kernel
theorem A1:dk af 277 (.aload_n 0) 1:=by decide +kernel
theorem A2:dk af 278 (.bipush 6) 2:=by decide +kernel
theorem A3:dk af 280 (.caload) 1:=by decide +kernel
theorem A4:dk af 281 (.castore) 1:=by decide +kernel
theorem A5:dk af 282 (.invokespecial 23) 3:=by decide +kernel
theorem A6:dk af 285 (.areturn) 1:=by decide +kernel
theorem A7:dk af 286 (.iload_n 1) 1:=by decide +kernel
theorem A8:dk af 287 (.bipush 8) 2:=by decide +kernel
theorem A9:dk af 289 (.if_icmp .ne 67) 3:=by decide +kernel
theorem A_:dk af 292 (.new 14) 3:=by decide +kernel
theorem Ba:dk af 295 (.dup) 1:=by decide +kernel
theorem Bb:dk af 296 (.bipush 8) 2:=by decide +kernel
theorem Bc:dk af 298 (.newarray .char) 2:=by decide +kernel
theorem Be:dk af 300 (.dup) 1:=by decide +kernel
theorem Bf:dk af 301 (.iconst 0) 1:=by decide +kernel
theorem Bg:dk af 302 (.aload_n 0) 1:=by decide +kernel
theorem Bh:dk af 303 (.iconst 0) 1:=by decide +kernel
theorem Bi:dk af 304 (.caload) 1:=by decide +kernel
theorem Bj:dk af 305 (.castore) 1:=by decide +kernel
theorem Bk:dk af 306 (.dup) 1:=by decide +kernel
theorem Bl:dk af 307 (.iconst 1) 1:=by decide +kernel
theorem Bm:dk af 308 (.aload_n 0) 1:=by decide +kernel
theorem Bn:dk af 309 (.iconst 1) 1:=by decide +kernel
theorem Bo:dk af 310 (.caload) 1:=by decide +kernel
theorem Bp:dk af 311 (.castore) 1:=by decide +kernel
theorem Bq:dk af 312 (.dup) 1:=by decide +kernel
theorem Br:dk af 313 (.iconst 2) 1:=by decide +kernel
theorem Bs:dk af 314 (.aload_n 0) 1:=by decide +kernel
theorem Bt:dk af 315 (.iconst 2) 1:=by decide +kernel
theorem Bu:dk af 316 (.caload) 1:=by decide +kernel
theorem Bv:dk af 317 (.castore) 1:=by decide +kernel
theorem Bw:dk af 318 (.dup) 1:=by decide +kernel
theorem Bx:dk af 319 (.iconst 3) 1:=by decide +kernel
theorem By:dk af 320 (.aload_n 0) 1:=by decide +kernel
theorem Bz:dk af 321 (.iconst 3) 1:=by decide +kernel
theorem BA:dk af 322 (.caload) 1:=by decide +kernel
theorem BC:dk af 323 (.castore) 1:=by decide +kernel
theorem BD:dk af 324 (.dup) 1:=by decide +kernel
theorem BE:dk af 325 (.iconst 4) 1:=by decide +kernel
theorem BF:dk af 326 (.aload_n 0) 1:=by decide +kernel
theorem BG:dk af 327 (.iconst 4) 1:=by decide +kernel
theorem BH:dk af 328 (.caload) 1:=by decide +kernel
theorem BJ:dk af 329 (.castore) 1:=by decide +kernel
theorem BK:dk af 330 (.dup) 1:=by decide +kernel
theorem BL:dk af 331 (.iconst 5) 1:=by decide +kernel
theorem BM:dk af 332 (.aload_n 0) 1:=by decide +kernel
theorem BN:dk af 333 (.iconst 5) 1:=by decide +kernel
theorem BO:dk af 334 (.caload) 1:=by decide +kernel
theorem BP:dk af 335 (.castore) 1:=by decide +kernel
theorem BQ:dk af 336 (.dup) 1:=by decide +kernel
theorem BR:dk af 337 (.bipush 6) 2:=by decide +kernel
theorem BS:dk af 339 (.aload_n 0) 1:=by decide +kernel
theorem BT:dk af 340 (.bipush 6) 2:=by decide +kernel
theorem BU:dk af 342 (.caload) 1:=by decide +kernel
theorem BV:dk af 343 (.castore) 1:=by decide +kernel
theorem BW:dk af 344 (.dup) 1:=by decide +kernel
theorem BX:dk af 345 (.bipush 7) 2:=by decide +kernel
theorem BZ:dk af 347 (.aload_n 0) 1:=by decide +kernel
theorem B3:dk af 348 (.bipush 7) 2:=by decide +kernel
theorem B4:dk af 350 (.caload) 1:=by decide +kernel
theorem B5:dk af 351 (.castore) 1:=by decide +kernel
theorem B6:dk af 352 (.invokespecial 23) 3:=by decide +kernel
theorem B7:dk af 355 (.areturn) 1:=by decide +kernel
theorem B8:dk af 356 (.iload_n 1) 1:=by decide +kernel
theorem B9:dk af 357 (.bipush 9) 2:=by decide +kernel
theorem B_:dk af 359 (.if_icmp .ne 75) 3:=by decide +kernel
theorem Ca:dk af 362 (.new 14) 3:=by decide +kernel
theorem Cb:dk af 365 (.dup) 1:=by decide +kernel
theorem Cc:dk af 366 (.bipush 9) 2:=by decide +kernel
theorem Cd:dk af 368 (.newarray .char) 2:=by decide +kernel
theorem Ce:dk af 370 (.dup) 1:=by decide +kernel
theorem Cf:dk af 371 (.iconst 0) 1:=by decide +kernel
theorem Cg:dk af 372 (.aload_n 0) 1:=by decide +kernel
theorem Ch:dk af 373 (.iconst 0) 1:=by decide +kernel
theorem Ci:dk af 374 (.caload) 1:=by decide +kernel
theorem Cj:dk af 375 (.castore) 1:=by decide +kernel
theorem Ck:dk af 376 (.dup) 1:=by decide +kernel
theorem Cl:dk af 377 (.iconst 1) 1:=by decide +kernel
theorem Cm:dk af 378 (.aload_n 0) 1:=by decide +kernel
theorem Cn:dk af 379 (.iconst 1) 1:=by decide +kernel
theorem Co:dk af 380 (.caload) 1:=by decide +kernel
theorem Cp:dk af 381 (.castore) 1:=by decide +kernel
theorem Cq:dk af 382 (.dup) 1:=by decide +kernel
theorem Cr:dk af 383 (.iconst 2) 1:=by decide +kernel
theorem Ct:dk af 384 (.aload_n 0) 1:=by decide +kernel
theorem Cu:dk af 385 (.iconst 2) 1:=by decide +kernel
theorem Cv:dk af 386 (.caload) 1:=by decide +kernel
theorem Cw:dk af 387 (.castore) 1:=by decide +kernel
theorem Cx:dk af 388 (.dup) 1:=by decide +kernel
theorem Cy:dk af 389 (.iconst 3) 1:=by decide +kernel
theorem Cz:dk af 390 (.aload_n 0) 1:=by decide +kernel
theorem CA:dk af 391 (.iconst 3) 1:=by decide +kernel
theorem CB:dk af 392 (.caload) 1:=by decide +kernel
theorem CC:dk af 393 (.castore) 1:=by decide +kernel
theorem CD:dk af 394 (.dup) 1:=by decide +kernel
theorem CE:dk af 395 (.iconst 4) 1:=by decide +kernel
theorem CF:dk af 396 (.aload_n 0) 1:=by decide +kernel
theorem CG:dk af 397 (.iconst 4) 1:=by decide +kernel
theorem CH:dk af 398 (.caload) 1:=by decide +kernel
theorem CJ:dk af 399 (.castore) 1:=by decide +kernel
theorem CK:dk af 400 (.dup) 1:=by decide +kernel
theorem CL:dk af 401 (.iconst 5) 1:=by decide +kernel
theorem CM:dk af 402 (.aload_n 0) 1:=by decide +kernel
theorem CN:dk af 403 (.iconst 5) 1:=by decide +kernel
theorem CO:dk af 404 (.caload) 1:=by decide +kernel
theorem CP:dk af 405 (.castore) 1:=by decide +kernel
theorem CQ:dk af 406 (.dup) 1:=by decide +kernel
theorem CR:dk af 407 (.bipush 6) 2:=by decide +kernel
theorem CS:dk af 409 (.aload_n 0) 1:=by decide +kernel
theorem CT:dk af 410 (.bipush 6) 2:=by decide +kernel
theorem CU:dk af 412 (.caload) 1:=by decide +kernel
theorem CV:dk af 413 (.castore) 1:=by decide +kernel
theorem CW:dk af 414 (.dup) 1:=by decide +kernel
theorem CX:dk af 415 (.bipush 7) 2:=by decide +kernel
theorem CY:dk af 417 (.aload_n 0) 1:=by decide +kernel
theorem CZ:dk af 418 (.bipush 7) 2:=by decide +kernel
theorem C0:dk af 420 (.caload) 1:=by decide +kernel
theorem C1:dk af 421 (.castore) 1:=by decide +kernel
theorem C2:dk af 422 (.dup) 1:=by decide +kernel
theorem C3:dk af 423 (.bipush 8) 2:=by decide +kernel
theorem C4:dk af 425 (.aload_n 0) 1:=by decide +kernel
theorem C5:dk af 426 (.bipush 8) 2:=by decide +kernel
theorem C6:dk af 428 (.caload) 1:=by decide +kernel
theorem C7:dk af 429 (.castore) 1:=by decide +kernel
theorem C8:dk af 430 (.invokespecial 23) 3:=by decide +kernel
theorem C9:dk af 433 (.areturn) 1:=by decide +kernel
theorem C_:dk af 434 (.iload_n 1) 1:=by decide +kernel
theorem Da:dk af 435 (.bipush 10) 2:=by decide +kernel
theorem Db:dk af 437 (.if_icmp .ne 83) 3:=by decide +kernel
theorem Dc:dk af 440 (.new 14) 3:=by decide +kernel
theorem Dd:dk af 443 (.dup) 1:=by decide +kernel
theorem De:dk af 444 (.bipush 10) 2:=by decide +kernel
theorem Df:dk af 446 (.newarray .char) 2:=by decide +kernel
theorem Dg:dk af 448 (.dup) 1:=by decide +kernel
theorem Dh:dk af 449 (.iconst 0) 1:=by decide +kernel
theorem Di:dk af 450 (.aload_n 0) 1:=by decide +kernel
theorem Dj:dk af 451 (.iconst 0) 1:=by decide +kernel
theorem Dk:dk af 452 (.caload) 1:=by decide +kernel
theorem Dl:dk af 453 (.castore) 1:=by decide +kernel
theorem Dm:dk af 454 (.dup) 1:=by decide +kernel
theorem Dn:dk af 455 (.iconst 1) 1:=by decide +kernel
theorem Do:dk af 456 (.aload_n 0) 1:=by decide +kernel
theorem Dp:dk af 457 (.iconst 1) 1:=by decide +kernel
theorem Dq:dk af 458 (.caload) 1:=by decide +kernel
theorem Dr:dk af 459 (.castore) 1:=by decide +kernel
theorem Ds:dk af 460 (.dup) 1:=by decide +kernel
theorem Dt:dk af 461 (.iconst 2) 1:=by decide +kernel
theorem Du:dk af 462 (.aload_n 0) 1:=by decide +kernel
theorem Dv:dk af 463 (.iconst 2) 1:=by decide +kernel
theorem Dw:dk af 464 (.caload) 1:=by decide +kernel
theorem Dx:dk af 465 (.castore) 1:=by decide +kernel
theorem Dy:dk af 466 (.dup) 1:=by decide +kernel
theorem Dz:dk af 467 (.iconst 3) 1:=by decide +kernel
theorem DA:dk af 468 (.aload_n 0) 1:=by decide +kernel
theorem DB:dk af 469 (.iconst 3) 1:=by decide +kernel
theorem DC:dk af 470 (.caload) 1:=by decide +kernel
theorem DD:dk af 471 (.castore) 1:=by decide +kernel
theorem DE:dk af 472 (.dup) 1:=by decide +kernel
theorem DF:dk af 473 (.iconst 4) 1:=by decide +kernel
theorem DG:dk af 474 (.aload_n 0) 1:=by decide +kernel
theorem DH:dk af 475 (.iconst 4) 1:=by decide +kernel
theorem DI:dk af 476 (.caload) 1:=by decide +kernel
theorem DJ:dk af 477 (.castore) 1:=by decide +kernel
theorem DK:dk af 478 (.dup) 1:=by decide +kernel
theorem DL:dk af 479 (.iconst 5) 1:=by decide +kernel
theorem DM:dk af 480 (.aload_n 0) 1:=by decide +kernel
theorem DN:dk af 481 (.iconst 5) 1:=by decide +kernel
theorem DO:dk af 482 (.caload) 1:=by decide +kernel
theorem DP:dk af 483 (.castore) 1:=by decide +kernel
theorem DQ:dk af 484 (.dup) 1:=by decide +kernel
theorem DR:dk af 485 (.bipush 6) 2:=by decide +kernel
theorem DS:dk af 487 (.aload_n 0) 1:=by decide +kernel
theorem DT:dk af 488 (.bipush 6) 2:=by decide +kernel
theorem DU:dk af 490 (.caload) 1:=by decide +kernel
theorem DV:dk af 491 (.castore) 1:=by decide +kernel
theorem DW:dk af 492 (.dup) 1:=by decide +kernel
theorem DX:dk af 493 (.bipush 7) 2:=by decide +kernel
theorem DY:dk af 495 (.aload_n 0) 1:=by decide +kernel
theorem DZ:dk af 496 (.bipush 7) 2:=by decide +kernel
theorem D0:dk af 498 (.caload) 1:=by decide +kernel
theorem D_:dk af 499 (.castore) 1:=by decide +kernel
theorem Ea:dk af 500 (.dup) 1:=by decide +kernel
theorem Eb:dk af 501 (.bipush 8) 2:=by decide +kernel
theorem Ec:dk af 503 (.aload_n 0) 1:=by decide +kernel
theorem Ed:dk af 504 (.bipush 8) 2:=by decide +kernel
theorem Ee:dk af 506 (.caload) 1:=by decide +kernel
theorem Ef:dk af 507 (.castore) 1:=by decide +kernel
theorem Eg:dk af 508 (.dup) 1:=by decide +kernel
theorem Eh:dk af 509 (.bipush 9) 2:=by decide +kernel
theorem Ei:dk af 511 (.aload_n 0) 1:=by decide +kernel
theorem Ej:dk af 512 (.bipush 9) 2:=by decide +kernel
theorem Ek:dk af 514 (.caload) 1:=by decide +kernel
theorem El:dk af 515 (.castore) 1:=by decide +kernel
theorem Em:dk af 516 (.invokespecial 23) 3:=by decide +kernel
theorem En:dk af 519 (.areturn) 1:=by decide +kernel
theorem Eo:dk af 520 (.iload_n 1) 1:=by decide +kernel
theorem Er:dk af 521 (.bipush 11) 2:=by decide +kernel
theorem Es:dk af 523 (.if_icmp .ne 91) 3:=by decide +kernel
theorem Et:dk af 526 (.new 14) 3:=by decide +kernel
theorem Eu:dk af 529 (.dup) 1:=by decide +kernel
theorem Ey:dk af 530 (.bipush 11) 2:=by decide +kernel
theorem Ez:dk af 532 (.newarray .char) 2:=by decide +kernel
theorem EA:dk af 534 (.dup) 1:=by decide +kernel
theorem EB:dk af 535 (.iconst 0) 1:=by decide +kernel
theorem EC:dk af 536 (.aload_n 0) 1:=by decide +kernel
theorem ED:dk af 537 (.iconst 0) 1:=by decide +kernel
theorem EE:dk af 538 (.caload) 1:=by decide +kernel
theorem EF:dk af 539 (.castore) 1:=by decide +kernel
theorem EG:dk af 540 (.dup) 1:=by decide +kernel
theorem EH:dk af 541 (.iconst 1) 1:=by decide +kernel
theorem EI:dk af 542 (.aload_n 0) 1:=by decide +kernel
theorem EJ:dk af 543 (.iconst 1) 1:=by decide +kernel
theorem EK:dk af 544 (.caload) 1:=by decide +kernel
theorem EM:dk af 545 (.castore) 1:=by decide +kernel
theorem EN:dk af 546 (.dup) 1:=by decide +kernel
theorem EO:dk af 547 (.iconst 2) 1:=by decide +kernel
theorem EP:dk af 548 (.aload_n 0) 1:=by decide +kernel
theorem EQ:dk af 549 (.iconst 2) 1:=by decide +kernel
theorem ER:dk af 550 (.caload) 1:=by decide +kernel
theorem ES:dk af 551 (.castore) 1:=by decide +kernel
theorem ET:dk af 552 (.dup) 1:=by decide +kernel
theorem EU:dk af 553 (.iconst 3) 1:=by decide +kernel
theorem EV:dk af 554 (.aload_n 0) 1:=by decide +kernel
theorem EX:dk af 555 (.iconst 3) 1:=by decide +kernel
theorem EY:dk af 556 (.caload) 1:=by decide +kernel
theorem EZ:dk af 557 (.castore) 1:=by decide +kernel
theorem E0:dk af 558 (.dup) 1:=by decide +kernel
theorem E1:dk af 559 (.iconst 4) 1:=by decide +kernel
theorem E2:dk af 560 (.aload_n 0) 1:=by decide +kernel
theorem E3:dk af 561 (.iconst 4) 1:=by decide +kernel
theorem E4:dk af 562 (.caload) 1:=by decide +kernel
theorem E5:dk af 563 (.castore) 1:=by decide +kernel
theorem E6:dk af 564 (.dup) 1:=by decide +kernel
theorem E7:dk af 565 (.iconst 5) 1:=by decide +kernel
theorem E8:dk af 566 (.aload_n 0) 1:=by decide +kernel
theorem E9:dk af 567 (.iconst 5) 1:=by decide +kernel
theorem E_:dk af 568 (.caload) 1:=by decide +kernel
theorem Fa:dk af 569 (.castore) 1:=by decide +kernel
theorem Fb:dk af 570 (.dup) 1:=by decide +kernel
theorem Fd:dk af 571 (.bipush 6) 2:=by decide +kernel
theorem Fe:dk af 573 (.aload_n 0) 1:=by decide +kernel
theorem Ff:dk af 574 (.bipush 6) 2:=by decide +kernel
theorem Fg:dk af 576 (.caload) 1:=by decide +kernel
theorem Fh:dk af 577 (.castore) 1:=by decide +kernel
theorem Fi:dk af 578 (.dup) 1:=by decide +kernel
theorem Fj:dk af 579 (.bipush 7) 2:=by decide +kernel
theorem Fk:dk af 581 (.aload_n 0) 1:=by decide +kernel
theorem Fm:dk af 582 (.bipush 7) 2:=by decide +kernel
theorem Fo:dk af 584 (.caload) 1:=by decide +kernel
theorem Fp:dk af 585 (.castore) 1:=by decide +kernel
theorem Fq:dk af 586 (.dup) 1:=by decide +kernel
theorem Ft:dk af 587 (.bipush 8) 2:=by decide +kernel
theorem Fu:dk af 589 (.aload_n 0) 1:=by decide +kernel
theorem Fx:dk af 590 (.bipush 8) 2:=by decide +kernel
theorem Fy:dk af 592 (.caload) 1:=by decide +kernel
theorem Fz:dk af 593 (.castore) 1:=by decide +kernel
theorem FA:dk af 594 (.dup) 1:=by decide +kernel
theorem FB:dk af 595 (.bipush 9) 2:=by decide +kernel
theorem FC:dk af 597 (.aload_n 0) 1:=by decide +kernel
theorem FD:dk af 598 (.bipush 9) 2:=by decide +kernel
theorem FE:dk af 600 (.caload) 1:=by decide +kernel
theorem FF:dk af 601 (.castore) 1:=by decide +kernel
theorem FG:dk af 602 (.dup) 1:=by decide +kernel
theorem FH:dk af 603 (.bipush 10) 2:=by decide +kernel
theorem FI:dk af 605 (.aload_n 0) 1:=by decide +kernel
theorem FJ:dk af 606 (.bipush 10) 2:=by decide +kernel
theorem FK:dk af 608 (.caload) 1:=by decide +kernel
theorem FL:dk af 609 (.castore) 1:=by decide +kernel
theorem FM:dk af 610 (.invokespecial 23) 3:=by decide +kernel
theorem FN:dk af 613 (.areturn) 1:=by decide +kernel
theorem FO:dk af 614 (.new 14) 3:=by decide +kernel
theorem FP:dk af 617 (.dup) 1:=by decide +kernel
theorem FQ:dk af 618 (.bipush 12) 2:=by decide +kernel
theorem FR:dk af 620 (.newarray .char) 2:=by decide +kernel
theorem FS:dk af 622 (.dup) 1:=by decide +kernel
theorem FT:dk af 623 (.iconst 0) 1:=by decide +kernel
theorem FU:dk af 624 (.aload_n 0) 1:=by decide +kernel
theorem FV:dk af 625 (.iconst 0) 1:=by decide +kernel
theorem FW:dk af 626 (.caload) 1:=by decide +kernel
theorem FX:dk af 627 (.castore) 1:=by decide +kernel
theorem FY:dk af 628 (.dup) 1:=by decide +kernel
theorem FZ:dk af 629 (.iconst 1) 1:=by decide +kernel
theorem F0:dk af 630 (.aload_n 0) 1:=by decide +kernel
theorem F4:dk af 631 (.iconst 1) 1:=by decide +kernel
theorem F5:dk af 632 (.caload) 1:=by decide +kernel
theorem F7:dk af 633 (.castore) 1:=by decide +kernel
theorem F8:dk af 634 (.dup) 1:=by decide +kernel
theorem F9:dk af 635 (.iconst 2) 1:=by decide +kernel
theorem F_:dk af 636 (.aload_n 0) 1:=by decide +kernel
theorem Ga:dk af 637 (.iconst 2) 1:=by decide +kernel
theorem Gb:dk af 638 (.caload) 1:=by decide +kernel
theorem Gc:dk af 639 (.castore) 1:=by decide +kernel
theorem Gd:dk af 640 (.dup) 1:=by decide +kernel
theorem Ge:dk af 641 (.iconst 3) 1:=by decide +kernel
theorem Gf:dk af 642 (.aload_n 0) 1:=by decide +kernel
theorem Gg:dk af 643 (.iconst 3) 1:=by decide +kernel
theorem Gh:dk af 644 (.caload) 1:=by decide +kernel
theorem Gi:dk af 645 (.castore) 1:=by decide +kernel
theorem Gj:dk af 646 (.dup) 1:=by decide +kernel
theorem Gk:dk af 647 (.iconst 4) 1:=by decide +kernel
theorem Gl:dk af 648 (.aload_n 0) 1:=by decide +kernel
theorem Gm:dk af 649 (.iconst 4) 1:=by decide +kernel
theorem Gn:dk af 650 (.caload) 1:=by decide +kernel
theorem Gp:dk af 651 (.castore) 1:=by decide +kernel
theorem Gq:dk af 652 (.dup) 1:=by decide +kernel
theorem Gr:dk af 653 (.iconst 5) 1:=by decide +kernel
theorem Gs:dk af 654 (.aload_n 0) 1:=by decide +kernel
theorem Gt:dk af 655 (.iconst 5) 1:=by decide +kernel
theorem Gu:dk af 656 (.caload) 1:=by decide +kernel
theorem Gv:dk af 657 (.castore) 1:=by decide +kernel
theorem Gw:dk af 658 (.dup) 1:=by decide +kernel
theorem Gx:dk af 659 (.bipush 6) 2:=by decide +kernel
theorem Gy:dk af 661 (.aload_n 0) 1:=by decide +kernel
theorem Gz:dk af 662 (.bipush 6) 2:=by decide +kernel
theorem GA:dk af 664 (.caload) 1:=by decide +kernel
theorem GB:dk af 665 (.castore) 1:=by decide +kernel
theorem GC:dk af 666 (.dup) 1:=by decide +kernel
theorem GD:dk af 667 (.bipush 7) 2:=by decide +kernel
theorem GE:dk af 669 (.aload_n 0) 1:=by decide +kernel
theorem GF:dk af 670 (.bipush 7) 2:=by decide +kernel
theorem GG:dk af 672 (.caload) 1:=by decide +kernel
theorem GH:dk af 673 (.castore) 1:=by decide +kernel
theorem GI:dk af 674 (.dup) 1:=by decide +kernel
theorem GJ:dk af 675 (.bipush 8) 2:=by decide +kernel
theorem GK:dk af 677 (.aload_n 0) 1:=by decide +kernel
theorem GL:dk af 678 (.bipush 8) 2:=by decide +kernel
theorem GM:dk af 680 (.caload) 1:=by decide +kernel
theorem GN:dk af 681 (.castore) 1:=by decide +kernel
theorem GO:dk af 682 (.dup) 1:=by decide +kernel
theorem GP:dk af 683 (.bipush 9) 2:=by decide +kernel
theorem GQ:dk af 685 (.aload_n 0) 1:=by decide +kernel
theorem GR:dk af 686 (.bipush 9) 2:=by decide +kernel
theorem GS:dk af 688 (.caload) 1:=by decide +kernel
theorem GT:dk af 689 (.castore) 1:=by decide +kernel
theorem GU:dk af 690 (.dup) 1:=by decide +kernel
theorem GV:dk af 691 (.bipush 10) 2:=by decide +kernel
theorem GW:dk af 693 (.aload_n 0) 1:=by decide +kernel
theorem GX:dk af 694 (.bipush 10) 2:=by decide +kernel
theorem GY:dk af 696 (.caload) 1:=by decide +kernel
theorem GZ:dk af 697 (.castore) 1:=by decide +kernel
theorem G0:dk af 698 (.dup) 1:=by decide +kernel
theorem G1:dk af 699 (.bipush 11) 2:=by decide +kernel
theorem G2:dk af 701 (.aload_n 0) 1:=by decide +kernel
theorem G3:dk af 702 (.bipush 11) 2:=by decide +kernel
theorem G4:dk af 704 (.caload) 1:=by decide +kernel
theorem G5:dk af 705 (.castore) 1:=by decide +kernel
theorem G6:dk af 706 (.invokespecial 23) 3:=by decide +kernel
theorem G7:dk af 709 (.areturn) 1:=by decide +kernel
theorem mQ:plainFor (⟨sg5,"take","([CI)Ljava/lang/String;"⟩:MethodName)=true:=plainFor_of_name (by first|(simp [plainName,overriddenIn];done)|decide +kernel)
def Oy (Z:State)(B:List Int32)(mm n0:Nat)(h0:Heap)(v:Option Value)(h:Heap)(L:List Loc):Prop:=∃(r:Addr)(cs:List Int32),v=some (.ref r)∧Fr n0 L∧Keep h0 h []∧n0≤r∧h0.size≤r∧a3 Z h h0.size h.size r cs∧cs.length=mm∧∀j,j<mm→cs.getD j 0=B.getD j 0
theorem G8 (b:Addr)(n:Int32)(m:MethodId):entryFrame m #[(.ref b),(.int n)] 2=mkF m 0 #[.val (.ref b),.val (.int n)] []:=by first|(simp [entryFrame,mkF,argsToLocals,Value.category];done)|rfl
theorem cTk (l:Launch)(Z:State)(a0:Array Value)(hw:HW a0 Z)(b:Addr)(n:Int32)(h0:Heap)(n0:Nat)(Z0:n0≤h0.size)(cst:Int32)(fm:Option Addr)(em:Addr)(SX_:SX Z cst fm em)(O0:Old Z n0 h0)(kb:ClassId)(B:List Int32)(mm:Nat)(V:Arv Z h0 b kb .char 12 (B.map Value.int) (.int 0))(hB:B.length=12)(hn:n.toInt=(mm:Int))(hm1:1≤mm)(hm2:mm≤12)(hch:∀j,j<mm→a6 (B.getD j 0)) :
  MF l Z h0 ⟨sg5,"take","([CI)Ljava/lang/String;"⟩ method_6_code 2 (some (.object sg1)) ⟨6,4,52,140⟩ #[(.ref b),(.int n)] (Oy Z B mm n0 h0):=by
 refine ai mQ (G8 b n) ?_
 intro p e s m below meth c T0 X0 hx hby hml hret hlk hnm hown hZ e0
 have N0:=Fr.nil n0
 refine aa X0 hx 1 (hb hby Pp) rfl rfl ?_
 refine ac X0 hx (1:Int32) 2 (hb hby Pq) rfl (by decide) ?_
 have ll1401:((1:Int32):Int32).toInt=1:=by decide
 refine av X0 hx 22 5 (hb hby Pr) (by decide) (by decide) rfl (fun c1400=>?_) (fun c1400=>?_)
 ·skip
  refine aa X0 hx 23 (hb hby Ny) rfl rfl ?_
  refine ac X0 hx (2:Int32) 24 (hb hby Nz) rfl (by decide) ?_
  have ll1403:((2:Int32):Int32).toInt=2:=by decide
  refine av X0 hx 50 27 (hb hby NA) (by decide) (by decide) rfl (fun c1402=>?_) (fun c1402=>?_)
  ·skip
   refine aa X0 hx 51 (hb hby NT) rfl rfl ?_
   refine ac X0 hx (3:Int32) 52 (hb hby NU) rfl (by decide) ?_
   have ll1405:((3:Int32):Int32).toInt=3:=by decide
   refine av X0 hx 84 55 (hb hby NV) (by decide) (by decide) rfl (fun c1404=>?_) (fun c1404=>?_)
   ·skip
    refine aa X0 hx 85 (hb hby Ol) rfl rfl ?_
    refine ac X0 hx (4:Int32) 86 (hb hby Om) rfl (by decide) ?_
    have ll1407:((4:Int32):Int32).toInt=4:=by decide
    refine av X0 hx 124 89 (hb hby On) (by decide) (by decide) rfl (fun c1406=>?_) (fun c1406=>?_)
    ·skip
     refine aa X0 hx 125 (hb hby yL) rfl rfl ?_
     refine ac X0 hx (5:Int32) 126 (hb hby yM) rfl (by decide) ?_
     have ll1409:((5:Int32):Int32).toInt=5:=by decide
     refine av X0 hx 170 129 (hb hby yN) (by decide) (by decide) rfl (fun c1408=>?_) (fun c1408=>?_)
     ·skip
      refine aa X0 hx 171 (hb hby zr) rfl rfl ?_
      refine aj X0 hx (6:Int32) 173 (hb hby zt) rfl (by decide) ?_
      have ll1411:((6:Int32):Int32).toInt=6:=by decide
      refine av X0 hx 224 176 (hb hby zu) (by decide) (by decide) rfl (fun c1410=>?_) (fun c1410=>?_)
      ·skip
       refine aa X0 hx 225 (hb hby Ah) rfl rfl ?_
       refine aj X0 hx (7:Int32) 227 (hb hby Ai) rfl (by decide) ?_
       have ll1413:((7:Int32):Int32).toInt=7:=by decide
       refine av X0 hx 286 230 (hb hby Aj) (by decide) (by decide) rfl (fun c1412=>?_) (fun c1412=>?_)
       ·skip
        refine aa X0 hx 287 (hb hby A7) rfl rfl ?_
        refine aj X0 hx (8:Int32) 289 (hb hby A8) rfl (by decide) ?_
        have ll1415:((8:Int32):Int32).toInt=8:=by decide
        refine av X0 hx 356 292 (hb hby A9) (by decide) (by decide) rfl (fun c1414=>?_) (fun c1414=>?_)
        ·skip
         refine aa X0 hx 357 (hb hby B8) rfl rfl ?_
         refine aj X0 hx (9:Int32) 359 (hb hby B9) rfl (by decide) ?_
         have ll1417:((9:Int32):Int32).toInt=9:=by decide
         refine av X0 hx 434 362 (hb hby B_) (by decide) (by decide) rfl (fun c1416=>?_) (fun c1416=>?_)
         ·skip
          refine aa X0 hx 435 (hb hby C_) rfl rfl ?_
          refine aj X0 hx (10:Int32) 437 (hb hby Da) rfl (by decide) ?_
          have ll1419:((10:Int32):Int32).toInt=10:=by decide
          refine av X0 hx 520 440 (hb hby Db) (by decide) (by decide) rfl (fun c1418=>?_) (fun c1418=>?_)
          ·skip
           refine aa X0 hx 521 (hb hby Eo) rfl rfl ?_
           refine aj X0 hx (11:Int32) 523 (hb hby Er) rfl (by decide) ?_
           have ll1421:((11:Int32):Int32).toInt=11:=by decide
           refine av X0 hx 614 526 (hb hby Es) (by decide) (by decide) rfl (fun c1420=>?_) (fun c1420=>?_)
           ·skip
            refine bg X0 hx hZ hown (tw hw 5 rfl) (tw hw 6 rfl) (tw hw 7 rfl) e0 617 (hb hby FO) rfl (by decide) (by decide) ?_
            intro T1422 h1422 a1422 g1422 X1422 e1422 E1422 A1422 D1422
            have ne1423:b≠a1422:=Nat.ne_of_lt (by rw[g1422];exact V.lt)
            have ge1424:n0≤a1422:=by rw[g1422];exact Z0
            have sz1425:h0.size≤a1422:=by rw[g1422];exact (Keep.refl h0 []).1
            have F1426:=O0.ext E1422
            have F1427:=V.ext E1422
            have K1428:=(Keep.refl h0 []).ext E1422
            have Z1429:n0≤h1422.size:=Nat.le_trans Z0 E1422.1
            have F1430:Fld Z h1422 a1422 sg1 "coder" "B" (.int (0:Int32)):=D1422 (Or.inr (tw hw 31 rfl)) (ty := .byte) (by decide)
            have F1431:Fld Z h1422 a1422 sg1 "value" "[B" .null:=D1422 (Or.inr (tw hw 33 rfl)) (ty:=(.array .byte)) (by decide)
            refine a8 X1422 hx 618 (hb hby FP) rfl rfl ?_
            refine aj X1422 hx (12:Int32) 620 (hb hby FQ) rfl (by decide) ?_
            refine aO X1422 hx hZ (aty := .char) (tw hw 0 rfl) e1422 (by decide) (cap:=12) (by decide) (by decide) 622 (hb hby FR) rfl (by decide) (by decide) (ad := "[C") (by decide) ?_
            intro T1432 h1432 k1432 a1432 g1432 X1432 e1432 E1432 V1432 A1432
            have ne1433:b≠a1432:=Nat.ne_of_lt (by rw[g1432];exact F1427.lt)
            have ne1434:a1422≠a1432:=Nat.ne_of_lt (by rw[g1432];exact A1422.lt)
            have ge1435:n0≤a1432:=by rw[g1432];exact Z1429
            have sz1436:h0.size≤a1432:=by rw[g1432];exact K1428.1
            have F1437:=F1426.ext E1432
            have F1438:=F1427.ext E1432
            have F1439:=A1422.ext E1432
            have F1440:=F1430.ext E1432
            have F1441:=F1431.ext E1432
            have K1442:=K1428.ext E1432
            have Z1443:n0≤h1432.size:=Nat.le_trans Z1429 E1432.1
            have V1432':Arv Z h1432 a1432 k1432 .char (12:Int32) [(.int (0:Int32)),(.int (0:Int32)),(.int (0:Int32)),(.int (0:Int32)),(.int (0:Int32)),(.int (0:Int32)),(.int (0:Int32)),(.int (0:Int32)),(.int (0:Int32)),(.int (0:Int32)),(.int (0:Int32)),(.int (0:Int32))] (.int (0:Int32)):=V1432.pad (pad_rep [] (.int (0:Int32)) 12)
            have hk:mm=12:=by omega
            subst hk
            refine az X1432 hx hZ e1432 F1438 V1432' ne1433 (0:Int32) 0 (by decide) (by decide) (by decide) (by decide) (by simp) (hch 0 (by omega)) rfl (hb hby FS) (hb hby FT) (hb hby FU) (hb hby FV) (hb hby FW) (hb hby FX) 628 rfl ?_
            intro T1444 h1444 X1444 e1444 k1444 V1444 C1444
            have N1445:=Fr.snoc X1444 N0 ge1435
            have K1446:=Keep.trans (Keep.refl h1432 [a1432]) k1444 (fun x hx=>Or.inl hx)
            refine az X1444 hx hZ e1444 V1444 C1444 ne1433 (1:Int32) 1 (by decide) (by decide) (by decide) (by decide) (by simp) (hch 1 (by omega)) rfl (hb hby FY) (hb hby FZ) (hb hby F0) (hb hby F4) (hb hby F5) (hb hby F7) 634 rfl ?_
            intro T1447 h1447 X1447 e1447 k1447 V1447 C1447
            have N1448:=Fr.snoc X1447 N1445 ge1435
            have K1449:=Keep.trans K1446 k1447 (fun x hx=>Or.inl hx)
            refine az X1447 hx hZ e1447 V1447 C1447 ne1433 (2:Int32) 2 (by decide) (by decide) (by decide) (by decide) (by simp) (hch 2 (by omega)) rfl (hb hby F8) (hb hby F9) (hb hby F_) (hb hby Ga) (hb hby Gb) (hb hby Gc) 640 rfl ?_
            intro T1450 h1450 X1450 e1450 k1450 V1450 C1450
            have N1451:=Fr.snoc X1450 N1448 ge1435
            have K1452:=Keep.trans K1449 k1450 (fun x hx=>Or.inl hx)
            refine az X1450 hx hZ e1450 V1450 C1450 ne1433 (3:Int32) 3 (by decide) (by decide) (by decide) (by decide) (by simp) (hch 3 (by omega)) rfl (hb hby Gd) (hb hby Ge) (hb hby Gf) (hb hby Gg) (hb hby Gh) (hb hby Gi) 646 rfl ?_
            intro T1453 h1453 X1453 e1453 k1453 V1453 C1453
            have N1454:=Fr.snoc X1453 N1451 ge1435
            have K1455:=Keep.trans K1452 k1453 (fun x hx=>Or.inl hx)
            refine az X1453 hx hZ e1453 V1453 C1453 ne1433 (4:Int32) 4 (by decide) (by decide) (by decide) (by decide) (by simp) (hch 4 (by omega)) rfl (hb hby Gj) (hb hby Gk) (hb hby Gl) (hb hby Gm) (hb hby Gn) (hb hby Gp) 652 rfl ?_
            intro T1456 h1456 X1456 e1456 k1456 V1456 C1456
            have N1457:=Fr.snoc X1456 N1454 ge1435
            have K1458:=Keep.trans K1455 k1456 (fun x hx=>Or.inl hx)
            refine az X1456 hx hZ e1456 V1456 C1456 ne1433 (5:Int32) 5 (by decide) (by decide) (by decide) (by decide) (by simp) (hch 5 (by omega)) rfl (hb hby Gq) (hb hby Gr) (hb hby Gs) (hb hby Gt) (hb hby Gu) (hb hby Gv) 658 rfl ?_
            intro T1459 h1459 X1459 e1459 k1459 V1459 C1459
            have N1460:=Fr.snoc X1459 N1457 ge1435
            have K1461:=Keep.trans K1458 k1459 (fun x hx=>Or.inl hx)
            refine bi X1459 hx hZ e1459 V1459 C1459 ne1433 (6:Int32) 6 (by decide) (by decide) (by decide) (by decide) (by simp) (hch 6 (by omega)) rfl (hb hby Gw) (hb hby Gx) (hb hby Gy) (hb hby Gz) (hb hby GA) (hb hby GB) 666 rfl ?_
            intro T1462 h1462 X1462 e1462 k1462 V1462 C1462
            have N1463:=Fr.snoc X1462 N1460 ge1435
            have K1464:=Keep.trans K1461 k1462 (fun x hx=>Or.inl hx)
            refine bi X1462 hx hZ e1462 V1462 C1462 ne1433 (7:Int32) 7 (by decide) (by decide) (by decide) (by decide) (by simp) (hch 7 (by omega)) rfl (hb hby GC) (hb hby GD) (hb hby GE) (hb hby GF) (hb hby GG) (hb hby GH) 674 rfl ?_
            intro T1465 h1465 X1465 e1465 k1465 V1465 C1465
            have N1466:=Fr.snoc X1465 N1463 ge1435
            have K1467:=Keep.trans K1464 k1465 (fun x hx=>Or.inl hx)
            refine bi X1465 hx hZ e1465 V1465 C1465 ne1433 (8:Int32) 8 (by decide) (by decide) (by decide) (by decide) (by simp) (hch 8 (by omega)) rfl (hb hby GI) (hb hby GJ) (hb hby GK) (hb hby GL) (hb hby GM) (hb hby GN) 682 rfl ?_
            intro T1468 h1468 X1468 e1468 k1468 V1468 C1468
            have N1469:=Fr.snoc X1468 N1466 ge1435
            have K1470:=Keep.trans K1467 k1468 (fun x hx=>Or.inl hx)
            refine bi X1468 hx hZ e1468 V1468 C1468 ne1433 (9:Int32) 9 (by decide) (by decide) (by decide) (by decide) (by simp) (hch 9 (by omega)) rfl (hb hby GO) (hb hby GP) (hb hby GQ) (hb hby GR) (hb hby GS) (hb hby GT) 690 rfl ?_
            intro T1471 h1471 X1471 e1471 k1471 V1471 C1471
            have N1472:=Fr.snoc X1471 N1469 ge1435
            have K1473:=Keep.trans K1470 k1471 (fun x hx=>Or.inl hx)
            refine bi X1471 hx hZ e1471 V1471 C1471 ne1433 (10:Int32) 10 (by decide) (by decide) (by decide) (by decide) (by simp) (hch 10 (by omega)) rfl (hb hby GU) (hb hby GV) (hb hby GW) (hb hby GX) (hb hby GY) (hb hby GZ) 698 rfl ?_
            intro T1474 h1474 X1474 e1474 k1474 V1474 C1474
            have N1475:=Fr.snoc X1474 N1472 ge1435
            have K1476:=Keep.trans K1473 k1474 (fun x hx=>Or.inl hx)
            refine bi X1474 hx hZ e1474 V1474 C1474 ne1433 (11:Int32) 11 (by decide) (by decide) (by decide) (by decide) (by simp) (hch 11 (by omega)) rfl (hb hby G0) (hb hby G1) (hb hby G2) (hb hby G3) (hb hby G4) (hb hby G5) 706 rfl ?_
            intro T1477 h1477 X1477 e1477 k1477 V1477 C1477
            have N1478:=Fr.snoc X1477 N1475 ge1435
            have K1479:=Keep.trans K1476 k1477 (fun x hx=>Or.inl hx)
            have F1480:=F1437.keep K1479 (allS ge1435 all0)
            have F1481:=F1438.keep K1479 (ninS ne1433 nin0)
            have F1482:=F1439.keep K1479
            have F1483:=F1440.keep K1479 (ninS ne1434 nin0)
            have F1484:=F1441.keep K1479 (ninS ne1434 nin0)
            have F1485:=A1432.keep K1479
            have Z1487:n0≤h1477.size:=Nat.le_trans Z1443 K1479.1
            have K1488:=K1442.trans K1479 (allS (Or.inr sz1436) all0)
            have D12:Arv Z h1477 a1432 k1432 .char 12 ([B.getD 0 0,B.getD 1 0,B.getD 2 0,B.getD 3 0,B.getD 4 0,B.getD 5 0,B.getD 6 0,B.getD 7 0,B.getD 8 0,B.getD 9 0,B.getD 10 0,B.getD 11 0].map Value.int) (.int 0):=C1477
            show Go _ _ _ _ _ (mkF _ _ _ [(.ref a1432),(.ref a1422),(.ref a1422)])
            have hcs:Cs [B.getD 0 0,B.getD 1 0,B.getD 2 0,B.getD 3 0,B.getD 4 0,B.getD 5 0,B.getD 6 0,B.getD 7 0,B.getD 8 0,B.getD 9 0,B.getD 10 0,B.getD 11 0]:=⟨by show 1≤12;decide,by show 12≤12;decide,fun j hj=>by
             match j,hj with
             | 0,_=>exact hch 0 (by omega)
             | 1,_=>exact hch 1 (by omega)
             | 2,_=>exact hch 2 (by omega)
             | 3,_=>exact hch 3 (by omega)
             | 4,_=>exact hch 4 (by omega)
             | 5,_=>exact hch 5 (by omega)
             | 6,_=>exact hch 6 (by omega)
             | 7,_=>exact hch 7 (by omega)
             | 8,_=>exact hch 8 (by omega)
             | 9,_=>exact hch 9 (by omega)
             | 10,_=>exact hch 10 (by omega)
             | 11,_=>exact hch 11 (by omega)⟩
            refine aN X1477 hx hZ rfl hown (tw hw 8 rfl) (tw hw 9 rfl) (tw hw 7 rfl) (tw hw 10 rfl) (by decide) (cI1 l Z a0 hw a1422 a1432 h1477 n0 Z1487 cst fm em SX_ F1480 k1432 12 [B.getD 0 0,B.getD 1 0,B.getD 2 0,B.getD 3 0,B.getD 4 0,B.getD 5 0,B.getD 6 0,B.getD 7 0,B.getD 8 0,B.getD 9 0,B.getD 10 0,B.getD 11 0] F1482 ge1424 ne1434 F1483 F1484 D12 hcs (by show (12:Int32).toInt=((12:Nat):Int);decide)) e1477 (a:=a1422) (argsL:=[(.ref a1432)]) (rest:=[(.ref a1422)]) rfl rfl 1 709 rfl (by rw[hml];rfl) (lenOf bj rfl) (Nat.le_refl _) (by decide) (by decide) (by decide) (by decide) (hb hby G6) ?_
            intro v1489 T1489 L1489 X1489 hQ1489
            obtain⟨rfl,N1489,K1489,bb,kbb,zz,vvs,co,gb,sb,c_,v_,hE,Vb⟩:=hQ1489
            have sb1:=Nat.le_trans (K1488).1 sb
            have N1490:=Fr.app N1478 N1489
            have F1491:=F1480.keep K1489 (allS ge1424 all0)
            have F1492:=F1481.keep K1489 (ninS ne1423 nin0)
            have F1493:=F1482.keep K1489
            have F1496:=F1485.keep K1489
            have F1497:=C1477.keep K1489 (ninS (Ne.symm ne1434) nin0)
            have Z1498:n0≤T1489.heap.size:=Nat.le_trans Z1487 K1489.1
            have K1499:=K1488.trans K1489 (allS (Or.inr sz1425) all0)
            show Go _ _ _ _ _ (mkF _ _ _ [(.ref a1422)])
            exact aA X1489 hx hlk hret rfl rfl rfl (hb hby G7) (by decide) (by decide) rfl ⟨a1422,[B.getD 0 0,B.getD 1 0,B.getD 2 0,B.getD 3 0,B.getD 4 0,B.getD 5 0,B.getD 6 0,B.getD 7 0,B.getD 8 0,B.getD 9 0,B.getD 10 0,B.getD 11 0],rfl,N1490,K1499,ge1424,sz1425,⟨hcs,⟨sz1425,F1493.lt⟩,bb,kbb,zz,vvs,co,⟨sb1,Vb.lt⟩,F1493,c_,v_,Vb,hE⟩,rfl,fun j hj=>by
             match j,hj with
             | 0,_=>rfl
             | 1,_=>rfl
             | 2,_=>rfl
             | 3,_=>rfl
             | 4,_=>rfl
             | 5,_=>rfl
             | 6,_=>rfl
             | 7,_=>rfl
             | 8,_=>rfl
             | 9,_=>rfl
             | 10,_=>rfl
             | 11,_=>rfl⟩
           ·skip
            refine bg X0 hx hZ hown (tw hw 5 rfl) (tw hw 6 rfl) (tw hw 7 rfl) e0 529 (hb hby Et) rfl (by decide) (by decide) ?_
            intro T1500 h1500 a1500 g1500 X1500 e1500 E1500 A1500 D1500
            have ne1501:b≠a1500:=Nat.ne_of_lt (by rw[g1500];exact V.lt)
            have ge1502:n0≤a1500:=by rw[g1500];exact Z0
            have sz1503:h0.size≤a1500:=by rw[g1500];exact (Keep.refl h0 []).1
            have F1504:=O0.ext E1500
            have F1505:=V.ext E1500
            have K1506:=(Keep.refl h0 []).ext E1500
            have Z1507:n0≤h1500.size:=Nat.le_trans Z0 E1500.1
            have F1508:Fld Z h1500 a1500 sg1 "coder" "B" (.int (0:Int32)):=D1500 (Or.inr (tw hw 31 rfl)) (ty := .byte) (by decide)
            have F1509:Fld Z h1500 a1500 sg1 "value" "[B" .null:=D1500 (Or.inr (tw hw 33 rfl)) (ty:=(.array .byte)) (by decide)
            refine a8 X1500 hx 530 (hb hby Eu) rfl rfl ?_
            refine aj X1500 hx (11:Int32) 532 (hb hby Ey) rfl (by decide) ?_
            refine aO X1500 hx hZ (aty := .char) (tw hw 0 rfl) e1500 (by decide) (cap:=11) (by decide) (by decide) 534 (hb hby Ez) rfl (by decide) (by decide) (ad := "[C") (by decide) ?_
            intro T1510 h1510 k1510 a1510 g1510 X1510 e1510 E1510 V1510 A1510
            have ne1511:b≠a1510:=Nat.ne_of_lt (by rw[g1510];exact F1505.lt)
            have ne1512:a1500≠a1510:=Nat.ne_of_lt (by rw[g1510];exact A1500.lt)
            have ge1513:n0≤a1510:=by rw[g1510];exact Z1507
            have sz1514:h0.size≤a1510:=by rw[g1510];exact K1506.1
            have F1515:=F1504.ext E1510
            have F1516:=F1505.ext E1510
            have F1517:=A1500.ext E1510
            have F1518:=F1508.ext E1510
            have F1519:=F1509.ext E1510
            have K1520:=K1506.ext E1510
            have Z1521:n0≤h1510.size:=Nat.le_trans Z1507 E1510.1
            have V1510':Arv Z h1510 a1510 k1510 .char (11:Int32) [(.int (0:Int32)),(.int (0:Int32)),(.int (0:Int32)),(.int (0:Int32)),(.int (0:Int32)),(.int (0:Int32)),(.int (0:Int32)),(.int (0:Int32)),(.int (0:Int32)),(.int (0:Int32)),(.int (0:Int32))] (.int (0:Int32)):=V1510.pad (pad_rep [] (.int (0:Int32)) 11)
            have hk:mm=11:=by omega
            subst hk
            refine az X1510 hx hZ e1510 F1516 V1510' ne1511 (0:Int32) 0 (by decide) (by decide) (by decide) (by decide) (by simp) (hch 0 (by omega)) rfl (hb hby EA) (hb hby EB) (hb hby EC) (hb hby ED) (hb hby EE) (hb hby EF) 540 rfl ?_
            intro T1522 h1522 X1522 e1522 k1522 V1522 C1522
            have N1523:=Fr.snoc X1522 N0 ge1513
            have K1524:=Keep.trans (Keep.refl h1510 [a1510]) k1522 (fun x hx=>Or.inl hx)
            refine az X1522 hx hZ e1522 V1522 C1522 ne1511 (1:Int32) 1 (by decide) (by decide) (by decide) (by decide) (by simp) (hch 1 (by omega)) rfl (hb hby EG) (hb hby EH) (hb hby EI) (hb hby EJ) (hb hby EK) (hb hby EM) 546 rfl ?_
            intro T1525 h1525 X1525 e1525 k1525 V1525 C1525
            have N1526:=Fr.snoc X1525 N1523 ge1513
            have K1527:=Keep.trans K1524 k1525 (fun x hx=>Or.inl hx)
            refine az X1525 hx hZ e1525 V1525 C1525 ne1511 (2:Int32) 2 (by decide) (by decide) (by decide) (by decide) (by simp) (hch 2 (by omega)) rfl (hb hby EN) (hb hby EO) (hb hby EP) (hb hby EQ) (hb hby ER) (hb hby ES) 552 rfl ?_
            intro T1528 h1528 X1528 e1528 k1528 V1528 C1528
            have N1529:=Fr.snoc X1528 N1526 ge1513
            have K1530:=Keep.trans K1527 k1528 (fun x hx=>Or.inl hx)
            refine az X1528 hx hZ e1528 V1528 C1528 ne1511 (3:Int32) 3 (by decide) (by decide) (by decide) (by decide) (by simp) (hch 3 (by omega)) rfl (hb hby ET) (hb hby EU) (hb hby EV) (hb hby EX) (hb hby EY) (hb hby EZ) 558 rfl ?_
            intro T1531 h1531 X1531 e1531 k1531 V1531 C1531
            have N1532:=Fr.snoc X1531 N1529 ge1513
            have K1533:=Keep.trans K1530 k1531 (fun x hx=>Or.inl hx)
            refine az X1531 hx hZ e1531 V1531 C1531 ne1511 (4:Int32) 4 (by decide) (by decide) (by decide) (by decide) (by simp) (hch 4 (by omega)) rfl (hb hby E0) (hb hby E1) (hb hby E2) (hb hby E3) (hb hby E4) (hb hby E5) 564 rfl ?_
            intro T1534 h1534 X1534 e1534 k1534 V1534 C1534
            have N1535:=Fr.snoc X1534 N1532 ge1513
            have K1536:=Keep.trans K1533 k1534 (fun x hx=>Or.inl hx)
            refine az X1534 hx hZ e1534 V1534 C1534 ne1511 (5:Int32) 5 (by decide) (by decide) (by decide) (by decide) (by simp) (hch 5 (by omega)) rfl (hb hby E6) (hb hby E7) (hb hby E8) (hb hby E9) (hb hby E_) (hb hby Fa) 570 rfl ?_
            intro T1537 h1537 X1537 e1537 k1537 V1537 C1537
            have N1538:=Fr.snoc X1537 N1535 ge1513
            have K1539:=Keep.trans K1536 k1537 (fun x hx=>Or.inl hx)
            refine bi X1537 hx hZ e1537 V1537 C1537 ne1511 (6:Int32) 6 (by decide) (by decide) (by decide) (by decide) (by simp) (hch 6 (by omega)) rfl (hb hby Fb) (hb hby Fd) (hb hby Fe) (hb hby Ff) (hb hby Fg) (hb hby Fh) 578 rfl ?_
            intro T1540 h1540 X1540 e1540 k1540 V1540 C1540
            have N1541:=Fr.snoc X1540 N1538 ge1513
            have K1542:=Keep.trans K1539 k1540 (fun x hx=>Or.inl hx)
            refine bi X1540 hx hZ e1540 V1540 C1540 ne1511 (7:Int32) 7 (by decide) (by decide) (by decide) (by decide) (by simp) (hch 7 (by omega)) rfl (hb hby Fi) (hb hby Fj) (hb hby Fk) (hb hby Fm) (hb hby Fo) (hb hby Fp) 586 rfl ?_
            intro T1543 h1543 X1543 e1543 k1543 V1543 C1543
            have N1544:=Fr.snoc X1543 N1541 ge1513
            have K1545:=Keep.trans K1542 k1543 (fun x hx=>Or.inl hx)
            refine bi X1543 hx hZ e1543 V1543 C1543 ne1511 (8:Int32) 8 (by decide) (by decide) (by decide) (by decide) (by simp) (hch 8 (by omega)) rfl (hb hby Fq) (hb hby Ft) (hb hby Fu) (hb hby Fx) (hb hby Fy) (hb hby Fz) 594 rfl ?_
            intro T1546 h1546 X1546 e1546 k1546 V1546 C1546
            have N1547:=Fr.snoc X1546 N1544 ge1513
            have K1548:=Keep.trans K1545 k1546 (fun x hx=>Or.inl hx)
            refine bi X1546 hx hZ e1546 V1546 C1546 ne1511 (9:Int32) 9 (by decide) (by decide) (by decide) (by decide) (by simp) (hch 9 (by omega)) rfl (hb hby FA) (hb hby FB) (hb hby FC) (hb hby FD) (hb hby FE) (hb hby FF) 602 rfl ?_
            intro T1549 h1549 X1549 e1549 k1549 V1549 C1549
            have N1550:=Fr.snoc X1549 N1547 ge1513
            have K1551:=Keep.trans K1548 k1549 (fun x hx=>Or.inl hx)
            refine bi X1549 hx hZ e1549 V1549 C1549 ne1511 (10:Int32) 10 (by decide) (by decide) (by decide) (by decide) (by simp) (hch 10 (by omega)) rfl (hb hby FG) (hb hby FH) (hb hby FI) (hb hby FJ) (hb hby FK) (hb hby FL) 610 rfl ?_
            intro T1552 h1552 X1552 e1552 k1552 V1552 C1552
            have N1553:=Fr.snoc X1552 N1550 ge1513
            have K1554:=Keep.trans K1551 k1552 (fun x hx=>Or.inl hx)
            have F1555:=F1515.keep K1554 (allS ge1513 all0)
            have F1556:=F1516.keep K1554 (ninS ne1511 nin0)
            have F1557:=F1517.keep K1554
            have F1558:=F1518.keep K1554 (ninS ne1512 nin0)
            have F1559:=F1519.keep K1554 (ninS ne1512 nin0)
            have F1560:=A1510.keep K1554
            have Z1562:n0≤h1552.size:=Nat.le_trans Z1521 K1554.1
            have K1563:=K1520.trans K1554 (allS (Or.inr sz1514) all0)
            have D11:Arv Z h1552 a1510 k1510 .char 11 ([B.getD 0 0,B.getD 1 0,B.getD 2 0,B.getD 3 0,B.getD 4 0,B.getD 5 0,B.getD 6 0,B.getD 7 0,B.getD 8 0,B.getD 9 0,B.getD 10 0].map Value.int) (.int 0):=C1552
            show Go _ _ _ _ _ (mkF _ _ _ [(.ref a1510),(.ref a1500),(.ref a1500)])
            have hcs:Cs [B.getD 0 0,B.getD 1 0,B.getD 2 0,B.getD 3 0,B.getD 4 0,B.getD 5 0,B.getD 6 0,B.getD 7 0,B.getD 8 0,B.getD 9 0,B.getD 10 0]:=⟨by show 1≤11;decide,by show 11≤12;decide,fun j hj=>by
             match j,hj with
             | 0,_=>exact hch 0 (by omega)
             | 1,_=>exact hch 1 (by omega)
             | 2,_=>exact hch 2 (by omega)
             | 3,_=>exact hch 3 (by omega)
             | 4,_=>exact hch 4 (by omega)
             | 5,_=>exact hch 5 (by omega)
             | 6,_=>exact hch 6 (by omega)
             | 7,_=>exact hch 7 (by omega)
             | 8,_=>exact hch 8 (by omega)
             | 9,_=>exact hch 9 (by omega)
             | 10,_=>exact hch 10 (by omega)⟩
            refine aN X1552 hx hZ rfl hown (tw hw 8 rfl) (tw hw 9 rfl) (tw hw 7 rfl) (tw hw 10 rfl) (by decide) (cI1 l Z a0 hw a1500 a1510 h1552 n0 Z1562 cst fm em SX_ F1555 k1510 11 [B.getD 0 0,B.getD 1 0,B.getD 2 0,B.getD 3 0,B.getD 4 0,B.getD 5 0,B.getD 6 0,B.getD 7 0,B.getD 8 0,B.getD 9 0,B.getD 10 0] F1557 ge1502 ne1512 F1558 F1559 D11 hcs (by show (11:Int32).toInt=((11:Nat):Int);decide)) e1552 (a:=a1500) (argsL:=[(.ref a1510)]) (rest:=[(.ref a1500)]) rfl rfl 1 613 rfl (by rw[hml];rfl) (lenOf bj rfl) (Nat.le_refl _) (by decide) (by decide) (by decide) (by decide) (hb hby FM) ?_
            intro v1564 T1564 L1564 X1564 hQ1564
            obtain⟨rfl,N1564,K1564,bb,kbb,zz,vvs,co,gb,sb,c_,v_,hE,Vb⟩:=hQ1564
            have sb1:=Nat.le_trans (K1563).1 sb
            have N1565:=Fr.app N1553 N1564
            have F1566:=F1555.keep K1564 (allS ge1502 all0)
            have F1567:=F1556.keep K1564 (ninS ne1501 nin0)
            have F1568:=F1557.keep K1564
            have F1571:=F1560.keep K1564
            have F1572:=C1552.keep K1564 (ninS (Ne.symm ne1512) nin0)
            have Z1573:n0≤T1564.heap.size:=Nat.le_trans Z1562 K1564.1
            have K1574:=K1563.trans K1564 (allS (Or.inr sz1503) all0)
            show Go _ _ _ _ _ (mkF _ _ _ [(.ref a1500)])
            exact aA X1564 hx hlk hret rfl rfl rfl (hb hby FN) (by decide) (by decide) rfl ⟨a1500,[B.getD 0 0,B.getD 1 0,B.getD 2 0,B.getD 3 0,B.getD 4 0,B.getD 5 0,B.getD 6 0,B.getD 7 0,B.getD 8 0,B.getD 9 0,B.getD 10 0],rfl,N1565,K1574,ge1502,sz1503,⟨hcs,⟨sz1503,F1568.lt⟩,bb,kbb,zz,vvs,co,⟨sb1,Vb.lt⟩,F1568,c_,v_,Vb,hE⟩,rfl,fun j hj=>by
             match j,hj with
             | 0,_=>rfl
             | 1,_=>rfl
             | 2,_=>rfl
             | 3,_=>rfl
             | 4,_=>rfl
             | 5,_=>rfl
             | 6,_=>rfl
             | 7,_=>rfl
             | 8,_=>rfl
             | 9,_=>rfl
             | 10,_=>rfl⟩
          ·skip
           refine bg X0 hx hZ hown (tw hw 5 rfl) (tw hw 6 rfl) (tw hw 7 rfl) e0 443 (hb hby Dc) rfl (by decide) (by decide) ?_
           intro T1575 h1575 a1575 g1575 X1575 e1575 E1575 A1575 D1575
           have ne1576:b≠a1575:=Nat.ne_of_lt (by rw[g1575];exact V.lt)
           have ge1577:n0≤a1575:=by rw[g1575];exact Z0
           have sz1578:h0.size≤a1575:=by rw[g1575];exact (Keep.refl h0 []).1
           have F1579:=O0.ext E1575
           have F1580:=V.ext E1575
           have K1581:=(Keep.refl h0 []).ext E1575
           have Z1582:n0≤h1575.size:=Nat.le_trans Z0 E1575.1
           have F1583:Fld Z h1575 a1575 sg1 "coder" "B" (.int (0:Int32)):=D1575 (Or.inr (tw hw 31 rfl)) (ty := .byte) (by decide)
           have F1584:Fld Z h1575 a1575 sg1 "value" "[B" .null:=D1575 (Or.inr (tw hw 33 rfl)) (ty:=(.array .byte)) (by decide)
           refine a8 X1575 hx 444 (hb hby Dd) rfl rfl ?_
           refine aj X1575 hx (10:Int32) 446 (hb hby De) rfl (by decide) ?_
           refine aO X1575 hx hZ (aty := .char) (tw hw 0 rfl) e1575 (by decide) (cap:=10) (by decide) (by decide) 448 (hb hby Df) rfl (by decide) (by decide) (ad := "[C") (by decide) ?_
           intro T1585 h1585 k1585 a1585 g1585 X1585 e1585 E1585 V1585 A1585
           have ne1586:b≠a1585:=Nat.ne_of_lt (by rw[g1585];exact F1580.lt)
           have ne1587:a1575≠a1585:=Nat.ne_of_lt (by rw[g1585];exact A1575.lt)
           have ge1588:n0≤a1585:=by rw[g1585];exact Z1582
           have sz1589:h0.size≤a1585:=by rw[g1585];exact K1581.1
           have F1590:=F1579.ext E1585
           have F1591:=F1580.ext E1585
           have F1592:=A1575.ext E1585
           have F1593:=F1583.ext E1585
           have F1594:=F1584.ext E1585
           have K1595:=K1581.ext E1585
           have Z1596:n0≤h1585.size:=Nat.le_trans Z1582 E1585.1
           have V1585':Arv Z h1585 a1585 k1585 .char (10:Int32) [(.int (0:Int32)),(.int (0:Int32)),(.int (0:Int32)),(.int (0:Int32)),(.int (0:Int32)),(.int (0:Int32)),(.int (0:Int32)),(.int (0:Int32)),(.int (0:Int32)),(.int (0:Int32))] (.int (0:Int32)):=V1585.pad (pad_rep [] (.int (0:Int32)) 10)
           have hk:mm=10:=by omega
           subst hk
           refine az X1585 hx hZ e1585 F1591 V1585' ne1586 (0:Int32) 0 (by decide) (by decide) (by decide) (by decide) (by simp) (hch 0 (by omega)) rfl (hb hby Dg) (hb hby Dh) (hb hby Di) (hb hby Dj) (hb hby Dk) (hb hby Dl) 454 rfl ?_
           intro T1597 h1597 X1597 e1597 k1597 V1597 C1597
           have N1598:=Fr.snoc X1597 N0 ge1588
           have K1599:=Keep.trans (Keep.refl h1585 [a1585]) k1597 (fun x hx=>Or.inl hx)
           refine az X1597 hx hZ e1597 V1597 C1597 ne1586 (1:Int32) 1 (by decide) (by decide) (by decide) (by decide) (by simp) (hch 1 (by omega)) rfl (hb hby Dm) (hb hby Dn) (hb hby Do) (hb hby Dp) (hb hby Dq) (hb hby Dr) 460 rfl ?_
           intro T1600 h1600 X1600 e1600 k1600 V1600 C1600
           have N1601:=Fr.snoc X1600 N1598 ge1588
           have K1602:=Keep.trans K1599 k1600 (fun x hx=>Or.inl hx)
           refine az X1600 hx hZ e1600 V1600 C1600 ne1586 (2:Int32) 2 (by decide) (by decide) (by decide) (by decide) (by simp) (hch 2 (by omega)) rfl (hb hby Ds) (hb hby Dt) (hb hby Du) (hb hby Dv) (hb hby Dw) (hb hby Dx) 466 rfl ?_
           intro T1603 h1603 X1603 e1603 k1603 V1603 C1603
           have N1604:=Fr.snoc X1603 N1601 ge1588
           have K1605:=Keep.trans K1602 k1603 (fun x hx=>Or.inl hx)
           refine az X1603 hx hZ e1603 V1603 C1603 ne1586 (3:Int32) 3 (by decide) (by decide) (by decide) (by decide) (by simp) (hch 3 (by omega)) rfl (hb hby Dy) (hb hby Dz) (hb hby DA) (hb hby DB) (hb hby DC) (hb hby DD) 472 rfl ?_
           intro T1606 h1606 X1606 e1606 k1606 V1606 C1606
           have N1607:=Fr.snoc X1606 N1604 ge1588
           have K1608:=Keep.trans K1605 k1606 (fun x hx=>Or.inl hx)
           refine az X1606 hx hZ e1606 V1606 C1606 ne1586 (4:Int32) 4 (by decide) (by decide) (by decide) (by decide) (by simp) (hch 4 (by omega)) rfl (hb hby DE) (hb hby DF) (hb hby DG) (hb hby DH) (hb hby DI) (hb hby DJ) 478 rfl ?_
           intro T1609 h1609 X1609 e1609 k1609 V1609 C1609
           have N1610:=Fr.snoc X1609 N1607 ge1588
           have K1611:=Keep.trans K1608 k1609 (fun x hx=>Or.inl hx)
           refine az X1609 hx hZ e1609 V1609 C1609 ne1586 (5:Int32) 5 (by decide) (by decide) (by decide) (by decide) (by simp) (hch 5 (by omega)) rfl (hb hby DK) (hb hby DL) (hb hby DM) (hb hby DN) (hb hby DO) (hb hby DP) 484 rfl ?_
           intro T1612 h1612 X1612 e1612 k1612 V1612 C1612
           have N1613:=Fr.snoc X1612 N1610 ge1588
           have K1614:=Keep.trans K1611 k1612 (fun x hx=>Or.inl hx)
           refine bi X1612 hx hZ e1612 V1612 C1612 ne1586 (6:Int32) 6 (by decide) (by decide) (by decide) (by decide) (by simp) (hch 6 (by omega)) rfl (hb hby DQ) (hb hby DR) (hb hby DS) (hb hby DT) (hb hby DU) (hb hby DV) 492 rfl ?_
           intro T1615 h1615 X1615 e1615 k1615 V1615 C1615
           have N1616:=Fr.snoc X1615 N1613 ge1588
           have K1617:=Keep.trans K1614 k1615 (fun x hx=>Or.inl hx)
           refine bi X1615 hx hZ e1615 V1615 C1615 ne1586 (7:Int32) 7 (by decide) (by decide) (by decide) (by decide) (by simp) (hch 7 (by omega)) rfl (hb hby DW) (hb hby DX) (hb hby DY) (hb hby DZ) (hb hby D0) (hb hby D_) 500 rfl ?_
           intro T1618 h1618 X1618 e1618 k1618 V1618 C1618
           have N1619:=Fr.snoc X1618 N1616 ge1588
           have K1620:=Keep.trans K1617 k1618 (fun x hx=>Or.inl hx)
           refine bi X1618 hx hZ e1618 V1618 C1618 ne1586 (8:Int32) 8 (by decide) (by decide) (by decide) (by decide) (by simp) (hch 8 (by omega)) rfl (hb hby Ea) (hb hby Eb) (hb hby Ec) (hb hby Ed) (hb hby Ee) (hb hby Ef) 508 rfl ?_
           intro T1621 h1621 X1621 e1621 k1621 V1621 C1621
           have N1622:=Fr.snoc X1621 N1619 ge1588
           have K1623:=Keep.trans K1620 k1621 (fun x hx=>Or.inl hx)
           refine bi X1621 hx hZ e1621 V1621 C1621 ne1586 (9:Int32) 9 (by decide) (by decide) (by decide) (by decide) (by simp) (hch 9 (by omega)) rfl (hb hby Eg) (hb hby Eh) (hb hby Ei) (hb hby Ej) (hb hby Ek) (hb hby El) 516 rfl ?_
           intro T1624 h1624 X1624 e1624 k1624 V1624 C1624
           have N1625:=Fr.snoc X1624 N1622 ge1588
           have K1626:=Keep.trans K1623 k1624 (fun x hx=>Or.inl hx)
           have F1627:=F1590.keep K1626 (allS ge1588 all0)
           have F1628:=F1591.keep K1626 (ninS ne1586 nin0)
           have F1629:=F1592.keep K1626
           have F1630:=F1593.keep K1626 (ninS ne1587 nin0)
           have F1631:=F1594.keep K1626 (ninS ne1587 nin0)
           have F1632:=A1585.keep K1626
           have Z1634:n0≤h1624.size:=Nat.le_trans Z1596 K1626.1
           have K1635:=K1595.trans K1626 (allS (Or.inr sz1589) all0)
           have D10:Arv Z h1624 a1585 k1585 .char 10 ([B.getD 0 0,B.getD 1 0,B.getD 2 0,B.getD 3 0,B.getD 4 0,B.getD 5 0,B.getD 6 0,B.getD 7 0,B.getD 8 0,B.getD 9 0].map Value.int) (.int 0):=C1624
           show Go _ _ _ _ _ (mkF _ _ _ [(.ref a1585),(.ref a1575),(.ref a1575)])
           have hcs:Cs [B.getD 0 0,B.getD 1 0,B.getD 2 0,B.getD 3 0,B.getD 4 0,B.getD 5 0,B.getD 6 0,B.getD 7 0,B.getD 8 0,B.getD 9 0]:=⟨by show 1≤10;decide,by show 10≤12;decide,fun j hj=>by
            match j,hj with
            | 0,_=>exact hch 0 (by omega)
            | 1,_=>exact hch 1 (by omega)
            | 2,_=>exact hch 2 (by omega)
            | 3,_=>exact hch 3 (by omega)
            | 4,_=>exact hch 4 (by omega)
            | 5,_=>exact hch 5 (by omega)
            | 6,_=>exact hch 6 (by omega)
            | 7,_=>exact hch 7 (by omega)
            | 8,_=>exact hch 8 (by omega)
            | 9,_=>exact hch 9 (by omega)⟩
           refine aN X1624 hx hZ rfl hown (tw hw 8 rfl) (tw hw 9 rfl) (tw hw 7 rfl) (tw hw 10 rfl) (by decide) (cI1 l Z a0 hw a1575 a1585 h1624 n0 Z1634 cst fm em SX_ F1627 k1585 10 [B.getD 0 0,B.getD 1 0,B.getD 2 0,B.getD 3 0,B.getD 4 0,B.getD 5 0,B.getD 6 0,B.getD 7 0,B.getD 8 0,B.getD 9 0] F1629 ge1577 ne1587 F1630 F1631 D10 hcs (by show (10:Int32).toInt=((10:Nat):Int);decide)) e1624 (a:=a1575) (argsL:=[(.ref a1585)]) (rest:=[(.ref a1575)]) rfl rfl 1 519 rfl (by rw[hml];rfl) (lenOf bj rfl) (Nat.le_refl _) (by decide) (by decide) (by decide) (by decide) (hb hby Em) ?_
           intro v1636 T1636 L1636 X1636 hQ1636
           obtain⟨rfl,N1636,K1636,bb,kbb,zz,vvs,co,gb,sb,c_,v_,hE,Vb⟩:=hQ1636
           have sb1:=Nat.le_trans (K1635).1 sb
           have N1637:=Fr.app N1625 N1636
           have F1638:=F1627.keep K1636 (allS ge1577 all0)
           have F1639:=F1628.keep K1636 (ninS ne1576 nin0)
           have F1640:=F1629.keep K1636
           have F1643:=F1632.keep K1636
           have F1644:=C1624.keep K1636 (ninS (Ne.symm ne1587) nin0)
           have Z1645:n0≤T1636.heap.size:=Nat.le_trans Z1634 K1636.1
           have K1646:=K1635.trans K1636 (allS (Or.inr sz1578) all0)
           show Go _ _ _ _ _ (mkF _ _ _ [(.ref a1575)])
           exact aA X1636 hx hlk hret rfl rfl rfl (hb hby En) (by decide) (by decide) rfl ⟨a1575,[B.getD 0 0,B.getD 1 0,B.getD 2 0,B.getD 3 0,B.getD 4 0,B.getD 5 0,B.getD 6 0,B.getD 7 0,B.getD 8 0,B.getD 9 0],rfl,N1637,K1646,ge1577,sz1578,⟨hcs,⟨sz1578,F1640.lt⟩,bb,kbb,zz,vvs,co,⟨sb1,Vb.lt⟩,F1640,c_,v_,Vb,hE⟩,rfl,fun j hj=>by
            match j,hj with
            | 0,_=>rfl
            | 1,_=>rfl
            | 2,_=>rfl
            | 3,_=>rfl
            | 4,_=>rfl
            | 5,_=>rfl
            | 6,_=>rfl
            | 7,_=>rfl
            | 8,_=>rfl
            | 9,_=>rfl⟩
         ·skip
          refine bg X0 hx hZ hown (tw hw 5 rfl) (tw hw 6 rfl) (tw hw 7 rfl) e0 365 (hb hby Ca) rfl (by decide) (by decide) ?_
          intro T1647 h1647 a1647 g1647 X1647 e1647 E1647 A1647 D1647
          have ne1648:b≠a1647:=Nat.ne_of_lt (by rw[g1647];exact V.lt)
          have ge1649:n0≤a1647:=by rw[g1647];exact Z0
          have sz1650:h0.size≤a1647:=by rw[g1647];exact (Keep.refl h0 []).1
          have F1651:=O0.ext E1647
          have F1652:=V.ext E1647
          have K1653:=(Keep.refl h0 []).ext E1647
          have Z1654:n0≤h1647.size:=Nat.le_trans Z0 E1647.1
          have F1655:Fld Z h1647 a1647 sg1 "coder" "B" (.int (0:Int32)):=D1647 (Or.inr (tw hw 31 rfl)) (ty := .byte) (by decide)
          have F1656:Fld Z h1647 a1647 sg1 "value" "[B" .null:=D1647 (Or.inr (tw hw 33 rfl)) (ty:=(.array .byte)) (by decide)
          refine a8 X1647 hx 366 (hb hby Cb) rfl rfl ?_
          refine aj X1647 hx (9:Int32) 368 (hb hby Cc) rfl (by decide) ?_
          refine aO X1647 hx hZ (aty := .char) (tw hw 0 rfl) e1647 (by decide) (cap:=9) (by decide) (by decide) 370 (hb hby Cd) rfl (by decide) (by decide) (ad := "[C") (by decide) ?_
          intro T1657 h1657 k1657 a1657 g1657 X1657 e1657 E1657 V1657 A1657
          have ne1658:b≠a1657:=Nat.ne_of_lt (by rw[g1657];exact F1652.lt)
          have ne1659:a1647≠a1657:=Nat.ne_of_lt (by rw[g1657];exact A1647.lt)
          have ge1660:n0≤a1657:=by rw[g1657];exact Z1654
          have sz1661:h0.size≤a1657:=by rw[g1657];exact K1653.1
          have F1662:=F1651.ext E1657
          have F1663:=F1652.ext E1657
          have F1664:=A1647.ext E1657
          have F1665:=F1655.ext E1657
          have F1666:=F1656.ext E1657
          have K1667:=K1653.ext E1657
          have Z1668:n0≤h1657.size:=Nat.le_trans Z1654 E1657.1
          have V1657':Arv Z h1657 a1657 k1657 .char (9:Int32) [(.int (0:Int32)),(.int (0:Int32)),(.int (0:Int32)),(.int (0:Int32)),(.int (0:Int32)),(.int (0:Int32)),(.int (0:Int32)),(.int (0:Int32)),(.int (0:Int32))] (.int (0:Int32)):=V1657.pad (pad_rep [] (.int (0:Int32)) 9)
          have hk:mm=9:=by omega
          subst hk
          refine az X1657 hx hZ e1657 F1663 V1657' ne1658 (0:Int32) 0 (by decide) (by decide) (by decide) (by decide) (by simp) (hch 0 (by omega)) rfl (hb hby Ce) (hb hby Cf) (hb hby Cg) (hb hby Ch) (hb hby Ci) (hb hby Cj) 376 rfl ?_
          intro T1669 h1669 X1669 e1669 k1669 V1669 C1669
          have N1670:=Fr.snoc X1669 N0 ge1660
          have K1671:=Keep.trans (Keep.refl h1657 [a1657]) k1669 (fun x hx=>Or.inl hx)
          refine az X1669 hx hZ e1669 V1669 C1669 ne1658 (1:Int32) 1 (by decide) (by decide) (by decide) (by decide) (by simp) (hch 1 (by omega)) rfl (hb hby Ck) (hb hby Cl) (hb hby Cm) (hb hby Cn) (hb hby Co) (hb hby Cp) 382 rfl ?_
          intro T1672 h1672 X1672 e1672 k1672 V1672 C1672
          have N1673:=Fr.snoc X1672 N1670 ge1660
          have K1674:=Keep.trans K1671 k1672 (fun x hx=>Or.inl hx)
          refine az X1672 hx hZ e1672 V1672 C1672 ne1658 (2:Int32) 2 (by decide) (by decide) (by decide) (by decide) (by simp) (hch 2 (by omega)) rfl (hb hby Cq) (hb hby Cr) (hb hby Ct) (hb hby Cu) (hb hby Cv) (hb hby Cw) 388 rfl ?_
          intro T1675 h1675 X1675 e1675 k1675 V1675 C1675
          have N1676:=Fr.snoc X1675 N1673 ge1660
          have K1677:=Keep.trans K1674 k1675 (fun x hx=>Or.inl hx)
          refine az X1675 hx hZ e1675 V1675 C1675 ne1658 (3:Int32) 3 (by decide) (by decide) (by decide) (by decide) (by simp) (hch 3 (by omega)) rfl (hb hby Cx) (hb hby Cy) (hb hby Cz) (hb hby CA) (hb hby CB) (hb hby CC) 394 rfl ?_
          intro T1678 h1678 X1678 e1678 k1678 V1678 C1678
          have N1679:=Fr.snoc X1678 N1676 ge1660
          have K1680:=Keep.trans K1677 k1678 (fun x hx=>Or.inl hx)
          refine az X1678 hx hZ e1678 V1678 C1678 ne1658 (4:Int32) 4 (by decide) (by decide) (by decide) (by decide) (by simp) (hch 4 (by omega)) rfl (hb hby CD) (hb hby CE) (hb hby CF) (hb hby CG) (hb hby CH) (hb hby CJ) 400 rfl ?_
          intro T1681 h1681 X1681 e1681 k1681 V1681 C1681
          have N1682:=Fr.snoc X1681 N1679 ge1660
          have K1683:=Keep.trans K1680 k1681 (fun x hx=>Or.inl hx)
          refine az X1681 hx hZ e1681 V1681 C1681 ne1658 (5:Int32) 5 (by decide) (by decide) (by decide) (by decide) (by simp) (hch 5 (by omega)) rfl (hb hby CK) (hb hby CL) (hb hby CM) (hb hby CN) (hb hby CO) (hb hby CP) 406 rfl ?_
          intro T1684 h1684 X1684 e1684 k1684 V1684 C1684
          have N1685:=Fr.snoc X1684 N1682 ge1660
          have K1686:=Keep.trans K1683 k1684 (fun x hx=>Or.inl hx)
          refine bi X1684 hx hZ e1684 V1684 C1684 ne1658 (6:Int32) 6 (by decide) (by decide) (by decide) (by decide) (by simp) (hch 6 (by omega)) rfl (hb hby CQ) (hb hby CR) (hb hby CS) (hb hby CT) (hb hby CU) (hb hby CV) 414 rfl ?_
          intro T1687 h1687 X1687 e1687 k1687 V1687 C1687
          have N1688:=Fr.snoc X1687 N1685 ge1660
          have K1689:=Keep.trans K1686 k1687 (fun x hx=>Or.inl hx)
          refine bi X1687 hx hZ e1687 V1687 C1687 ne1658 (7:Int32) 7 (by decide) (by decide) (by decide) (by decide) (by simp) (hch 7 (by omega)) rfl (hb hby CW) (hb hby CX) (hb hby CY) (hb hby CZ) (hb hby C0) (hb hby C1) 422 rfl ?_
          intro T1690 h1690 X1690 e1690 k1690 V1690 C1690
          have N1691:=Fr.snoc X1690 N1688 ge1660
          have K1692:=Keep.trans K1689 k1690 (fun x hx=>Or.inl hx)
          refine bi X1690 hx hZ e1690 V1690 C1690 ne1658 (8:Int32) 8 (by decide) (by decide) (by decide) (by decide) (by simp) (hch 8 (by omega)) rfl (hb hby C2) (hb hby C3) (hb hby C4) (hb hby C5) (hb hby C6) (hb hby C7) 430 rfl ?_
          intro T1693 h1693 X1693 e1693 k1693 V1693 C1693
          have N1694:=Fr.snoc X1693 N1691 ge1660
          have K1695:=Keep.trans K1692 k1693 (fun x hx=>Or.inl hx)
          have F1696:=F1662.keep K1695 (allS ge1660 all0)
          have F1697:=F1663.keep K1695 (ninS ne1658 nin0)
          have F1698:=F1664.keep K1695
          have F1699:=F1665.keep K1695 (ninS ne1659 nin0)
          have F1700:=F1666.keep K1695 (ninS ne1659 nin0)
          have F1701:=A1657.keep K1695
          have Z1703:n0≤h1693.size:=Nat.le_trans Z1668 K1695.1
          have K1704:=K1667.trans K1695 (allS (Or.inr sz1661) all0)
          have D9:Arv Z h1693 a1657 k1657 .char 9 ([B.getD 0 0,B.getD 1 0,B.getD 2 0,B.getD 3 0,B.getD 4 0,B.getD 5 0,B.getD 6 0,B.getD 7 0,B.getD 8 0].map Value.int) (.int 0):=C1693
          show Go _ _ _ _ _ (mkF _ _ _ [(.ref a1657),(.ref a1647),(.ref a1647)])
          have hcs:Cs [B.getD 0 0,B.getD 1 0,B.getD 2 0,B.getD 3 0,B.getD 4 0,B.getD 5 0,B.getD 6 0,B.getD 7 0,B.getD 8 0]:=⟨by show 1≤9;decide,by show 9≤12;decide,fun j hj=>by
           match j,hj with
           | 0,_=>exact hch 0 (by omega)
           | 1,_=>exact hch 1 (by omega)
           | 2,_=>exact hch 2 (by omega)
           | 3,_=>exact hch 3 (by omega)
           | 4,_=>exact hch 4 (by omega)
           | 5,_=>exact hch 5 (by omega)
           | 6,_=>exact hch 6 (by omega)
           | 7,_=>exact hch 7 (by omega)
           | 8,_=>exact hch 8 (by omega)⟩
          refine aN X1693 hx hZ rfl hown (tw hw 8 rfl) (tw hw 9 rfl) (tw hw 7 rfl) (tw hw 10 rfl) (by decide) (cI1 l Z a0 hw a1647 a1657 h1693 n0 Z1703 cst fm em SX_ F1696 k1657 9 [B.getD 0 0,B.getD 1 0,B.getD 2 0,B.getD 3 0,B.getD 4 0,B.getD 5 0,B.getD 6 0,B.getD 7 0,B.getD 8 0] F1698 ge1649 ne1659 F1699 F1700 D9 hcs (by show (9:Int32).toInt=((9:Nat):Int);decide)) e1693 (a:=a1647) (argsL:=[(.ref a1657)]) (rest:=[(.ref a1647)]) rfl rfl 1 433 rfl (by rw[hml];rfl) (lenOf bj rfl) (Nat.le_refl _) (by decide) (by decide) (by decide) (by decide) (hb hby C8) ?_
          intro v1705 T1705 L1705 X1705 hQ1705
          obtain⟨rfl,N1705,K1705,bb,kbb,zz,vvs,co,gb,sb,c_,v_,hE,Vb⟩:=hQ1705
          have sb1:=Nat.le_trans (K1704).1 sb
          have N1706:=Fr.app N1694 N1705
          have F1707:=F1696.keep K1705 (allS ge1649 all0)
          have F1708:=F1697.keep K1705 (ninS ne1648 nin0)
          have F1709:=F1698.keep K1705
          have F1712:=F1701.keep K1705
          have F1713:=C1693.keep K1705 (ninS (Ne.symm ne1659) nin0)
          have Z1714:n0≤T1705.heap.size:=Nat.le_trans Z1703 K1705.1
          have K1715:=K1704.trans K1705 (allS (Or.inr sz1650) all0)
          show Go _ _ _ _ _ (mkF _ _ _ [(.ref a1647)])
          exact aA X1705 hx hlk hret rfl rfl rfl (hb hby C9) (by decide) (by decide) rfl ⟨a1647,[B.getD 0 0,B.getD 1 0,B.getD 2 0,B.getD 3 0,B.getD 4 0,B.getD 5 0,B.getD 6 0,B.getD 7 0,B.getD 8 0],rfl,N1706,K1715,ge1649,sz1650,⟨hcs,⟨sz1650,F1709.lt⟩,bb,kbb,zz,vvs,co,⟨sb1,Vb.lt⟩,F1709,c_,v_,Vb,hE⟩,rfl,fun j hj=>by
           match j,hj with
           | 0,_=>rfl
           | 1,_=>rfl
           | 2,_=>rfl
           | 3,_=>rfl
           | 4,_=>rfl
           | 5,_=>rfl
           | 6,_=>rfl
           | 7,_=>rfl
           | 8,_=>rfl⟩
        ·skip
         refine bg X0 hx hZ hown (tw hw 5 rfl) (tw hw 6 rfl) (tw hw 7 rfl) e0 295 (hb hby A_) rfl (by decide) (by decide) ?_
         intro T1716 h1716 a1716 g1716 X1716 e1716 E1716 A1716 D1716
         have ne1717:b≠a1716:=Nat.ne_of_lt (by rw[g1716];exact V.lt)
         have ge1718:n0≤a1716:=by rw[g1716];exact Z0
         have sz1719:h0.size≤a1716:=by rw[g1716];exact (Keep.refl h0 []).1
         have F1720:=O0.ext E1716
         have F1721:=V.ext E1716
         have K1722:=(Keep.refl h0 []).ext E1716
         have Z1723:n0≤h1716.size:=Nat.le_trans Z0 E1716.1
         have F1724:Fld Z h1716 a1716 sg1 "coder" "B" (.int (0:Int32)):=D1716 (Or.inr (tw hw 31 rfl)) (ty := .byte) (by decide)
         have F1725:Fld Z h1716 a1716 sg1 "value" "[B" .null:=D1716 (Or.inr (tw hw 33 rfl)) (ty:=(.array .byte)) (by decide)
         refine a8 X1716 hx 296 (hb hby Ba) rfl rfl ?_
         refine aj X1716 hx (8:Int32) 298 (hb hby Bb) rfl (by decide) ?_
         refine aO X1716 hx hZ (aty := .char) (tw hw 0 rfl) e1716 (by decide) (cap:=8) (by decide) (by decide) 300 (hb hby Bc) rfl (by decide) (by decide) (ad := "[C") (by decide) ?_
         intro T1726 h1726 k1726 a1726 g1726 X1726 e1726 E1726 V1726 A1726
         have ne1727:b≠a1726:=Nat.ne_of_lt (by rw[g1726];exact F1721.lt)
         have ne1728:a1716≠a1726:=Nat.ne_of_lt (by rw[g1726];exact A1716.lt)
         have ge1729:n0≤a1726:=by rw[g1726];exact Z1723
         have sz1730:h0.size≤a1726:=by rw[g1726];exact K1722.1
         have F1731:=F1720.ext E1726
         have F1732:=F1721.ext E1726
         have F1733:=A1716.ext E1726
         have F1734:=F1724.ext E1726
         have F1735:=F1725.ext E1726
         have K1736:=K1722.ext E1726
         have Z1737:n0≤h1726.size:=Nat.le_trans Z1723 E1726.1
         have V1726':Arv Z h1726 a1726 k1726 .char (8:Int32) [(.int (0:Int32)),(.int (0:Int32)),(.int (0:Int32)),(.int (0:Int32)),(.int (0:Int32)),(.int (0:Int32)),(.int (0:Int32)),(.int (0:Int32))] (.int (0:Int32)):=V1726.pad (pad_rep [] (.int (0:Int32)) 8)
         have hk:mm=8:=by omega
         subst hk
         refine az X1726 hx hZ e1726 F1732 V1726' ne1727 (0:Int32) 0 (by decide) (by decide) (by decide) (by decide) (by simp) (hch 0 (by omega)) rfl (hb hby Be) (hb hby Bf) (hb hby Bg) (hb hby Bh) (hb hby Bi) (hb hby Bj) 306 rfl ?_
         intro T1738 h1738 X1738 e1738 k1738 V1738 C1738
         have N1739:=Fr.snoc X1738 N0 ge1729
         have K1740:=Keep.trans (Keep.refl h1726 [a1726]) k1738 (fun x hx=>Or.inl hx)
         refine az X1738 hx hZ e1738 V1738 C1738 ne1727 (1:Int32) 1 (by decide) (by decide) (by decide) (by decide) (by simp) (hch 1 (by omega)) rfl (hb hby Bk) (hb hby Bl) (hb hby Bm) (hb hby Bn) (hb hby Bo) (hb hby Bp) 312 rfl ?_
         intro T1741 h1741 X1741 e1741 k1741 V1741 C1741
         have N1742:=Fr.snoc X1741 N1739 ge1729
         have K1743:=Keep.trans K1740 k1741 (fun x hx=>Or.inl hx)
         refine az X1741 hx hZ e1741 V1741 C1741 ne1727 (2:Int32) 2 (by decide) (by decide) (by decide) (by decide) (by simp) (hch 2 (by omega)) rfl (hb hby Bq) (hb hby Br) (hb hby Bs) (hb hby Bt) (hb hby Bu) (hb hby Bv) 318 rfl ?_
         intro T1744 h1744 X1744 e1744 k1744 V1744 C1744
         have N1745:=Fr.snoc X1744 N1742 ge1729
         have K1746:=Keep.trans K1743 k1744 (fun x hx=>Or.inl hx)
         refine az X1744 hx hZ e1744 V1744 C1744 ne1727 (3:Int32) 3 (by decide) (by decide) (by decide) (by decide) (by simp) (hch 3 (by omega)) rfl (hb hby Bw) (hb hby Bx) (hb hby By) (hb hby Bz) (hb hby BA) (hb hby BC) 324 rfl ?_
         intro T1747 h1747 X1747 e1747 k1747 V1747 C1747
         have N1748:=Fr.snoc X1747 N1745 ge1729
         have K1749:=Keep.trans K1746 k1747 (fun x hx=>Or.inl hx)
         refine az X1747 hx hZ e1747 V1747 C1747 ne1727 (4:Int32) 4 (by decide) (by decide) (by decide) (by decide) (by simp) (hch 4 (by omega)) rfl (hb hby BD) (hb hby BE) (hb hby BF) (hb hby BG) (hb hby BH) (hb hby BJ) 330 rfl ?_
         intro T1750 h1750 X1750 e1750 k1750 V1750 C1750
         have N1751:=Fr.snoc X1750 N1748 ge1729
         have K1752:=Keep.trans K1749 k1750 (fun x hx=>Or.inl hx)
         refine az X1750 hx hZ e1750 V1750 C1750 ne1727 (5:Int32) 5 (by decide) (by decide) (by decide) (by decide) (by simp) (hch 5 (by omega)) rfl (hb hby BK) (hb hby BL) (hb hby BM) (hb hby BN) (hb hby BO) (hb hby BP) 336 rfl ?_
         intro T1753 h1753 X1753 e1753 k1753 V1753 C1753
         have N1754:=Fr.snoc X1753 N1751 ge1729
         have K1755:=Keep.trans K1752 k1753 (fun x hx=>Or.inl hx)
         refine bi X1753 hx hZ e1753 V1753 C1753 ne1727 (6:Int32) 6 (by decide) (by decide) (by decide) (by decide) (by simp) (hch 6 (by omega)) rfl (hb hby BQ) (hb hby BR) (hb hby BS) (hb hby BT) (hb hby BU) (hb hby BV) 344 rfl ?_
         intro T1756 h1756 X1756 e1756 k1756 V1756 C1756
         have N1757:=Fr.snoc X1756 N1754 ge1729
         have K1758:=Keep.trans K1755 k1756 (fun x hx=>Or.inl hx)
         refine bi X1756 hx hZ e1756 V1756 C1756 ne1727 (7:Int32) 7 (by decide) (by decide) (by decide) (by decide) (by simp) (hch 7 (by omega)) rfl (hb hby BW) (hb hby BX) (hb hby BZ) (hb hby B3) (hb hby B4) (hb hby B5) 352 rfl ?_
         intro T1759 h1759 X1759 e1759 k1759 V1759 C1759
         have N1760:=Fr.snoc X1759 N1757 ge1729
         have K1761:=Keep.trans K1758 k1759 (fun x hx=>Or.inl hx)
         have F1762:=F1731.keep K1761 (allS ge1729 all0)
         have F1763:=F1732.keep K1761 (ninS ne1727 nin0)
         have F1764:=F1733.keep K1761
         have F1765:=F1734.keep K1761 (ninS ne1728 nin0)
         have F1766:=F1735.keep K1761 (ninS ne1728 nin0)
         have F1767:=A1726.keep K1761
         have Z1769:n0≤h1759.size:=Nat.le_trans Z1737 K1761.1
         have K1770:=K1736.trans K1761 (allS (Or.inr sz1730) all0)
         have D8:Arv Z h1759 a1726 k1726 .char 8 ([B.getD 0 0,B.getD 1 0,B.getD 2 0,B.getD 3 0,B.getD 4 0,B.getD 5 0,B.getD 6 0,B.getD 7 0].map Value.int) (.int 0):=C1759
         show Go _ _ _ _ _ (mkF _ _ _ [(.ref a1726),(.ref a1716),(.ref a1716)])
         have hcs:Cs [B.getD 0 0,B.getD 1 0,B.getD 2 0,B.getD 3 0,B.getD 4 0,B.getD 5 0,B.getD 6 0,B.getD 7 0]:=⟨by show 1≤8;decide,by show 8≤12;decide,fun j hj=>by
          match j,hj with
          | 0,_=>exact hch 0 (by omega)
          | 1,_=>exact hch 1 (by omega)
          | 2,_=>exact hch 2 (by omega)
          | 3,_=>exact hch 3 (by omega)
          | 4,_=>exact hch 4 (by omega)
          | 5,_=>exact hch 5 (by omega)
          | 6,_=>exact hch 6 (by omega)
          | 7,_=>exact hch 7 (by omega)⟩
         refine aN X1759 hx hZ rfl hown (tw hw 8 rfl) (tw hw 9 rfl) (tw hw 7 rfl) (tw hw 10 rfl) (by decide) (cI1 l Z a0 hw a1716 a1726 h1759 n0 Z1769 cst fm em SX_ F1762 k1726 8 [B.getD 0 0,B.getD 1 0,B.getD 2 0,B.getD 3 0,B.getD 4 0,B.getD 5 0,B.getD 6 0,B.getD 7 0] F1764 ge1718 ne1728 F1765 F1766 D8 hcs (by show (8:Int32).toInt=((8:Nat):Int);decide)) e1759 (a:=a1716) (argsL:=[(.ref a1726)]) (rest:=[(.ref a1716)]) rfl rfl 1 355 rfl (by rw[hml];rfl) (lenOf bj rfl) (Nat.le_refl _) (by decide) (by decide) (by decide) (by decide) (hb hby B6) ?_
         intro v1771 T1771 L1771 X1771 hQ1771
         obtain⟨rfl,N1771,K1771,bb,kbb,zz,vvs,co,gb,sb,c_,v_,hE,Vb⟩:=hQ1771
         have sb1:=Nat.le_trans (K1770).1 sb
         have N1772:=Fr.app N1760 N1771
         have F1773:=F1762.keep K1771 (allS ge1718 all0)
         have F1774:=F1763.keep K1771 (ninS ne1717 nin0)
         have F1775:=F1764.keep K1771
         have F1778:=F1767.keep K1771
         have F1779:=C1759.keep K1771 (ninS (Ne.symm ne1728) nin0)
         have Z1780:n0≤T1771.heap.size:=Nat.le_trans Z1769 K1771.1
         have K1781:=K1770.trans K1771 (allS (Or.inr sz1719) all0)
         show Go _ _ _ _ _ (mkF _ _ _ [(.ref a1716)])
         exact aA X1771 hx hlk hret rfl rfl rfl (hb hby B7) (by decide) (by decide) rfl ⟨a1716,[B.getD 0 0,B.getD 1 0,B.getD 2 0,B.getD 3 0,B.getD 4 0,B.getD 5 0,B.getD 6 0,B.getD 7 0],rfl,N1772,K1781,ge1718,sz1719,⟨hcs,⟨sz1719,F1775.lt⟩,bb,kbb,zz,vvs,co,⟨sb1,Vb.lt⟩,F1775,c_,v_,Vb,hE⟩,rfl,fun j hj=>by
          match j,hj with
          | 0,_=>rfl
          | 1,_=>rfl
          | 2,_=>rfl
          | 3,_=>rfl
          | 4,_=>rfl
          | 5,_=>rfl
          | 6,_=>rfl
          | 7,_=>rfl⟩
       ·skip
        refine bg X0 hx hZ hown (tw hw 5 rfl) (tw hw 6 rfl) (tw hw 7 rfl) e0 233 (hb hby Ak) rfl (by decide) (by decide) ?_
        intro T1782 h1782 a1782 g1782 X1782 e1782 E1782 A1782 D1782
        have ne1783:b≠a1782:=Nat.ne_of_lt (by rw[g1782];exact V.lt)
        have ge1784:n0≤a1782:=by rw[g1782];exact Z0
        have sz1785:h0.size≤a1782:=by rw[g1782];exact (Keep.refl h0 []).1
        have F1786:=O0.ext E1782
        have F1787:=V.ext E1782
        have K1788:=(Keep.refl h0 []).ext E1782
        have Z1789:n0≤h1782.size:=Nat.le_trans Z0 E1782.1
        have F1790:Fld Z h1782 a1782 sg1 "coder" "B" (.int (0:Int32)):=D1782 (Or.inr (tw hw 31 rfl)) (ty := .byte) (by decide)
        have F1791:Fld Z h1782 a1782 sg1 "value" "[B" .null:=D1782 (Or.inr (tw hw 33 rfl)) (ty:=(.array .byte)) (by decide)
        refine a8 X1782 hx 234 (hb hby Al) rfl rfl ?_
        refine aj X1782 hx (7:Int32) 236 (hb hby Am) rfl (by decide) ?_
        refine aO X1782 hx hZ (aty := .char) (tw hw 0 rfl) e1782 (by decide) (cap:=7) (by decide) (by decide) 238 (hb hby An) rfl (by decide) (by decide) (ad := "[C") (by decide) ?_
        intro T1792 h1792 k1792 a1792 g1792 X1792 e1792 E1792 V1792 A1792
        have ne1793:b≠a1792:=Nat.ne_of_lt (by rw[g1792];exact F1787.lt)
        have ne1794:a1782≠a1792:=Nat.ne_of_lt (by rw[g1792];exact A1782.lt)
        have ge1795:n0≤a1792:=by rw[g1792];exact Z1789
        have sz1796:h0.size≤a1792:=by rw[g1792];exact K1788.1
        have F1797:=F1786.ext E1792
        have F1798:=F1787.ext E1792
        have F1799:=A1782.ext E1792
        have F1800:=F1790.ext E1792
        have F1801:=F1791.ext E1792
        have K1802:=K1788.ext E1792
        have Z1803:n0≤h1792.size:=Nat.le_trans Z1789 E1792.1
        have V1792':Arv Z h1792 a1792 k1792 .char (7:Int32) [(.int (0:Int32)),(.int (0:Int32)),(.int (0:Int32)),(.int (0:Int32)),(.int (0:Int32)),(.int (0:Int32)),(.int (0:Int32))] (.int (0:Int32)):=V1792.pad (pad_rep [] (.int (0:Int32)) 7)
        have hk:mm=7:=by omega
        subst hk
        refine az X1792 hx hZ e1792 F1798 V1792' ne1793 (0:Int32) 0 (by decide) (by decide) (by decide) (by decide) (by simp) (hch 0 (by omega)) rfl (hb hby Ao) (hb hby Ap) (hb hby Aq) (hb hby Ar) (hb hby At) (hb hby Au) 244 rfl ?_
        intro T1804 h1804 X1804 e1804 k1804 V1804 C1804
        have N1805:=Fr.snoc X1804 N0 ge1795
        have K1806:=Keep.trans (Keep.refl h1792 [a1792]) k1804 (fun x hx=>Or.inl hx)
        refine az X1804 hx hZ e1804 V1804 C1804 ne1793 (1:Int32) 1 (by decide) (by decide) (by decide) (by decide) (by simp) (hch 1 (by omega)) rfl (hb hby Av) (hb hby Aw) (hb hby Ax) (hb hby Ay) (hb hby Az) (hb hby AA) 250 rfl ?_
        intro T1807 h1807 X1807 e1807 k1807 V1807 C1807
        have N1808:=Fr.snoc X1807 N1805 ge1795
        have K1809:=Keep.trans K1806 k1807 (fun x hx=>Or.inl hx)
        refine az X1807 hx hZ e1807 V1807 C1807 ne1793 (2:Int32) 2 (by decide) (by decide) (by decide) (by decide) (by simp) (hch 2 (by omega)) rfl (hb hby AB) (hb hby AC) (hb hby AD) (hb hby AE) (hb hby AF) (hb hby AG) 256 rfl ?_
        intro T1810 h1810 X1810 e1810 k1810 V1810 C1810
        have N1811:=Fr.snoc X1810 N1808 ge1795
        have K1812:=Keep.trans K1809 k1810 (fun x hx=>Or.inl hx)
        refine az X1810 hx hZ e1810 V1810 C1810 ne1793 (3:Int32) 3 (by decide) (by decide) (by decide) (by decide) (by simp) (hch 3 (by omega)) rfl (hb hby AH) (hb hby AI) (hb hby AJ) (hb hby AK) (hb hby AL) (hb hby AM) 262 rfl ?_
        intro T1813 h1813 X1813 e1813 k1813 V1813 C1813
        have N1814:=Fr.snoc X1813 N1811 ge1795
        have K1815:=Keep.trans K1812 k1813 (fun x hx=>Or.inl hx)
        refine az X1813 hx hZ e1813 V1813 C1813 ne1793 (4:Int32) 4 (by decide) (by decide) (by decide) (by decide) (by simp) (hch 4 (by omega)) rfl (hb hby AN) (hb hby AO) (hb hby AP) (hb hby AQ) (hb hby AR) (hb hby AS) 268 rfl ?_
        intro T1816 h1816 X1816 e1816 k1816 V1816 C1816
        have N1817:=Fr.snoc X1816 N1814 ge1795
        have K1818:=Keep.trans K1815 k1816 (fun x hx=>Or.inl hx)
        refine az X1816 hx hZ e1816 V1816 C1816 ne1793 (5:Int32) 5 (by decide) (by decide) (by decide) (by decide) (by simp) (hch 5 (by omega)) rfl (hb hby AT) (hb hby AU) (hb hby AV) (hb hby AW) (hb hby AX) (hb hby AY) 274 rfl ?_
        intro T1819 h1819 X1819 e1819 k1819 V1819 C1819
        have N1820:=Fr.snoc X1819 N1817 ge1795
        have K1821:=Keep.trans K1818 k1819 (fun x hx=>Or.inl hx)
        refine bi X1819 hx hZ e1819 V1819 C1819 ne1793 (6:Int32) 6 (by decide) (by decide) (by decide) (by decide) (by simp) (hch 6 (by omega)) rfl (hb hby AZ) (hb hby A0) (hb hby A1) (hb hby A2) (hb hby A3) (hb hby A4) 282 rfl ?_
        intro T1822 h1822 X1822 e1822 k1822 V1822 C1822
        have N1823:=Fr.snoc X1822 N1820 ge1795
        have K1824:=Keep.trans K1821 k1822 (fun x hx=>Or.inl hx)
        have F1825:=F1797.keep K1824 (allS ge1795 all0)
        have F1826:=F1798.keep K1824 (ninS ne1793 nin0)
        have F1827:=F1799.keep K1824
        have F1828:=F1800.keep K1824 (ninS ne1794 nin0)
        have F1829:=F1801.keep K1824 (ninS ne1794 nin0)
        have F1830:=A1792.keep K1824
        have Z1832:n0≤h1822.size:=Nat.le_trans Z1803 K1824.1
        have K1833:=K1802.trans K1824 (allS (Or.inr sz1796) all0)
        have D7:Arv Z h1822 a1792 k1792 .char 7 ([B.getD 0 0,B.getD 1 0,B.getD 2 0,B.getD 3 0,B.getD 4 0,B.getD 5 0,B.getD 6 0].map Value.int) (.int 0):=C1822
        show Go _ _ _ _ _ (mkF _ _ _ [(.ref a1792),(.ref a1782),(.ref a1782)])
        have hcs:Cs [B.getD 0 0,B.getD 1 0,B.getD 2 0,B.getD 3 0,B.getD 4 0,B.getD 5 0,B.getD 6 0]:=⟨by show 1≤7;decide,by show 7≤12;decide,fun j hj=>by
         match j,hj with
         | 0,_=>exact hch 0 (by omega)
         | 1,_=>exact hch 1 (by omega)
         | 2,_=>exact hch 2 (by omega)
         | 3,_=>exact hch 3 (by omega)
         | 4,_=>exact hch 4 (by omega)
         | 5,_=>exact hch 5 (by omega)
         | 6,_=>exact hch 6 (by omega)⟩
        refine aN X1822 hx hZ rfl hown (tw hw 8 rfl) (tw hw 9 rfl) (tw hw 7 rfl) (tw hw 10 rfl) (by decide) (cI1 l Z a0 hw a1782 a1792 h1822 n0 Z1832 cst fm em SX_ F1825 k1792 7 [B.getD 0 0,B.getD 1 0,B.getD 2 0,B.getD 3 0,B.getD 4 0,B.getD 5 0,B.getD 6 0] F1827 ge1784 ne1794 F1828 F1829 D7 hcs (by show (7:Int32).toInt=((7:Nat):Int);decide)) e1822 (a:=a1782) (argsL:=[(.ref a1792)]) (rest:=[(.ref a1782)]) rfl rfl 1 285 rfl (by rw[hml];rfl) (lenOf bj rfl) (Nat.le_refl _) (by decide) (by decide) (by decide) (by decide) (hb hby A5) ?_
        intro v1834 T1834 L1834 X1834 hQ1834
        obtain⟨rfl,N1834,K1834,bb,kbb,zz,vvs,co,gb,sb,c_,v_,hE,Vb⟩:=hQ1834
        have sb1:=Nat.le_trans (K1833).1 sb
        have N1835:=Fr.app N1823 N1834
        have F1836:=F1825.keep K1834 (allS ge1784 all0)
        have F1837:=F1826.keep K1834 (ninS ne1783 nin0)
        have F1838:=F1827.keep K1834
        have F1841:=F1830.keep K1834
        have F1842:=C1822.keep K1834 (ninS (Ne.symm ne1794) nin0)
        have Z1843:n0≤T1834.heap.size:=Nat.le_trans Z1832 K1834.1
        have K1844:=K1833.trans K1834 (allS (Or.inr sz1785) all0)
        show Go _ _ _ _ _ (mkF _ _ _ [(.ref a1782)])
        exact aA X1834 hx hlk hret rfl rfl rfl (hb hby A6) (by decide) (by decide) rfl ⟨a1782,[B.getD 0 0,B.getD 1 0,B.getD 2 0,B.getD 3 0,B.getD 4 0,B.getD 5 0,B.getD 6 0],rfl,N1835,K1844,ge1784,sz1785,⟨hcs,⟨sz1785,F1838.lt⟩,bb,kbb,zz,vvs,co,⟨sb1,Vb.lt⟩,F1838,c_,v_,Vb,hE⟩,rfl,fun j hj=>by
         match j,hj with
         | 0,_=>rfl
         | 1,_=>rfl
         | 2,_=>rfl
         | 3,_=>rfl
         | 4,_=>rfl
         | 5,_=>rfl
         | 6,_=>rfl⟩
      ·skip
       refine bg X0 hx hZ hown (tw hw 5 rfl) (tw hw 6 rfl) (tw hw 7 rfl) e0 179 (hb hby zw) rfl (by decide) (by decide) ?_
       intro T1845 h1845 a1845 g1845 X1845 e1845 E1845 A1845 D1845
       have ne1846:b≠a1845:=Nat.ne_of_lt (by rw[g1845];exact V.lt)
       have ge1847:n0≤a1845:=by rw[g1845];exact Z0
       have sz1848:h0.size≤a1845:=by rw[g1845];exact (Keep.refl h0 []).1
       have F1849:=O0.ext E1845
       have F1850:=V.ext E1845
       have K1851:=(Keep.refl h0 []).ext E1845
       have Z1852:n0≤h1845.size:=Nat.le_trans Z0 E1845.1
       have F1853:Fld Z h1845 a1845 sg1 "coder" "B" (.int (0:Int32)):=D1845 (Or.inr (tw hw 31 rfl)) (ty := .byte) (by decide)
       have F1854:Fld Z h1845 a1845 sg1 "value" "[B" .null:=D1845 (Or.inr (tw hw 33 rfl)) (ty:=(.array .byte)) (by decide)
       refine a8 X1845 hx 180 (hb hby zx) rfl rfl ?_
       refine aj X1845 hx (6:Int32) 182 (hb hby zy) rfl (by decide) ?_
       refine aO X1845 hx hZ (aty := .char) (tw hw 0 rfl) e1845 (by decide) (cap:=6) (by decide) (by decide) 184 (hb hby zA) rfl (by decide) (by decide) (ad := "[C") (by decide) ?_
       intro T1855 h1855 k1855 a1855 g1855 X1855 e1855 E1855 V1855 A1855
       have ne1856:b≠a1855:=Nat.ne_of_lt (by rw[g1855];exact F1850.lt)
       have ne1857:a1845≠a1855:=Nat.ne_of_lt (by rw[g1855];exact A1845.lt)
       have ge1858:n0≤a1855:=by rw[g1855];exact Z1852
       have sz1859:h0.size≤a1855:=by rw[g1855];exact K1851.1
       have F1860:=F1849.ext E1855
       have F1861:=F1850.ext E1855
       have F1862:=A1845.ext E1855
       have F1863:=F1853.ext E1855
       have F1864:=F1854.ext E1855
       have K1865:=K1851.ext E1855
       have Z1866:n0≤h1855.size:=Nat.le_trans Z1852 E1855.1
       have V1855':Arv Z h1855 a1855 k1855 .char (6:Int32) [(.int (0:Int32)),(.int (0:Int32)),(.int (0:Int32)),(.int (0:Int32)),(.int (0:Int32)),(.int (0:Int32))] (.int (0:Int32)):=V1855.pad (pad_rep [] (.int (0:Int32)) 6)
       have hk:mm=6:=by omega
       subst hk
       refine az X1855 hx hZ e1855 F1861 V1855' ne1856 (0:Int32) 0 (by decide) (by decide) (by decide) (by decide) (by simp) (hch 0 (by omega)) rfl (hb hby zB) (hb hby zC) (hb hby zD) (hb hby zE) (hb hby zF) (hb hby zG) 190 rfl ?_
       intro T1867 h1867 X1867 e1867 k1867 V1867 C1867
       have N1868:=Fr.snoc X1867 N0 ge1858
       have K1869:=Keep.trans (Keep.refl h1855 [a1855]) k1867 (fun x hx=>Or.inl hx)
       refine az X1867 hx hZ e1867 V1867 C1867 ne1856 (1:Int32) 1 (by decide) (by decide) (by decide) (by decide) (by simp) (hch 1 (by omega)) rfl (hb hby zH) (hb hby zI) (hb hby zJ) (hb hby zK) (hb hby zL) (hb hby zM) 196 rfl ?_
       intro T1870 h1870 X1870 e1870 k1870 V1870 C1870
       have N1871:=Fr.snoc X1870 N1868 ge1858
       have K1872:=Keep.trans K1869 k1870 (fun x hx=>Or.inl hx)
       refine az X1870 hx hZ e1870 V1870 C1870 ne1856 (2:Int32) 2 (by decide) (by decide) (by decide) (by decide) (by simp) (hch 2 (by omega)) rfl (hb hby zN) (hb hby zO) (hb hby zP) (hb hby zQ) (hb hby zR) (hb hby zS) 202 rfl ?_
       intro T1873 h1873 X1873 e1873 k1873 V1873 C1873
       have N1874:=Fr.snoc X1873 N1871 ge1858
       have K1875:=Keep.trans K1872 k1873 (fun x hx=>Or.inl hx)
       refine az X1873 hx hZ e1873 V1873 C1873 ne1856 (3:Int32) 3 (by decide) (by decide) (by decide) (by decide) (by simp) (hch 3 (by omega)) rfl (hb hby zT) (hb hby zU) (hb hby zV) (hb hby zW) (hb hby zX) (hb hby zY) 208 rfl ?_
       intro T1876 h1876 X1876 e1876 k1876 V1876 C1876
       have N1877:=Fr.snoc X1876 N1874 ge1858
       have K1878:=Keep.trans K1875 k1876 (fun x hx=>Or.inl hx)
       refine az X1876 hx hZ e1876 V1876 C1876 ne1856 (4:Int32) 4 (by decide) (by decide) (by decide) (by decide) (by simp) (hch 4 (by omega)) rfl (hb hby zZ) (hb hby z3) (hb hby z4) (hb hby z5) (hb hby z6) (hb hby z7) 214 rfl ?_
       intro T1879 h1879 X1879 e1879 k1879 V1879 C1879
       have N1880:=Fr.snoc X1879 N1877 ge1858
       have K1881:=Keep.trans K1878 k1879 (fun x hx=>Or.inl hx)
       refine az X1879 hx hZ e1879 V1879 C1879 ne1856 (5:Int32) 5 (by decide) (by decide) (by decide) (by decide) (by simp) (hch 5 (by omega)) rfl (hb hby z8) (hb hby z9) (hb hby z_) (hb hby Aa) (hb hby Ab) (hb hby Ae) 220 rfl ?_
       intro T1882 h1882 X1882 e1882 k1882 V1882 C1882
       have N1883:=Fr.snoc X1882 N1880 ge1858
       have K1884:=Keep.trans K1881 k1882 (fun x hx=>Or.inl hx)
       have F1885:=F1860.keep K1884 (allS ge1858 all0)
       have F1886:=F1861.keep K1884 (ninS ne1856 nin0)
       have F1887:=F1862.keep K1884
       have F1888:=F1863.keep K1884 (ninS ne1857 nin0)
       have F1889:=F1864.keep K1884 (ninS ne1857 nin0)
       have F1890:=A1855.keep K1884
       have Z1892:n0≤h1882.size:=Nat.le_trans Z1866 K1884.1
       have K1893:=K1865.trans K1884 (allS (Or.inr sz1859) all0)
       have D6:Arv Z h1882 a1855 k1855 .char 6 ([B.getD 0 0,B.getD 1 0,B.getD 2 0,B.getD 3 0,B.getD 4 0,B.getD 5 0].map Value.int) (.int 0):=C1882
       show Go _ _ _ _ _ (mkF _ _ _ [(.ref a1855),(.ref a1845),(.ref a1845)])
       have hcs:Cs [B.getD 0 0,B.getD 1 0,B.getD 2 0,B.getD 3 0,B.getD 4 0,B.getD 5 0]:=⟨by show 1≤6;decide,by show 6≤12;decide,fun j hj=>by
        match j,hj with
        | 0,_=>exact hch 0 (by omega)
        | 1,_=>exact hch 1 (by omega)
        | 2,_=>exact hch 2 (by omega)
        | 3,_=>exact hch 3 (by omega)
        | 4,_=>exact hch 4 (by omega)
        | 5,_=>exact hch 5 (by omega)⟩
       refine aN X1882 hx hZ rfl hown (tw hw 8 rfl) (tw hw 9 rfl) (tw hw 7 rfl) (tw hw 10 rfl) (by decide) (cI1 l Z a0 hw a1845 a1855 h1882 n0 Z1892 cst fm em SX_ F1885 k1855 6 [B.getD 0 0,B.getD 1 0,B.getD 2 0,B.getD 3 0,B.getD 4 0,B.getD 5 0] F1887 ge1847 ne1857 F1888 F1889 D6 hcs (by show (6:Int32).toInt=((6:Nat):Int);decide)) e1882 (a:=a1845) (argsL:=[(.ref a1855)]) (rest:=[(.ref a1845)]) rfl rfl 1 223 rfl (by rw[hml];rfl) (lenOf bj rfl) (Nat.le_refl _) (by decide) (by decide) (by decide) (by decide) (hb hby Af) ?_
       intro v1894 T1894 L1894 X1894 hQ1894
       obtain⟨rfl,N1894,K1894,bb,kbb,zz,vvs,co,gb,sb,c_,v_,hE,Vb⟩:=hQ1894
       have sb1:=Nat.le_trans (K1893).1 sb
       have N1895:=Fr.app N1883 N1894
       have F1896:=F1885.keep K1894 (allS ge1847 all0)
       have F1897:=F1886.keep K1894 (ninS ne1846 nin0)
       have F1898:=F1887.keep K1894
       have F1901:=F1890.keep K1894
       have F1902:=C1882.keep K1894 (ninS (Ne.symm ne1857) nin0)
       have Z1903:n0≤T1894.heap.size:=Nat.le_trans Z1892 K1894.1
       have K1904:=K1893.trans K1894 (allS (Or.inr sz1848) all0)
       show Go _ _ _ _ _ (mkF _ _ _ [(.ref a1845)])
       exact aA X1894 hx hlk hret rfl rfl rfl (hb hby Ag) (by decide) (by decide) rfl ⟨a1845,[B.getD 0 0,B.getD 1 0,B.getD 2 0,B.getD 3 0,B.getD 4 0,B.getD 5 0],rfl,N1895,K1904,ge1847,sz1848,⟨hcs,⟨sz1848,F1898.lt⟩,bb,kbb,zz,vvs,co,⟨sb1,Vb.lt⟩,F1898,c_,v_,Vb,hE⟩,rfl,fun j hj=>by
        match j,hj with
        | 0,_=>rfl
        | 1,_=>rfl
        | 2,_=>rfl
        | 3,_=>rfl
        | 4,_=>rfl
        | 5,_=>rfl⟩
     ·skip
      refine bg X0 hx hZ hown (tw hw 5 rfl) (tw hw 6 rfl) (tw hw 7 rfl) e0 132 (hb hby yO) rfl (by decide) (by decide) ?_
      intro T1905 h1905 a1905 g1905 X1905 e1905 E1905 A1905 D1905
      have ne1906:b≠a1905:=Nat.ne_of_lt (by rw[g1905];exact V.lt)
      have ge1907:n0≤a1905:=by rw[g1905];exact Z0
      have sz1908:h0.size≤a1905:=by rw[g1905];exact (Keep.refl h0 []).1
      have F1909:=O0.ext E1905
      have F1910:=V.ext E1905
      have K1911:=(Keep.refl h0 []).ext E1905
      have Z1912:n0≤h1905.size:=Nat.le_trans Z0 E1905.1
      have F1913:Fld Z h1905 a1905 sg1 "coder" "B" (.int (0:Int32)):=D1905 (Or.inr (tw hw 31 rfl)) (ty := .byte) (by decide)
      have F1914:Fld Z h1905 a1905 sg1 "value" "[B" .null:=D1905 (Or.inr (tw hw 33 rfl)) (ty:=(.array .byte)) (by decide)
      refine a8 X1905 hx 133 (hb hby yP) rfl rfl ?_
      refine ac X1905 hx (5:Int32) 134 (hb hby yQ) rfl (by decide) ?_
      refine aO X1905 hx hZ (aty := .char) (tw hw 0 rfl) e1905 (by decide) (cap:=5) (by decide) (by decide) 136 (hb hby yR) rfl (by decide) (by decide) (ad := "[C") (by decide) ?_
      intro T1915 h1915 k1915 a1915 g1915 X1915 e1915 E1915 V1915 A1915
      have ne1916:b≠a1915:=Nat.ne_of_lt (by rw[g1915];exact F1910.lt)
      have ne1917:a1905≠a1915:=Nat.ne_of_lt (by rw[g1915];exact A1905.lt)
      have ge1918:n0≤a1915:=by rw[g1915];exact Z1912
      have sz1919:h0.size≤a1915:=by rw[g1915];exact K1911.1
      have F1920:=F1909.ext E1915
      have F1921:=F1910.ext E1915
      have F1922:=A1905.ext E1915
      have F1923:=F1913.ext E1915
      have F1924:=F1914.ext E1915
      have K1925:=K1911.ext E1915
      have Z1926:n0≤h1915.size:=Nat.le_trans Z1912 E1915.1
      have V1915':Arv Z h1915 a1915 k1915 .char (5:Int32) [(.int (0:Int32)),(.int (0:Int32)),(.int (0:Int32)),(.int (0:Int32)),(.int (0:Int32))] (.int (0:Int32)):=V1915.pad (pad_rep [] (.int (0:Int32)) 5)
      have hk:mm=5:=by omega
      subst hk
      refine az X1915 hx hZ e1915 F1921 V1915' ne1916 (0:Int32) 0 (by decide) (by decide) (by decide) (by decide) (by simp) (hch 0 (by omega)) rfl (hb hby yS) (hb hby yT) (hb hby yU) (hb hby yV) (hb hby yW) (hb hby yX) 142 rfl ?_
      intro T1927 h1927 X1927 e1927 k1927 V1927 C1927
      have N1928:=Fr.snoc X1927 N0 ge1918
      have K1929:=Keep.trans (Keep.refl h1915 [a1915]) k1927 (fun x hx=>Or.inl hx)
      refine az X1927 hx hZ e1927 V1927 C1927 ne1916 (1:Int32) 1 (by decide) (by decide) (by decide) (by decide) (by simp) (hch 1 (by omega)) rfl (hb hby yY) (hb hby yZ) (hb hby y3) (hb hby y4) (hb hby y5) (hb hby y6) 148 rfl ?_
      intro T1930 h1930 X1930 e1930 k1930 V1930 C1930
      have N1931:=Fr.snoc X1930 N1928 ge1918
      have K1932:=Keep.trans K1929 k1930 (fun x hx=>Or.inl hx)
      refine az X1930 hx hZ e1930 V1930 C1930 ne1916 (2:Int32) 2 (by decide) (by decide) (by decide) (by decide) (by simp) (hch 2 (by omega)) rfl (hb hby y7) (hb hby y8) (hb hby y9) (hb hby y_) (hb hby za) (hb hby zb) 154 rfl ?_
      intro T1933 h1933 X1933 e1933 k1933 V1933 C1933
      have N1934:=Fr.snoc X1933 N1931 ge1918
      have K1935:=Keep.trans K1932 k1933 (fun x hx=>Or.inl hx)
      refine az X1933 hx hZ e1933 V1933 C1933 ne1916 (3:Int32) 3 (by decide) (by decide) (by decide) (by decide) (by simp) (hch 3 (by omega)) rfl (hb hby zc) (hb hby ze) (hb hby zf) (hb hby zg) (hb hby zh) (hb hby zi) 160 rfl ?_
      intro T1936 h1936 X1936 e1936 k1936 V1936 C1936
      have N1937:=Fr.snoc X1936 N1934 ge1918
      have K1938:=Keep.trans K1935 k1936 (fun x hx=>Or.inl hx)
      refine az X1936 hx hZ e1936 V1936 C1936 ne1916 (4:Int32) 4 (by decide) (by decide) (by decide) (by decide) (by simp) (hch 4 (by omega)) rfl (hb hby zj) (hb hby zk) (hb hby zl) (hb hby zm) (hb hby zn) (hb hby zo) 166 rfl ?_
      intro T1939 h1939 X1939 e1939 k1939 V1939 C1939
      have N1940:=Fr.snoc X1939 N1937 ge1918
      have K1941:=Keep.trans K1938 k1939 (fun x hx=>Or.inl hx)
      have F1942:=F1920.keep K1941 (allS ge1918 all0)
      have F1943:=F1921.keep K1941 (ninS ne1916 nin0)
      have F1944:=F1922.keep K1941
      have F1945:=F1923.keep K1941 (ninS ne1917 nin0)
      have F1946:=F1924.keep K1941 (ninS ne1917 nin0)
      have F1947:=A1915.keep K1941
      have Z1949:n0≤h1939.size:=Nat.le_trans Z1926 K1941.1
      have K1950:=K1925.trans K1941 (allS (Or.inr sz1919) all0)
      have D5:Arv Z h1939 a1915 k1915 .char 5 ([B.getD 0 0,B.getD 1 0,B.getD 2 0,B.getD 3 0,B.getD 4 0].map Value.int) (.int 0):=C1939
      show Go _ _ _ _ _ (mkF _ _ _ [(.ref a1915),(.ref a1905),(.ref a1905)])
      have hcs:Cs [B.getD 0 0,B.getD 1 0,B.getD 2 0,B.getD 3 0,B.getD 4 0]:=⟨by show 1≤5;decide,by show 5≤12;decide,fun j hj=>by
       match j,hj with
       | 0,_=>exact hch 0 (by omega)
       | 1,_=>exact hch 1 (by omega)
       | 2,_=>exact hch 2 (by omega)
       | 3,_=>exact hch 3 (by omega)
       | 4,_=>exact hch 4 (by omega)⟩
      refine aN X1939 hx hZ rfl hown (tw hw 8 rfl) (tw hw 9 rfl) (tw hw 7 rfl) (tw hw 10 rfl) (by decide) (cI1 l Z a0 hw a1905 a1915 h1939 n0 Z1949 cst fm em SX_ F1942 k1915 5 [B.getD 0 0,B.getD 1 0,B.getD 2 0,B.getD 3 0,B.getD 4 0] F1944 ge1907 ne1917 F1945 F1946 D5 hcs (by show (5:Int32).toInt=((5:Nat):Int);decide)) e1939 (a:=a1905) (argsL:=[(.ref a1915)]) (rest:=[(.ref a1905)]) rfl rfl 1 169 rfl (by rw[hml];rfl) (lenOf bj rfl) (Nat.le_refl _) (by decide) (by decide) (by decide) (by decide) (hb hby zp) ?_
      intro v1951 T1951 L1951 X1951 hQ1951
      obtain⟨rfl,N1951,K1951,bb,kbb,zz,vvs,co,gb,sb,c_,v_,hE,Vb⟩:=hQ1951
      have sb1:=Nat.le_trans (K1950).1 sb
      have N1952:=Fr.app N1940 N1951
      have F1953:=F1942.keep K1951 (allS ge1907 all0)
      have F1954:=F1943.keep K1951 (ninS ne1906 nin0)
      have F1955:=F1944.keep K1951
      have F1958:=F1947.keep K1951
      have F1959:=C1939.keep K1951 (ninS (Ne.symm ne1917) nin0)
      have Z1960:n0≤T1951.heap.size:=Nat.le_trans Z1949 K1951.1
      have K1961:=K1950.trans K1951 (allS (Or.inr sz1908) all0)
      show Go _ _ _ _ _ (mkF _ _ _ [(.ref a1905)])
      exact aA X1951 hx hlk hret rfl rfl rfl (hb hby zq) (by decide) (by decide) rfl ⟨a1905,[B.getD 0 0,B.getD 1 0,B.getD 2 0,B.getD 3 0,B.getD 4 0],rfl,N1952,K1961,ge1907,sz1908,⟨hcs,⟨sz1908,F1955.lt⟩,bb,kbb,zz,vvs,co,⟨sb1,Vb.lt⟩,F1955,c_,v_,Vb,hE⟩,rfl,fun j hj=>by
       match j,hj with
       | 0,_=>rfl
       | 1,_=>rfl
       | 2,_=>rfl
       | 3,_=>rfl
       | 4,_=>rfl⟩
    ·skip
     refine bg X0 hx hZ hown (tw hw 5 rfl) (tw hw 6 rfl) (tw hw 7 rfl) e0 92 (hb hby Oo) rfl (by decide) (by decide) ?_
     intro T1962 h1962 a1962 g1962 X1962 e1962 E1962 A1962 D1962
     have ne1963:b≠a1962:=Nat.ne_of_lt (by rw[g1962];exact V.lt)
     have ge1964:n0≤a1962:=by rw[g1962];exact Z0
     have sz1965:h0.size≤a1962:=by rw[g1962];exact (Keep.refl h0 []).1
     have F1966:=O0.ext E1962
     have F1967:=V.ext E1962
     have K1968:=(Keep.refl h0 []).ext E1962
     have Z1969:n0≤h1962.size:=Nat.le_trans Z0 E1962.1
     have F1970:Fld Z h1962 a1962 sg1 "coder" "B" (.int (0:Int32)):=D1962 (Or.inr (tw hw 31 rfl)) (ty := .byte) (by decide)
     have F1971:Fld Z h1962 a1962 sg1 "value" "[B" .null:=D1962 (Or.inr (tw hw 33 rfl)) (ty:=(.array .byte)) (by decide)
     refine a8 X1962 hx 93 (hb hby Oq) rfl rfl ?_
     refine ac X1962 hx (4:Int32) 94 (hb hby Os) rfl (by decide) ?_
     refine aO X1962 hx hZ (aty := .char) (tw hw 0 rfl) e1962 (by decide) (cap:=4) (by decide) (by decide) 96 (hb hby Ot) rfl (by decide) (by decide) (ad := "[C") (by decide) ?_
     intro T1972 h1972 k1972 a1972 g1972 X1972 e1972 E1972 V1972 A1972
     have ne1973:b≠a1972:=Nat.ne_of_lt (by rw[g1972];exact F1967.lt)
     have ne1974:a1962≠a1972:=Nat.ne_of_lt (by rw[g1972];exact A1962.lt)
     have ge1975:n0≤a1972:=by rw[g1972];exact Z1969
     have sz1976:h0.size≤a1972:=by rw[g1972];exact K1968.1
     have F1977:=F1966.ext E1972
     have F1978:=F1967.ext E1972
     have F1979:=A1962.ext E1972
     have F1980:=F1970.ext E1972
     have F1981:=F1971.ext E1972
     have K1982:=K1968.ext E1972
     have Z1983:n0≤h1972.size:=Nat.le_trans Z1969 E1972.1
     have V1972':Arv Z h1972 a1972 k1972 .char (4:Int32) [(.int (0:Int32)),(.int (0:Int32)),(.int (0:Int32)),(.int (0:Int32))] (.int (0:Int32)):=V1972.pad (pad_rep [] (.int (0:Int32)) 4)
     have hk:mm=4:=by omega
     subst hk
     refine az X1972 hx hZ e1972 F1978 V1972' ne1973 (0:Int32) 0 (by decide) (by decide) (by decide) (by decide) (by simp) (hch 0 (by omega)) rfl (hb hby Ou) (hb hby Ov) (hb hby Ow) (hb hby Ox) (hb hby yp) (hb hby yq) 102 rfl ?_
     intro T1984 h1984 X1984 e1984 k1984 V1984 C1984
     have N1985:=Fr.snoc X1984 N0 ge1975
     have K1986:=Keep.trans (Keep.refl h1972 [a1972]) k1984 (fun x hx=>Or.inl hx)
     refine az X1984 hx hZ e1984 V1984 C1984 ne1973 (1:Int32) 1 (by decide) (by decide) (by decide) (by decide) (by simp) (hch 1 (by omega)) rfl (hb hby yr) (hb hby ys) (hb hby yt) (hb hby yu) (hb hby yv) (hb hby yw) 108 rfl ?_
     intro T1987 h1987 X1987 e1987 k1987 V1987 C1987
     have N1988:=Fr.snoc X1987 N1985 ge1975
     have K1989:=Keep.trans K1986 k1987 (fun x hx=>Or.inl hx)
     refine az X1987 hx hZ e1987 V1987 C1987 ne1973 (2:Int32) 2 (by decide) (by decide) (by decide) (by decide) (by simp) (hch 2 (by omega)) rfl (hb hby yx) (hb hby yy) (hb hby yz) (hb hby yA) (hb hby yB) (hb hby yC) 114 rfl ?_
     intro T1990 h1990 X1990 e1990 k1990 V1990 C1990
     have N1991:=Fr.snoc X1990 N1988 ge1975
     have K1992:=Keep.trans K1989 k1990 (fun x hx=>Or.inl hx)
     refine az X1990 hx hZ e1990 V1990 C1990 ne1973 (3:Int32) 3 (by decide) (by decide) (by decide) (by decide) (by simp) (hch 3 (by omega)) rfl (hb hby yD) (hb hby yE) (hb hby yF) (hb hby yG) (hb hby yH) (hb hby yI) 120 rfl ?_
     intro T1993 h1993 X1993 e1993 k1993 V1993 C1993
     have N1994:=Fr.snoc X1993 N1991 ge1975
     have K1995:=Keep.trans K1992 k1993 (fun x hx=>Or.inl hx)
     have F1996:=F1977.keep K1995 (allS ge1975 all0)
     have F1997:=F1978.keep K1995 (ninS ne1973 nin0)
     have F1998:=F1979.keep K1995
     have F1999:=F1980.keep K1995 (ninS ne1974 nin0)
     have F2000:=F1981.keep K1995 (ninS ne1974 nin0)
     have F2001:=A1972.keep K1995
     have Z2003:n0≤h1993.size:=Nat.le_trans Z1983 K1995.1
     have K2004:=K1982.trans K1995 (allS (Or.inr sz1976) all0)
     have D4:Arv Z h1993 a1972 k1972 .char 4 ([B.getD 0 0,B.getD 1 0,B.getD 2 0,B.getD 3 0].map Value.int) (.int 0):=C1993
     show Go _ _ _ _ _ (mkF _ _ _ [(.ref a1972),(.ref a1962),(.ref a1962)])
     have hcs:Cs [B.getD 0 0,B.getD 1 0,B.getD 2 0,B.getD 3 0]:=⟨by show 1≤4;decide,by show 4≤12;decide,fun j hj=>by
      match j,hj with
      | 0,_=>exact hch 0 (by omega)
      | 1,_=>exact hch 1 (by omega)
      | 2,_=>exact hch 2 (by omega)
      | 3,_=>exact hch 3 (by omega)⟩
     refine aN X1993 hx hZ rfl hown (tw hw 8 rfl) (tw hw 9 rfl) (tw hw 7 rfl) (tw hw 10 rfl) (by decide) (cI1 l Z a0 hw a1962 a1972 h1993 n0 Z2003 cst fm em SX_ F1996 k1972 4 [B.getD 0 0,B.getD 1 0,B.getD 2 0,B.getD 3 0] F1998 ge1964 ne1974 F1999 F2000 D4 hcs (by show (4:Int32).toInt=((4:Nat):Int);decide)) e1993 (a:=a1962) (argsL:=[(.ref a1972)]) (rest:=[(.ref a1962)]) rfl rfl 1 123 rfl (by rw[hml];rfl) (lenOf bj rfl) (Nat.le_refl _) (by decide) (by decide) (by decide) (by decide) (hb hby yJ) ?_
     intro v2005 T2005 L2005 X2005 hQ2005
     obtain⟨rfl,N2005,K2005,bb,kbb,zz,vvs,co,gb,sb,c_,v_,hE,Vb⟩:=hQ2005
     have sb1:=Nat.le_trans (K2004).1 sb
     have N2006:=Fr.app N1994 N2005
     have F2007:=F1996.keep K2005 (allS ge1964 all0)
     have F2008:=F1997.keep K2005 (ninS ne1963 nin0)
     have F2009:=F1998.keep K2005
     have F2012:=F2001.keep K2005
     have F2013:=C1993.keep K2005 (ninS (Ne.symm ne1974) nin0)
     have Z2014:n0≤T2005.heap.size:=Nat.le_trans Z2003 K2005.1
     have K2015:=K2004.trans K2005 (allS (Or.inr sz1965) all0)
     show Go _ _ _ _ _ (mkF _ _ _ [(.ref a1962)])
     exact aA X2005 hx hlk hret rfl rfl rfl (hb hby yK) (by decide) (by decide) rfl ⟨a1962,[B.getD 0 0,B.getD 1 0,B.getD 2 0,B.getD 3 0],rfl,N2006,K2015,ge1964,sz1965,⟨hcs,⟨sz1965,F2009.lt⟩,bb,kbb,zz,vvs,co,⟨sb1,Vb.lt⟩,F2009,c_,v_,Vb,hE⟩,rfl,fun j hj=>by
      match j,hj with
      | 0,_=>rfl
      | 1,_=>rfl
      | 2,_=>rfl
      | 3,_=>rfl⟩
   ·skip
    refine bg X0 hx hZ hown (tw hw 5 rfl) (tw hw 6 rfl) (tw hw 7 rfl) e0 58 (hb hby NW) rfl (by decide) (by decide) ?_
    intro T2016 h2016 a2016 g2016 X2016 e2016 E2016 A2016 D2016
    have ne2017:b≠a2016:=Nat.ne_of_lt (by rw[g2016];exact V.lt)
    have ge2018:n0≤a2016:=by rw[g2016];exact Z0
    have sz2019:h0.size≤a2016:=by rw[g2016];exact (Keep.refl h0 []).1
    have F2020:=O0.ext E2016
    have F2021:=V.ext E2016
    have K2022:=(Keep.refl h0 []).ext E2016
    have Z2023:n0≤h2016.size:=Nat.le_trans Z0 E2016.1
    have F2024:Fld Z h2016 a2016 sg1 "coder" "B" (.int (0:Int32)):=D2016 (Or.inr (tw hw 31 rfl)) (ty := .byte) (by decide)
    have F2025:Fld Z h2016 a2016 sg1 "value" "[B" .null:=D2016 (Or.inr (tw hw 33 rfl)) (ty:=(.array .byte)) (by decide)
    refine a8 X2016 hx 59 (hb hby NX) rfl rfl ?_
    refine ac X2016 hx (3:Int32) 60 (hb hby NY) rfl (by decide) ?_
    refine aO X2016 hx hZ (aty := .char) (tw hw 0 rfl) e2016 (by decide) (cap:=3) (by decide) (by decide) 62 (hb hby NZ) rfl (by decide) (by decide) (ad := "[C") (by decide) ?_
    intro T2026 h2026 k2026 a2026 g2026 X2026 e2026 E2026 V2026 A2026
    have ne2027:b≠a2026:=Nat.ne_of_lt (by rw[g2026];exact F2021.lt)
    have ne2028:a2016≠a2026:=Nat.ne_of_lt (by rw[g2026];exact A2016.lt)
    have ge2029:n0≤a2026:=by rw[g2026];exact Z2023
    have sz2030:h0.size≤a2026:=by rw[g2026];exact K2022.1
    have F2031:=F2020.ext E2026
    have F2032:=F2021.ext E2026
    have F2033:=A2016.ext E2026
    have F2034:=F2024.ext E2026
    have F2035:=F2025.ext E2026
    have K2036:=K2022.ext E2026
    have Z2037:n0≤h2026.size:=Nat.le_trans Z2023 E2026.1
    have V2026':Arv Z h2026 a2026 k2026 .char (3:Int32) [(.int (0:Int32)),(.int (0:Int32)),(.int (0:Int32))] (.int (0:Int32)):=V2026.pad (pad_rep [] (.int (0:Int32)) 3)
    have hk:mm=3:=by omega
    subst hk
    refine az X2026 hx hZ e2026 F2032 V2026' ne2027 (0:Int32) 0 (by decide) (by decide) (by decide) (by decide) (by simp) (hch 0 (by omega)) rfl (hb hby N1) (hb hby N2) (hb hby N3) (hb hby N4) (hb hby N5) (hb hby N6) 68 rfl ?_
    intro T2038 h2038 X2038 e2038 k2038 V2038 C2038
    have N2039:=Fr.snoc X2038 N0 ge2029
    have K2040:=Keep.trans (Keep.refl h2026 [a2026]) k2038 (fun x hx=>Or.inl hx)
    refine az X2038 hx hZ e2038 V2038 C2038 ne2027 (1:Int32) 1 (by decide) (by decide) (by decide) (by decide) (by simp) (hch 1 (by omega)) rfl (hb hby N7) (hb hby N8) (hb hby N_) (hb hby Oa) (hb hby Ob) (hb hby Oc) 74 rfl ?_
    intro T2041 h2041 X2041 e2041 k2041 V2041 C2041
    have N2042:=Fr.snoc X2041 N2039 ge2029
    have K2043:=Keep.trans K2040 k2041 (fun x hx=>Or.inl hx)
    refine az X2041 hx hZ e2041 V2041 C2041 ne2027 (2:Int32) 2 (by decide) (by decide) (by decide) (by decide) (by simp) (hch 2 (by omega)) rfl (hb hby Od) (hb hby Oe) (hb hby Of) (hb hby Og) (hb hby Oh) (hb hby Oi) 80 rfl ?_
    intro T2044 h2044 X2044 e2044 k2044 V2044 C2044
    have N2045:=Fr.snoc X2044 N2042 ge2029
    have K2046:=Keep.trans K2043 k2044 (fun x hx=>Or.inl hx)
    have F2047:=F2031.keep K2046 (allS ge2029 all0)
    have F2048:=F2032.keep K2046 (ninS ne2027 nin0)
    have F2049:=F2033.keep K2046
    have F2050:=F2034.keep K2046 (ninS ne2028 nin0)
    have F2051:=F2035.keep K2046 (ninS ne2028 nin0)
    have F2052:=A2026.keep K2046
    have Z2054:n0≤h2044.size:=Nat.le_trans Z2037 K2046.1
    have K2055:=K2036.trans K2046 (allS (Or.inr sz2030) all0)
    have D3:Arv Z h2044 a2026 k2026 .char 3 ([B.getD 0 0,B.getD 1 0,B.getD 2 0].map Value.int) (.int 0):=C2044
    show Go _ _ _ _ _ (mkF _ _ _ [(.ref a2026),(.ref a2016),(.ref a2016)])
    have hcs:Cs [B.getD 0 0,B.getD 1 0,B.getD 2 0]:=⟨by show 1≤3;decide,by show 3≤12;decide,fun j hj=>by
     match j,hj with
     | 0,_=>exact hch 0 (by omega)
     | 1,_=>exact hch 1 (by omega)
     | 2,_=>exact hch 2 (by omega)⟩
    refine aN X2044 hx hZ rfl hown (tw hw 8 rfl) (tw hw 9 rfl) (tw hw 7 rfl) (tw hw 10 rfl) (by decide) (cI1 l Z a0 hw a2016 a2026 h2044 n0 Z2054 cst fm em SX_ F2047 k2026 3 [B.getD 0 0,B.getD 1 0,B.getD 2 0] F2049 ge2018 ne2028 F2050 F2051 D3 hcs (by show (3:Int32).toInt=((3:Nat):Int);decide)) e2044 (a:=a2016) (argsL:=[(.ref a2026)]) (rest:=[(.ref a2016)]) rfl rfl 1 83 rfl (by rw[hml];rfl) (lenOf bj rfl) (Nat.le_refl _) (by decide) (by decide) (by decide) (by decide) (hb hby Oj) ?_
    intro v2056 T2056 L2056 X2056 hQ2056
    obtain⟨rfl,N2056,K2056,bb,kbb,zz,vvs,co,gb,sb,c_,v_,hE,Vb⟩:=hQ2056
    have sb1:=Nat.le_trans (K2055).1 sb
    have N2057:=Fr.app N2045 N2056
    have F2058:=F2047.keep K2056 (allS ge2018 all0)
    have F2059:=F2048.keep K2056 (ninS ne2017 nin0)
    have F2060:=F2049.keep K2056
    have F2063:=F2052.keep K2056
    have F2064:=C2044.keep K2056 (ninS (Ne.symm ne2028) nin0)
    have Z2065:n0≤T2056.heap.size:=Nat.le_trans Z2054 K2056.1
    have K2066:=K2055.trans K2056 (allS (Or.inr sz2019) all0)
    show Go _ _ _ _ _ (mkF _ _ _ [(.ref a2016)])
    exact aA X2056 hx hlk hret rfl rfl rfl (hb hby Ok) (by decide) (by decide) rfl ⟨a2016,[B.getD 0 0,B.getD 1 0,B.getD 2 0],rfl,N2057,K2066,ge2018,sz2019,⟨hcs,⟨sz2019,F2060.lt⟩,bb,kbb,zz,vvs,co,⟨sb1,Vb.lt⟩,F2060,c_,v_,Vb,hE⟩,rfl,fun j hj=>by
     match j,hj with
     | 0,_=>rfl
     | 1,_=>rfl
     | 2,_=>rfl⟩
  ·skip
   refine bg X0 hx hZ hown (tw hw 5 rfl) (tw hw 6 rfl) (tw hw 7 rfl) e0 30 (hb hby NB) rfl (by decide) (by decide) ?_
   intro T2067 h2067 a2067 g2067 X2067 e2067 E2067 A2067 D2067
   have ne2068:b≠a2067:=Nat.ne_of_lt (by rw[g2067];exact V.lt)
   have ge2069:n0≤a2067:=by rw[g2067];exact Z0
   have sz2070:h0.size≤a2067:=by rw[g2067];exact (Keep.refl h0 []).1
   have F2071:=O0.ext E2067
   have F2072:=V.ext E2067
   have K2073:=(Keep.refl h0 []).ext E2067
   have Z2074:n0≤h2067.size:=Nat.le_trans Z0 E2067.1
   have F2075:Fld Z h2067 a2067 sg1 "coder" "B" (.int (0:Int32)):=D2067 (Or.inr (tw hw 31 rfl)) (ty := .byte) (by decide)
   have F2076:Fld Z h2067 a2067 sg1 "value" "[B" .null:=D2067 (Or.inr (tw hw 33 rfl)) (ty:=(.array .byte)) (by decide)
   refine a8 X2067 hx 31 (hb hby NC) rfl rfl ?_
   refine ac X2067 hx (2:Int32) 32 (hb hby ND) rfl (by decide) ?_
   refine aO X2067 hx hZ (aty := .char) (tw hw 0 rfl) e2067 (by decide) (cap:=2) (by decide) (by decide) 34 (hb hby NE) rfl (by decide) (by decide) (ad := "[C") (by decide) ?_
   intro T2077 h2077 k2077 a2077 g2077 X2077 e2077 E2077 V2077 A2077
   have ne2078:b≠a2077:=Nat.ne_of_lt (by rw[g2077];exact F2072.lt)
   have ne2079:a2067≠a2077:=Nat.ne_of_lt (by rw[g2077];exact A2067.lt)
   have ge2080:n0≤a2077:=by rw[g2077];exact Z2074
   have sz2081:h0.size≤a2077:=by rw[g2077];exact K2073.1
   have F2082:=F2071.ext E2077
   have F2083:=F2072.ext E2077
   have F2084:=A2067.ext E2077
   have F2085:=F2075.ext E2077
   have F2086:=F2076.ext E2077
   have K2087:=K2073.ext E2077
   have Z2088:n0≤h2077.size:=Nat.le_trans Z2074 E2077.1
   have V2077':Arv Z h2077 a2077 k2077 .char (2:Int32) [(.int (0:Int32)),(.int (0:Int32))] (.int (0:Int32)):=V2077.pad (pad_rep [] (.int (0:Int32)) 2)
   have hk:mm=2:=by omega
   subst hk
   refine az X2077 hx hZ e2077 F2083 V2077' ne2078 (0:Int32) 0 (by decide) (by decide) (by decide) (by decide) (by simp) (hch 0 (by omega)) rfl (hb hby NF) (hb hby NG) (hb hby NH) (hb hby NI) (hb hby NJ) (hb hby NK) 40 rfl ?_
   intro T2089 h2089 X2089 e2089 k2089 V2089 C2089
   have N2090:=Fr.snoc X2089 N0 ge2080
   have K2091:=Keep.trans (Keep.refl h2077 [a2077]) k2089 (fun x hx=>Or.inl hx)
   refine az X2089 hx hZ e2089 V2089 C2089 ne2078 (1:Int32) 1 (by decide) (by decide) (by decide) (by decide) (by simp) (hch 1 (by omega)) rfl (hb hby NL) (hb hby NM) (hb hby NN) (hb hby NO) (hb hby NP) (hb hby NQ) 46 rfl ?_
   intro T2092 h2092 X2092 e2092 k2092 V2092 C2092
   have N2093:=Fr.snoc X2092 N2090 ge2080
   have K2094:=Keep.trans K2091 k2092 (fun x hx=>Or.inl hx)
   have F2095:=F2082.keep K2094 (allS ge2080 all0)
   have F2096:=F2083.keep K2094 (ninS ne2078 nin0)
   have F2097:=F2084.keep K2094
   have F2098:=F2085.keep K2094 (ninS ne2079 nin0)
   have F2099:=F2086.keep K2094 (ninS ne2079 nin0)
   have F2100:=A2077.keep K2094
   have Z2102:n0≤h2092.size:=Nat.le_trans Z2088 K2094.1
   have K2103:=K2087.trans K2094 (allS (Or.inr sz2081) all0)
   have D2:Arv Z h2092 a2077 k2077 .char 2 ([B.getD 0 0,B.getD 1 0].map Value.int) (.int 0):=C2092
   show Go _ _ _ _ _ (mkF _ _ _ [(.ref a2077),(.ref a2067),(.ref a2067)])
   have hcs:Cs [B.getD 0 0,B.getD 1 0]:=⟨by show 1≤2;decide,by show 2≤12;decide,fun j hj=>by
    match j,hj with
    | 0,_=>exact hch 0 (by omega)
    | 1,_=>exact hch 1 (by omega)⟩
   refine aN X2092 hx hZ rfl hown (tw hw 8 rfl) (tw hw 9 rfl) (tw hw 7 rfl) (tw hw 10 rfl) (by decide) (cI1 l Z a0 hw a2067 a2077 h2092 n0 Z2102 cst fm em SX_ F2095 k2077 2 [B.getD 0 0,B.getD 1 0] F2097 ge2069 ne2079 F2098 F2099 D2 hcs (by show (2:Int32).toInt=((2:Nat):Int);decide)) e2092 (a:=a2067) (argsL:=[(.ref a2077)]) (rest:=[(.ref a2067)]) rfl rfl 1 49 rfl (by rw[hml];rfl) (lenOf bj rfl) (Nat.le_refl _) (by decide) (by decide) (by decide) (by decide) (hb hby NR) ?_
   intro v2104 T2104 L2104 X2104 hQ2104
   obtain⟨rfl,N2104,K2104,bb,kbb,zz,vvs,co,gb,sb,c_,v_,hE,Vb⟩:=hQ2104
   have sb1:=Nat.le_trans (K2103).1 sb
   have N2105:=Fr.app N2093 N2104
   have F2106:=F2095.keep K2104 (allS ge2069 all0)
   have F2107:=F2096.keep K2104 (ninS ne2068 nin0)
   have F2108:=F2097.keep K2104
   have F2111:=F2100.keep K2104
   have F2112:=C2092.keep K2104 (ninS (Ne.symm ne2079) nin0)
   have Z2113:n0≤T2104.heap.size:=Nat.le_trans Z2102 K2104.1
   have K2114:=K2103.trans K2104 (allS (Or.inr sz2070) all0)
   show Go _ _ _ _ _ (mkF _ _ _ [(.ref a2067)])
   exact aA X2104 hx hlk hret rfl rfl rfl (hb hby NS) (by decide) (by decide) rfl ⟨a2067,[B.getD 0 0,B.getD 1 0],rfl,N2105,K2114,ge2069,sz2070,⟨hcs,⟨sz2070,F2108.lt⟩,bb,kbb,zz,vvs,co,⟨sb1,Vb.lt⟩,F2108,c_,v_,Vb,hE⟩,rfl,fun j hj=>by
    match j,hj with
    | 0,_=>rfl
    | 1,_=>rfl⟩
 ·skip
  refine bg X0 hx hZ hown (tw hw 5 rfl) (tw hw 6 rfl) (tw hw 7 rfl) e0 8 (hb hby Ps) rfl (by decide) (by decide) ?_
  intro T2115 h2115 a2115 g2115 X2115 e2115 E2115 A2115 D2115
  have ne2116:b≠a2115:=Nat.ne_of_lt (by rw[g2115];exact V.lt)
  have ge2117:n0≤a2115:=by rw[g2115];exact Z0
  have sz2118:h0.size≤a2115:=by rw[g2115];exact (Keep.refl h0 []).1
  have F2119:=O0.ext E2115
  have F2120:=V.ext E2115
  have K2121:=(Keep.refl h0 []).ext E2115
  have Z2122:n0≤h2115.size:=Nat.le_trans Z0 E2115.1
  have F2123:Fld Z h2115 a2115 sg1 "coder" "B" (.int (0:Int32)):=D2115 (Or.inr (tw hw 31 rfl)) (ty := .byte) (by decide)
  have F2124:Fld Z h2115 a2115 sg1 "value" "[B" .null:=D2115 (Or.inr (tw hw 33 rfl)) (ty:=(.array .byte)) (by decide)
  refine a8 X2115 hx 9 (hb hby Pu) rfl rfl ?_
  refine ac X2115 hx (1:Int32) 10 (hb hby Pv) rfl (by decide) ?_
  refine aO X2115 hx hZ (aty := .char) (tw hw 0 rfl) e2115 (by decide) (cap:=1) (by decide) (by decide) 12 (hb hby Np) rfl (by decide) (by decide) (ad := "[C") (by decide) ?_
  intro T2125 h2125 k2125 a2125 g2125 X2125 e2125 E2125 V2125 A2125
  have ne2126:b≠a2125:=Nat.ne_of_lt (by rw[g2125];exact F2120.lt)
  have ne2127:a2115≠a2125:=Nat.ne_of_lt (by rw[g2125];exact A2115.lt)
  have ge2128:n0≤a2125:=by rw[g2125];exact Z2122
  have sz2129:h0.size≤a2125:=by rw[g2125];exact K2121.1
  have F2130:=F2119.ext E2125
  have F2131:=F2120.ext E2125
  have F2132:=A2115.ext E2125
  have F2133:=F2123.ext E2125
  have F2134:=F2124.ext E2125
  have K2135:=K2121.ext E2125
  have Z2136:n0≤h2125.size:=Nat.le_trans Z2122 E2125.1
  have V2125':Arv Z h2125 a2125 k2125 .char (1:Int32) [(.int (0:Int32))] (.int (0:Int32)):=V2125.pad (pad_rep [] (.int (0:Int32)) 1)
  have hk:mm=1:=by omega
  subst hk
  refine az X2125 hx hZ e2125 F2131 V2125' ne2126 (0:Int32) 0 (by decide) (by decide) (by decide) (by decide) (by simp) (hch 0 (by omega)) rfl (hb hby Nq) (hb hby Nr) (hb hby Ns) (hb hby Nt) (hb hby Nu) (hb hby Nv) 18 rfl ?_
  intro T2137 h2137 X2137 e2137 k2137 V2137 C2137
  have N2138:=Fr.snoc X2137 N0 ge2128
  have K2139:=Keep.trans (Keep.refl h2125 [a2125]) k2137 (fun x hx=>Or.inl hx)
  have F2140:=F2130.keep K2139 (allS ge2128 all0)
  have F2141:=F2131.keep K2139 (ninS ne2126 nin0)
  have F2142:=F2132.keep K2139
  have F2143:=F2133.keep K2139 (ninS ne2127 nin0)
  have F2144:=F2134.keep K2139 (ninS ne2127 nin0)
  have F2145:=A2125.keep K2139
  have Z2147:n0≤h2137.size:=Nat.le_trans Z2136 K2139.1
  have K2148:=K2135.trans K2139 (allS (Or.inr sz2129) all0)
  have D1:Arv Z h2137 a2125 k2125 .char 1 ([B.getD 0 0].map Value.int) (.int 0):=C2137
  show Go _ _ _ _ _ (mkF _ _ _ [(.ref a2125),(.ref a2115),(.ref a2115)])
  have hcs:Cs [B.getD 0 0]:=⟨by show 1≤1;decide,by show 1≤12;decide,fun j hj=>by
   match j,hj with
   | 0,_=>exact hch 0 (by omega)⟩
  refine aN X2137 hx hZ rfl hown (tw hw 8 rfl) (tw hw 9 rfl) (tw hw 7 rfl) (tw hw 10 rfl) (by decide) (cI1 l Z a0 hw a2115 a2125 h2137 n0 Z2147 cst fm em SX_ F2140 k2125 1 [B.getD 0 0] F2142 ge2117 ne2127 F2143 F2144 D1 hcs (by show (1:Int32).toInt=((1:Nat):Int);decide)) e2137 (a:=a2115) (argsL:=[(.ref a2125)]) (rest:=[(.ref a2115)]) rfl rfl 1 21 rfl (by rw[hml];rfl) (lenOf bj rfl) (Nat.le_refl _) (by decide) (by decide) (by decide) (by decide) (hb hby Nw) ?_
  intro v2149 T2149 L2149 X2149 hQ2149
  obtain⟨rfl,N2149,K2149,bb,kbb,zz,vvs,co,gb,sb,c_,v_,hE,Vb⟩:=hQ2149
  have sb1:=Nat.le_trans (K2148).1 sb
  have N2150:=Fr.app N2138 N2149
  have F2151:=F2140.keep K2149 (allS ge2117 all0)
  have F2152:=F2141.keep K2149 (ninS ne2116 nin0)
  have F2153:=F2142.keep K2149
  have F2156:=F2145.keep K2149
  have F2157:=C2137.keep K2149 (ninS (Ne.symm ne2127) nin0)
  have Z2158:n0≤T2149.heap.size:=Nat.le_trans Z2147 K2149.1
  have K2159:=K2148.trans K2149 (allS (Or.inr sz2118) all0)
  show Go _ _ _ _ _ (mkF _ _ _ [(.ref a2115)])
  exact aA X2149 hx hlk hret rfl rfl rfl (hb hby Nx) (by decide) (by decide) rfl ⟨a2115,[B.getD 0 0],rfl,N2150,K2159,ge2117,sz2118,⟨hcs,⟨sz2118,F2153.lt⟩,bb,kbb,zz,vvs,co,⟨sb1,Vb.lt⟩,F2153,c_,v_,Vb,hE⟩,rfl,fun j hj=>by
   match j,hj with
   | 0,_=>rfl⟩
def Nm (cs:List Int32)(e l:Nat)(p:Int32):Prop:=1≤l∧l≤3∧(cs.getD e 0).toInt=47∧(∀j,j<l→cs.getD (e+1+j) 0=chn p j)∧¬(l=1∧(chn p 0).toInt=46)∧¬(l=2∧(chn p 0).toInt=46∧(chn p 1).toInt=46)
theorem Nm.no {cs:List Int32}{e l:Nat}{p:Int32}(H:Nm cs e l p):∀j,e+1≤j→j<e+1+l→(cs.getD j 0).toInt≠47:=fun j h1 h2=>by
 have:=H.2.2.2.1 (j-(e+1)) (by omega)
 rw[show e+1+(j-(e+1))=j by omega] at this
 rw[this]
 exact (bw p _).2
theorem Nm.d1 {cs:List Int32}{e l:Nat}{p:Int32}(H:Nm cs e l p):¬(l=1∧(cs.getD (e+1) 0).toInt=46):=fun q=>by
 have:=H.2.2.2.1 0 (by omega)
 rw[Nat.add_zero] at this
 rw[this] at q
 exact H.2.2.2.2.1 q
theorem Nm.d2 {cs:List Int32}{e l:Nat}{p:Int32}(H:Nm cs e l p):l=2→¬((cs.getD (e+1) 0).toInt=46∧(cs.getD (e+1+1) 0).toInt=46):=fun hl q=>by
 have h0:=H.2.2.2.1 0 (by omega)
 have h1:=H.2.2.2.1 1 (by omega)
 rw[Nat.add_zero] at h0
 rw[h0,h1] at q
 exact H.2.2.2.2.2 ⟨hl,q⟩
theorem cM {cs:List Int32}{k e:Nat}{r:Int32}(h:Idx cs k r)(h1:k≤e)(h2:e<cs.length)(h3:(cs.getD e 0).toInt=47)(h4:∀j,k≤j→j<e→(cs.getD j 0).toInt≠47):r.toInt=(e:Int):=by
 rcases h with ⟨-,q⟩|⟨q,q1,q2,q3,q4,q5⟩
 ·exact absurd h3 (q e h1 h2)
 ·rcases Nat.lt_trichotomy q e with z|z|z
  ·exact absurd q4 (h4 q q2 z)
  ·rw[q1,z]
  ·exact absurd h3 (q5 e h1 z)
theorem cN {cs:List Int32}{k:Nat}{r:Int32}(h:Idx cs k r)(h4:∀j,k≤j→j<cs.length→(cs.getD j 0).toInt≠47):r.toInt=-1:=by
 rcases h with ⟨q,-⟩|⟨q,q1,q2,q3,q4,q5⟩
 ·exact q
 ·exact absurd q4 (h4 q q2 q3)
def bu:List (String×Nat):=[(sg0,71),(sg0,72),(sg0,104)]
theorem cI {Z:State}{a0:Array Value}(hw:HW a0 Z):∀d∈Bundle.stringAtoms,d.before a0 Z=true:=by
 intro d hd
 simp only[Bundle.stringAtoms,List.mem_cons,List.not_mem_nil,or_false] at hd
 rcases hd with rfl|rfl|rfl|rfl|rfl|rfl|rfl
 ·exact (tw hw 7 rfl)
 ·exact (tw hw 6 rfl)
 ·exact (tw hw 23 rfl)
 ·exact (tw hw 33 rfl)
 ·exact (tw hw 31 rfl)
 ·exact (tw hw 39 rfl)
 ·exact (tw hw 40 rfl)
theorem bW {Z:State}{a0:Array Value}(hw:HW a0 Z):EW Z a0 bu:=EW.cons (tw hw 38 rfl) (by decide +kernel) (EW.cons (tw hw 45 rfl) (by decide +kernel) (EW.cons (tw hw 162 rfl) (by decide +kernel) (EW.nil)))
theorem Oz:dk aV 0 (.iload_n 2) 1:=by decide +kernel
theorem OA:dk aV 1 (.iload_n 1) 1:=by decide +kernel
theorem OB:dk aV 2 (.isub) 1:=by decide +kernel
theorem OC:dk aV 3 (.istore_n 3) 1:=by decide +kernel
theorem OD:dk aV 4 (.iload_n 3) 1:=by decide +kernel
theorem OE:dk aV 5 (.ifCond .ne 13) 3:=by decide +kernel
theorem G9:dk aV 18 (.iload_n 3) 1:=by decide +kernel
theorem G_:dk aV 19 (.iconst 1) 1:=by decide +kernel
theorem Ha:dk aV 20 (.if_icmp .ne 17) 3:=by decide +kernel
theorem Hb:dk aV 23 (.aload_n 0) 1:=by decide +kernel
theorem Hc:dk aV 24 (.iload_n 1) 1:=by decide +kernel
theorem Hd:dk aV 25 (.invokevirtual 100) 3:=by decide +kernel
theorem He:dk aV 28 (.bipush 46) 2:=by decide +kernel
theorem Hf:dk aV 30 (.if_icmp .ne 7) 3:=by decide +kernel
theorem mR:dk aV 37 (.iconst 0) 1:=by decide +kernel
theorem mS:dk aV 38 (.istore 4) 2:=by decide +kernel
theorem mT:dk aV 40 (.iload_n 3) 1:=by decide +kernel
theorem mU:dk aV 41 (.iconst 2) 1:=by decide +kernel
theorem mV:dk aV 42 (.if_icmp .ne 17) 3:=by decide +kernel
theorem mW:dk aV 45 (.aload_n 0) 1:=by decide +kernel
theorem mX:dk aV 46 (.ldc 104) 2:=by decide +kernel
theorem mY:dk aV 48 (.iload_n 1) 1:=by decide +kernel
theorem mZ:dk aV 49 (.invokevirtual 106) 3:=by decide +kernel
theorem m3:dk aV 52 (.ifCond .eq 7) 3:=by decide +kernel
theorem gi:dk aV 59 (.iconst 0) 1:=by decide +kernel
theorem gj:dk aV 60 (.istore 5) 2:=by decide +kernel
theorem gk:dk aV 62 (.iload 4) 2:=by decide +kernel
theorem gl:dk aV 64 (.ifCond .ne 8) 3:=by decide +kernel
theorem gm:dk aV 67 (.iload 5) 2:=by decide +kernel
theorem gn:dk aV 69 (.ifCond .eq 22) 3:=by decide +kernel
theorem go:dk aV 91 (.aload_n 0) 1:=by decide +kernel
theorem gq:dk aV 92 (.bipush 47) 2:=by decide +kernel
theorem gs:dk aV 94 (.iload_n 1) 1:=by decide +kernel
theorem gv:dk aV 95 (.invokevirtual 87) 3:=by decide +kernel
theorem gx:dk aV 98 (.istore 6) 2:=by decide +kernel
theorem d7:dk aV 100 (.iload 6) 2:=by decide +kernel
theorem d8:dk aV 102 (.ifCond .lt 28) 3:=by decide +kernel
theorem d9:dk aV 105 (.iload 6) 2:=by decide +kernel
theorem d_:dk aV 107 (.iload_n 2) 1:=by decide +kernel
theorem eb:dk aV 108 (.if_icmp .ge 22) 3:=by decide +kernel
theorem bP:dk aV 130 (.return_) 1:=by decide +kernel
theorem m4:plainFor (⟨sg0,"checkName","(Ljava/lang/String;II)V"⟩:MethodName)=true:=plainFor_of_name (by first|(simp [plainName,overriddenIn];done)|decide +kernel)
def OF (n0:Nat)(h0:Heap)(v:Option Value)(h:Heap)(L:List Loc):Prop:=v=none∧Fr n0 L∧Keep h0 h []
theorem Hg (a:Addr)(i1 i2:Int32)(m:MethodId):entryFrame m #[(.ref a),(.int i1),(.int i2)] 7=mkF m 0 #[.val (.ref a),.val (.int i1),.val (.int i2),.unset,.unset,.unset,.unset] []:=by first|(simp [entryFrame,mkF,argsToLocals,Value.category];done)|rfl
theorem cCk (l:Launch)(Z:State)(a0:Array Value)(hw:HW a0 Z)(a:Addr)(i1 i2:Int32)(h0:Heap)(n0:Nat)(Z0:n0≤h0.size)(cst:Int32)(fm:Option Addr)(em:Addr)(SX_:SX Z cst fm em)(O0:Old Z n0 h0)(Lw B:Nat)(cs:List Int32)(S:a3 Z h0 Lw B a cs)(pp nn:Nat)(hi1:i1.toInt=(pp:Int))(hi2:i2.toInt=((pp+nn:Nat):Int))(hn1:1≤nn)(hpn:pp+nn≤cs.length)(hno:∀j,pp≤j→j<pp+nn→(cs.getD j 0).toInt≠47)(hd1:¬(nn=1∧(cs.getD pp 0).toInt=46))(hd2:nn=2→¬((cs.getD pp 0).toInt=46∧(cs.getD (pp+1) 0).toInt=46)) :
  MetFree l (⟨sg0,"checkName","(Ljava/lang/String;II)V"⟩:MethodName) (head1 [Jvm.Cond.code (⟨sg0,"checkName","(Ljava/lang/String;II)V"⟩:MethodName) prog_26_method_6_code 7 none] ({ frames:=6,cells:=2,slots:=12,locals:=125 }:Room)) (fun as_ U=>as_=#[(.ref a),(.int i1),(.int i2)]∧Z.Warmed39 U.vm∧U.heap=h0∧CHv Z bu U.vm h0) (fun _ _ _ _ _=>True) (fun _ U o U'=>∃v L,o = .returned v∧OF n0 h0 v U'.heap L∧CHv Z bu U'.vm U'.heap∧ReturnedEndW U o U' L ({ frames:=6,cells:=2,slots:=12,locals:=125 }:Room).cells ({ frames:=6,cells:=2,slots:=12,locals:=125 }:Room).slots):=by
 have own_wS:=cI hw
 have hEL:=bW hw
 refine jL m4 (Hg a i1 i2) ?_
 intro p e s m below meth c T0 X0 hx hby hml hret hlk hnm hown hZ e0 hS hC
 have N0:=Fr.nil n0
 have hk:0≤h0.size:=Nat.zero_le _
 have Ew:=S.exa
 have hcl:=S.1.2.1
 refine aa X0 hx 1 (hb hby Oz) rfl rfl ?_
 refine aa X0 hx 2 (hb hby OA) rfl rfl ?_
 refine bm X0 hx 3 (hb hby OB) rfl ?_
 have ht:(i2-i1).toInt=(nn:Int):=by
  rw[aT hi2 hi1 (by omega) (by omega)]
  omega
 generalize (i2-i1)=t at ht ⊢
 refine aq (l':=#[.val (.ref a),.val (.int i1),.val (.int i2),.val (.int t),.unset,.unset,.unset]) X0 hx 4 (hb hby OC) rfl rfl ?_
 refine aa X0 hx 5 (hb hby OD) rfl rfl ?_
 refine aI X0 hx 18 8 (hb hby OE) (by decide) (by decide) rfl (fun c2160=>?_) (fun c2160=>?_)
 ·skip
  refine aa X0 hx 19 (hb hby G9) rfl rfl ?_
  refine ac X0 hx (1:Int32) 20 (hb hby G_) rfl (by decide) ?_
  have ll2162:((1:Int32):Int32).toInt=1:=by decide
  refine av X0 hx 37 23 (hb hby Ha) (by decide) (by decide) rfl (fun c2161=>?_) (fun c2161=>?_)
  ·skip
   refine ac X0 hx (0:Int32) 38 (hb hby mR) rfl (by decide) ?_
   refine ah (l':=#[.val (.ref a),.val (.int i1),.val (.int i2),.val (.int t),.val (.int (0:Int32)),.unset,.unset]) X0 hx 40 (hb hby mS) rfl rfl ?_
   refine aa X0 hx 41 (hb hby mT) rfl rfl ?_
   refine ac X0 hx (2:Int32) 42 (hb hby mU) rfl (by decide) ?_
   have ll2164:((2:Int32):Int32).toInt=2:=by decide
   refine av X0 hx 59 45 (hb hby mV) (by decide) (by decide) rfl (fun c2163=>?_) (fun c2163=>?_)
   ·skip
    refine ac X0 hx (0:Int32) 60 (hb hby gi) rfl (by decide) ?_
    refine ah (l':=#[.val (.ref a),.val (.int i1),.val (.int i2),.val (.int t),.val (.int (0:Int32)),.val (.int (0:Int32)),.unset]) X0 hx 62 (hb hby gj) rfl rfl ?_
    refine ae X0 hx 64 (hb hby gk) rfl rfl ?_
    have ll2166:((0:Int32):Int32).toInt=0:=by decide
    refine aI X0 hx 72 67 (hb hby gl) (by decide) (by decide) rfl (fun c2165=>?_) (fun c2165=>?_)
    ·skip
     exfalso;revert c2165;decide
    ·skip
     refine ae X0 hx 69 (hb hby gm) rfl rfl ?_
     have ll2168:((0:Int32):Int32).toInt=0:=by decide
     refine ax X0 hx 91 72 (hb hby gn) (by decide) (by decide) rfl (fun c2167=>?_) (fun c2167=>?_)
     ·skip
      refine ab X0 hx 92 (hb hby go) rfl rfl rfl ?_
      refine aj X0 hx (47:Int32) 94 (hb hby gq) rfl (by decide) ?_
      refine aa X0 hx 95 (hb hby gs) rfl rfl ?_
      refine ak X0 hx hZ (C:=sg1) hown (tw hw 101 rfl) (tw hw 102 rfl) (tw hw 104 rfl) (tw hw 104 rfl) (tw hw 103 rfl) (tw hw 7 rfl) (tw hw 105 rfl) (by decide) (cSI l Z a0 hw a i1 h0 n0 Z0 cst fm em SX_ O0 Lw B cs S pp hi1 (by omega)) e0 (b:=a) Ew (argsL:=[(.int (47:Int32)),(.int i1)]) (rest:=[]) rfl rfl 0 98 rfl (by rw[hml];rfl) (lenOf aG rfl) (Nat.le_refl _) (by decide) (by decide) (by decide) (by decide) (hb hby gv) ?_
      intro v2169 T2169 L2169 X2169 hQ2169
      obtain⟨r,rfl,hr,N2169,q2169⟩:=hQ2169
      have N2170:=Fr.app N0 N2169
      show Go _ _ _ _ _ (mkF _ _ _ [(.int r)])
      refine ah (l':=#[.val (.ref a),.val (.int i1),.val (.int i2),.val (.int t),.val (.int (0:Int32)),.val (.int (0:Int32)),.val (.int r)]) X2169 hx 100 (hb hby gx) rfl rfl ?_
      refine ae X2169 hx 102 (hb hby d7) rfl rfl ?_
      refine aB X2169 hx 130 105 (hb hby d8) (by decide) (by decide) rfl (fun c2171=>?_) (fun c2171=>?_)
      ·skip
       exact bA X2169 hx hlk hret (hb hby bP) (by decide) (by decide) q2169 hS hk hZ hEL hC ⟨rfl,N2170,(Keep.refl h0 [])⟩
      ·skip
       refine ae X2169 hx 107 (hb hby d9) rfl rfl ?_
       refine aa X2169 hx 108 (hb hby d_) rfl rfl ?_
       refine am X2169 hx 130 111 (hb hby eb) (by decide) (by decide) rfl (fun c2172=>?_) (fun c2172=>?_)
       ·skip
        exact bA X2169 hx hlk hret (hb hby bP) (by decide) (by decide) q2169 hS hk hZ hEL hC ⟨rfl,N2170,(Keep.refl h0 [])⟩
       ·skip
        rcases hr with ⟨h1,-⟩|⟨q,h1,h2,h3,h4,-⟩
        ·omega
        ·exact absurd h4 (hno q h2 (by omega))
     ·skip
      exfalso;revert c2167;decide
   ·skip
    refine ab X0 hx 46 (hb hby mW) rfl rfl rfl ?_
    refine bU X0 hx hZ hown (tw hw 162 rfl) own_wS e0 hS hk hEL (List.mem_of_getElem? (i:=2) rfl) hC (vs:=[(.int 46),(.int 46)]) (z:=2) ⟨by decide +kernel,by decide +kernel⟩ (by decide) (by decide) 8 (by decide +kernel) (by decide) 48 (hb hby mX) rfl (by decide) (by decide) ?_
    intro t2173 T2173 h2173 k2173 vb2173 kb2173 X2173 e2173 E2173 hS hk hZ hown Es2173 Cs2173 Fs2173 Vs2173 hC LT
    have F2174:=O0.ext E2173
    have F2175:=Ew.ext E2173
    have K2176:=(Keep.refl h0 []).ext E2173
    have S2177:=S.ext E2173
    have Z2178:n0≤h2173.size:=Nat.le_trans Z0 E2173.1
    refine aa X2173 hx 49 (hb hby mY) rfl rfl ?_
    refine ak X2173 hx hZ (C:=sg1) hown (tw hw 163 rfl) (tw hw 52 rfl) (tw hw 54 rfl) (tw hw 54 rfl) (tw hw 53 rfl) (tw hw 7 rfl) (tw hw 55 rfl) (by decide) (LG l Z a0 hw a t2173 i1 h2173 n0 Z2178 cst fm em SX_ F2174 Lw B cs S2177 vb2173 kb2173 Es2173 Cs2173 Fs2173 Vs2173 pp hi1 (by omega) (hd2 (by omega))) e2173 (b:=a) F2175 (argsL:=[(.ref t2173),(.int i1)]) (rest:=[]) rfl rfl 0 52 rfl (by rw[hml];rfl) (lenOf ei rfl) (Nat.le_refl _) (by decide) (by decide) (by decide) (by decide) (hb hby mZ) ?_
    intro v2179 T2179 L2179 X2179 hQ2179
    obtain⟨rfl,N2179,q2179⟩:=hQ2179
    have N2180:=Fr.app N0 N2179
    show Go _ _ _ _ _ (mkF _ _ _ [(.int (0:Int32))])
    have ll2182:((0:Int32):Int32).toInt=0:=by decide
    refine ax X2179 hx 59 55 (hb hby m3) (by decide) (by decide) rfl (fun c2181=>?_) (fun c2181=>?_)
    ·skip
     refine ac X2179 hx (0:Int32) 60 (hb hby gi) rfl (by decide) ?_
     refine ah (l':=#[.val (.ref a),.val (.int i1),.val (.int i2),.val (.int t),.val (.int (0:Int32)),.val (.int (0:Int32)),.unset]) X2179 hx 62 (hb hby gj) rfl rfl ?_
     refine ae X2179 hx 64 (hb hby gk) rfl rfl ?_
     have ll2184:((0:Int32):Int32).toInt=0:=by decide
     refine aI X2179 hx 72 67 (hb hby gl) (by decide) (by decide) rfl (fun c2183=>?_) (fun c2183=>?_)
     ·skip
      exfalso;revert c2183;decide
     ·skip
      refine ae X2179 hx 69 (hb hby gm) rfl rfl ?_
      have ll2186:((0:Int32):Int32).toInt=0:=by decide
      refine ax X2179 hx 91 72 (hb hby gn) (by decide) (by decide) rfl (fun c2185=>?_) (fun c2185=>?_)
      ·skip
       refine ab X2179 hx 92 (hb hby go) rfl rfl rfl ?_
       refine aj X2179 hx (47:Int32) 94 (hb hby gq) rfl (by decide) ?_
       refine aa X2179 hx 95 (hb hby gs) rfl rfl ?_
       refine ak X2179 hx hZ (C:=sg1) hown (tw hw 101 rfl) (tw hw 102 rfl) (tw hw 104 rfl) (tw hw 104 rfl) (tw hw 103 rfl) (tw hw 7 rfl) (tw hw 105 rfl) (by decide) (cSI l Z a0 hw a i1 h2173 n0 Z2178 cst fm em SX_ F2174 Lw B cs S2177 pp hi1 (by omega)) q2179 (b:=a) F2175 (argsL:=[(.int (47:Int32)),(.int i1)]) (rest:=[]) rfl rfl 0 98 rfl (by rw[hml];rfl) (lenOf aG rfl) (Nat.le_refl _) (by decide) (by decide) (by decide) (by decide) (hb hby gv) ?_
       intro v2187 T2187 L2187 X2187 hQ2187
       obtain⟨r,rfl,hr,N2187,q2187⟩:=hQ2187
       have N2188:=Fr.app N2180 N2187
       show Go _ _ _ _ _ (mkF _ _ _ [(.int r)])
       refine ah (l':=#[.val (.ref a),.val (.int i1),.val (.int i2),.val (.int t),.val (.int (0:Int32)),.val (.int (0:Int32)),.val (.int r)]) X2187 hx 100 (hb hby gx) rfl rfl ?_
       refine ae X2187 hx 102 (hb hby d7) rfl rfl ?_
       refine aB X2187 hx 130 105 (hb hby d8) (by decide) (by decide) rfl (fun c2189=>?_) (fun c2189=>?_)
       ·skip
        exact bA X2187 hx hlk hret (hb hby bP) (by decide) (by decide) q2187 hS hk hZ hEL hC ⟨rfl,N2188,K2176⟩
       ·skip
        refine ae X2187 hx 107 (hb hby d9) rfl rfl ?_
        refine aa X2187 hx 108 (hb hby d_) rfl rfl ?_
        refine am X2187 hx 130 111 (hb hby eb) (by decide) (by decide) rfl (fun c2190=>?_) (fun c2190=>?_)
        ·skip
         exact bA X2187 hx hlk hret (hb hby bP) (by decide) (by decide) q2187 hS hk hZ hEL hC ⟨rfl,N2188,K2176⟩
        ·skip
         rcases hr with ⟨h1,-⟩|⟨q,h1,h2,h3,h4,-⟩
         ·omega
         ·exact absurd h4 (hno q h2 (by omega))
      ·skip
       exfalso;revert c2185;decide
    ·skip
     exfalso;revert c2181;decide
  ·skip
   refine ab X0 hx 24 (hb hby Hb) rfl rfl rfl ?_
   refine aa X0 hx 25 (hb hby Hc) rfl rfl ?_
   refine ak X0 hx hZ (C:=sg1) hown (tw hw 146 rfl) (tw hw 147 rfl) (tw hw 149 rfl) (tw hw 149 rfl) (tw hw 148 rfl) (tw hw 7 rfl) (tw hw 150 rfl) (by decide) (cCh l Z a0 hw a i1 h0 n0 Z0 cst fm em SX_ O0 Lw B cs S pp hi1 (by omega)) e0 (b:=a) Ew (argsL:=[(.int i1)]) (rest:=[]) rfl rfl 0 28 rfl (by rw[hml];rfl) (lenOf cD rfl) (Nat.le_refl _) (by decide) (by decide) (by decide) (by decide) (hb hby Hd) ?_
   intro v2191 T2191 L2191 X2191 hQ2191
   obtain⟨rfl,N2191,q2191⟩:=hQ2191
   have N2192:=Fr.app N0 N2191
   show Go _ _ _ _ _ (mkF _ _ _ [(.int (cs.getD pp 0))])
   refine aj X2191 hx (46:Int32) 30 (hb hby He) rfl (by decide) ?_
   have ll2194:((46:Int32):Int32).toInt=46:=by decide
   refine av X2191 hx 37 33 (hb hby Hf) (by decide) (by decide) rfl (fun c2193=>?_) (fun c2193=>?_)
   ·skip
    refine ac X2191 hx (0:Int32) 38 (hb hby mR) rfl (by decide) ?_
    refine ah (l':=#[.val (.ref a),.val (.int i1),.val (.int i2),.val (.int t),.val (.int (0:Int32)),.unset,.unset]) X2191 hx 40 (hb hby mS) rfl rfl ?_
    refine aa X2191 hx 41 (hb hby mT) rfl rfl ?_
    refine ac X2191 hx (2:Int32) 42 (hb hby mU) rfl (by decide) ?_
    have ll2196:((2:Int32):Int32).toInt=2:=by decide
    refine av X2191 hx 59 45 (hb hby mV) (by decide) (by decide) rfl (fun c2195=>?_) (fun c2195=>?_)
    ·skip
     refine ac X2191 hx (0:Int32) 60 (hb hby gi) rfl (by decide) ?_
     refine ah (l':=#[.val (.ref a),.val (.int i1),.val (.int i2),.val (.int t),.val (.int (0:Int32)),.val (.int (0:Int32)),.unset]) X2191 hx 62 (hb hby gj) rfl rfl ?_
     refine ae X2191 hx 64 (hb hby gk) rfl rfl ?_
     have ll2198:((0:Int32):Int32).toInt=0:=by decide
     refine aI X2191 hx 72 67 (hb hby gl) (by decide) (by decide) rfl (fun c2197=>?_) (fun c2197=>?_)
     ·skip
      exfalso;revert c2197;decide
     ·skip
      refine ae X2191 hx 69 (hb hby gm) rfl rfl ?_
      have ll2200:((0:Int32):Int32).toInt=0:=by decide
      refine ax X2191 hx 91 72 (hb hby gn) (by decide) (by decide) rfl (fun c2199=>?_) (fun c2199=>?_)
      ·skip
       refine ab X2191 hx 92 (hb hby go) rfl rfl rfl ?_
       refine aj X2191 hx (47:Int32) 94 (hb hby gq) rfl (by decide) ?_
       refine aa X2191 hx 95 (hb hby gs) rfl rfl ?_
       refine ak X2191 hx hZ (C:=sg1) hown (tw hw 101 rfl) (tw hw 102 rfl) (tw hw 104 rfl) (tw hw 104 rfl) (tw hw 103 rfl) (tw hw 7 rfl) (tw hw 105 rfl) (by decide) (cSI l Z a0 hw a i1 h0 n0 Z0 cst fm em SX_ O0 Lw B cs S pp hi1 (by omega)) q2191 (b:=a) Ew (argsL:=[(.int (47:Int32)),(.int i1)]) (rest:=[]) rfl rfl 0 98 rfl (by rw[hml];rfl) (lenOf aG rfl) (Nat.le_refl _) (by decide) (by decide) (by decide) (by decide) (hb hby gv) ?_
       intro v2201 T2201 L2201 X2201 hQ2201
       obtain⟨r,rfl,hr,N2201,q2201⟩:=hQ2201
       have N2202:=Fr.app N2192 N2201
       show Go _ _ _ _ _ (mkF _ _ _ [(.int r)])
       refine ah (l':=#[.val (.ref a),.val (.int i1),.val (.int i2),.val (.int t),.val (.int (0:Int32)),.val (.int (0:Int32)),.val (.int r)]) X2201 hx 100 (hb hby gx) rfl rfl ?_
       refine ae X2201 hx 102 (hb hby d7) rfl rfl ?_
       refine aB X2201 hx 130 105 (hb hby d8) (by decide) (by decide) rfl (fun c2203=>?_) (fun c2203=>?_)
       ·skip
        exact bA X2201 hx hlk hret (hb hby bP) (by decide) (by decide) q2201 hS hk hZ hEL hC ⟨rfl,N2202,(Keep.refl h0 [])⟩
       ·skip
        refine ae X2201 hx 107 (hb hby d9) rfl rfl ?_
        refine aa X2201 hx 108 (hb hby d_) rfl rfl ?_
        refine am X2201 hx 130 111 (hb hby eb) (by decide) (by decide) rfl (fun c2204=>?_) (fun c2204=>?_)
        ·skip
         exact bA X2201 hx hlk hret (hb hby bP) (by decide) (by decide) q2201 hS hk hZ hEL hC ⟨rfl,N2202,(Keep.refl h0 [])⟩
        ·skip
         rcases hr with ⟨h1,-⟩|⟨q,h1,h2,h3,h4,-⟩
         ·omega
         ·exact absurd h4 (hno q h2 (by omega))
      ·skip
       exfalso;revert c2199;decide
    ·skip
     refine ab X2191 hx 46 (hb hby mW) rfl rfl rfl ?_
     refine bU X2191 hx hZ hown (tw hw 162 rfl) own_wS q2191 hS hk hEL (List.mem_of_getElem? (i:=2) rfl) hC (vs:=[(.int 46),(.int 46)]) (z:=2) ⟨by decide +kernel,by decide +kernel⟩ (by decide) (by decide) 8 (by decide +kernel) (by decide) 48 (hb hby mX) rfl (by decide) (by decide) ?_
     intro t2205 T2205 h2205 k2205 vb2205 kb2205 X2205 e2205 E2205 hS hk hZ hown Es2205 Cs2205 Fs2205 Vs2205 hC LT
     have F2206:=O0.ext E2205
     have F2207:=Ew.ext E2205
     have K2208:=(Keep.refl h0 []).ext E2205
     have S2209:=S.ext E2205
     have Z2210:n0≤h2205.size:=Nat.le_trans Z0 E2205.1
     refine aa X2205 hx 49 (hb hby mY) rfl rfl ?_
     refine ak X2205 hx hZ (C:=sg1) hown (tw hw 163 rfl) (tw hw 52 rfl) (tw hw 54 rfl) (tw hw 54 rfl) (tw hw 53 rfl) (tw hw 7 rfl) (tw hw 55 rfl) (by decide) (LG l Z a0 hw a t2205 i1 h2205 n0 Z2210 cst fm em SX_ F2206 Lw B cs S2209 vb2205 kb2205 Es2205 Cs2205 Fs2205 Vs2205 pp hi1 (by omega) (hd2 (by omega))) e2205 (b:=a) F2207 (argsL:=[(.ref t2205),(.int i1)]) (rest:=[]) rfl rfl 0 52 rfl (by rw[hml];rfl) (lenOf ei rfl) (Nat.le_refl _) (by decide) (by decide) (by decide) (by decide) (hb hby mZ) ?_
     intro v2211 T2211 L2211 X2211 hQ2211
     obtain⟨rfl,N2211,q2211⟩:=hQ2211
     have N2212:=Fr.app N2192 N2211
     show Go _ _ _ _ _ (mkF _ _ _ [(.int (0:Int32))])
     have ll2214:((0:Int32):Int32).toInt=0:=by decide
     refine ax X2211 hx 59 55 (hb hby m3) (by decide) (by decide) rfl (fun c2213=>?_) (fun c2213=>?_)
     ·skip
      refine ac X2211 hx (0:Int32) 60 (hb hby gi) rfl (by decide) ?_
      refine ah (l':=#[.val (.ref a),.val (.int i1),.val (.int i2),.val (.int t),.val (.int (0:Int32)),.val (.int (0:Int32)),.unset]) X2211 hx 62 (hb hby gj) rfl rfl ?_
      refine ae X2211 hx 64 (hb hby gk) rfl rfl ?_
      have ll2216:((0:Int32):Int32).toInt=0:=by decide
      refine aI X2211 hx 72 67 (hb hby gl) (by decide) (by decide) rfl (fun c2215=>?_) (fun c2215=>?_)
      ·skip
       exfalso;revert c2215;decide
      ·skip
       refine ae X2211 hx 69 (hb hby gm) rfl rfl ?_
       have ll2218:((0:Int32):Int32).toInt=0:=by decide
       refine ax X2211 hx 91 72 (hb hby gn) (by decide) (by decide) rfl (fun c2217=>?_) (fun c2217=>?_)
       ·skip
        refine ab X2211 hx 92 (hb hby go) rfl rfl rfl ?_
        refine aj X2211 hx (47:Int32) 94 (hb hby gq) rfl (by decide) ?_
        refine aa X2211 hx 95 (hb hby gs) rfl rfl ?_
        refine ak X2211 hx hZ (C:=sg1) hown (tw hw 101 rfl) (tw hw 102 rfl) (tw hw 104 rfl) (tw hw 104 rfl) (tw hw 103 rfl) (tw hw 7 rfl) (tw hw 105 rfl) (by decide) (cSI l Z a0 hw a i1 h2205 n0 Z2210 cst fm em SX_ F2206 Lw B cs S2209 pp hi1 (by omega)) q2211 (b:=a) F2207 (argsL:=[(.int (47:Int32)),(.int i1)]) (rest:=[]) rfl rfl 0 98 rfl (by rw[hml];rfl) (lenOf aG rfl) (Nat.le_refl _) (by decide) (by decide) (by decide) (by decide) (hb hby gv) ?_
        intro v2219 T2219 L2219 X2219 hQ2219
        obtain⟨r,rfl,hr,N2219,q2219⟩:=hQ2219
        have N2220:=Fr.app N2212 N2219
        show Go _ _ _ _ _ (mkF _ _ _ [(.int r)])
        refine ah (l':=#[.val (.ref a),.val (.int i1),.val (.int i2),.val (.int t),.val (.int (0:Int32)),.val (.int (0:Int32)),.val (.int r)]) X2219 hx 100 (hb hby gx) rfl rfl ?_
        refine ae X2219 hx 102 (hb hby d7) rfl rfl ?_
        refine aB X2219 hx 130 105 (hb hby d8) (by decide) (by decide) rfl (fun c2221=>?_) (fun c2221=>?_)
        ·skip
         exact bA X2219 hx hlk hret (hb hby bP) (by decide) (by decide) q2219 hS hk hZ hEL hC ⟨rfl,N2220,K2208⟩
        ·skip
         refine ae X2219 hx 107 (hb hby d9) rfl rfl ?_
         refine aa X2219 hx 108 (hb hby d_) rfl rfl ?_
         refine am X2219 hx 130 111 (hb hby eb) (by decide) (by decide) rfl (fun c2222=>?_) (fun c2222=>?_)
         ·skip
          exact bA X2219 hx hlk hret (hb hby bP) (by decide) (by decide) q2219 hS hk hZ hEL hC ⟨rfl,N2220,K2208⟩
         ·skip
          rcases hr with ⟨h1,-⟩|⟨q,h1,h2,h3,h4,-⟩
          ·omega
          ·exact absurd h4 (hno q h2 (by omega))
       ·skip
        exfalso;revert c2217;decide
     ·skip
      exfalso;revert c2213;decide
   ·skip
    exact absurd ⟨by omega,by omega⟩ hd1
 ·skip
  exfalso;omega
theorem oe:dk aD 0 (.aload_n 0) 1:=by decide +kernel
theorem og:dk aD 1 (.ldc 71) 2:=by decide +kernel
theorem oh:dk aD 3 (.invokestatic 27) 3:=by decide +kernel
theorem oi:dk aD 6 (.pop) 1:=by decide +kernel
theorem oj:dk aD 7 (.aload_n 0) 1:=by decide +kernel
theorem ol:dk aD 8 (.ldc 72) 2:=by decide +kernel
theorem jx:dk aD 10 (.invokevirtual 74) 3:=by decide +kernel
theorem jy:dk aD 13 (.ifCond .ne 17) 3:=by decide +kernel
theorem jz:dk aD 30 (.getstatic 21) 3:=by decide +kernel
theorem jA:dk aD 33 (.astore_n 1) 1:=by decide +kernel
theorem jB:dk aD 34 (.aload_n 0) 1:=by decide +kernel
theorem jC:dk aD 35 (.invokevirtual 33) 3:=by decide +kernel
theorem jD:dk aD 38 (.iconst 1) 1:=by decide +kernel
theorem jE:dk aD 39 (.if_icmp .le 107) 3:=by decide +kernel
theorem m5:dk aD 42 (.iconst 0) 1:=by decide +kernel
theorem m6:dk aD 43 (.istore_n 2) 1:=by decide +kernel
theorem m7:dk aD 44 (.iconst 0) 1:=by decide +kernel
theorem m8:dk aD 45 (.istore_n 3) 1:=by decide +kernel
theorem c3:dk aD 46 (.iload_n 3) 1:=by decide +kernel
theorem c4:dk aD 47 (.ifCond .lt 19) 3:=by decide +kernel
theorem eO:dk aD 50 (.iinc 2 1) 3:=by decide +kernel
theorem eP:dk aD 53 (.aload_n 0) 1:=by decide +kernel
theorem eQ:dk aD 54 (.bipush 47) 2:=by decide +kernel
theorem eR:dk aD 56 (.iload_n 3) 1:=by decide +kernel
theorem eS:dk aD 57 (.iconst 1) 1:=by decide +kernel
theorem eU:dk aD 58 (.iadd) 1:=by decide +kernel
theorem eV:dk aD 59 (.invokevirtual 87) 3:=by decide +kernel
theorem eW:dk aD 62 (.istore_n 3) 1:=by decide +kernel
theorem eX:dk aD 63 (.goto (-17)) 3:=by decide +kernel
theorem m9:dk aD 66 (.iload_n 2) 1:=by decide +kernel
theorem m_:dk aD 67 (.newarray .int) 2:=by decide +kernel
theorem nc:dk aD 69 (.astore_n 3) 1:=by decide +kernel
theorem nd:dk aD 70 (.iconst 0) 1:=by decide +kernel
theorem nf:dk aD 71 (.istore 4) 2:=by decide +kernel
theorem ng:dk aD 73 (.iconst 0) 1:=by decide +kernel
theorem nh:dk aD 74 (.istore 5) 2:=by decide +kernel
theorem c5:dk aD 76 (.iload 5) 2:=by decide +kernel
theorem c6:dk aD 78 (.ifCond .lt 29) 3:=by decide +kernel
theorem eY:dk aD 81 (.aload_n 3) 1:=by decide +kernel
theorem eZ:dk aD 82 (.iload 4) 2:=by decide +kernel
theorem e6:dk aD 84 (.iinc 4 1) 3:=by decide +kernel
theorem e7:dk aD 87 (.iload 5) 2:=by decide +kernel
theorem e8:dk aD 89 (.iconst 1) 1:=by decide +kernel
theorem e9:dk aD 90 (.iadd) 1:=by decide +kernel
theorem e_:dk aD 91 (.iastore) 1:=by decide +kernel
theorem fa:dk aD 92 (.aload_n 0) 1:=by decide +kernel
theorem fb:dk aD 93 (.bipush 47) 2:=by decide +kernel
theorem fd:dk aD 95 (.iload 5) 2:=by decide +kernel
theorem fe:dk aD 97 (.iconst 1) 1:=by decide +kernel
theorem ff:dk aD 98 (.iadd) 1:=by decide +kernel
theorem fg:dk aD 99 (.invokevirtual 87) 3:=by decide +kernel
theorem dD:dk aD 102 (.istore 5) 2:=by decide +kernel
theorem dE:dk aD 104 (.goto (-28)) 3:=by decide +kernel
theorem i8:dk aD 107 (.new 8) 3:=by decide +kernel
theorem i9:dk aD 110 (.dup) 1:=by decide +kernel
theorem i_:dk aD 111 (.aload_n 0) 1:=by decide +kernel
theorem ja:dk aD 112 (.aload_n 3) 1:=by decide +kernel
theorem jb:dk aD 113 (.invokespecial 91) 3:=by decide +kernel
theorem jc:dk aD 116 (.astore_n 1) 1:=by decide +kernel
theorem jd:dk aD 117 (.iconst 0) 1:=by decide +kernel
theorem je:dk aD 118 (.istore 5) 2:=by decide +kernel
theorem cw:dk aD 120 (.iload 5) 2:=by decide +kernel
theorem cx:dk aD 122 (.iload_n 2) 1:=by decide +kernel
theorem cy:dk aD 123 (.if_icmp .ge 23) 3:=by decide +kernel
theorem dF:dk aD 126 (.aload_n 0) 1:=by decide +kernel
theorem dG:dk aD 127 (.aload_n 3) 1:=by decide +kernel
theorem dH:dk aD 128 (.iload 5) 2:=by decide +kernel
theorem dI:dk aD 130 (.iaload) 1:=by decide +kernel
theorem dJ:dk aD 131 (.aload_n 1) 1:=by decide +kernel
theorem dK:dk aD 132 (.iload 5) 2:=by decide +kernel
theorem dL:dk aD 134 (.invokevirtual 94) 3:=by decide +kernel
theorem dM:dk aD 137 (.invokestatic 39) 3:=by decide +kernel
theorem dN:dk aD 140 (.iinc 5 1) 3:=by decide +kernel
theorem dO:dk aD 143 (.goto (-23)) 3:=by decide +kernel
theorem gy:dk aD 146 (.aload_n 1) 1:=by decide +kernel
theorem gz:dk aD 147 (.areturn) 1:=by decide +kernel
theorem c7:plainFor (⟨sg0,"parse","(Ljava/lang/String;)Lcom/example/hierarchical_roles/hierarchicalroles/ResourcePath;"⟩:MethodName)=true:=plainFor_of_name (by first|(simp [plainName,overriddenIn];done)|decide +kernel)
def Hh (ro:Addr)(n0:Nat)(h0:Heap)(v:Option Value)(h:Heap)(L:List Loc):Prop:=v=some (.ref ro)∧Fr n0 L∧Keep h0 h []
theorem om (a:Addr)(m:MethodId):entryFrame m #[(.ref a)] 6=mkF m 0 #[.val (.ref a),.unset,.unset,.unset,.unset,.unset] []:=by first|(simp [entryFrame,mkF,argsToLocals,Value.category];done)|rfl
theorem Pw (l:Launch)(Z:State)(a0:Array Value)(hw:HW a0 Z)(a:Addr)(h0:Heap)(n0:Nat)(Z0:n0≤h0.size)(cst:Int32)(fm:Option Addr)(em:Addr)(SX_:SX Z cst fm em)(O0:Old Z n0 h0)(ro:Addr)(SR:Sta Z Z.heap sg0 "ROOT" "Lcom/example/hierarchical_roles/hierarchicalroles/ResourcePath;" (.ref ro))(Lw B:Nat)(cs:List Int32)(S:a3 Z h0 Lw B a cs)(hBz:B≤h0.size)(hs0:(cs.getD 0 0).toInt=47)(hlen:cs.length=1) :
  MetFree l (⟨sg0,"parse","(Ljava/lang/String;)Lcom/example/hierarchical_roles/hierarchicalroles/ResourcePath;"⟩:MethodName) (head1 [Jvm.Cond.code (⟨sg0,"parse","(Ljava/lang/String;)Lcom/example/hierarchical_roles/hierarchicalroles/ResourcePath;"⟩:MethodName) prog_26_method_5_code 6 (some (.object sg0))] ({ frames:=7,cells:=12,slots:=120,locals:=160 }:Room)) (fun as_ U=>as_=#[(.ref a)]∧Z.Warmed39 U.vm∧U.heap=h0∧CHv Z bu U.vm h0) (fun _ _ _ _ _=>True) (fun _ U o U'=>∃v L,o = .returned v∧Hh ro n0 h0 v U'.heap L∧ReturnedEndW U o U' L ({ frames:=7,cells:=12,slots:=120,locals:=160 }:Room).cells ({ frames:=7,cells:=12,slots:=120,locals:=160 }:Room).slots):=by
 have own_wS:=cI hw
 have hEL:=bW hw
 refine cE c7 (om a) ?_
 intro p e s m below meth c T0 X0 hx hby hml hret hlk hnm hown hZ e0 hS hC
 have N0:=Fr.nil n0
 have hk:0≤h0.size:=Nat.zero_le _
 have Ew:=S.exa
 have hcl:=S.1.2.1
 refine ab X0 hx 1 (hb hby oe) rfl rfl rfl ?_
 refine bU X0 hx hZ hown (tw hw 38 rfl) own_wS e0 hS hk hEL (List.mem_of_getElem? (i:=0) rfl) hC (vs:=[(.int 119),(.int 114),(.int 105),(.int 116),(.int 116),(.int 101),(.int 110)]) (z:=7) ⟨by decide +kernel,by decide +kernel⟩ (by decide) (by decide) 28 (by decide +kernel) (by decide) 3 (hb hby og) rfl (by decide) (by decide) ?_
 intro t2223 T2223 h2223 k2223 vb2223 kb2223 X2223 e2223 E2223 hS hk hZ hown Es2223 Cs2223 Fs2223 Vs2223 hC LT
 have F2224:=O0.ext E2223
 have F2225:=Ew.ext E2223
 have K2226:=(Keep.refl h0 []).ext E2223
 have S2227:=S.ext E2223
 have Z2228:n0≤h2223.size:=Nat.le_trans Z0 E2223.1
 refine ag X2223 hx hZ hown (tw hw 41 rfl) (tw hw 42 rfl) (tw hw 43 rfl) (tw hw 44 rfl) (by decide) (cRM l Z a0 hw a t2223 h2223 n0 Z2228) e2223 (argsL:=[(.ref a),(.ref t2223)]) (rest:=[]) rfl rfl 0 6 rfl (by rw[hml];rfl) (lenOf dV rfl) (Nat.le_refl _) (by decide) (by decide) (by decide) (by decide) (hb hby oh) ?_
 intro v2229 T2229 L2229 X2229 hQ2229
 obtain⟨rfl,N2229,q2229⟩:=hQ2229
 have N2230:=Fr.app N0 N2229
 show Go _ _ _ _ _ (mkF _ _ _ [(.ref a)])
 refine eh X2229 hx 7 (hb hby oi) rfl rfl ?_
 refine ab X2229 hx 8 (hb hby oj) rfl rfl rfl ?_
 refine bU X2229 hx hZ hown (tw hw 45 rfl) own_wS q2229 hS hk hEL (List.mem_of_getElem? (i:=1) rfl) hC (vs:=[(.int 47)]) (z:=1) ⟨by decide +kernel,by decide +kernel⟩ (by decide) (by decide) 4 (by decide +kernel) (by decide) 10 (hb hby ol) rfl (by decide) (by decide) ?_
 intro t2231 T2231 h2231 k2231 vb2231 kb2231 X2231 e2231 E2231 hS hk hZ hown Es2231 Cs2231 Fs2231 Vs2231 hC LT
 have F2232:=F2224.ext E2231
 have F2233:=F2225.ext E2231
 have K2234:=K2226.ext E2231
 have S2235:=S2227.ext E2231
 have Z2236:n0≤h2231.size:=Nat.le_trans Z2228 E2231.1
 refine ak X2231 hx hZ (C:=sg1) hown (tw hw 46 rfl) (tw hw 47 rfl) (tw hw 49 rfl) (tw hw 49 rfl) (tw hw 48 rfl) (tw hw 7 rfl) (tw hw 50 rfl) (by decide) (cSt l Z a0 hw a t2231 h2231 n0 Z2236 cst fm em SX_ F2232 Lw B cs S2235 vb2231 kb2231 Es2231 Cs2231 Fs2231 Vs2231 hs0) e2231 (b:=a) F2233 (argsL:=[(.ref t2231)]) (rest:=[]) rfl rfl 0 13 rfl (by rw[hml];rfl) (lenOf dW rfl) (Nat.le_refl _) (by decide) (by decide) (by decide) (by decide) (hb hby jx) ?_
 intro v2237 T2237 L2237 X2237 hQ2237
 obtain⟨rfl,N2237,q2237⟩:=hQ2237
 have N2238:=Fr.app N2230 N2237
 show Go _ _ _ _ _ (mkF _ _ _ [(.int (1:Int32))])
 have ll2240:((1:Int32):Int32).toInt=1:=by decide
 refine aI X2237 hx 30 16 (hb hby jy) (by decide) (by decide) rfl (fun c2239=>?_) (fun c2239=>?_)
 ·skip
  refine a1 X2237 hx hZ hown (tw hw 70 rfl) Via.refl q2237 (Sta.ext F2232.2 SR) 33 (hb hby jz) rfl ?_
  intro T2241 X2241 e2241
  refine au (l':=#[.val (.ref a),.val (.ref ro),.unset,.unset,.unset,.unset]) X2241 hx 34 (hb hby jA) rfl rfl rfl ?_
  refine ab X2241 hx 35 (hb hby jB) rfl rfl rfl ?_
  refine ak X2241 hx hZ (C:=sg1) hown (tw hw 72 rfl) (tw hw 57 rfl) (tw hw 59 rfl) (tw hw 59 rfl) (tw hw 58 rfl) (tw hw 7 rfl) (tw hw 60 rfl) (by decide) (cLn l Z a0 hw a h2231 n0 Z2236 cst fm em SX_ F2232 Lw B cs S2235) e2241 (b:=a) F2233 (argsL:=[]) (rest:=[]) rfl rfl 0 38 rfl (by rw[hml];rfl) (lenOf aF rfl) (Nat.le_refl _) (by decide) (by decide) (by decide) (by decide) (hb hby jC) ?_
  intro v2242 T2242 L2242 X2242 hQ2242
  obtain⟨nl,rfl,hn,N2242,q2242⟩:=hQ2242
  have N2243:=Fr.app N2238 N2242
  show Go _ _ _ _ _ (mkF _ _ _ [(.int nl)])
  refine ac X2242 hx (1:Int32) 39 (hb hby jD) rfl (by decide) ?_
  have ll2245:((1:Int32):Int32).toInt=1:=by decide
  refine a7 X2242 hx 146 42 (hb hby jE) (by decide) (by decide) rfl (fun c2244=>?_) (fun c2244=>?_)
  ·skip
   refine ab X2242 hx 147 (hb hby gy) rfl rfl rfl ?_
   exact dX X2242 hx hlk hret rfl rfl rfl (hb hby gz) (by decide) (by decide) q2242 hS (Nat.le_trans hk ((Keep.refl h2231 [])).1) ⟨rfl,N2243,K2234⟩
  ·skip
   exfalso;omega
 ·skip
  exfalso;revert c2239;decide
def Hi (Z:State)(a:Addr)(n0:Nat)(h0:Heap)(v:Option Value)(h:Heap)(L:List Loc):Prop:=∃(pa st:Addr)(ks:ClassId)(s0:Int32),v=some (.ref pa)∧Fr n0 L∧Keep h0 h []∧n0≤pa∧h0.size≤pa∧Exa Z h pa sg0∧Fld Z h pa sg0 "written" cA (.ref a)∧Fld Z h pa sg0 "starts" "[I" (.ref st)∧Fld Z h pa sg0 "names" cQ .null∧Arv Z h st ks .int 1 [(.int s0)] (.int 0)∧st≠pa∧s0.toInt=((0+1:Nat):Int)
theorem oo (a:Addr)(m:MethodId):entryFrame m #[(.ref a)] 6=mkF m 0 #[.val (.ref a),.unset,.unset,.unset,.unset,.unset] []:=by first|(simp [entryFrame,mkF,argsToLocals,Value.category];done)|rfl
theorem Px (l:Launch)(Z:State)(a0:Array Value)(hw:HW a0 Z)(a:Addr)(h0:Heap)(n0:Nat)(Z0:n0≤h0.size)(cst:Int32)(fm:Option Addr)(em:Addr)(SX_:SX Z cst fm em)(O0:Old Z n0 h0)(ro:Addr)(SR:Sta Z Z.heap sg0 "ROOT" "Lcom/example/hierarchical_roles/hierarchicalroles/ResourcePath;" (.ref ro))(Lw B:Nat)(cs:List Int32)(S:a3 Z h0 Lw B a cs)(hBz:B≤h0.size)(hs0:(cs.getD 0 0).toInt=47)(p0:Int32)(l0:Nat)(H0:Nm cs 0 l0 p0)  (hlen:cs.length=0+1+l0) :
  MetFree l (⟨sg0,"parse","(Ljava/lang/String;)Lcom/example/hierarchical_roles/hierarchicalroles/ResourcePath;"⟩:MethodName) (head1 [Jvm.Cond.code (⟨sg0,"parse","(Ljava/lang/String;)Lcom/example/hierarchical_roles/hierarchicalroles/ResourcePath;"⟩:MethodName) prog_26_method_5_code 6 (some (.object sg0))] ({ frames:=7,cells:=12,slots:=120,locals:=160 }:Room)) (fun as_ U=>as_=#[(.ref a)]∧Z.Warmed39 U.vm∧U.heap=h0∧CHv Z bu U.vm h0) (fun _ _ _ _ _=>True) (fun _ U o U'=>∃v L,o = .returned v∧Hi Z a n0 h0 v U'.heap L∧ReturnedEndW U o U' L ({ frames:=7,cells:=12,slots:=120,locals:=160 }:Room).cells ({ frames:=7,cells:=12,slots:=120,locals:=160 }:Room).slots):=by
 have own_wS:=cI hw
 have hEL:=bW hw
 refine cE c7 (oo a) ?_
 intro p e s m below meth c T0 X0 hx hby hml hret hlk hnm hown hZ e0 hS hC
 have N0:=Fr.nil n0
 have hk:0≤h0.size:=Nat.zero_le _
 have Ew:=S.exa
 have hcl:=S.1.2.1
 have no0:=H0.no
 have d10:=H0.d1
 have d20:=H0.d2
 have s470:=H0.2.2.1
 have bl0:=H0.1
 refine ab X0 hx 1 (hb hby oe) rfl rfl rfl ?_
 refine bU X0 hx hZ hown (tw hw 38 rfl) own_wS e0 hS hk hEL (List.mem_of_getElem? (i:=0) rfl) hC (vs:=[(.int 119),(.int 114),(.int 105),(.int 116),(.int 116),(.int 101),(.int 110)]) (z:=7) ⟨by decide +kernel,by decide +kernel⟩ (by decide) (by decide) 28 (by decide +kernel) (by decide) 3 (hb hby og) rfl (by decide) (by decide) ?_
 intro t2246 T2246 h2246 k2246 vb2246 kb2246 X2246 e2246 E2246 hS hk hZ hown Es2246 Cs2246 Fs2246 Vs2246 hC LT
 have F2247:=O0.ext E2246
 have F2248:=Ew.ext E2246
 have K2249:=(Keep.refl h0 []).ext E2246
 have S2250:=S.ext E2246
 have Z2251:n0≤h2246.size:=Nat.le_trans Z0 E2246.1
 refine ag X2246 hx hZ hown (tw hw 41 rfl) (tw hw 42 rfl) (tw hw 43 rfl) (tw hw 44 rfl) (by decide) (cRM l Z a0 hw a t2246 h2246 n0 Z2251) e2246 (argsL:=[(.ref a),(.ref t2246)]) (rest:=[]) rfl rfl 0 6 rfl (by rw[hml];rfl) (lenOf dV rfl) (Nat.le_refl _) (by decide) (by decide) (by decide) (by decide) (hb hby oh) ?_
 intro v2252 T2252 L2252 X2252 hQ2252
 obtain⟨rfl,N2252,q2252⟩:=hQ2252
 have N2253:=Fr.app N0 N2252
 show Go _ _ _ _ _ (mkF _ _ _ [(.ref a)])
 refine eh X2252 hx 7 (hb hby oi) rfl rfl ?_
 refine ab X2252 hx 8 (hb hby oj) rfl rfl rfl ?_
 refine bU X2252 hx hZ hown (tw hw 45 rfl) own_wS q2252 hS hk hEL (List.mem_of_getElem? (i:=1) rfl) hC (vs:=[(.int 47)]) (z:=1) ⟨by decide +kernel,by decide +kernel⟩ (by decide) (by decide) 4 (by decide +kernel) (by decide) 10 (hb hby ol) rfl (by decide) (by decide) ?_
 intro t2254 T2254 h2254 k2254 vb2254 kb2254 X2254 e2254 E2254 hS hk hZ hown Es2254 Cs2254 Fs2254 Vs2254 hC LT
 have F2255:=F2247.ext E2254
 have F2256:=F2248.ext E2254
 have K2257:=K2249.ext E2254
 have S2258:=S2250.ext E2254
 have Z2259:n0≤h2254.size:=Nat.le_trans Z2251 E2254.1
 refine ak X2254 hx hZ (C:=sg1) hown (tw hw 46 rfl) (tw hw 47 rfl) (tw hw 49 rfl) (tw hw 49 rfl) (tw hw 48 rfl) (tw hw 7 rfl) (tw hw 50 rfl) (by decide) (cSt l Z a0 hw a t2254 h2254 n0 Z2259 cst fm em SX_ F2255 Lw B cs S2258 vb2254 kb2254 Es2254 Cs2254 Fs2254 Vs2254 hs0) e2254 (b:=a) F2256 (argsL:=[(.ref t2254)]) (rest:=[]) rfl rfl 0 13 rfl (by rw[hml];rfl) (lenOf dW rfl) (Nat.le_refl _) (by decide) (by decide) (by decide) (by decide) (hb hby jx) ?_
 intro v2260 T2260 L2260 X2260 hQ2260
 obtain⟨rfl,N2260,q2260⟩:=hQ2260
 have N2261:=Fr.app N2253 N2260
 show Go _ _ _ _ _ (mkF _ _ _ [(.int (1:Int32))])
 have ll2263:((1:Int32):Int32).toInt=1:=by decide
 refine aI X2260 hx 30 16 (hb hby jy) (by decide) (by decide) rfl (fun c2262=>?_) (fun c2262=>?_)
 ·skip
  refine a1 X2260 hx hZ hown (tw hw 70 rfl) Via.refl q2260 (Sta.ext F2255.2 SR) 33 (hb hby jz) rfl ?_
  intro T2264 X2264 e2264
  refine au (l':=#[.val (.ref a),.val (.ref ro),.unset,.unset,.unset,.unset]) X2264 hx 34 (hb hby jA) rfl rfl rfl ?_
  refine ab X2264 hx 35 (hb hby jB) rfl rfl rfl ?_
  refine ak X2264 hx hZ (C:=sg1) hown (tw hw 72 rfl) (tw hw 57 rfl) (tw hw 59 rfl) (tw hw 59 rfl) (tw hw 58 rfl) (tw hw 7 rfl) (tw hw 60 rfl) (by decide) (cLn l Z a0 hw a h2254 n0 Z2259 cst fm em SX_ F2255 Lw B cs S2258) e2264 (b:=a) F2256 (argsL:=[]) (rest:=[]) rfl rfl 0 38 rfl (by rw[hml];rfl) (lenOf aF rfl) (Nat.le_refl _) (by decide) (by decide) (by decide) (by decide) (hb hby jC) ?_
  intro v2265 T2265 L2265 X2265 hQ2265
  obtain⟨nl,rfl,hn,N2265,q2265⟩:=hQ2265
  have N2266:=Fr.app N2261 N2265
  show Go _ _ _ _ _ (mkF _ _ _ [(.int nl)])
  refine ac X2265 hx (1:Int32) 39 (hb hby jD) rfl (by decide) ?_
  have ll2268:((1:Int32):Int32).toInt=1:=by decide
  refine a7 X2265 hx 146 42 (hb hby jE) (by decide) (by decide) rfl (fun c2267=>?_) (fun c2267=>?_)
  ·skip
   exfalso;omega
  ·skip
   refine ac X2265 hx (0:Int32) 43 (hb hby m5) rfl (by decide) ?_
   refine aq (l':=#[.val (.ref a),.val (.ref ro),.val (.int (0:Int32)),.unset,.unset,.unset]) X2265 hx 44 (hb hby m6) rfl rfl ?_
   refine ac X2265 hx (0:Int32) 45 (hb hby m7) rfl (by decide) ?_
   refine aq (l':=#[.val (.ref a),.val (.ref ro),.val (.int (0:Int32)),.val (.int (0:Int32)),.unset,.unset]) X2265 hx 46 (hb hby m8) rfl rfl ?_
   refine aa X2265 hx 47 (hb hby c3) rfl rfl ?_
   have ll2270:((0:Int32):Int32).toInt=0:=by decide
   refine aB X2265 hx 66 50 (hb hby c4) (by decide) (by decide) rfl (fun c2269=>?_) (fun c2269=>?_)
   ·skip
    exfalso;revert c2269;decide
   ·skip
    refine aw X2265 hx (w:=(1:Int32)) (1:Int32) (by decide) (l':=#[.val (.ref a),.val (.ref ro),.val (.int (1:Int32)),.val (.int (0:Int32)),.unset,.unset]) 53 (hb hby eO) rfl rfl (by decide) rfl ?_
    refine ab X2265 hx 54 (hb hby eP) rfl rfl rfl ?_
    refine aj X2265 hx (47:Int32) 56 (hb hby eQ) rfl (by decide) ?_
    refine aa X2265 hx 57 (hb hby eR) rfl rfl ?_
    refine ac X2265 hx (1:Int32) 58 (hb hby eS) rfl (by decide) ?_
    refine aL X2265 hx (1:Int32) (by decide) 59 (hb hby eU) rfl ?_
    refine ak X2265 hx hZ (C:=sg1) hown (tw hw 101 rfl) (tw hw 102 rfl) (tw hw 104 rfl) (tw hw 104 rfl) (tw hw 103 rfl) (tw hw 7 rfl) (tw hw 105 rfl) (by decide) (cSI l Z a0 hw a (1:Int32) h2254 n0 Z2259 cst fm em SX_ F2255 Lw B cs S2258 (0+1) (by decide) (by omega)) q2265 (b:=a) F2256 (argsL:=[(.int (47:Int32)),(.int (1:Int32))]) (rest:=[]) rfl rfl 0 62 rfl (by rw[hml];rfl) (lenOf aG rfl) (Nat.le_refl _) (by decide) (by decide) (by decide) (by decide) (hb hby eV) ?_
    intro v2271 T2271 L2271 X2271 hQ2271
    obtain⟨r0_0,rfl,hir0_0,N2271,q2271⟩:=hQ2271
    have N2272:=Fr.app N2266 N2271
    show Go _ _ _ _ _ (mkF _ _ _ [(.int r0_0)])
    have hq0_0:r0_0.toInt=-1:=cN hir0_0 (fun j h1 h2=>no0 j h1 (by omega))
    refine aq (l':=#[.val (.ref a),.val (.ref ro),.val (.int (1:Int32)),.val (.int r0_0),.unset,.unset]) X2271 hx 63 (hb hby eW) rfl rfl ?_
    refine ap X2271 hx 46 (hb hby eX) (by decide) (by decide) ?_
    refine aa X2271 hx 47 (hb hby c3) rfl rfl ?_
    refine aB X2271 hx 66 50 (hb hby c4) (by decide) (by decide) rfl (fun c2273=>?_) (fun c2273=>?_)
    ·skip
     refine aa X2271 hx 67 (hb hby m9) rfl rfl ?_
     refine aO X2271 hx hZ (aty := .int) (tw hw 128 rfl) q2271 (by decide) (cap:=1) (by decide) (by decide) 69 (hb hby m_) rfl (by decide) (by decide) (ad := "[I") (by decide) ?_
     intro T2274 h2274 k2274 a2274 g2274 X2274 e2274 E2274 V2274 A2274
     have ne2275:a≠a2274:=Nat.ne_of_lt (by rw[g2274];exact F2256.lt)
     have ne2276:t2254≠a2274:=Nat.ne_of_lt (by rw[g2274];exact Es2254.lt)
     have ne2277:vb2254≠a2274:=Nat.ne_of_lt (by rw[g2274];exact Vs2254.lt)
     have ge2278:n0≤a2274:=by rw[g2274];exact Z2259
     have sz2279:h0.size≤a2274:=by rw[g2274];exact K2257.1
     have sz2280:h2254.size≤a2274:=by rw[g2274];exact (Keep.refl h2254 []).1
     have F2281:=F2255.ext E2274
     have F2282:=F2256.ext E2274
     have F2283:=Es2254.ext E2274
     have F2284:=Cs2254.ext E2274
     have F2285:=Fs2254.ext E2274
     have F2286:=Vs2254.ext E2274
     have K2287:=K2257.ext E2274
     have S2288:=S2258.ext E2274
     have K2289:=(Keep.refl h2254 []).ext E2274
     have Z2290:n0≤h2274.size:=Nat.le_trans Z2259 E2274.1
     have V2274':Arv Z h2274 a2274 k2274 .int (1:Int32) [(.int (0:Int32))] (.int (0:Int32)):=V2274.pad (pad_rep [] (.int (0:Int32)) 1)
     refine au (l':=#[.val (.ref a),.val (.ref ro),.val (.int (1:Int32)),.val (.ref a2274),.unset,.unset]) X2274 hx 70 (hb hby nc) rfl rfl rfl ?_
     refine ac X2274 hx (0:Int32) 71 (hb hby nd) rfl (by decide) ?_
     refine ah (l':=#[.val (.ref a),.val (.ref ro),.val (.int (1:Int32)),.val (.ref a2274),.val (.int (0:Int32)),.unset]) X2274 hx 73 (hb hby nf) rfl rfl ?_
     refine ac X2274 hx (0:Int32) 74 (hb hby ng) rfl (by decide) ?_
     refine ah (l':=#[.val (.ref a),.val (.ref ro),.val (.int (1:Int32)),.val (.ref a2274),.val (.int (0:Int32)),.val (.int (0:Int32))]) X2274 hx 76 (hb hby nh) rfl rfl ?_
     refine ae X2274 hx 78 (hb hby c5) rfl rfl ?_
     have ll2292:((0:Int32):Int32).toInt=0:=by decide
     refine aB X2274 hx 107 81 (hb hby c6) (by decide) (by decide) rfl (fun c2291=>?_) (fun c2291=>?_)
     ·skip
      exfalso;revert c2291;decide
     ·skip
      refine ab X2274 hx 82 (hb hby eY) rfl rfl rfl ?_
      refine ae X2274 hx 84 (hb hby eZ) rfl rfl ?_
      refine aw X2274 hx (w:=(1:Int32)) (1:Int32) (by decide) (l':=#[.val (.ref a),.val (.ref ro),.val (.int (1:Int32)),.val (.ref a2274),.val (.int (1:Int32)),.val (.int (0:Int32))]) 87 (hb hby e6) rfl rfl (by decide) rfl ?_
      refine ae X2274 hx 89 (hb hby e7) rfl rfl ?_
      refine ac X2274 hx (1:Int32) 90 (hb hby e8) rfl (by decide) ?_
      refine aL X2274 hx (1:Int32) (by decide) 91 (hb hby e9) rfl ?_
      refine bI X2274 hx hZ e2274 V2274' 0 (by decide) (by decide) (by show 0<1;decide) 92 (hb hby e_) rfl ?_
      intro T2293 h2293 X2293 e2293 W2293 V2293
      have F2294:=F2281.wr W2293 ge2278
      have F2295:=F2282.wr W2293
      have F2296:=F2283.wr W2293
      have F2297:=F2284.other W2293 (Or.inl ne2276)
      have F2298:=F2285.other W2293 (Or.inl ne2276)
      have F2299:=F2286.other W2293 ne2277
      have F2300:=A2274.wr W2293
      have K2302:=K2287.wr W2293 (Or.inr sz2279)
      have N2303:=Fr.snoc X2293 N2272 ge2278
      have S2304:=S2288.keep (Keep.of_wr W2293) (allS (Or.inr (Nat.le_trans hBz sz2279)) all0)
      have K2305:=K2289.wr W2293 (Or.inr sz2280)
      have Z2306:n0≤h2293.size:=by rw[W2293.size];exact Z2290
      have V2293':Arv Z h2293 a2274 k2274 .int (1:Int32) [(.int (1:Int32))] (.int (0:Int32)):=V2293
      refine ab X2293 hx 93 (hb hby fa) rfl rfl rfl ?_
      refine aj X2293 hx (47:Int32) 95 (hb hby fb) rfl (by decide) ?_
      refine ae X2293 hx 97 (hb hby fd) rfl rfl ?_
      refine ac X2293 hx (1:Int32) 98 (hb hby fe) rfl (by decide) ?_
      refine aL X2293 hx (1:Int32) (by decide) 99 (hb hby ff) rfl ?_
      refine ak X2293 hx hZ (C:=sg1) hown (tw hw 101 rfl) (tw hw 102 rfl) (tw hw 104 rfl) (tw hw 104 rfl) (tw hw 103 rfl) (tw hw 7 rfl) (tw hw 105 rfl) (by decide) (cSI l Z a0 hw a (1:Int32) h2293 n0 Z2306 cst fm em SX_ F2294 Lw B cs S2304 (0+1) (by decide) (by omega)) e2293 (b:=a) F2295 (argsL:=[(.int (47:Int32)),(.int (1:Int32))]) (rest:=[]) rfl rfl 0 102 rfl (by rw[hml];rfl) (lenOf aG rfl) (Nat.le_refl _) (by decide) (by decide) (by decide) (by decide) (hb hby fg) ?_
      intro v2307 T2307 L2307 X2307 hQ2307
      obtain⟨r1_0,rfl,hir1_0,N2307,q2307⟩:=hQ2307
      have N2308:=Fr.app N2303 N2307
      show Go _ _ _ _ _ (mkF _ _ _ [(.int r1_0)])
      have hq1_0:r1_0.toInt=-1:=cN hir1_0 (fun j h1 h2=>no0 j h1 (by omega))
      refine ah (l':=#[.val (.ref a),.val (.ref ro),.val (.int (1:Int32)),.val (.ref a2274),.val (.int (1:Int32)),.val (.int r1_0)]) X2307 hx 104 (hb hby dD) rfl rfl ?_
      refine ap X2307 hx 76 (hb hby dE) (by decide) (by decide) ?_
      refine ae X2307 hx 78 (hb hby c5) rfl rfl ?_
      refine aB X2307 hx 107 81 (hb hby c6) (by decide) (by decide) rfl (fun c2309=>?_) (fun c2309=>?_)
      ·skip
       refine bg X2307 hx hZ hown (tw hw 129 rfl) (tw hw 130 rfl) (tw hw 36 rfl) q2307 110 (hb hby i8) rfl (by decide) (by decide) ?_
       intro T2310 h2310 a2310 g2310 X2310 e2310 E2310 A2310 D2310
       have ne2311:a≠a2310:=Nat.ne_of_lt (by rw[g2310];exact F2295.lt)
       have ne2312:t2254≠a2310:=Nat.ne_of_lt (by rw[g2310];exact F2296.lt)
       have ne2313:vb2254≠a2310:=Nat.ne_of_lt (by rw[g2310];exact F2299.lt)
       have ne2314:a2274≠a2310:=Nat.ne_of_lt (by rw[g2310];exact F2300.lt)
       have ge2315:n0≤a2310:=by rw[g2310];exact Z2306
       have sz2316:h0.size≤a2310:=by rw[g2310];exact K2302.1
       have sz2317:h2254.size≤a2310:=by rw[g2310];exact K2305.1
       have F2318:=F2294.ext E2310
       have F2319:=F2295.ext E2310
       have F2320:=F2296.ext E2310
       have F2321:=F2297.ext E2310
       have F2322:=F2298.ext E2310
       have F2323:=F2299.ext E2310
       have F2324:=F2300.ext E2310
       have F2325:=V2293'.ext E2310
       have K2326:=K2302.ext E2310
       have S2327:=S2304.ext E2310
       have K2328:=K2305.ext E2310
       have Z2329:n0≤h2310.size:=Nat.le_trans Z2306 E2310.1
       have F2330:Fld Z h2310 a2310 sg0 "names" cQ .null:=D2310 (Or.inl (tw hw 79 rfl)) (ty:=(.object sg9)) (by decide)
       have F2331:Fld Z h2310 a2310 sg0 "written" cA .null:=D2310 (Or.inr (tw hw 136 rfl)) (ty:=(.object sg1)) (by decide)
       have F2332:Fld Z h2310 a2310 sg0 "starts" "[I" .null:=D2310 (Or.inr (tw hw 138 rfl)) (ty:=(.array .int)) (by decide)
       refine a8 X2310 hx 111 (hb hby i9) rfl rfl ?_
       refine ab X2310 hx 112 (hb hby i_) rfl rfl rfl ?_
       refine ab X2310 hx 113 (hb hby ja) rfl rfl rfl ?_
       refine aN X2310 hx hZ rfl hown (tw hw 131 rfl) (tw hw 132 rfl) (tw hw 36 rfl) (tw hw 133 rfl) (by decide) (cRi l Z a0 hw a2310 a a2274 h2310 n0 Z2329 A2310 ge2315 F2331 F2332 F2330) e2310 (a:=a2310) (argsL:=[(.ref a),(.ref a2274)]) (rest:=[(.ref a2310)]) rfl rfl 1 116 rfl (by rw[hml];rfl) (lenOf en rfl) (Nat.le_refl _) (by decide) (by decide) (by decide) (by decide) (hb hby jb) ?_
       intro v2333 T2333 L2333 X2333 hQ2333
       obtain⟨rfl,N2333,K2333,f1,f2,f3⟩:=hQ2333
       have N2334:=Fr.app N2308 N2333
       have F2335:=F2318.keep K2333 (allS ge2315 all0)
       have F2336:=F2319.keep K2333
       have F2337:=F2320.keep K2333
       have F2338:=F2321.keep K2333 (ninS ne2312 nin0)
       have F2339:=F2322.keep K2333 (ninS ne2312 nin0)
       have F2340:=F2323.keep K2333 (ninS ne2313 nin0)
       have F2341:=F2324.keep K2333
       have F2342:=F2325.keep K2333 (ninS ne2314 nin0)
       have F2343:=A2310.keep K2333
       have Z2347:n0≤T2333.heap.size:=Nat.le_trans Z2329 K2333.1
       have K2348:=K2326.trans K2333 (allS (Or.inr sz2316) all0)
       have S2349:=S2327.keep K2333 (allS (Or.inr (Nat.le_trans hBz sz2316)) all0)
       have K2350:=K2328.trans K2333 (allS (Or.inr sz2317) all0)
       show Go _ _ _ _ _ (mkF _ _ _ [(.ref a2310)])
       refine au (l':=#[.val (.ref a),.val (.ref a2310),.val (.int (1:Int32)),.val (.ref a2274),.val (.int (1:Int32)),.val (.int r1_0)]) X2333 hx 117 (hb hby jc) rfl rfl rfl ?_
       refine ac X2333 hx (0:Int32) 118 (hb hby jd) rfl (by decide) ?_
       refine ah (l':=#[.val (.ref a),.val (.ref a2310),.val (.int (1:Int32)),.val (.ref a2274),.val (.int (1:Int32)),.val (.int (0:Int32))]) X2333 hx 120 (hb hby je) rfl rfl ?_
       refine ae X2333 hx 122 (hb hby cw) rfl rfl ?_
       refine aa X2333 hx 123 (hb hby cx) rfl rfl ?_
       have ll2352:((1:Int32):Int32).toInt=1:=by decide
       have ll2353:((0:Int32):Int32).toInt=0:=by decide
       refine am X2333 hx 146 126 (hb hby cy) (by decide) (by decide) rfl (fun c2351=>?_) (fun c2351=>?_)
       ·skip
        exfalso;revert c2351;decide
       ·skip
        refine ab X2333 hx 127 (hb hby dF) rfl rfl rfl ?_
        refine ab X2333 hx 128 (hb hby dG) rfl rfl rfl ?_
        refine ae X2333 hx 130 (hb hby dH) rfl rfl ?_
        refine aP X2333 hx hZ rfl F2342 (by decide) (by decide) (by rw[show ((0:Int32):Int32).toNatClampNeg=0 by decide]<;>rfl) 131 (hb hby dI) rfl ?_
        refine ab X2333 hx 132 (hb hby dJ) rfl rfl rfl ?_
        refine ae X2333 hx 134 (hb hby dK) rfl rfl ?_
        refine bE X2333 hx hZ (C:=sg0) (z:=({ cls:=sg0,name := "names",desc := "()Ljava/util/List;" }:Jvm.MethodName)) hown (tw hw 139 rfl) (tw hw 141 rfl) (tw hw 76 rfl) rfl (tw hw 140 rfl) (tw hw 36 rfl) (tw hw 142 rfl) (by decide) (pw l Z a0 hw a2310 T2333.heap n0 Z2347 cst fm em SX_ F2335 a a2274 k2274 (1:Int32) Lw B cs F2343 f1 f2 F2342 S2349) rfl (b:=a2310) F2343 (argsL:=[(.int (0:Int32))]) (rest:=[(.int (1:Int32)),(.ref a)]) rfl rfl 2 137 rfl (by rw[hml];rfl) (lenOf aS rfl) (Nat.le_refl _) (by decide) (by decide) (by decide) (by decide) (hb hby dL) ?_
        intro v2354 T2354 L2354 X2354 hQ2354
        obtain⟨x0,rfl,hx0,N2354,q2354⟩:=hQ2354
        have N2355:=Fr.app N2334 N2354
        show Go _ _ _ _ _ (mkF _ _ _ [(.int x0),(.int (1:Int32)),(.ref a)])
        have hz0:x0.toInt=((0+1+l0:Nat):Int):=by
         rw[hx0]
         omega
        refine bt X2354 hx hZ hown (tw hw 143 rfl) (tw hw 144 rfl) (tw hw 36 rfl) (tw hw 145 rfl) (by decide) (cCk l Z a0 hw a (1:Int32) x0 T2333.heap n0 Z2347 cst fm em SX_ F2335 Lw B cs S2349 (0+1) l0 (by decide) hz0 bl0 (by omega) no0 d10 d20) q2354 hS (Nat.le_trans hk (K2350).1) hEL (CHv.keep K2350 all0 hC) (argsL:=[(.ref a),(.int (1:Int32)),(.int x0)]) (rest:=[]) rfl rfl 0 140 rfl (by rw[hml];rfl) (lenOf b7 rfl) (Nat.le_refl _) (by decide) (by decide) (by decide) (by decide) (hb hby dM) ?_
        intro v2356 T2356 L2356 X2356 hS hZ hown hQ2356 hC
        obtain⟨rfl,N2356,K2356⟩:=hQ2356
        have N2357:=Fr.app N2355 N2356
        have F2358:=F2335.keep K2356 all0
        have F2359:=F2336.keep K2356
        have F2360:=F2337.keep K2356
        have F2361:=F2338.keep K2356 nin0
        have F2362:=F2339.keep K2356 nin0
        have F2363:=F2340.keep K2356 nin0
        have F2364:=F2341.keep K2356
        have F2365:=F2342.keep K2356 nin0
        have F2366:=F2343.keep K2356
        have F2367:=f1.keep K2356 nin0
        have F2368:=f2.keep K2356 nin0
        have F2369:=f3.keep K2356 nin0
        have Z2370:n0≤T2356.heap.size:=Nat.le_trans Z2347 K2356.1
        have K2371:=K2348.trans K2356 all0
        have S2372:=S2349.keep K2356 all0
        have K2373:=K2350.trans K2356 all0
        have hk:=Nat.le_refl T2356.heap.size
        show Go _ _ _ _ _ (mkF _ _ _ [])
        refine aw X2356 hx (w:=(1:Int32)) (1:Int32) (by decide) (l':=#[.val (.ref a),.val (.ref a2310),.val (.int (1:Int32)),.val (.ref a2274),.val (.int (1:Int32)),.val (.int (1:Int32))]) 143 (hb hby dN) rfl rfl (by decide) rfl ?_
        refine ap X2356 hx 120 (hb hby dO) (by decide) (by decide) ?_
        refine ae X2356 hx 122 (hb hby cw) rfl rfl ?_
        refine aa X2356 hx 123 (hb hby cx) rfl rfl ?_
        have ll2375:((1:Int32):Int32).toInt=1:=by decide
        have ll2376:((1:Int32):Int32).toInt=1:=by decide
        refine am X2356 hx 146 126 (hb hby cy) (by decide) (by decide) rfl (fun c2374=>?_) (fun c2374=>?_)
        ·skip
         refine ab X2356 hx 147 (hb hby gy) rfl rfl rfl ?_
         exact dX X2356 hx hlk hret rfl rfl rfl (hb hby gz) (by decide) (by decide) rfl hS (Nat.le_trans hk ((Keep.refl T2356.heap [])).1) ⟨a2310,a2274,k2274,(1:Int32),rfl,N2357,K2371,ge2315,sz2316,F2366,F2367,F2368,F2369,F2365,ne2314,by decide⟩
        ·skip
         exfalso;revert c2374;decide
      ·skip
       exfalso;omega
    ·skip
     exfalso;omega
 ·skip
  exfalso;revert c2262;decide
def Hj (Z:State)(a:Addr)(e1:Nat)(n0:Nat)(h0:Heap)(v:Option Value)(h:Heap)(L:List Loc):Prop:=∃(pa st:Addr)(ks:ClassId)(s0 s1:Int32),v=some (.ref pa)∧Fr n0 L∧Keep h0 h []∧n0≤pa∧h0.size≤pa∧Exa Z h pa sg0∧Fld Z h pa sg0 "written" cA (.ref a)∧Fld Z h pa sg0 "starts" "[I" (.ref st)∧Fld Z h pa sg0 "names" cQ .null∧Arv Z h st ks .int 2 [(.int s0),(.int s1)] (.int 0)∧st≠pa∧s0.toInt=((0+1:Nat):Int)∧s1.toInt=((e1+1:Nat):Int)
theorem op (a:Addr)(m:MethodId):entryFrame m #[(.ref a)] 6=mkF m 0 #[.val (.ref a),.unset,.unset,.unset,.unset,.unset] []:=by first|(simp [entryFrame,mkF,argsToLocals,Value.category];done)|rfl
theorem Py (l:Launch)(Z:State)(a0:Array Value)(hw:HW a0 Z)(a:Addr)(h0:Heap)(n0:Nat)(Z0:n0≤h0.size)(cst:Int32)(fm:Option Addr)(em:Addr)(SX_:SX Z cst fm em)(O0:Old Z n0 h0)(ro:Addr)(SR:Sta Z Z.heap sg0 "ROOT" "Lcom/example/hierarchical_roles/hierarchicalroles/ResourcePath;" (.ref ro))(Lw B:Nat)(cs:List Int32)(S:a3 Z h0 Lw B a cs)(hBz:B≤h0.size)(hs0:(cs.getD 0 0).toInt=47)(p0 p1:Int32)(l0 l1 e1:Nat)(H0:Nm cs 0 l0 p0)(H1:Nm cs e1 l1 p1)(g1:e1=0+1+l0)(hlen:cs.length=e1+1+l1) :
  MetFree l (⟨sg0,"parse","(Ljava/lang/String;)Lcom/example/hierarchical_roles/hierarchicalroles/ResourcePath;"⟩:MethodName) (head1 [Jvm.Cond.code (⟨sg0,"parse","(Ljava/lang/String;)Lcom/example/hierarchical_roles/hierarchicalroles/ResourcePath;"⟩:MethodName) prog_26_method_5_code 6 (some (.object sg0))] ({ frames:=7,cells:=12,slots:=120,locals:=160 }:Room)) (fun as_ U=>as_=#[(.ref a)]∧Z.Warmed39 U.vm∧U.heap=h0∧CHv Z bu U.vm h0) (fun _ _ _ _ _=>True) (fun _ U o U'=>∃v L,o = .returned v∧Hj Z a e1 n0 h0 v U'.heap L∧ReturnedEndW U o U' L ({ frames:=7,cells:=12,slots:=120,locals:=160 }:Room).cells ({ frames:=7,cells:=12,slots:=120,locals:=160 }:Room).slots):=by
 have own_wS:=cI hw
 have hEL:=bW hw
 refine cE c7 (op a) ?_
 intro p e s m below meth c T0 X0 hx hby hml hret hlk hnm hown hZ e0 hS hC
 have N0:=Fr.nil n0
 have hk:0≤h0.size:=Nat.zero_le _
 have Ew:=S.exa
 have hcl:=S.1.2.1
 have no0:=H0.no
 have d10:=H0.d1
 have d20:=H0.d2
 have s470:=H0.2.2.1
 have bl0:=H0.1
 have no1:=H1.no
 have d11:=H1.d1
 have d21:=H1.d2
 have s471:=H1.2.2.1
 have bl1:=H1.1
 refine ab X0 hx 1 (hb hby oe) rfl rfl rfl ?_
 refine bU X0 hx hZ hown (tw hw 38 rfl) own_wS e0 hS hk hEL (List.mem_of_getElem? (i:=0) rfl) hC (vs:=[(.int 119),(.int 114),(.int 105),(.int 116),(.int 116),(.int 101),(.int 110)]) (z:=7) ⟨by decide +kernel,by decide +kernel⟩ (by decide) (by decide) 28 (by decide +kernel) (by decide) 3 (hb hby og) rfl (by decide) (by decide) ?_
 intro t2377 T2377 h2377 k2377 vb2377 kb2377 X2377 e2377 E2377 hS hk hZ hown Es2377 Cs2377 Fs2377 Vs2377 hC LT
 have F2378:=O0.ext E2377
 have F2379:=Ew.ext E2377
 have K2380:=(Keep.refl h0 []).ext E2377
 have S2381:=S.ext E2377
 have Z2382:n0≤h2377.size:=Nat.le_trans Z0 E2377.1
 refine ag X2377 hx hZ hown (tw hw 41 rfl) (tw hw 42 rfl) (tw hw 43 rfl) (tw hw 44 rfl) (by decide) (cRM l Z a0 hw a t2377 h2377 n0 Z2382) e2377 (argsL:=[(.ref a),(.ref t2377)]) (rest:=[]) rfl rfl 0 6 rfl (by rw[hml];rfl) (lenOf dV rfl) (Nat.le_refl _) (by decide) (by decide) (by decide) (by decide) (hb hby oh) ?_
 intro v2383 T2383 L2383 X2383 hQ2383
 obtain⟨rfl,N2383,q2383⟩:=hQ2383
 have N2384:=Fr.app N0 N2383
 show Go _ _ _ _ _ (mkF _ _ _ [(.ref a)])
 refine eh X2383 hx 7 (hb hby oi) rfl rfl ?_
 refine ab X2383 hx 8 (hb hby oj) rfl rfl rfl ?_
 refine bU X2383 hx hZ hown (tw hw 45 rfl) own_wS q2383 hS hk hEL (List.mem_of_getElem? (i:=1) rfl) hC (vs:=[(.int 47)]) (z:=1) ⟨by decide +kernel,by decide +kernel⟩ (by decide) (by decide) 4 (by decide +kernel) (by decide) 10 (hb hby ol) rfl (by decide) (by decide) ?_
 intro t2385 T2385 h2385 k2385 vb2385 kb2385 X2385 e2385 E2385 hS hk hZ hown Es2385 Cs2385 Fs2385 Vs2385 hC LT
 have F2386:=F2378.ext E2385
 have F2387:=F2379.ext E2385
 have K2388:=K2380.ext E2385
 have S2389:=S2381.ext E2385
 have Z2390:n0≤h2385.size:=Nat.le_trans Z2382 E2385.1
 refine ak X2385 hx hZ (C:=sg1) hown (tw hw 46 rfl) (tw hw 47 rfl) (tw hw 49 rfl) (tw hw 49 rfl) (tw hw 48 rfl) (tw hw 7 rfl) (tw hw 50 rfl) (by decide) (cSt l Z a0 hw a t2385 h2385 n0 Z2390 cst fm em SX_ F2386 Lw B cs S2389 vb2385 kb2385 Es2385 Cs2385 Fs2385 Vs2385 hs0) e2385 (b:=a) F2387 (argsL:=[(.ref t2385)]) (rest:=[]) rfl rfl 0 13 rfl (by rw[hml];rfl) (lenOf dW rfl) (Nat.le_refl _) (by decide) (by decide) (by decide) (by decide) (hb hby jx) ?_
 intro v2391 T2391 L2391 X2391 hQ2391
 obtain⟨rfl,N2391,q2391⟩:=hQ2391
 have N2392:=Fr.app N2384 N2391
 show Go _ _ _ _ _ (mkF _ _ _ [(.int (1:Int32))])
 have ll2394:((1:Int32):Int32).toInt=1:=by decide
 refine aI X2391 hx 30 16 (hb hby jy) (by decide) (by decide) rfl (fun c2393=>?_) (fun c2393=>?_)
 ·skip
  refine a1 X2391 hx hZ hown (tw hw 70 rfl) Via.refl q2391 (Sta.ext F2386.2 SR) 33 (hb hby jz) rfl ?_
  intro T2395 X2395 e2395
  refine au (l':=#[.val (.ref a),.val (.ref ro),.unset,.unset,.unset,.unset]) X2395 hx 34 (hb hby jA) rfl rfl rfl ?_
  refine ab X2395 hx 35 (hb hby jB) rfl rfl rfl ?_
  refine ak X2395 hx hZ (C:=sg1) hown (tw hw 72 rfl) (tw hw 57 rfl) (tw hw 59 rfl) (tw hw 59 rfl) (tw hw 58 rfl) (tw hw 7 rfl) (tw hw 60 rfl) (by decide) (cLn l Z a0 hw a h2385 n0 Z2390 cst fm em SX_ F2386 Lw B cs S2389) e2395 (b:=a) F2387 (argsL:=[]) (rest:=[]) rfl rfl 0 38 rfl (by rw[hml];rfl) (lenOf aF rfl) (Nat.le_refl _) (by decide) (by decide) (by decide) (by decide) (hb hby jC) ?_
  intro v2396 T2396 L2396 X2396 hQ2396
  obtain⟨nl,rfl,hn,N2396,q2396⟩:=hQ2396
  have N2397:=Fr.app N2392 N2396
  show Go _ _ _ _ _ (mkF _ _ _ [(.int nl)])
  refine ac X2396 hx (1:Int32) 39 (hb hby jD) rfl (by decide) ?_
  have ll2399:((1:Int32):Int32).toInt=1:=by decide
  refine a7 X2396 hx 146 42 (hb hby jE) (by decide) (by decide) rfl (fun c2398=>?_) (fun c2398=>?_)
  ·skip
   exfalso;omega
  ·skip
   refine ac X2396 hx (0:Int32) 43 (hb hby m5) rfl (by decide) ?_
   refine aq (l':=#[.val (.ref a),.val (.ref ro),.val (.int (0:Int32)),.unset,.unset,.unset]) X2396 hx 44 (hb hby m6) rfl rfl ?_
   refine ac X2396 hx (0:Int32) 45 (hb hby m7) rfl (by decide) ?_
   refine aq (l':=#[.val (.ref a),.val (.ref ro),.val (.int (0:Int32)),.val (.int (0:Int32)),.unset,.unset]) X2396 hx 46 (hb hby m8) rfl rfl ?_
   refine aa X2396 hx 47 (hb hby c3) rfl rfl ?_
   have ll2401:((0:Int32):Int32).toInt=0:=by decide
   refine aB X2396 hx 66 50 (hb hby c4) (by decide) (by decide) rfl (fun c2400=>?_) (fun c2400=>?_)
   ·skip
    exfalso;revert c2400;decide
   ·skip
    refine aw X2396 hx (w:=(1:Int32)) (1:Int32) (by decide) (l':=#[.val (.ref a),.val (.ref ro),.val (.int (1:Int32)),.val (.int (0:Int32)),.unset,.unset]) 53 (hb hby eO) rfl rfl (by decide) rfl ?_
    refine ab X2396 hx 54 (hb hby eP) rfl rfl rfl ?_
    refine aj X2396 hx (47:Int32) 56 (hb hby eQ) rfl (by decide) ?_
    refine aa X2396 hx 57 (hb hby eR) rfl rfl ?_
    refine ac X2396 hx (1:Int32) 58 (hb hby eS) rfl (by decide) ?_
    refine aL X2396 hx (1:Int32) (by decide) 59 (hb hby eU) rfl ?_
    refine ak X2396 hx hZ (C:=sg1) hown (tw hw 101 rfl) (tw hw 102 rfl) (tw hw 104 rfl) (tw hw 104 rfl) (tw hw 103 rfl) (tw hw 7 rfl) (tw hw 105 rfl) (by decide) (cSI l Z a0 hw a (1:Int32) h2385 n0 Z2390 cst fm em SX_ F2386 Lw B cs S2389 (0+1) (by decide) (by omega)) q2396 (b:=a) F2387 (argsL:=[(.int (47:Int32)),(.int (1:Int32))]) (rest:=[]) rfl rfl 0 62 rfl (by rw[hml];rfl) (lenOf aG rfl) (Nat.le_refl _) (by decide) (by decide) (by decide) (by decide) (hb hby eV) ?_
    intro v2402 T2402 L2402 X2402 hQ2402
    obtain⟨r0_0,rfl,hir0_0,N2402,q2402⟩:=hQ2402
    have N2403:=Fr.app N2397 N2402
    show Go _ _ _ _ _ (mkF _ _ _ [(.int r0_0)])
    have hq0_0:r0_0.toInt=((e1:Nat):Int):=cM hir0_0 (by omega) (by omega) s471 (fun j h1 h2=>no0 j h1 (by omega))
    refine aq (l':=#[.val (.ref a),.val (.ref ro),.val (.int (1:Int32)),.val (.int r0_0),.unset,.unset]) X2402 hx 63 (hb hby eW) rfl rfl ?_
    refine ap X2402 hx 46 (hb hby eX) (by decide) (by decide) ?_
    refine aa X2402 hx 47 (hb hby c3) rfl rfl ?_
    refine aB X2402 hx 66 50 (hb hby c4) (by decide) (by decide) rfl (fun c2404=>?_) (fun c2404=>?_)
    ·skip
     exfalso;omega
    ·skip
     refine aw X2402 hx (w:=(1:Int32)) (2:Int32) (by decide) (l':=#[.val (.ref a),.val (.ref ro),.val (.int (2:Int32)),.val (.int r0_0),.unset,.unset]) 53 (hb hby eO) rfl rfl (by decide) rfl ?_
     refine ab X2402 hx 54 (hb hby eP) rfl rfl rfl ?_
     refine aj X2402 hx (47:Int32) 56 (hb hby eQ) rfl (by decide) ?_
     refine aa X2402 hx 57 (hb hby eR) rfl rfl ?_
     refine ac X2402 hx (1:Int32) 58 (hb hby eS) rfl (by decide) ?_
     refine aQ X2402 hx 59 (hb hby eU) rfl ?_
     refine ak X2402 hx hZ (C:=sg1) hown (tw hw 101 rfl) (tw hw 102 rfl) (tw hw 104 rfl) (tw hw 104 rfl) (tw hw 103 rfl) (tw hw 7 rfl) (tw hw 105 rfl) (by decide) (cSI l Z a0 hw a (r0_0+(1:Int32)) h2385 n0 Z2390 cst fm em SX_ F2386 Lw B cs S2389 (e1+1) (aC hq0_0 (by omega)) (by omega)) q2402 (b:=a) F2387 (argsL:=[(.int (47:Int32)),(.int (r0_0+(1:Int32)))]) (rest:=[]) rfl rfl 0 62 rfl (by rw[hml];rfl) (lenOf aG rfl) (Nat.le_refl _) (by decide) (by decide) (by decide) (by decide) (hb hby eV) ?_
     intro v2405 T2405 L2405 X2405 hQ2405
     obtain⟨r0_1,rfl,hir0_1,N2405,q2405⟩:=hQ2405
     have N2406:=Fr.app N2403 N2405
     show Go _ _ _ _ _ (mkF _ _ _ [(.int r0_1)])
     have hq0_1:r0_1.toInt=-1:=cN hir0_1 (fun j h1 h2=>no1 j h1 (by omega))
     refine aq (l':=#[.val (.ref a),.val (.ref ro),.val (.int (2:Int32)),.val (.int r0_1),.unset,.unset]) X2405 hx 63 (hb hby eW) rfl rfl ?_
     refine ap X2405 hx 46 (hb hby eX) (by decide) (by decide) ?_
     refine aa X2405 hx 47 (hb hby c3) rfl rfl ?_
     refine aB X2405 hx 66 50 (hb hby c4) (by decide) (by decide) rfl (fun c2407=>?_) (fun c2407=>?_)
     ·skip
      refine aa X2405 hx 67 (hb hby m9) rfl rfl ?_
      refine aO X2405 hx hZ (aty := .int) (tw hw 128 rfl) q2405 (by decide) (cap:=2) (by decide) (by decide) 69 (hb hby m_) rfl (by decide) (by decide) (ad := "[I") (by decide) ?_
      intro T2408 h2408 k2408 a2408 g2408 X2408 e2408 E2408 V2408 A2408
      have ne2409:a≠a2408:=Nat.ne_of_lt (by rw[g2408];exact F2387.lt)
      have ne2410:t2385≠a2408:=Nat.ne_of_lt (by rw[g2408];exact Es2385.lt)
      have ne2411:vb2385≠a2408:=Nat.ne_of_lt (by rw[g2408];exact Vs2385.lt)
      have ge2412:n0≤a2408:=by rw[g2408];exact Z2390
      have sz2413:h0.size≤a2408:=by rw[g2408];exact K2388.1
      have sz2414:h2385.size≤a2408:=by rw[g2408];exact (Keep.refl h2385 []).1
      have F2415:=F2386.ext E2408
      have F2416:=F2387.ext E2408
      have F2417:=Es2385.ext E2408
      have F2418:=Cs2385.ext E2408
      have F2419:=Fs2385.ext E2408
      have F2420:=Vs2385.ext E2408
      have K2421:=K2388.ext E2408
      have S2422:=S2389.ext E2408
      have K2423:=(Keep.refl h2385 []).ext E2408
      have Z2424:n0≤h2408.size:=Nat.le_trans Z2390 E2408.1
      have V2408':Arv Z h2408 a2408 k2408 .int (2:Int32) [(.int (0:Int32)),(.int (0:Int32))] (.int (0:Int32)):=V2408.pad (pad_rep [] (.int (0:Int32)) 2)
      refine au (l':=#[.val (.ref a),.val (.ref ro),.val (.int (2:Int32)),.val (.ref a2408),.unset,.unset]) X2408 hx 70 (hb hby nc) rfl rfl rfl ?_
      refine ac X2408 hx (0:Int32) 71 (hb hby nd) rfl (by decide) ?_
      refine ah (l':=#[.val (.ref a),.val (.ref ro),.val (.int (2:Int32)),.val (.ref a2408),.val (.int (0:Int32)),.unset]) X2408 hx 73 (hb hby nf) rfl rfl ?_
      refine ac X2408 hx (0:Int32) 74 (hb hby ng) rfl (by decide) ?_
      refine ah (l':=#[.val (.ref a),.val (.ref ro),.val (.int (2:Int32)),.val (.ref a2408),.val (.int (0:Int32)),.val (.int (0:Int32))]) X2408 hx 76 (hb hby nh) rfl rfl ?_
      refine ae X2408 hx 78 (hb hby c5) rfl rfl ?_
      have ll2426:((0:Int32):Int32).toInt=0:=by decide
      refine aB X2408 hx 107 81 (hb hby c6) (by decide) (by decide) rfl (fun c2425=>?_) (fun c2425=>?_)
      ·skip
       exfalso;revert c2425;decide
      ·skip
       refine ab X2408 hx 82 (hb hby eY) rfl rfl rfl ?_
       refine ae X2408 hx 84 (hb hby eZ) rfl rfl ?_
       refine aw X2408 hx (w:=(1:Int32)) (1:Int32) (by decide) (l':=#[.val (.ref a),.val (.ref ro),.val (.int (2:Int32)),.val (.ref a2408),.val (.int (1:Int32)),.val (.int (0:Int32))]) 87 (hb hby e6) rfl rfl (by decide) rfl ?_
       refine ae X2408 hx 89 (hb hby e7) rfl rfl ?_
       refine ac X2408 hx (1:Int32) 90 (hb hby e8) rfl (by decide) ?_
       refine aL X2408 hx (1:Int32) (by decide) 91 (hb hby e9) rfl ?_
       refine bI X2408 hx hZ e2408 V2408' 0 (by decide) (by decide) (by show 0<2;decide) 92 (hb hby e_) rfl ?_
       intro T2427 h2427 X2427 e2427 W2427 V2427
       have F2428:=F2415.wr W2427 ge2412
       have F2429:=F2416.wr W2427
       have F2430:=F2417.wr W2427
       have F2431:=F2418.other W2427 (Or.inl ne2410)
       have F2432:=F2419.other W2427 (Or.inl ne2410)
       have F2433:=F2420.other W2427 ne2411
       have F2434:=A2408.wr W2427
       have K2436:=K2421.wr W2427 (Or.inr sz2413)
       have N2437:=Fr.snoc X2427 N2406 ge2412
       have S2438:=S2422.keep (Keep.of_wr W2427) (allS (Or.inr (Nat.le_trans hBz sz2413)) all0)
       have K2439:=K2423.wr W2427 (Or.inr sz2414)
       have Z2440:n0≤h2427.size:=by rw[W2427.size];exact Z2424
       have V2427':Arv Z h2427 a2408 k2408 .int (2:Int32) [(.int (1:Int32)),(.int (0:Int32))] (.int (0:Int32)):=V2427
       refine ab X2427 hx 93 (hb hby fa) rfl rfl rfl ?_
       refine aj X2427 hx (47:Int32) 95 (hb hby fb) rfl (by decide) ?_
       refine ae X2427 hx 97 (hb hby fd) rfl rfl ?_
       refine ac X2427 hx (1:Int32) 98 (hb hby fe) rfl (by decide) ?_
       refine aL X2427 hx (1:Int32) (by decide) 99 (hb hby ff) rfl ?_
       refine ak X2427 hx hZ (C:=sg1) hown (tw hw 101 rfl) (tw hw 102 rfl) (tw hw 104 rfl) (tw hw 104 rfl) (tw hw 103 rfl) (tw hw 7 rfl) (tw hw 105 rfl) (by decide) (cSI l Z a0 hw a (1:Int32) h2427 n0 Z2440 cst fm em SX_ F2428 Lw B cs S2438 (0+1) (by decide) (by omega)) e2427 (b:=a) F2429 (argsL:=[(.int (47:Int32)),(.int (1:Int32))]) (rest:=[]) rfl rfl 0 102 rfl (by rw[hml];rfl) (lenOf aG rfl) (Nat.le_refl _) (by decide) (by decide) (by decide) (by decide) (hb hby fg) ?_
       intro v2441 T2441 L2441 X2441 hQ2441
       obtain⟨r1_0,rfl,hir1_0,N2441,q2441⟩:=hQ2441
       have N2442:=Fr.app N2437 N2441
       show Go _ _ _ _ _ (mkF _ _ _ [(.int r1_0)])
       have hq1_0:r1_0.toInt=((e1:Nat):Int):=cM hir1_0 (by omega) (by omega) s471 (fun j h1 h2=>no0 j h1 (by omega))
       refine ah (l':=#[.val (.ref a),.val (.ref ro),.val (.int (2:Int32)),.val (.ref a2408),.val (.int (1:Int32)),.val (.int r1_0)]) X2441 hx 104 (hb hby dD) rfl rfl ?_
       refine ap X2441 hx 76 (hb hby dE) (by decide) (by decide) ?_
       refine ae X2441 hx 78 (hb hby c5) rfl rfl ?_
       refine aB X2441 hx 107 81 (hb hby c6) (by decide) (by decide) rfl (fun c2443=>?_) (fun c2443=>?_)
       ·skip
        exfalso;omega
       ·skip
        refine ab X2441 hx 82 (hb hby eY) rfl rfl rfl ?_
        refine ae X2441 hx 84 (hb hby eZ) rfl rfl ?_
        refine aw X2441 hx (w:=(1:Int32)) (2:Int32) (by decide) (l':=#[.val (.ref a),.val (.ref ro),.val (.int (2:Int32)),.val (.ref a2408),.val (.int (2:Int32)),.val (.int r1_0)]) 87 (hb hby e6) rfl rfl (by decide) rfl ?_
        refine ae X2441 hx 89 (hb hby e7) rfl rfl ?_
        refine ac X2441 hx (1:Int32) 90 (hb hby e8) rfl (by decide) ?_
        refine aQ X2441 hx 91 (hb hby e9) rfl ?_
        refine bI X2441 hx hZ q2441 V2427' 1 (by decide) (by decide) (by show 1<2;decide) 92 (hb hby e_) rfl ?_
        intro T2444 h2444 X2444 e2444 W2444 V2444
        have F2445:=F2428.wr W2444 ge2412
        have F2446:=F2429.wr W2444
        have F2447:=F2430.wr W2444
        have F2448:=F2431.other W2444 (Or.inl ne2410)
        have F2449:=F2432.other W2444 (Or.inl ne2410)
        have F2450:=F2433.other W2444 ne2411
        have F2451:=F2434.wr W2444
        have K2453:=K2436.wr W2444 (Or.inr sz2413)
        have N2454:=Fr.snoc X2444 N2442 ge2412
        have S2455:=S2438.keep (Keep.of_wr W2444) (allS (Or.inr (Nat.le_trans hBz sz2413)) all0)
        have K2456:=K2439.wr W2444 (Or.inr sz2414)
        have Z2457:n0≤h2444.size:=by rw[W2444.size];exact Z2440
        have V2444':Arv Z h2444 a2408 k2408 .int (2:Int32) [(.int (1:Int32)),(.int (r1_0+(1:Int32)))] (.int (0:Int32)):=V2444
        refine ab X2444 hx 93 (hb hby fa) rfl rfl rfl ?_
        refine aj X2444 hx (47:Int32) 95 (hb hby fb) rfl (by decide) ?_
        refine ae X2444 hx 97 (hb hby fd) rfl rfl ?_
        refine ac X2444 hx (1:Int32) 98 (hb hby fe) rfl (by decide) ?_
        refine aQ X2444 hx 99 (hb hby ff) rfl ?_
        refine ak X2444 hx hZ (C:=sg1) hown (tw hw 101 rfl) (tw hw 102 rfl) (tw hw 104 rfl) (tw hw 104 rfl) (tw hw 103 rfl) (tw hw 7 rfl) (tw hw 105 rfl) (by decide) (cSI l Z a0 hw a (r1_0+(1:Int32)) h2444 n0 Z2457 cst fm em SX_ F2445 Lw B cs S2455 (e1+1) (aC hq1_0 (by omega)) (by omega)) e2444 (b:=a) F2446 (argsL:=[(.int (47:Int32)),(.int (r1_0+(1:Int32)))]) (rest:=[]) rfl rfl 0 102 rfl (by rw[hml];rfl) (lenOf aG rfl) (Nat.le_refl _) (by decide) (by decide) (by decide) (by decide) (hb hby fg) ?_
        intro v2458 T2458 L2458 X2458 hQ2458
        obtain⟨r1_1,rfl,hir1_1,N2458,q2458⟩:=hQ2458
        have N2459:=Fr.app N2454 N2458
        show Go _ _ _ _ _ (mkF _ _ _ [(.int r1_1)])
        have hq1_1:r1_1.toInt=-1:=cN hir1_1 (fun j h1 h2=>no1 j h1 (by omega))
        refine ah (l':=#[.val (.ref a),.val (.ref ro),.val (.int (2:Int32)),.val (.ref a2408),.val (.int (2:Int32)),.val (.int r1_1)]) X2458 hx 104 (hb hby dD) rfl rfl ?_
        refine ap X2458 hx 76 (hb hby dE) (by decide) (by decide) ?_
        refine ae X2458 hx 78 (hb hby c5) rfl rfl ?_
        refine aB X2458 hx 107 81 (hb hby c6) (by decide) (by decide) rfl (fun c2460=>?_) (fun c2460=>?_)
        ·skip
         refine bg X2458 hx hZ hown (tw hw 129 rfl) (tw hw 130 rfl) (tw hw 36 rfl) q2458 110 (hb hby i8) rfl (by decide) (by decide) ?_
         intro T2461 h2461 a2461 g2461 X2461 e2461 E2461 A2461 D2461
         have ne2462:a≠a2461:=Nat.ne_of_lt (by rw[g2461];exact F2446.lt)
         have ne2463:t2385≠a2461:=Nat.ne_of_lt (by rw[g2461];exact F2447.lt)
         have ne2464:vb2385≠a2461:=Nat.ne_of_lt (by rw[g2461];exact F2450.lt)
         have ne2465:a2408≠a2461:=Nat.ne_of_lt (by rw[g2461];exact F2451.lt)
         have ge2466:n0≤a2461:=by rw[g2461];exact Z2457
         have sz2467:h0.size≤a2461:=by rw[g2461];exact K2453.1
         have sz2468:h2385.size≤a2461:=by rw[g2461];exact K2456.1
         have F2469:=F2445.ext E2461
         have F2470:=F2446.ext E2461
         have F2471:=F2447.ext E2461
         have F2472:=F2448.ext E2461
         have F2473:=F2449.ext E2461
         have F2474:=F2450.ext E2461
         have F2475:=F2451.ext E2461
         have F2476:=V2444'.ext E2461
         have K2477:=K2453.ext E2461
         have S2478:=S2455.ext E2461
         have K2479:=K2456.ext E2461
         have Z2480:n0≤h2461.size:=Nat.le_trans Z2457 E2461.1
         have F2481:Fld Z h2461 a2461 sg0 "names" cQ .null:=D2461 (Or.inl (tw hw 79 rfl)) (ty:=(.object sg9)) (by decide)
         have F2482:Fld Z h2461 a2461 sg0 "written" cA .null:=D2461 (Or.inr (tw hw 136 rfl)) (ty:=(.object sg1)) (by decide)
         have F2483:Fld Z h2461 a2461 sg0 "starts" "[I" .null:=D2461 (Or.inr (tw hw 138 rfl)) (ty:=(.array .int)) (by decide)
         refine a8 X2461 hx 111 (hb hby i9) rfl rfl ?_
         refine ab X2461 hx 112 (hb hby i_) rfl rfl rfl ?_
         refine ab X2461 hx 113 (hb hby ja) rfl rfl rfl ?_
         refine aN X2461 hx hZ rfl hown (tw hw 131 rfl) (tw hw 132 rfl) (tw hw 36 rfl) (tw hw 133 rfl) (by decide) (cRi l Z a0 hw a2461 a a2408 h2461 n0 Z2480 A2461 ge2466 F2482 F2483 F2481) e2461 (a:=a2461) (argsL:=[(.ref a),(.ref a2408)]) (rest:=[(.ref a2461)]) rfl rfl 1 116 rfl (by rw[hml];rfl) (lenOf en rfl) (Nat.le_refl _) (by decide) (by decide) (by decide) (by decide) (hb hby jb) ?_
         intro v2484 T2484 L2484 X2484 hQ2484
         obtain⟨rfl,N2484,K2484,f1,f2,f3⟩:=hQ2484
         have N2485:=Fr.app N2459 N2484
         have F2486:=F2469.keep K2484 (allS ge2466 all0)
         have F2487:=F2470.keep K2484
         have F2488:=F2471.keep K2484
         have F2489:=F2472.keep K2484 (ninS ne2463 nin0)
         have F2490:=F2473.keep K2484 (ninS ne2463 nin0)
         have F2491:=F2474.keep K2484 (ninS ne2464 nin0)
         have F2492:=F2475.keep K2484
         have F2493:=F2476.keep K2484 (ninS ne2465 nin0)
         have F2494:=A2461.keep K2484
         have Z2498:n0≤T2484.heap.size:=Nat.le_trans Z2480 K2484.1
         have K2499:=K2477.trans K2484 (allS (Or.inr sz2467) all0)
         have S2500:=S2478.keep K2484 (allS (Or.inr (Nat.le_trans hBz sz2467)) all0)
         have K2501:=K2479.trans K2484 (allS (Or.inr sz2468) all0)
         show Go _ _ _ _ _ (mkF _ _ _ [(.ref a2461)])
         refine au (l':=#[.val (.ref a),.val (.ref a2461),.val (.int (2:Int32)),.val (.ref a2408),.val (.int (2:Int32)),.val (.int r1_1)]) X2484 hx 117 (hb hby jc) rfl rfl rfl ?_
         refine ac X2484 hx (0:Int32) 118 (hb hby jd) rfl (by decide) ?_
         refine ah (l':=#[.val (.ref a),.val (.ref a2461),.val (.int (2:Int32)),.val (.ref a2408),.val (.int (2:Int32)),.val (.int (0:Int32))]) X2484 hx 120 (hb hby je) rfl rfl ?_
         refine ae X2484 hx 122 (hb hby cw) rfl rfl ?_
         refine aa X2484 hx 123 (hb hby cx) rfl rfl ?_
         have ll2503:((2:Int32):Int32).toInt=2:=by decide
         have ll2504:((0:Int32):Int32).toInt=0:=by decide
         refine am X2484 hx 146 126 (hb hby cy) (by decide) (by decide) rfl (fun c2502=>?_) (fun c2502=>?_)
         ·skip
          exfalso;revert c2502;decide
         ·skip
          refine ab X2484 hx 127 (hb hby dF) rfl rfl rfl ?_
          refine ab X2484 hx 128 (hb hby dG) rfl rfl rfl ?_
          refine ae X2484 hx 130 (hb hby dH) rfl rfl ?_
          refine aP X2484 hx hZ rfl F2493 (by decide) (by decide) (by rw[show ((0:Int32):Int32).toNatClampNeg=0 by decide]<;>rfl) 131 (hb hby dI) rfl ?_
          refine ab X2484 hx 132 (hb hby dJ) rfl rfl rfl ?_
          refine ae X2484 hx 134 (hb hby dK) rfl rfl ?_
          refine bE X2484 hx hZ (C:=sg0) (z:=({ cls:=sg0,name := "names",desc := "()Ljava/util/List;" }:Jvm.MethodName)) hown (tw hw 139 rfl) (tw hw 141 rfl) (tw hw 76 rfl) rfl (tw hw 140 rfl) (tw hw 36 rfl) (tw hw 142 rfl) (by decide) (px l Z a0 hw a2461 T2484.heap n0 Z2498 cst fm em SX_ F2486 a a2408 k2408 (1:Int32) (r1_0+(1:Int32)) Lw B cs F2494 f1 f2 F2493 S2500) rfl (b:=a2461) F2494 (argsL:=[(.int (0:Int32))]) (rest:=[(.int (1:Int32)),(.ref a)]) rfl rfl 2 137 rfl (by rw[hml];rfl) (lenOf aS rfl) (Nat.le_refl _) (by decide) (by decide) (by decide) (by decide) (hb hby dL) ?_
          intro v2505 T2505 L2505 X2505 hQ2505
          obtain⟨x0,rfl,hx0,N2505,q2505⟩:=hQ2505
          have N2506:=Fr.app N2485 N2505
          show Go _ _ _ _ _ (mkF _ _ _ [(.int x0),(.int (1:Int32)),(.ref a)])
          have hz0:x0.toInt=((0+1+l0:Nat):Int):=by
           rw[hx0,aT (aC hq1_0 (by omega)) (y:=(1:Int32)) (b:=1) (by decide) (by omega) (by omega)]
           omega
          refine bt X2505 hx hZ hown (tw hw 143 rfl) (tw hw 144 rfl) (tw hw 36 rfl) (tw hw 145 rfl) (by decide) (cCk l Z a0 hw a (1:Int32) x0 T2484.heap n0 Z2498 cst fm em SX_ F2486 Lw B cs S2500 (0+1) l0 (by decide) hz0 bl0 (by omega) no0 d10 d20) q2505 hS (Nat.le_trans hk (K2501).1) hEL (CHv.keep K2501 all0 hC) (argsL:=[(.ref a),(.int (1:Int32)),(.int x0)]) (rest:=[]) rfl rfl 0 140 rfl (by rw[hml];rfl) (lenOf b7 rfl) (Nat.le_refl _) (by decide) (by decide) (by decide) (by decide) (hb hby dM) ?_
          intro v2507 T2507 L2507 X2507 hS hZ hown hQ2507 hC
          obtain⟨rfl,N2507,K2507⟩:=hQ2507
          have N2508:=Fr.app N2506 N2507
          have F2509:=F2486.keep K2507 all0
          have F2510:=F2487.keep K2507
          have F2511:=F2488.keep K2507
          have F2512:=F2489.keep K2507 nin0
          have F2513:=F2490.keep K2507 nin0
          have F2514:=F2491.keep K2507 nin0
          have F2515:=F2492.keep K2507
          have F2516:=F2493.keep K2507 nin0
          have F2517:=F2494.keep K2507
          have F2518:=f1.keep K2507 nin0
          have F2519:=f2.keep K2507 nin0
          have F2520:=f3.keep K2507 nin0
          have Z2521:n0≤T2507.heap.size:=Nat.le_trans Z2498 K2507.1
          have K2522:=K2499.trans K2507 all0
          have S2523:=S2500.keep K2507 all0
          have K2524:=K2501.trans K2507 all0
          have hk:=Nat.le_refl T2507.heap.size
          show Go _ _ _ _ _ (mkF _ _ _ [])
          refine aw X2507 hx (w:=(1:Int32)) (1:Int32) (by decide) (l':=#[.val (.ref a),.val (.ref a2461),.val (.int (2:Int32)),.val (.ref a2408),.val (.int (2:Int32)),.val (.int (1:Int32))]) 143 (hb hby dN) rfl rfl (by decide) rfl ?_
          refine ap X2507 hx 120 (hb hby dO) (by decide) (by decide) ?_
          refine ae X2507 hx 122 (hb hby cw) rfl rfl ?_
          refine aa X2507 hx 123 (hb hby cx) rfl rfl ?_
          have ll2526:((2:Int32):Int32).toInt=2:=by decide
          have ll2527:((1:Int32):Int32).toInt=1:=by decide
          refine am X2507 hx 146 126 (hb hby cy) (by decide) (by decide) rfl (fun c2525=>?_) (fun c2525=>?_)
          ·skip
           exfalso;revert c2525;decide
          ·skip
           refine ab X2507 hx 127 (hb hby dF) rfl rfl rfl ?_
           refine ab X2507 hx 128 (hb hby dG) rfl rfl rfl ?_
           refine ae X2507 hx 130 (hb hby dH) rfl rfl ?_
           refine aP X2507 hx hZ rfl F2516 (by decide) (by decide) (by rw[show ((1:Int32):Int32).toNatClampNeg=1 by decide]<;>rfl) 131 (hb hby dI) rfl ?_
           refine ab X2507 hx 132 (hb hby dJ) rfl rfl rfl ?_
           refine ae X2507 hx 134 (hb hby dK) rfl rfl ?_
           refine bE X2507 hx hZ (C:=sg0) (z:=({ cls:=sg0,name := "names",desc := "()Ljava/util/List;" }:Jvm.MethodName)) hown (tw hw 139 rfl) (tw hw 141 rfl) (tw hw 76 rfl) rfl (tw hw 140 rfl) (tw hw 36 rfl) (tw hw 142 rfl) (by decide) (pz l Z a0 hw a2461 T2507.heap n0 Z2521 cst fm em SX_ F2509 a a2408 k2408 (1:Int32) (r1_0+(1:Int32)) Lw B cs F2517 F2518 F2519 F2516 S2523) rfl (b:=a2461) F2517 (argsL:=[(.int (1:Int32))]) (rest:=[(.int (r1_0+(1:Int32))),(.ref a)]) rfl rfl 2 137 rfl (by rw[hml];rfl) (lenOf aS rfl) (Nat.le_refl _) (by decide) (by decide) (by decide) (by decide) (hb hby dL) ?_
           intro v2528 T2528 L2528 X2528 hQ2528
           obtain⟨x1,rfl,hx1,N2528,q2528⟩:=hQ2528
           have N2529:=Fr.app N2508 N2528
           show Go _ _ _ _ _ (mkF _ _ _ [(.int x1),(.int (r1_0+(1:Int32))),(.ref a)])
           have hz1:x1.toInt=((e1+1+l1:Nat):Int):=by
            rw[hx1]
            omega
           refine bt X2528 hx hZ hown (tw hw 143 rfl) (tw hw 144 rfl) (tw hw 36 rfl) (tw hw 145 rfl) (by decide) (cCk l Z a0 hw a (r1_0+(1:Int32)) x1 T2507.heap n0 Z2521 cst fm em SX_ F2509 Lw B cs S2523 (e1+1) l1 (aC hq1_0 (by omega)) hz1 bl1 (by omega) no1 d11 d21) q2528 hS (Nat.le_trans hk ((Keep.refl T2507.heap [])).1) hEL (CHv.keep (Keep.refl T2507.heap []) all0 hC) (argsL:=[(.ref a),(.int (r1_0+(1:Int32))),(.int x1)]) (rest:=[]) rfl rfl 0 140 rfl (by rw[hml];rfl) (lenOf b7 rfl) (Nat.le_refl _) (by decide) (by decide) (by decide) (by decide) (hb hby dM) ?_
           intro v2530 T2530 L2530 X2530 hS hZ hown hQ2530 hC
           obtain⟨rfl,N2530,K2530⟩:=hQ2530
           have N2531:=Fr.app N2529 N2530
           have F2532:=F2509.keep K2530 all0
           have F2533:=F2510.keep K2530
           have F2534:=F2511.keep K2530
           have F2535:=F2512.keep K2530 nin0
           have F2536:=F2513.keep K2530 nin0
           have F2537:=F2514.keep K2530 nin0
           have F2538:=F2515.keep K2530
           have F2539:=F2516.keep K2530 nin0
           have F2540:=F2517.keep K2530
           have F2541:=F2518.keep K2530 nin0
           have F2542:=F2519.keep K2530 nin0
           have F2543:=F2520.keep K2530 nin0
           have Z2544:n0≤T2530.heap.size:=Nat.le_trans Z2521 K2530.1
           have K2545:=K2522.trans K2530 all0
           have S2546:=S2523.keep K2530 all0
           have K2547:=(Keep.refl T2507.heap []).trans K2530 all0
           have hk:=Nat.le_refl T2530.heap.size
           show Go _ _ _ _ _ (mkF _ _ _ [])
           refine aw X2530 hx (w:=(1:Int32)) (2:Int32) (by decide) (l':=#[.val (.ref a),.val (.ref a2461),.val (.int (2:Int32)),.val (.ref a2408),.val (.int (2:Int32)),.val (.int (2:Int32))]) 143 (hb hby dN) rfl rfl (by decide) rfl ?_
           refine ap X2530 hx 120 (hb hby dO) (by decide) (by decide) ?_
           refine ae X2530 hx 122 (hb hby cw) rfl rfl ?_
           refine aa X2530 hx 123 (hb hby cx) rfl rfl ?_
           have ll2549:((2:Int32):Int32).toInt=2:=by decide
           have ll2550:((2:Int32):Int32).toInt=2:=by decide
           refine am X2530 hx 146 126 (hb hby cy) (by decide) (by decide) rfl (fun c2548=>?_) (fun c2548=>?_)
           ·skip
            refine ab X2530 hx 147 (hb hby gy) rfl rfl rfl ?_
            exact dX X2530 hx hlk hret rfl rfl rfl (hb hby gz) (by decide) (by decide) rfl hS (Nat.le_trans hk ((Keep.refl T2530.heap [])).1) ⟨a2461,a2408,k2408,(1:Int32),(r1_0+(1:Int32)),rfl,N2531,K2545,ge2466,sz2467,F2540,F2541,F2542,F2543,F2539,ne2465,by decide,aC hq1_0 (by omega)⟩
           ·skip
            exfalso;revert c2548;decide
        ·skip
         exfalso;omega
     ·skip
      exfalso;omega
 ·skip
  exfalso;revert c2393;decide
def Hk (Z:State)(a:Addr)(e1 e2:Nat)(n0:Nat)(h0:Heap)(v:Option Value)(h:Heap)(L:List Loc):Prop:=∃(pa st:Addr)(ks:ClassId)(s0 s1 s2:Int32),v=some (.ref pa)∧Fr n0 L∧Keep h0 h []∧n0≤pa∧h0.size≤pa∧Exa Z h pa sg0∧Fld Z h pa sg0 "written" cA (.ref a)∧Fld Z h pa sg0 "starts" "[I" (.ref st)∧Fld Z h pa sg0 "names" cQ .null∧Arv Z h st ks .int 3 [(.int s0),(.int s1),(.int s2)] (.int 0)∧st≠pa∧s0.toInt=((0+1:Nat):Int)∧s1.toInt=((e1+1:Nat):Int)∧s2.toInt=((e2+1:Nat):Int)
theorem oq (a:Addr)(m:MethodId):entryFrame m #[(.ref a)] 6=mkF m 0 #[.val (.ref a),.unset,.unset,.unset,.unset,.unset] []:=by first|(simp [entryFrame,mkF,argsToLocals,Value.category];done)|rfl
theorem Pz (l:Launch)(Z:State)(a0:Array Value)(hw:HW a0 Z)(a:Addr)(h0:Heap)(n0:Nat)(Z0:n0≤h0.size)(cst:Int32)(fm:Option Addr)(em:Addr)(SX_:SX Z cst fm em)(O0:Old Z n0 h0)(ro:Addr)(SR:Sta Z Z.heap sg0 "ROOT" "Lcom/example/hierarchical_roles/hierarchicalroles/ResourcePath;" (.ref ro))(Lw B:Nat)(cs:List Int32)(S:a3 Z h0 Lw B a cs)(hBz:B≤h0.size)(hs0:(cs.getD 0 0).toInt=47)(p0 p1 p2:Int32)(l0 l1 l2 e1 e2:Nat)(H0:Nm cs 0 l0 p0)(H1:Nm cs e1 l1 p1)(H2:Nm cs e2 l2 p2)(g1:e1=0+1+l0)(g2:e2=e1+1+l1)(hlen:cs.length=e2+1+l2) :
  MetFree l (⟨sg0,"parse","(Ljava/lang/String;)Lcom/example/hierarchical_roles/hierarchicalroles/ResourcePath;"⟩:MethodName) (head1 [Jvm.Cond.code (⟨sg0,"parse","(Ljava/lang/String;)Lcom/example/hierarchical_roles/hierarchicalroles/ResourcePath;"⟩:MethodName) prog_26_method_5_code 6 (some (.object sg0))] ({ frames:=7,cells:=12,slots:=120,locals:=160 }:Room)) (fun as_ U=>as_=#[(.ref a)]∧Z.Warmed39 U.vm∧U.heap=h0∧CHv Z bu U.vm h0) (fun _ _ _ _ _=>True) (fun _ U o U'=>∃v L,o = .returned v∧Hk Z a e1 e2 n0 h0 v U'.heap L∧ReturnedEndW U o U' L ({ frames:=7,cells:=12,slots:=120,locals:=160 }:Room).cells ({ frames:=7,cells:=12,slots:=120,locals:=160 }:Room).slots):=by
 have own_wS:=cI hw
 have hEL:=bW hw
 refine cE c7 (oq a) ?_
 intro p e s m below meth c T0 X0 hx hby hml hret hlk hnm hown hZ e0 hS hC
 have N0:=Fr.nil n0
 have hk:0≤h0.size:=Nat.zero_le _
 have Ew:=S.exa
 have hcl:=S.1.2.1
 have no0:=H0.no
 have d10:=H0.d1
 have d20:=H0.d2
 have s470:=H0.2.2.1
 have bl0:=H0.1
 have no1:=H1.no
 have d11:=H1.d1
 have d21:=H1.d2
 have s471:=H1.2.2.1
 have bl1:=H1.1
 have no2:=H2.no
 have d12:=H2.d1
 have d22:=H2.d2
 have s472:=H2.2.2.1
 have bl2:=H2.1
 refine ab X0 hx 1 (hb hby oe) rfl rfl rfl ?_
 refine bU X0 hx hZ hown (tw hw 38 rfl) own_wS e0 hS hk hEL (List.mem_of_getElem? (i:=0) rfl) hC (vs:=[(.int 119),(.int 114),(.int 105),(.int 116),(.int 116),(.int 101),(.int 110)]) (z:=7) ⟨by decide +kernel,by decide +kernel⟩ (by decide) (by decide) 28 (by decide +kernel) (by decide) 3 (hb hby og) rfl (by decide) (by decide) ?_
 intro t2551 T2551 h2551 k2551 vb2551 kb2551 X2551 e2551 E2551 hS hk hZ hown Es2551 Cs2551 Fs2551 Vs2551 hC LT
 have F2552:=O0.ext E2551
 have F2553:=Ew.ext E2551
 have K2554:=(Keep.refl h0 []).ext E2551
 have S2555:=S.ext E2551
 have Z2556:n0≤h2551.size:=Nat.le_trans Z0 E2551.1
 refine ag X2551 hx hZ hown (tw hw 41 rfl) (tw hw 42 rfl) (tw hw 43 rfl) (tw hw 44 rfl) (by decide) (cRM l Z a0 hw a t2551 h2551 n0 Z2556) e2551 (argsL:=[(.ref a),(.ref t2551)]) (rest:=[]) rfl rfl 0 6 rfl (by rw[hml];rfl) (lenOf dV rfl) (Nat.le_refl _) (by decide) (by decide) (by decide) (by decide) (hb hby oh) ?_
 intro v2557 T2557 L2557 X2557 hQ2557
 obtain⟨rfl,N2557,q2557⟩:=hQ2557
 have N2558:=Fr.app N0 N2557
 show Go _ _ _ _ _ (mkF _ _ _ [(.ref a)])
 refine eh X2557 hx 7 (hb hby oi) rfl rfl ?_
 refine ab X2557 hx 8 (hb hby oj) rfl rfl rfl ?_
 refine bU X2557 hx hZ hown (tw hw 45 rfl) own_wS q2557 hS hk hEL (List.mem_of_getElem? (i:=1) rfl) hC (vs:=[(.int 47)]) (z:=1) ⟨by decide +kernel,by decide +kernel⟩ (by decide) (by decide) 4 (by decide +kernel) (by decide) 10 (hb hby ol) rfl (by decide) (by decide) ?_
 intro t2559 T2559 h2559 k2559 vb2559 kb2559 X2559 e2559 E2559 hS hk hZ hown Es2559 Cs2559 Fs2559 Vs2559 hC LT
 have F2560:=F2552.ext E2559
 have F2561:=F2553.ext E2559
 have K2562:=K2554.ext E2559
 have S2563:=S2555.ext E2559
 have Z2564:n0≤h2559.size:=Nat.le_trans Z2556 E2559.1
 refine ak X2559 hx hZ (C:=sg1) hown (tw hw 46 rfl) (tw hw 47 rfl) (tw hw 49 rfl) (tw hw 49 rfl) (tw hw 48 rfl) (tw hw 7 rfl) (tw hw 50 rfl) (by decide) (cSt l Z a0 hw a t2559 h2559 n0 Z2564 cst fm em SX_ F2560 Lw B cs S2563 vb2559 kb2559 Es2559 Cs2559 Fs2559 Vs2559 hs0) e2559 (b:=a) F2561 (argsL:=[(.ref t2559)]) (rest:=[]) rfl rfl 0 13 rfl (by rw[hml];rfl) (lenOf dW rfl) (Nat.le_refl _) (by decide) (by decide) (by decide) (by decide) (hb hby jx) ?_
 intro v2565 T2565 L2565 X2565 hQ2565
 obtain⟨rfl,N2565,q2565⟩:=hQ2565
 have N2566:=Fr.app N2558 N2565
 show Go _ _ _ _ _ (mkF _ _ _ [(.int (1:Int32))])
 have ll2568:((1:Int32):Int32).toInt=1:=by decide
 refine aI X2565 hx 30 16 (hb hby jy) (by decide) (by decide) rfl (fun c2567=>?_) (fun c2567=>?_)
 ·skip
  refine a1 X2565 hx hZ hown (tw hw 70 rfl) Via.refl q2565 (Sta.ext F2560.2 SR) 33 (hb hby jz) rfl ?_
  intro T2569 X2569 e2569
  refine au (l':=#[.val (.ref a),.val (.ref ro),.unset,.unset,.unset,.unset]) X2569 hx 34 (hb hby jA) rfl rfl rfl ?_
  refine ab X2569 hx 35 (hb hby jB) rfl rfl rfl ?_
  refine ak X2569 hx hZ (C:=sg1) hown (tw hw 72 rfl) (tw hw 57 rfl) (tw hw 59 rfl) (tw hw 59 rfl) (tw hw 58 rfl) (tw hw 7 rfl) (tw hw 60 rfl) (by decide) (cLn l Z a0 hw a h2559 n0 Z2564 cst fm em SX_ F2560 Lw B cs S2563) e2569 (b:=a) F2561 (argsL:=[]) (rest:=[]) rfl rfl 0 38 rfl (by rw[hml];rfl) (lenOf aF rfl) (Nat.le_refl _) (by decide) (by decide) (by decide) (by decide) (hb hby jC) ?_
  intro v2570 T2570 L2570 X2570 hQ2570
  obtain⟨nl,rfl,hn,N2570,q2570⟩:=hQ2570
  have N2571:=Fr.app N2566 N2570
  show Go _ _ _ _ _ (mkF _ _ _ [(.int nl)])
  refine ac X2570 hx (1:Int32) 39 (hb hby jD) rfl (by decide) ?_
  have ll2573:((1:Int32):Int32).toInt=1:=by decide
  refine a7 X2570 hx 146 42 (hb hby jE) (by decide) (by decide) rfl (fun c2572=>?_) (fun c2572=>?_)
  ·skip
   exfalso;omega
  ·skip
   refine ac X2570 hx (0:Int32) 43 (hb hby m5) rfl (by decide) ?_
   refine aq (l':=#[.val (.ref a),.val (.ref ro),.val (.int (0:Int32)),.unset,.unset,.unset]) X2570 hx 44 (hb hby m6) rfl rfl ?_
   refine ac X2570 hx (0:Int32) 45 (hb hby m7) rfl (by decide) ?_
   refine aq (l':=#[.val (.ref a),.val (.ref ro),.val (.int (0:Int32)),.val (.int (0:Int32)),.unset,.unset]) X2570 hx 46 (hb hby m8) rfl rfl ?_
   refine aa X2570 hx 47 (hb hby c3) rfl rfl ?_
   have ll2575:((0:Int32):Int32).toInt=0:=by decide
   refine aB X2570 hx 66 50 (hb hby c4) (by decide) (by decide) rfl (fun c2574=>?_) (fun c2574=>?_)
   ·skip
    exfalso;revert c2574;decide
   ·skip
    refine aw X2570 hx (w:=(1:Int32)) (1:Int32) (by decide) (l':=#[.val (.ref a),.val (.ref ro),.val (.int (1:Int32)),.val (.int (0:Int32)),.unset,.unset]) 53 (hb hby eO) rfl rfl (by decide) rfl ?_
    refine ab X2570 hx 54 (hb hby eP) rfl rfl rfl ?_
    refine aj X2570 hx (47:Int32) 56 (hb hby eQ) rfl (by decide) ?_
    refine aa X2570 hx 57 (hb hby eR) rfl rfl ?_
    refine ac X2570 hx (1:Int32) 58 (hb hby eS) rfl (by decide) ?_
    refine aL X2570 hx (1:Int32) (by decide) 59 (hb hby eU) rfl ?_
    refine ak X2570 hx hZ (C:=sg1) hown (tw hw 101 rfl) (tw hw 102 rfl) (tw hw 104 rfl) (tw hw 104 rfl) (tw hw 103 rfl) (tw hw 7 rfl) (tw hw 105 rfl) (by decide) (cSI l Z a0 hw a (1:Int32) h2559 n0 Z2564 cst fm em SX_ F2560 Lw B cs S2563 (0+1) (by decide) (by omega)) q2570 (b:=a) F2561 (argsL:=[(.int (47:Int32)),(.int (1:Int32))]) (rest:=[]) rfl rfl 0 62 rfl (by rw[hml];rfl) (lenOf aG rfl) (Nat.le_refl _) (by decide) (by decide) (by decide) (by decide) (hb hby eV) ?_
    intro v2576 T2576 L2576 X2576 hQ2576
    obtain⟨r0_0,rfl,hir0_0,N2576,q2576⟩:=hQ2576
    have N2577:=Fr.app N2571 N2576
    show Go _ _ _ _ _ (mkF _ _ _ [(.int r0_0)])
    have hq0_0:r0_0.toInt=((e1:Nat):Int):=cM hir0_0 (by omega) (by omega) s471 (fun j h1 h2=>no0 j h1 (by omega))
    refine aq (l':=#[.val (.ref a),.val (.ref ro),.val (.int (1:Int32)),.val (.int r0_0),.unset,.unset]) X2576 hx 63 (hb hby eW) rfl rfl ?_
    refine ap X2576 hx 46 (hb hby eX) (by decide) (by decide) ?_
    refine aa X2576 hx 47 (hb hby c3) rfl rfl ?_
    refine aB X2576 hx 66 50 (hb hby c4) (by decide) (by decide) rfl (fun c2578=>?_) (fun c2578=>?_)
    ·skip
     exfalso;omega
    ·skip
     refine aw X2576 hx (w:=(1:Int32)) (2:Int32) (by decide) (l':=#[.val (.ref a),.val (.ref ro),.val (.int (2:Int32)),.val (.int r0_0),.unset,.unset]) 53 (hb hby eO) rfl rfl (by decide) rfl ?_
     refine ab X2576 hx 54 (hb hby eP) rfl rfl rfl ?_
     refine aj X2576 hx (47:Int32) 56 (hb hby eQ) rfl (by decide) ?_
     refine aa X2576 hx 57 (hb hby eR) rfl rfl ?_
     refine ac X2576 hx (1:Int32) 58 (hb hby eS) rfl (by decide) ?_
     refine aQ X2576 hx 59 (hb hby eU) rfl ?_
     refine ak X2576 hx hZ (C:=sg1) hown (tw hw 101 rfl) (tw hw 102 rfl) (tw hw 104 rfl) (tw hw 104 rfl) (tw hw 103 rfl) (tw hw 7 rfl) (tw hw 105 rfl) (by decide) (cSI l Z a0 hw a (r0_0+(1:Int32)) h2559 n0 Z2564 cst fm em SX_ F2560 Lw B cs S2563 (e1+1) (aC hq0_0 (by omega)) (by omega)) q2576 (b:=a) F2561 (argsL:=[(.int (47:Int32)),(.int (r0_0+(1:Int32)))]) (rest:=[]) rfl rfl 0 62 rfl (by rw[hml];rfl) (lenOf aG rfl) (Nat.le_refl _) (by decide) (by decide) (by decide) (by decide) (hb hby eV) ?_
     intro v2579 T2579 L2579 X2579 hQ2579
     obtain⟨r0_1,rfl,hir0_1,N2579,q2579⟩:=hQ2579
     have N2580:=Fr.app N2577 N2579
     show Go _ _ _ _ _ (mkF _ _ _ [(.int r0_1)])
     have hq0_1:r0_1.toInt=((e2:Nat):Int):=cM hir0_1 (by omega) (by omega) s472 (fun j h1 h2=>no1 j h1 (by omega))
     refine aq (l':=#[.val (.ref a),.val (.ref ro),.val (.int (2:Int32)),.val (.int r0_1),.unset,.unset]) X2579 hx 63 (hb hby eW) rfl rfl ?_
     refine ap X2579 hx 46 (hb hby eX) (by decide) (by decide) ?_
     refine aa X2579 hx 47 (hb hby c3) rfl rfl ?_
     refine aB X2579 hx 66 50 (hb hby c4) (by decide) (by decide) rfl (fun c2581=>?_) (fun c2581=>?_)
     ·skip
      exfalso;omega
     ·skip
      refine aw X2579 hx (w:=(1:Int32)) (3:Int32) (by decide) (l':=#[.val (.ref a),.val (.ref ro),.val (.int (3:Int32)),.val (.int r0_1),.unset,.unset]) 53 (hb hby eO) rfl rfl (by decide) rfl ?_
      refine ab X2579 hx 54 (hb hby eP) rfl rfl rfl ?_
      refine aj X2579 hx (47:Int32) 56 (hb hby eQ) rfl (by decide) ?_
      refine aa X2579 hx 57 (hb hby eR) rfl rfl ?_
      refine ac X2579 hx (1:Int32) 58 (hb hby eS) rfl (by decide) ?_
      refine aQ X2579 hx 59 (hb hby eU) rfl ?_
      refine ak X2579 hx hZ (C:=sg1) hown (tw hw 101 rfl) (tw hw 102 rfl) (tw hw 104 rfl) (tw hw 104 rfl) (tw hw 103 rfl) (tw hw 7 rfl) (tw hw 105 rfl) (by decide) (cSI l Z a0 hw a (r0_1+(1:Int32)) h2559 n0 Z2564 cst fm em SX_ F2560 Lw B cs S2563 (e2+1) (aC hq0_1 (by omega)) (by omega)) q2579 (b:=a) F2561 (argsL:=[(.int (47:Int32)),(.int (r0_1+(1:Int32)))]) (rest:=[]) rfl rfl 0 62 rfl (by rw[hml];rfl) (lenOf aG rfl) (Nat.le_refl _) (by decide) (by decide) (by decide) (by decide) (hb hby eV) ?_
      intro v2582 T2582 L2582 X2582 hQ2582
      obtain⟨r0_2,rfl,hir0_2,N2582,q2582⟩:=hQ2582
      have N2583:=Fr.app N2580 N2582
      show Go _ _ _ _ _ (mkF _ _ _ [(.int r0_2)])
      have hq0_2:r0_2.toInt=-1:=cN hir0_2 (fun j h1 h2=>no2 j h1 (by omega))
      refine aq (l':=#[.val (.ref a),.val (.ref ro),.val (.int (3:Int32)),.val (.int r0_2),.unset,.unset]) X2582 hx 63 (hb hby eW) rfl rfl ?_
      refine ap X2582 hx 46 (hb hby eX) (by decide) (by decide) ?_
      refine aa X2582 hx 47 (hb hby c3) rfl rfl ?_
      refine aB X2582 hx 66 50 (hb hby c4) (by decide) (by decide) rfl (fun c2584=>?_) (fun c2584=>?_)
      ·skip
       refine aa X2582 hx 67 (hb hby m9) rfl rfl ?_
       refine aO X2582 hx hZ (aty := .int) (tw hw 128 rfl) q2582 (by decide) (cap:=3) (by decide) (by decide) 69 (hb hby m_) rfl (by decide) (by decide) (ad := "[I") (by decide) ?_
       intro T2585 h2585 k2585 a2585 g2585 X2585 e2585 E2585 V2585 A2585
       have ne2586:a≠a2585:=Nat.ne_of_lt (by rw[g2585];exact F2561.lt)
       have ne2587:t2559≠a2585:=Nat.ne_of_lt (by rw[g2585];exact Es2559.lt)
       have ne2588:vb2559≠a2585:=Nat.ne_of_lt (by rw[g2585];exact Vs2559.lt)
       have ge2589:n0≤a2585:=by rw[g2585];exact Z2564
       have sz2590:h0.size≤a2585:=by rw[g2585];exact K2562.1
       have sz2591:h2559.size≤a2585:=by rw[g2585];exact (Keep.refl h2559 []).1
       have F2592:=F2560.ext E2585
       have F2593:=F2561.ext E2585
       have F2594:=Es2559.ext E2585
       have F2595:=Cs2559.ext E2585
       have F2596:=Fs2559.ext E2585
       have F2597:=Vs2559.ext E2585
       have K2598:=K2562.ext E2585
       have S2599:=S2563.ext E2585
       have K2600:=(Keep.refl h2559 []).ext E2585
       have Z2601:n0≤h2585.size:=Nat.le_trans Z2564 E2585.1
       have V2585':Arv Z h2585 a2585 k2585 .int (3:Int32) [(.int (0:Int32)),(.int (0:Int32)),(.int (0:Int32))] (.int (0:Int32)):=V2585.pad (pad_rep [] (.int (0:Int32)) 3)
       refine au (l':=#[.val (.ref a),.val (.ref ro),.val (.int (3:Int32)),.val (.ref a2585),.unset,.unset]) X2585 hx 70 (hb hby nc) rfl rfl rfl ?_
       refine ac X2585 hx (0:Int32) 71 (hb hby nd) rfl (by decide) ?_
       refine ah (l':=#[.val (.ref a),.val (.ref ro),.val (.int (3:Int32)),.val (.ref a2585),.val (.int (0:Int32)),.unset]) X2585 hx 73 (hb hby nf) rfl rfl ?_
       refine ac X2585 hx (0:Int32) 74 (hb hby ng) rfl (by decide) ?_
       refine ah (l':=#[.val (.ref a),.val (.ref ro),.val (.int (3:Int32)),.val (.ref a2585),.val (.int (0:Int32)),.val (.int (0:Int32))]) X2585 hx 76 (hb hby nh) rfl rfl ?_
       refine ae X2585 hx 78 (hb hby c5) rfl rfl ?_
       have ll2603:((0:Int32):Int32).toInt=0:=by decide
       refine aB X2585 hx 107 81 (hb hby c6) (by decide) (by decide) rfl (fun c2602=>?_) (fun c2602=>?_)
       ·skip
        exfalso;revert c2602;decide
       ·skip
        refine ab X2585 hx 82 (hb hby eY) rfl rfl rfl ?_
        refine ae X2585 hx 84 (hb hby eZ) rfl rfl ?_
        refine aw X2585 hx (w:=(1:Int32)) (1:Int32) (by decide) (l':=#[.val (.ref a),.val (.ref ro),.val (.int (3:Int32)),.val (.ref a2585),.val (.int (1:Int32)),.val (.int (0:Int32))]) 87 (hb hby e6) rfl rfl (by decide) rfl ?_
        refine ae X2585 hx 89 (hb hby e7) rfl rfl ?_
        refine ac X2585 hx (1:Int32) 90 (hb hby e8) rfl (by decide) ?_
        refine aL X2585 hx (1:Int32) (by decide) 91 (hb hby e9) rfl ?_
        refine bI X2585 hx hZ e2585 V2585' 0 (by decide) (by decide) (by show 0<3;decide) 92 (hb hby e_) rfl ?_
        intro T2604 h2604 X2604 e2604 W2604 V2604
        have F2605:=F2592.wr W2604 ge2589
        have F2606:=F2593.wr W2604
        have F2607:=F2594.wr W2604
        have F2608:=F2595.other W2604 (Or.inl ne2587)
        have F2609:=F2596.other W2604 (Or.inl ne2587)
        have F2610:=F2597.other W2604 ne2588
        have F2611:=A2585.wr W2604
        have K2613:=K2598.wr W2604 (Or.inr sz2590)
        have N2614:=Fr.snoc X2604 N2583 ge2589
        have S2615:=S2599.keep (Keep.of_wr W2604) (allS (Or.inr (Nat.le_trans hBz sz2590)) all0)
        have K2616:=K2600.wr W2604 (Or.inr sz2591)
        have Z2617:n0≤h2604.size:=by rw[W2604.size];exact Z2601
        have V2604':Arv Z h2604 a2585 k2585 .int (3:Int32) [(.int (1:Int32)),(.int (0:Int32)),(.int (0:Int32))] (.int (0:Int32)):=V2604
        refine ab X2604 hx 93 (hb hby fa) rfl rfl rfl ?_
        refine aj X2604 hx (47:Int32) 95 (hb hby fb) rfl (by decide) ?_
        refine ae X2604 hx 97 (hb hby fd) rfl rfl ?_
        refine ac X2604 hx (1:Int32) 98 (hb hby fe) rfl (by decide) ?_
        refine aL X2604 hx (1:Int32) (by decide) 99 (hb hby ff) rfl ?_
        refine ak X2604 hx hZ (C:=sg1) hown (tw hw 101 rfl) (tw hw 102 rfl) (tw hw 104 rfl) (tw hw 104 rfl) (tw hw 103 rfl) (tw hw 7 rfl) (tw hw 105 rfl) (by decide) (cSI l Z a0 hw a (1:Int32) h2604 n0 Z2617 cst fm em SX_ F2605 Lw B cs S2615 (0+1) (by decide) (by omega)) e2604 (b:=a) F2606 (argsL:=[(.int (47:Int32)),(.int (1:Int32))]) (rest:=[]) rfl rfl 0 102 rfl (by rw[hml];rfl) (lenOf aG rfl) (Nat.le_refl _) (by decide) (by decide) (by decide) (by decide) (hb hby fg) ?_
        intro v2618 T2618 L2618 X2618 hQ2618
        obtain⟨r1_0,rfl,hir1_0,N2618,q2618⟩:=hQ2618
        have N2619:=Fr.app N2614 N2618
        show Go _ _ _ _ _ (mkF _ _ _ [(.int r1_0)])
        have hq1_0:r1_0.toInt=((e1:Nat):Int):=cM hir1_0 (by omega) (by omega) s471 (fun j h1 h2=>no0 j h1 (by omega))
        refine ah (l':=#[.val (.ref a),.val (.ref ro),.val (.int (3:Int32)),.val (.ref a2585),.val (.int (1:Int32)),.val (.int r1_0)]) X2618 hx 104 (hb hby dD) rfl rfl ?_
        refine ap X2618 hx 76 (hb hby dE) (by decide) (by decide) ?_
        refine ae X2618 hx 78 (hb hby c5) rfl rfl ?_
        refine aB X2618 hx 107 81 (hb hby c6) (by decide) (by decide) rfl (fun c2620=>?_) (fun c2620=>?_)
        ·skip
         exfalso;omega
        ·skip
         refine ab X2618 hx 82 (hb hby eY) rfl rfl rfl ?_
         refine ae X2618 hx 84 (hb hby eZ) rfl rfl ?_
         refine aw X2618 hx (w:=(1:Int32)) (2:Int32) (by decide) (l':=#[.val (.ref a),.val (.ref ro),.val (.int (3:Int32)),.val (.ref a2585),.val (.int (2:Int32)),.val (.int r1_0)]) 87 (hb hby e6) rfl rfl (by decide) rfl ?_
         refine ae X2618 hx 89 (hb hby e7) rfl rfl ?_
         refine ac X2618 hx (1:Int32) 90 (hb hby e8) rfl (by decide) ?_
         refine aQ X2618 hx 91 (hb hby e9) rfl ?_
         refine bI X2618 hx hZ q2618 V2604' 1 (by decide) (by decide) (by show 1<3;decide) 92 (hb hby e_) rfl ?_
         intro T2621 h2621 X2621 e2621 W2621 V2621
         have F2622:=F2605.wr W2621 ge2589
         have F2623:=F2606.wr W2621
         have F2624:=F2607.wr W2621
         have F2625:=F2608.other W2621 (Or.inl ne2587)
         have F2626:=F2609.other W2621 (Or.inl ne2587)
         have F2627:=F2610.other W2621 ne2588
         have F2628:=F2611.wr W2621
         have K2630:=K2613.wr W2621 (Or.inr sz2590)
         have N2631:=Fr.snoc X2621 N2619 ge2589
         have S2632:=S2615.keep (Keep.of_wr W2621) (allS (Or.inr (Nat.le_trans hBz sz2590)) all0)
         have K2633:=K2616.wr W2621 (Or.inr sz2591)
         have Z2634:n0≤h2621.size:=by rw[W2621.size];exact Z2617
         have V2621':Arv Z h2621 a2585 k2585 .int (3:Int32) [(.int (1:Int32)),(.int (r1_0+(1:Int32))),(.int (0:Int32))] (.int (0:Int32)):=V2621
         refine ab X2621 hx 93 (hb hby fa) rfl rfl rfl ?_
         refine aj X2621 hx (47:Int32) 95 (hb hby fb) rfl (by decide) ?_
         refine ae X2621 hx 97 (hb hby fd) rfl rfl ?_
         refine ac X2621 hx (1:Int32) 98 (hb hby fe) rfl (by decide) ?_
         refine aQ X2621 hx 99 (hb hby ff) rfl ?_
         refine ak X2621 hx hZ (C:=sg1) hown (tw hw 101 rfl) (tw hw 102 rfl) (tw hw 104 rfl) (tw hw 104 rfl) (tw hw 103 rfl) (tw hw 7 rfl) (tw hw 105 rfl) (by decide) (cSI l Z a0 hw a (r1_0+(1:Int32)) h2621 n0 Z2634 cst fm em SX_ F2622 Lw B cs S2632 (e1+1) (aC hq1_0 (by omega)) (by omega)) e2621 (b:=a) F2623 (argsL:=[(.int (47:Int32)),(.int (r1_0+(1:Int32)))]) (rest:=[]) rfl rfl 0 102 rfl (by rw[hml];rfl) (lenOf aG rfl) (Nat.le_refl _) (by decide) (by decide) (by decide) (by decide) (hb hby fg) ?_
         intro v2635 T2635 L2635 X2635 hQ2635
         obtain⟨r1_1,rfl,hir1_1,N2635,q2635⟩:=hQ2635
         have N2636:=Fr.app N2631 N2635
         show Go _ _ _ _ _ (mkF _ _ _ [(.int r1_1)])
         have hq1_1:r1_1.toInt=((e2:Nat):Int):=cM hir1_1 (by omega) (by omega) s472 (fun j h1 h2=>no1 j h1 (by omega))
         refine ah (l':=#[.val (.ref a),.val (.ref ro),.val (.int (3:Int32)),.val (.ref a2585),.val (.int (2:Int32)),.val (.int r1_1)]) X2635 hx 104 (hb hby dD) rfl rfl ?_
         refine ap X2635 hx 76 (hb hby dE) (by decide) (by decide) ?_
         refine ae X2635 hx 78 (hb hby c5) rfl rfl ?_
         refine aB X2635 hx 107 81 (hb hby c6) (by decide) (by decide) rfl (fun c2637=>?_) (fun c2637=>?_)
         ·skip
          exfalso;omega
         ·skip
          refine ab X2635 hx 82 (hb hby eY) rfl rfl rfl ?_
          refine ae X2635 hx 84 (hb hby eZ) rfl rfl ?_
          refine aw X2635 hx (w:=(1:Int32)) (3:Int32) (by decide) (l':=#[.val (.ref a),.val (.ref ro),.val (.int (3:Int32)),.val (.ref a2585),.val (.int (3:Int32)),.val (.int r1_1)]) 87 (hb hby e6) rfl rfl (by decide) rfl ?_
          refine ae X2635 hx 89 (hb hby e7) rfl rfl ?_
          refine ac X2635 hx (1:Int32) 90 (hb hby e8) rfl (by decide) ?_
          refine aQ X2635 hx 91 (hb hby e9) rfl ?_
          refine bI X2635 hx hZ q2635 V2621' 2 (by decide) (by decide) (by show 2<3;decide) 92 (hb hby e_) rfl ?_
          intro T2638 h2638 X2638 e2638 W2638 V2638
          have F2639:=F2622.wr W2638 ge2589
          have F2640:=F2623.wr W2638
          have F2641:=F2624.wr W2638
          have F2642:=F2625.other W2638 (Or.inl ne2587)
          have F2643:=F2626.other W2638 (Or.inl ne2587)
          have F2644:=F2627.other W2638 ne2588
          have F2645:=F2628.wr W2638
          have K2647:=K2630.wr W2638 (Or.inr sz2590)
          have N2648:=Fr.snoc X2638 N2636 ge2589
          have S2649:=S2632.keep (Keep.of_wr W2638) (allS (Or.inr (Nat.le_trans hBz sz2590)) all0)
          have K2650:=K2633.wr W2638 (Or.inr sz2591)
          have Z2651:n0≤h2638.size:=by rw[W2638.size];exact Z2634
          have V2638':Arv Z h2638 a2585 k2585 .int (3:Int32) [(.int (1:Int32)),(.int (r1_0+(1:Int32))),(.int (r1_1+(1:Int32)))] (.int (0:Int32)):=V2638
          refine ab X2638 hx 93 (hb hby fa) rfl rfl rfl ?_
          refine aj X2638 hx (47:Int32) 95 (hb hby fb) rfl (by decide) ?_
          refine ae X2638 hx 97 (hb hby fd) rfl rfl ?_
          refine ac X2638 hx (1:Int32) 98 (hb hby fe) rfl (by decide) ?_
          refine aQ X2638 hx 99 (hb hby ff) rfl ?_
          refine ak X2638 hx hZ (C:=sg1) hown (tw hw 101 rfl) (tw hw 102 rfl) (tw hw 104 rfl) (tw hw 104 rfl) (tw hw 103 rfl) (tw hw 7 rfl) (tw hw 105 rfl) (by decide) (cSI l Z a0 hw a (r1_1+(1:Int32)) h2638 n0 Z2651 cst fm em SX_ F2639 Lw B cs S2649 (e2+1) (aC hq1_1 (by omega)) (by omega)) e2638 (b:=a) F2640 (argsL:=[(.int (47:Int32)),(.int (r1_1+(1:Int32)))]) (rest:=[]) rfl rfl 0 102 rfl (by rw[hml];rfl) (lenOf aG rfl) (Nat.le_refl _) (by decide) (by decide) (by decide) (by decide) (hb hby fg) ?_
          intro v2652 T2652 L2652 X2652 hQ2652
          obtain⟨r1_2,rfl,hir1_2,N2652,q2652⟩:=hQ2652
          have N2653:=Fr.app N2648 N2652
          show Go _ _ _ _ _ (mkF _ _ _ [(.int r1_2)])
          have hq1_2:r1_2.toInt=-1:=cN hir1_2 (fun j h1 h2=>no2 j h1 (by omega))
          refine ah (l':=#[.val (.ref a),.val (.ref ro),.val (.int (3:Int32)),.val (.ref a2585),.val (.int (3:Int32)),.val (.int r1_2)]) X2652 hx 104 (hb hby dD) rfl rfl ?_
          refine ap X2652 hx 76 (hb hby dE) (by decide) (by decide) ?_
          refine ae X2652 hx 78 (hb hby c5) rfl rfl ?_
          refine aB X2652 hx 107 81 (hb hby c6) (by decide) (by decide) rfl (fun c2654=>?_) (fun c2654=>?_)
          ·skip
           refine bg X2652 hx hZ hown (tw hw 129 rfl) (tw hw 130 rfl) (tw hw 36 rfl) q2652 110 (hb hby i8) rfl (by decide) (by decide) ?_
           intro T2655 h2655 a2655 g2655 X2655 e2655 E2655 A2655 D2655
           have ne2656:a≠a2655:=Nat.ne_of_lt (by rw[g2655];exact F2640.lt)
           have ne2657:t2559≠a2655:=Nat.ne_of_lt (by rw[g2655];exact F2641.lt)
           have ne2658:vb2559≠a2655:=Nat.ne_of_lt (by rw[g2655];exact F2644.lt)
           have ne2659:a2585≠a2655:=Nat.ne_of_lt (by rw[g2655];exact F2645.lt)
           have ge2660:n0≤a2655:=by rw[g2655];exact Z2651
           have sz2661:h0.size≤a2655:=by rw[g2655];exact K2647.1
           have sz2662:h2559.size≤a2655:=by rw[g2655];exact K2650.1
           have F2663:=F2639.ext E2655
           have F2664:=F2640.ext E2655
           have F2665:=F2641.ext E2655
           have F2666:=F2642.ext E2655
           have F2667:=F2643.ext E2655
           have F2668:=F2644.ext E2655
           have F2669:=F2645.ext E2655
           have F2670:=V2638'.ext E2655
           have K2671:=K2647.ext E2655
           have S2672:=S2649.ext E2655
           have K2673:=K2650.ext E2655
           have Z2674:n0≤h2655.size:=Nat.le_trans Z2651 E2655.1
           have F2675:Fld Z h2655 a2655 sg0 "names" cQ .null:=D2655 (Or.inl (tw hw 79 rfl)) (ty:=(.object sg9)) (by decide)
           have F2676:Fld Z h2655 a2655 sg0 "written" cA .null:=D2655 (Or.inr (tw hw 136 rfl)) (ty:=(.object sg1)) (by decide)
           have F2677:Fld Z h2655 a2655 sg0 "starts" "[I" .null:=D2655 (Or.inr (tw hw 138 rfl)) (ty:=(.array .int)) (by decide)
           refine a8 X2655 hx 111 (hb hby i9) rfl rfl ?_
           refine ab X2655 hx 112 (hb hby i_) rfl rfl rfl ?_
           refine ab X2655 hx 113 (hb hby ja) rfl rfl rfl ?_
           refine aN X2655 hx hZ rfl hown (tw hw 131 rfl) (tw hw 132 rfl) (tw hw 36 rfl) (tw hw 133 rfl) (by decide) (cRi l Z a0 hw a2655 a a2585 h2655 n0 Z2674 A2655 ge2660 F2676 F2677 F2675) e2655 (a:=a2655) (argsL:=[(.ref a),(.ref a2585)]) (rest:=[(.ref a2655)]) rfl rfl 1 116 rfl (by rw[hml];rfl) (lenOf en rfl) (Nat.le_refl _) (by decide) (by decide) (by decide) (by decide) (hb hby jb) ?_
           intro v2678 T2678 L2678 X2678 hQ2678
           obtain⟨rfl,N2678,K2678,f1,f2,f3⟩:=hQ2678
           have N2679:=Fr.app N2653 N2678
           have F2680:=F2663.keep K2678 (allS ge2660 all0)
           have F2681:=F2664.keep K2678
           have F2682:=F2665.keep K2678
           have F2683:=F2666.keep K2678 (ninS ne2657 nin0)
           have F2684:=F2667.keep K2678 (ninS ne2657 nin0)
           have F2685:=F2668.keep K2678 (ninS ne2658 nin0)
           have F2686:=F2669.keep K2678
           have F2687:=F2670.keep K2678 (ninS ne2659 nin0)
           have F2688:=A2655.keep K2678
           have Z2692:n0≤T2678.heap.size:=Nat.le_trans Z2674 K2678.1
           have K2693:=K2671.trans K2678 (allS (Or.inr sz2661) all0)
           have S2694:=S2672.keep K2678 (allS (Or.inr (Nat.le_trans hBz sz2661)) all0)
           have K2695:=K2673.trans K2678 (allS (Or.inr sz2662) all0)
           show Go _ _ _ _ _ (mkF _ _ _ [(.ref a2655)])
           refine au (l':=#[.val (.ref a),.val (.ref a2655),.val (.int (3:Int32)),.val (.ref a2585),.val (.int (3:Int32)),.val (.int r1_2)]) X2678 hx 117 (hb hby jc) rfl rfl rfl ?_
           refine ac X2678 hx (0:Int32) 118 (hb hby jd) rfl (by decide) ?_
           refine ah (l':=#[.val (.ref a),.val (.ref a2655),.val (.int (3:Int32)),.val (.ref a2585),.val (.int (3:Int32)),.val (.int (0:Int32))]) X2678 hx 120 (hb hby je) rfl rfl ?_
           refine ae X2678 hx 122 (hb hby cw) rfl rfl ?_
           refine aa X2678 hx 123 (hb hby cx) rfl rfl ?_
           have ll2697:((3:Int32):Int32).toInt=3:=by decide
           have ll2698:((0:Int32):Int32).toInt=0:=by decide
           refine am X2678 hx 146 126 (hb hby cy) (by decide) (by decide) rfl (fun c2696=>?_) (fun c2696=>?_)
           ·skip
            exfalso;revert c2696;decide
           ·skip
            refine ab X2678 hx 127 (hb hby dF) rfl rfl rfl ?_
            refine ab X2678 hx 128 (hb hby dG) rfl rfl rfl ?_
            refine ae X2678 hx 130 (hb hby dH) rfl rfl ?_
            refine aP X2678 hx hZ rfl F2687 (by decide) (by decide) (by rw[show ((0:Int32):Int32).toNatClampNeg=0 by decide]<;>rfl) 131 (hb hby dI) rfl ?_
            refine ab X2678 hx 132 (hb hby dJ) rfl rfl rfl ?_
            refine ae X2678 hx 134 (hb hby dK) rfl rfl ?_
            refine bE X2678 hx hZ (C:=sg0) (z:=({ cls:=sg0,name := "names",desc := "()Ljava/util/List;" }:Jvm.MethodName)) hown (tw hw 139 rfl) (tw hw 141 rfl) (tw hw 76 rfl) rfl (tw hw 140 rfl) (tw hw 36 rfl) (tw hw 142 rfl) (by decide) (pA l Z a0 hw a2655 T2678.heap n0 Z2692 cst fm em SX_ F2680 a a2585 k2585 (1:Int32) (r1_0+(1:Int32)) (r1_1+(1:Int32)) Lw B cs F2688 f1 f2 F2687 S2694) rfl (b:=a2655) F2688 (argsL:=[(.int (0:Int32))]) (rest:=[(.int (1:Int32)),(.ref a)]) rfl rfl 2 137 rfl (by rw[hml];rfl) (lenOf aS rfl) (Nat.le_refl _) (by decide) (by decide) (by decide) (by decide) (hb hby dL) ?_
            intro v2699 T2699 L2699 X2699 hQ2699
            obtain⟨x0,rfl,hx0,N2699,q2699⟩:=hQ2699
            have N2700:=Fr.app N2679 N2699
            show Go _ _ _ _ _ (mkF _ _ _ [(.int x0),(.int (1:Int32)),(.ref a)])
            have hz0:x0.toInt=((0+1+l0:Nat):Int):=by
             rw[hx0,aT (aC hq1_0 (by omega)) (y:=(1:Int32)) (b:=1) (by decide) (by omega) (by omega)]
             omega
            refine bt X2699 hx hZ hown (tw hw 143 rfl) (tw hw 144 rfl) (tw hw 36 rfl) (tw hw 145 rfl) (by decide) (cCk l Z a0 hw a (1:Int32) x0 T2678.heap n0 Z2692 cst fm em SX_ F2680 Lw B cs S2694 (0+1) l0 (by decide) hz0 bl0 (by omega) no0 d10 d20) q2699 hS (Nat.le_trans hk (K2695).1) hEL (CHv.keep K2695 all0 hC) (argsL:=[(.ref a),(.int (1:Int32)),(.int x0)]) (rest:=[]) rfl rfl 0 140 rfl (by rw[hml];rfl) (lenOf b7 rfl) (Nat.le_refl _) (by decide) (by decide) (by decide) (by decide) (hb hby dM) ?_
            intro v2701 T2701 L2701 X2701 hS hZ hown hQ2701 hC
            obtain⟨rfl,N2701,K2701⟩:=hQ2701
            have N2702:=Fr.app N2700 N2701
            have F2703:=F2680.keep K2701 all0
            have F2704:=F2681.keep K2701
            have F2705:=F2682.keep K2701
            have F2706:=F2683.keep K2701 nin0
            have F2707:=F2684.keep K2701 nin0
            have F2708:=F2685.keep K2701 nin0
            have F2709:=F2686.keep K2701
            have F2710:=F2687.keep K2701 nin0
            have F2711:=F2688.keep K2701
            have F2712:=f1.keep K2701 nin0
            have F2713:=f2.keep K2701 nin0
            have F2714:=f3.keep K2701 nin0
            have Z2715:n0≤T2701.heap.size:=Nat.le_trans Z2692 K2701.1
            have K2716:=K2693.trans K2701 all0
            have S2717:=S2694.keep K2701 all0
            have K2718:=K2695.trans K2701 all0
            have hk:=Nat.le_refl T2701.heap.size
            show Go _ _ _ _ _ (mkF _ _ _ [])
            refine aw X2701 hx (w:=(1:Int32)) (1:Int32) (by decide) (l':=#[.val (.ref a),.val (.ref a2655),.val (.int (3:Int32)),.val (.ref a2585),.val (.int (3:Int32)),.val (.int (1:Int32))]) 143 (hb hby dN) rfl rfl (by decide) rfl ?_
            refine ap X2701 hx 120 (hb hby dO) (by decide) (by decide) ?_
            refine ae X2701 hx 122 (hb hby cw) rfl rfl ?_
            refine aa X2701 hx 123 (hb hby cx) rfl rfl ?_
            have ll2720:((3:Int32):Int32).toInt=3:=by decide
            have ll2721:((1:Int32):Int32).toInt=1:=by decide
            refine am X2701 hx 146 126 (hb hby cy) (by decide) (by decide) rfl (fun c2719=>?_) (fun c2719=>?_)
            ·skip
             exfalso;revert c2719;decide
            ·skip
             refine ab X2701 hx 127 (hb hby dF) rfl rfl rfl ?_
             refine ab X2701 hx 128 (hb hby dG) rfl rfl rfl ?_
             refine ae X2701 hx 130 (hb hby dH) rfl rfl ?_
             refine aP X2701 hx hZ rfl F2710 (by decide) (by decide) (by rw[show ((1:Int32):Int32).toNatClampNeg=1 by decide]<;>rfl) 131 (hb hby dI) rfl ?_
             refine ab X2701 hx 132 (hb hby dJ) rfl rfl rfl ?_
             refine ae X2701 hx 134 (hb hby dK) rfl rfl ?_
             refine bE X2701 hx hZ (C:=sg0) (z:=({ cls:=sg0,name := "names",desc := "()Ljava/util/List;" }:Jvm.MethodName)) hown (tw hw 139 rfl) (tw hw 141 rfl) (tw hw 76 rfl) rfl (tw hw 140 rfl) (tw hw 36 rfl) (tw hw 142 rfl) (by decide) (pB l Z a0 hw a2655 T2701.heap n0 Z2715 cst fm em SX_ F2703 a a2585 k2585 (1:Int32) (r1_0+(1:Int32)) (r1_1+(1:Int32)) Lw B cs F2711 F2712 F2713 F2710 S2717) rfl (b:=a2655) F2711 (argsL:=[(.int (1:Int32))]) (rest:=[(.int (r1_0+(1:Int32))),(.ref a)]) rfl rfl 2 137 rfl (by rw[hml];rfl) (lenOf aS rfl) (Nat.le_refl _) (by decide) (by decide) (by decide) (by decide) (hb hby dL) ?_
             intro v2722 T2722 L2722 X2722 hQ2722
             obtain⟨x1,rfl,hx1,N2722,q2722⟩:=hQ2722
             have N2723:=Fr.app N2702 N2722
             show Go _ _ _ _ _ (mkF _ _ _ [(.int x1),(.int (r1_0+(1:Int32))),(.ref a)])
             have hz1:x1.toInt=((e1+1+l1:Nat):Int):=by
              rw[hx1,aT (aC hq1_1 (by omega)) (y:=(1:Int32)) (b:=1) (by decide) (by omega) (by omega)]
              omega
             refine bt X2722 hx hZ hown (tw hw 143 rfl) (tw hw 144 rfl) (tw hw 36 rfl) (tw hw 145 rfl) (by decide) (cCk l Z a0 hw a (r1_0+(1:Int32)) x1 T2701.heap n0 Z2715 cst fm em SX_ F2703 Lw B cs S2717 (e1+1) l1 (aC hq1_0 (by omega)) hz1 bl1 (by omega) no1 d11 d21) q2722 hS (Nat.le_trans hk ((Keep.refl T2701.heap [])).1) hEL (CHv.keep (Keep.refl T2701.heap []) all0 hC) (argsL:=[(.ref a),(.int (r1_0+(1:Int32))),(.int x1)]) (rest:=[]) rfl rfl 0 140 rfl (by rw[hml];rfl) (lenOf b7 rfl) (Nat.le_refl _) (by decide) (by decide) (by decide) (by decide) (hb hby dM) ?_
             intro v2724 T2724 L2724 X2724 hS hZ hown hQ2724 hC
             obtain⟨rfl,N2724,K2724⟩:=hQ2724
             have N2725:=Fr.app N2723 N2724
             have F2726:=F2703.keep K2724 all0
             have F2727:=F2704.keep K2724
             have F2728:=F2705.keep K2724
             have F2729:=F2706.keep K2724 nin0
             have F2730:=F2707.keep K2724 nin0
             have F2731:=F2708.keep K2724 nin0
             have F2732:=F2709.keep K2724
             have F2733:=F2710.keep K2724 nin0
             have F2734:=F2711.keep K2724
             have F2735:=F2712.keep K2724 nin0
             have F2736:=F2713.keep K2724 nin0
             have F2737:=F2714.keep K2724 nin0
             have Z2738:n0≤T2724.heap.size:=Nat.le_trans Z2715 K2724.1
             have K2739:=K2716.trans K2724 all0
             have S2740:=S2717.keep K2724 all0
             have K2741:=(Keep.refl T2701.heap []).trans K2724 all0
             have hk:=Nat.le_refl T2724.heap.size
             show Go _ _ _ _ _ (mkF _ _ _ [])
             refine aw X2724 hx (w:=(1:Int32)) (2:Int32) (by decide) (l':=#[.val (.ref a),.val (.ref a2655),.val (.int (3:Int32)),.val (.ref a2585),.val (.int (3:Int32)),.val (.int (2:Int32))]) 143 (hb hby dN) rfl rfl (by decide) rfl ?_
             refine ap X2724 hx 120 (hb hby dO) (by decide) (by decide) ?_
             refine ae X2724 hx 122 (hb hby cw) rfl rfl ?_
             refine aa X2724 hx 123 (hb hby cx) rfl rfl ?_
             have ll2743:((3:Int32):Int32).toInt=3:=by decide
             have ll2744:((2:Int32):Int32).toInt=2:=by decide
             refine am X2724 hx 146 126 (hb hby cy) (by decide) (by decide) rfl (fun c2742=>?_) (fun c2742=>?_)
             ·skip
              exfalso;revert c2742;decide
             ·skip
              refine ab X2724 hx 127 (hb hby dF) rfl rfl rfl ?_
              refine ab X2724 hx 128 (hb hby dG) rfl rfl rfl ?_
              refine ae X2724 hx 130 (hb hby dH) rfl rfl ?_
              refine aP X2724 hx hZ rfl F2733 (by decide) (by decide) (by rw[show ((2:Int32):Int32).toNatClampNeg=2 by decide]<;>rfl) 131 (hb hby dI) rfl ?_
              refine ab X2724 hx 132 (hb hby dJ) rfl rfl rfl ?_
              refine ae X2724 hx 134 (hb hby dK) rfl rfl ?_
              refine bE X2724 hx hZ (C:=sg0) (z:=({ cls:=sg0,name := "names",desc := "()Ljava/util/List;" }:Jvm.MethodName)) hown (tw hw 139 rfl) (tw hw 141 rfl) (tw hw 76 rfl) rfl (tw hw 140 rfl) (tw hw 36 rfl) (tw hw 142 rfl) (by decide) (pC l Z a0 hw a2655 T2724.heap n0 Z2738 cst fm em SX_ F2726 a a2585 k2585 (1:Int32) (r1_0+(1:Int32)) (r1_1+(1:Int32)) Lw B cs F2734 F2735 F2736 F2733 S2740) rfl (b:=a2655) F2734 (argsL:=[(.int (2:Int32))]) (rest:=[(.int (r1_1+(1:Int32))),(.ref a)]) rfl rfl 2 137 rfl (by rw[hml];rfl) (lenOf aS rfl) (Nat.le_refl _) (by decide) (by decide) (by decide) (by decide) (hb hby dL) ?_
              intro v2745 T2745 L2745 X2745 hQ2745
              obtain⟨x2,rfl,hx2,N2745,q2745⟩:=hQ2745
              have N2746:=Fr.app N2725 N2745
              show Go _ _ _ _ _ (mkF _ _ _ [(.int x2),(.int (r1_1+(1:Int32))),(.ref a)])
              have hz2:x2.toInt=((e2+1+l2:Nat):Int):=by
               rw[hx2]
               omega
              refine bt X2745 hx hZ hown (tw hw 143 rfl) (tw hw 144 rfl) (tw hw 36 rfl) (tw hw 145 rfl) (by decide) (cCk l Z a0 hw a (r1_1+(1:Int32)) x2 T2724.heap n0 Z2738 cst fm em SX_ F2726 Lw B cs S2740 (e2+1) l2 (aC hq1_1 (by omega)) hz2 bl2 (by omega) no2 d12 d22) q2745 hS (Nat.le_trans hk ((Keep.refl T2724.heap [])).1) hEL (CHv.keep (Keep.refl T2724.heap []) all0 hC) (argsL:=[(.ref a),(.int (r1_1+(1:Int32))),(.int x2)]) (rest:=[]) rfl rfl 0 140 rfl (by rw[hml];rfl) (lenOf b7 rfl) (Nat.le_refl _) (by decide) (by decide) (by decide) (by decide) (hb hby dM) ?_
              intro v2747 T2747 L2747 X2747 hS hZ hown hQ2747 hC
              obtain⟨rfl,N2747,K2747⟩:=hQ2747
              have N2748:=Fr.app N2746 N2747
              have F2749:=F2726.keep K2747 all0
              have F2750:=F2727.keep K2747
              have F2751:=F2728.keep K2747
              have F2752:=F2729.keep K2747 nin0
              have F2753:=F2730.keep K2747 nin0
              have F2754:=F2731.keep K2747 nin0
              have F2755:=F2732.keep K2747
              have F2756:=F2733.keep K2747 nin0
              have F2757:=F2734.keep K2747
              have F2758:=F2735.keep K2747 nin0
              have F2759:=F2736.keep K2747 nin0
              have F2760:=F2737.keep K2747 nin0
              have Z2761:n0≤T2747.heap.size:=Nat.le_trans Z2738 K2747.1
              have K2762:=K2739.trans K2747 all0
              have S2763:=S2740.keep K2747 all0
              have K2764:=(Keep.refl T2724.heap []).trans K2747 all0
              have hk:=Nat.le_refl T2747.heap.size
              show Go _ _ _ _ _ (mkF _ _ _ [])
              refine aw X2747 hx (w:=(1:Int32)) (3:Int32) (by decide) (l':=#[.val (.ref a),.val (.ref a2655),.val (.int (3:Int32)),.val (.ref a2585),.val (.int (3:Int32)),.val (.int (3:Int32))]) 143 (hb hby dN) rfl rfl (by decide) rfl ?_
              refine ap X2747 hx 120 (hb hby dO) (by decide) (by decide) ?_
              refine ae X2747 hx 122 (hb hby cw) rfl rfl ?_
              refine aa X2747 hx 123 (hb hby cx) rfl rfl ?_
              have ll2766:((3:Int32):Int32).toInt=3:=by decide
              have ll2767:((3:Int32):Int32).toInt=3:=by decide
              refine am X2747 hx 146 126 (hb hby cy) (by decide) (by decide) rfl (fun c2765=>?_) (fun c2765=>?_)
              ·skip
               refine ab X2747 hx 147 (hb hby gy) rfl rfl rfl ?_
               exact dX X2747 hx hlk hret rfl rfl rfl (hb hby gz) (by decide) (by decide) rfl hS (Nat.le_trans hk ((Keep.refl T2747.heap [])).1) ⟨a2655,a2585,k2585,(1:Int32),(r1_0+(1:Int32)),(r1_1+(1:Int32)),rfl,N2748,K2762,ge2660,sz2661,F2757,F2758,F2759,F2760,F2756,ne2659,by decide,aC hq1_0 (by omega),aC hq1_1 (by omega)⟩
              ·skip
               exfalso;revert c2765;decide
          ·skip
           exfalso;omega
      ·skip
       exfalso;omega
 ·skip
  exfalso;revert c2567;decide
theorem eB (x:Int32):0≤(x&&&(3:Int32)).toInt∧(x&&&(3:Int32)).toInt≤3:=by
 have:=c_mask x 3 2 (by decide) (by decide)
 have e:((2 ^ 2:Nat):Int)=4:=rfl
 rw[e] at this
 omega
theorem eC (x:Int32):1≤((1:Int32)+(x&&&(3:Int32)) % (3:Int32)).toInt∧((1:Int32)+(x&&&(3:Int32)) % (3:Int32)).toInt≤3:=a_ (P:=fun y=>1≤((1:Int32)+y % (3:Int32)).toInt∧((1:Int32)+y % (3:Int32)).toInt≤3) 3 (by decide) (by decide +kernel) (eB x).1 (eB x).2
theorem dP {B B2:List Int32}{p:Int32}{e m:Nat}(P:Put (B.set e 47) B2 p (e+1) m)(he:e<B.length):B2.getD e 0=47∧(∀j,j<m→B2.getD (e+1+j) 0=chn p j)∧∀j,j<e→B2.getD j 0=B.getD j 0:=by
 refine⟨?_,P.2.2,fun j hj=>?_⟩
 ·rw[P.2.1 e (by omega),bV he,if_pos rfl]
 ·rw[P.2.1 j (by omega),bV he,if_neg (by omega)]
theorem cz {x:Int32}(h:x=47):a6 x:=by subst h;unfold a6;decide
def Hl (li:Addr)(n0:Nat)(h0:Heap)(v:Option Value)(h:Heap)(L:List Loc):Prop:=v=some (.ref li)∧Fr n0 L∧h=h0
theorem ot (pa:Addr)(m:MethodId):entryFrame m #[(.ref pa)] 4=mkF m 0 #[.val (.ref pa),.unset,.unset,.unset] []:=by first|(simp [entryFrame,mkF,argsToLocals,Value.category];done)|rfl
theorem PA (l:Launch)(Z:State)(a0:Array Value)(hw:HW a0 Z)(pa:Addr)(h0:Heap)(n0:Nat)(Z0:n0≤h0.size)(li:Addr)(Fn:Fld Z h0 pa sg0 "names" cQ (.ref li)) :
  MF l Z h0 ⟨sg0,"names","()Ljava/util/List;"⟩ prog_26_method_9_code 4 (some (.object sg9)) ⟨0,0,0,0⟩ #[(.ref pa)] (Hl li n0 h0):=by
 refine ai c0 (ot pa) ?_
 intro p e s m below meth c T0 X0 hx hby hml hret hlk hnm hown hZ e0
 have N0:=Fr.nil n0
 refine ab X0 hx 1 (hb hby js) rfl rfl rfl ?_
 refine ao X0 hx hZ hown (tw hw 78 rfl) Via.refl e0 Fn 4 (hb hby jt) rfl ?_
 intro T2768 X2768 e2768
 refine au (l':=#[.val (.ref pa),.val (.ref li),.unset,.unset]) X2768 hx 5 (hb hby ju) rfl rfl rfl ?_
 refine ab X2768 hx 6 (hb hby jv) rfl rfl rfl ?_
 refine bR X2768 hx 63 (hb hby jw) (by decide) (by decide) ?_
 refine ab X2768 hx 64 (hb hby f9) rfl rfl rfl ?_
 exact aA X2768 hx hlk hret rfl rfl rfl (hb hby f_) (by decide) (by decide) e2768 ⟨rfl,N0,rfl⟩
def jM (Z:State)(cst:Int32)(fm:Option Addr)(em ro li el:Addr)(ke:ClassId):Prop:=(SX Z cst fm em)∧(Sta Z Z.heap sg0 "ROOT" "Lcom/example/hierarchical_roles/hierarchicalroles/ResourcePath;" (.ref ro))∧(Exa Z Z.heap em sg6)∧(Exa Z Z.heap ro sg0)∧(Fld Z Z.heap ro sg0 "names" cQ (.ref li))∧(Exa Z Z.heap li sg3)∧(Fld Z Z.heap li sg3 "elements" "[Ljava/lang/Object;" (.ref el))∧(Arv Z Z.heap el ke (.object sg6) 0 [] .null)
theorem OG {p:Program}{l:Launch}{e:Env}{s:State}{m:MethodId}{args:Array Value}{below:List Frame}{meth:Method}{c:Code}{T0 Z:State}{a0:Array Value}{h0:Heap}{n0:Nat}{p0 p1 p2 p3 u5 u6 u7:Int32}{cst:Int32}{fm:Option Addr}{em ro li el:Addr}{ke:ClassId}(X0:Stand p l e room_1 (s.setVm s.vm) m args below meth c T0 [] 0 0)(hx:p.tables.exec=Jvm.exec)(hby:c.code=code)(hml:c.maxLocals=maxLocals)(hret:meth.sig.returnType=ret)(hlk:meth.locks=false)(hown:(s.setVm s.vm).vm.findClass sg5=some m.cls)(hZ:Z.Warmed39 (s.setVm s.vm).vm)(hw:HW a0 Z)(e0:T0.heap=h0)(Z0:n0≤h0.size)(N0:Fr n0 [])(hS:s.Since s.vm 0)(hC:CHv Z bu s.vm h0)(WO:jM Z cst fm em ro li el ke)(O0:Old Z n0 h0)(h5:1≤u5.toInt∧u5.toInt≤3)(h6:1≤u6.toInt∧u6.toInt≤3)(h7:1≤u7.toInt∧u7.toInt≤3) :
  Go p e below (gH s (gG n0) 48 3328) T0 (mkF m 39 #[.val (.int p0),.val (.int p1),.val (.int p2),.val (.int p3),.val (.int (0:Int32)),.val (.int u5),.val (.int u6),.val (.int u7),.unset,.unset,.unset,.unset,.unset,.unset] []):=by
 have hEL:=bW hw
 obtain⟨SX_,SR,zEm,zEr,zFn,zEl,zFe,zVe⟩:=WO
 have l12:(12:Int32).toInt=12:=by decide
 obtain⟨m0,hm0⟩:∃m:Nat,u5.toInt=(m:Int):=⟨u5.toInt.toNat,by omega⟩
 obtain⟨m1,hm1⟩:∃m:Nat,u6.toInt=(m:Int):=⟨u6.toInt.toNat,by omega⟩
 obtain⟨m2,hm2⟩:∃m:Nat,u7.toInt=(m:Int):=⟨u7.toInt.toNat,by omega⟩
 refine ae X0 hx 41 (hb hby at_39) rfl rfl ?_
 refine ac X0 hx (1:Int32) 42 (hb hby at_41) rfl (by decide) ?_
 have ll2770:((1:Int32):Int32).toInt=1:=by decide
 have ll2771:((0:Int32):Int32).toInt=0:=by decide
 refine an X0 hx 56 45 (hb hby at_42) (by decide) (by decide) rfl (fun c2769=>?_) (fun c2769=>?_)
 ·skip
  refine ae X0 hx 58 (hb hby at_56) rfl rfl ?_
  refine ac X0 hx (2:Int32) 59 (hb hby at_58) rfl (by decide) ?_
  have ll2773:((2:Int32):Int32).toInt=2:=by decide
  have ll2774:((0:Int32):Int32).toInt=0:=by decide
  refine an X0 hx 73 62 (hb hby at_59) (by decide) (by decide) rfl (fun c2772=>?_) (fun c2772=>?_)
  ·skip
   refine ae X0 hx 75 (hb hby at_73) rfl rfl ?_
   refine ac X0 hx (3:Int32) 76 (hb hby at_75) rfl (by decide) ?_
   have ll2776:((3:Int32):Int32).toInt=3:=by decide
   have ll2777:((0:Int32):Int32).toInt=0:=by decide
   refine an X0 hx 90 79 (hb hby at_76) (by decide) (by decide) rfl (fun c2775=>?_) (fun c2775=>?_)
   ·skip
    refine aj X0 hx (12:Int32) 92 (hb hby at_90) rfl (by decide) ?_
    refine aO X0 hx hZ (aty := .char) (tw hw 0 rfl) e0 (by decide) (cap:=12) (by decide) (by decide) 94 (hb hby at_92) rfl (by decide) (by decide) (ad := "[C") (by decide) ?_
    intro T2778 h2778 k2778 a2778 g2778 X2778 e2778 E2778 V2778 A2778
    have ge2779:n0≤a2778:=by rw[g2778];exact Z0
    have sz2780:h0.size≤a2778:=by rw[g2778];exact (Keep.refl h0 []).1
    have F2781:=O0.ext E2778
    have K2782:=(Keep.refl h0 []).ext E2778
    have Z2783:n0≤h2778.size:=Nat.le_trans Z0 E2778.1
    have V2778':Arv Z h2778 a2778 k2778 .char (12:Int32) [(.int (0:Int32)),(.int (0:Int32)),(.int (0:Int32)),(.int (0:Int32)),(.int (0:Int32)),(.int (0:Int32)),(.int (0:Int32)),(.int (0:Int32)),(.int (0:Int32)),(.int (0:Int32)),(.int (0:Int32)),(.int (0:Int32))] (.int (0:Int32)):=V2778.pad (pad_rep [] (.int (0:Int32)) 12)
    refine aE (l':=#[.val (.int p0),.val (.int p1),.val (.int p2),.val (.int p3),.val (.int (0:Int32)),.val (.int u5),.val (.int u6),.val (.int u7),.val (.ref a2778),.unset,.unset,.unset,.unset,.unset]) X2778 hx 96 (hb hby at_94) rfl rfl rfl ?_
    refine ac X2778 hx (0:Int32) 97 (hb hby at_96) rfl (by decide) ?_
    refine ah (l':=#[.val (.int p0),.val (.int p1),.val (.int p2),.val (.int p3),.val (.int (0:Int32)),.val (.int u5),.val (.int u6),.val (.int u7),.val (.ref a2778),.val (.int (0:Int32)),.unset,.unset,.unset,.unset]) X2778 hx 99 (hb hby at_97) rfl rfl ?_
    refine al X2778 hx 101 (hb hby at_99) rfl rfl rfl ?_
    refine ae X2778 hx 103 (hb hby at_101) rfl rfl ?_
    refine aj X2778 hx (47:Int32) 105 (hb hby at_103) rfl (by decide) ?_
    have V2784:Arv Z h2778 a2778 k2778 .char 12 ((List.replicate 12 (0:Int32)).map Value.int) (.int 0):=V2778'
    refine aR X2778 hx hZ e2778 V2784 (0) (by decide) (by decide) (by decide) (47:Int32) (by decide) 106 (hb hby at_105) rfl ?_
    intro T2785 h2785 X2785 e2785 W2785 V2785
    have F2786:=F2781.wr W2785 ge2779
    have F2787:=A2778.wr W2785
    have K2789:=K2782.wr W2785 (Or.inr sz2780)
    have N2790:=Fr.snoc X2785 N0 ge2779
    have Z2791:n0≤h2785.size:=by rw[W2785.size];exact Z2783
    have V2792:=V2785
    rw[bx] at V2792
    refine aw X2785 hx (w:=(1:Int32)) (1:Int32) (by decide) (l':=#[.val (.int p0),.val (.int p1),.val (.int p2),.val (.int p3),.val (.int (0:Int32)),.val (.int u5),.val (.int u6),.val (.int u7),.val (.ref a2778),.val (.int (1:Int32)),.unset,.unset,.unset,.unset]) 109 (hb hby at_106) rfl rfl (by decide) rfl ?_
    refine ae X2785 hx 111 (hb hby at_109) rfl rfl ?_
    refine ac X2785 hx (1:Int32) 112 (hb hby at_111) rfl (by decide) ?_
    have ll2794:((1:Int32):Int32).toInt=1:=by decide
    have ll2795:((0:Int32):Int32).toInt=0:=by decide
    refine an X2785 hx 127 115 (hb hby at_112) (by decide) (by decide) rfl (fun c2793=>?_) (fun c2793=>?_)
    ·skip
     refine ae X2785 hx 129 (hb hby at_127) rfl rfl ?_
     refine ac X2785 hx (2:Int32) 130 (hb hby at_129) rfl (by decide) ?_
     have ll2797:((2:Int32):Int32).toInt=2:=by decide
     have ll2798:((0:Int32):Int32).toInt=0:=by decide
     refine an X2785 hx 155 133 (hb hby at_130) (by decide) (by decide) rfl (fun c2796=>?_) (fun c2796=>?_)
     ·skip
      refine ae X2785 hx 157 (hb hby at_155) rfl rfl ?_
      refine ac X2785 hx (3:Int32) 158 (hb hby at_157) rfl (by decide) ?_
      have ll2800:((3:Int32):Int32).toInt=3:=by decide
      have ll2801:((0:Int32):Int32).toInt=0:=by decide
      refine an X2785 hx 183 161 (hb hby at_158) (by decide) (by decide) rfl (fun c2799=>?_) (fun c2799=>?_)
      ·skip
       refine al X2785 hx 185 (hb hby at_183) rfl rfl rfl ?_
       refine ae X2785 hx 187 (hb hby at_185) rfl rfl ?_
       have hch:∀j,j<1→a6 (((List.replicate 12 (0:Int32)).set 0 47).getD j 0):=fun j hj=>by
        obtain rfl:j=0:=by omega
        exact cz rfl
       refine ag X2785 hx hZ hown (tw hw 1 rfl) (tw hw 2 rfl) (tw hw 3 rfl) (tw hw 4 rfl) (by decide) (cTk l Z a0 hw a2778 (1:Int32) h2785 n0 Z2791 cst fm em SX_ F2786 k2778 ((List.replicate 12 (0:Int32)).set 0 47) 1 V2792 (by decide) (by decide) (by omega) (by omega) hch) e2785 (argsL:=[(.ref a2778),(.int (1:Int32))]) (rest:=[]) rfl rfl 0 190 rfl (by rw[hml];rfl) (lenOf dT rfl) (Nat.le_refl _) (by decide) (by decide) (by decide) (by decide) (hb hby at_187) ?_
       intro v2802 T2802 L2802 X2802 hQ2802
       obtain⟨wr,cs,rfl,N2802,K2802,gw,sw,S,hlen,hcs⟩:=hQ2802
       have N2803:=Fr.app N2790 N2802
       have F2804:=F2786.keep K2802 all0
       have F2805:=F2787.keep K2802
       have F2806:=V2792.keep K2802 nin0
       have Z2807:n0≤T2802.heap.size:=Nat.le_trans Z2791 K2802.1
       have K2808:=K2789.trans K2802 all0
       show Go _ _ _ _ _ (mkF _ _ _ [(.ref wr)])
       have Ew:=S.exa
       have hs0:(cs.getD 0 0).toInt=47:=by
        rw[hcs 0 (by omega)]
        decide
       refine aE (l':=#[.val (.int p0),.val (.int p1),.val (.int p2),.val (.int p3),.val (.int (0:Int32)),.val (.int u5),.val (.int u6),.val (.int u7),.val (.ref a2778),.val (.int (1:Int32)),.val (.ref wr),.unset,.unset,.unset]) X2802 hx 192 (hb hby at_190) rfl rfl rfl ?_
       refine al X2802 hx 194 (hb hby at_192) rfl rfl rfl ?_
       refine cL X2802 hx hZ hown (tw hw 34 rfl) (tw hw 35 rfl) (tw hw 36 rfl) (tw hw 37 rfl) (by decide) (Pw l Z a0 hw wr T2802.heap n0 Z2807 cst fm em SX_ F2804 ro SR _ _ cs S (Nat.le_refl _) hs0 hlen) rfl hS (Nat.zero_le _) hEL (CHv.keep K2808 all0 hC) (argsL:=[(.ref wr)]) (rest:=[]) rfl rfl 0 197 rfl (by rw[hml];rfl) (lenOf dU rfl) (Nat.le_refl _) (by decide) (by decide) (by decide) (by decide) (hb hby at_194) ?_
       intro v2809 T2809 L2809 X2809 hS hZ hown hQ2809
       obtain⟨rfl,N2809,K2809⟩:=hQ2809
       have N2810:=Fr.app N2803 N2809
       have hK1:=K2809
       have F2811:=F2804.keep K2809 all0
       have F2812:=Ew.keep K2809
       have Z2813:n0≤T2809.heap.size:=Nat.le_trans Z2807 K2809.1
       have K2814:=K2808.trans K2809 all0
       have S2815:=S.keep K2809 all0
       have hk:=Nat.le_refl T2809.heap.size
       show Go _ _ _ _ _ (mkF _ _ _ [(.ref ro)])
       have yEr:=zEr.ext F2811.2
       have yFn:=zFn.ext F2811.2
       have yEl:=zEl.ext F2811.2
       have yFe:=zFe.ext F2811.2
       have yVe:=zVe.ext F2811.2
       refine aE (l':=#[.val (.int p0),.val (.int p1),.val (.int p2),.val (.int p3),.val (.int (0:Int32)),.val (.int u5),.val (.int u6),.val (.int u7),.val (.ref a2778),.val (.int (1:Int32)),.val (.ref wr),.val (.ref ro),.unset,.unset]) X2809 hx 199 (hb hby at_197) rfl rfl rfl ?_
       refine al X2809 hx 201 (hb hby at_199) rfl rfl rfl ?_
       refine ak X2809 hx hZ (C:=sg0) hown (tw hw 73 rfl) (tw hw 74 rfl) (tw hw 76 rfl) (tw hw 76 rfl) (tw hw 75 rfl) (tw hw 36 rfl) (tw hw 77 rfl) (by decide) (PA l Z a0 hw ro T2809.heap n0 Z2813 li yFn) rfl (b:=ro) yEr (argsL:=[]) (rest:=[]) rfl rfl 0 204 rfl (by rw[hml];rfl) (lenOf cV rfl) (Nat.le_refl _) (by decide) (by decide) (by decide) (by decide) (hb hby at_201) ?_
       intro v2816 T2816 L2816 X2816 hQ2816
       obtain⟨rfl,N2816,q2816⟩:=hQ2816
       have N2817:=Fr.app N2810 N2816
       show Go _ _ _ _ _ (mkF _ _ _ [(.ref li)])
       refine aE (l':=#[.val (.int p0),.val (.int p1),.val (.int p2),.val (.int p3),.val (.int (0:Int32)),.val (.int u5),.val (.int u6),.val (.int u7),.val (.ref a2778),.val (.int (1:Int32)),.val (.ref wr),.val (.ref ro),.val (.ref li),.unset]) X2816 hx 206 (hb hby at_204) rfl rfl rfl ?_
       refine al X2816 hx 208 (hb hby at_206) rfl rfl rfl ?_
       refine bT X2816 hx hZ (C:=sg3) hown (tw hw 80 rfl) (tw hw 81 rfl) (mvT hZ (tw hw 82 rfl)) (tw hw 83 rfl) (tw hw 84 rfl) (tw hw 85 rfl) (tw hw 86 rfl) (tw hw 87 rfl) (tw hw 88 rfl) (tw hw 89 rfl) (by decide) (cZN l Z a0 hw li T2809.heap n0 Z2813 el ke 0 [] yFe yVe) q2816 (b:=li) yEl (argsL:=[]) (rest:=[]) rfl rfl 0 213 rfl (by rw[hml];rfl) (lenOf aF rfl) (Nat.le_refl _) (by decide) (by decide) (by decide) (by decide) (hb hby at_208) ?_
       intro v2818 T2818 L2818 X2818 hQ2818
       obtain⟨rfl,N2818,q2818⟩:=hQ2818
       have N2819:=Fr.app N2817 N2818
       show Go _ _ _ _ _ (mkF _ _ _ [(.int (0:Int32))])
       refine ae X2818 hx 215 (hb hby at_213) rfl rfl ?_
       have ll2821:((0:Int32):Int32).toInt=0:=by decide
       have ll2822:((0:Int32):Int32).toInt=0:=by decide
       refine av X2818 hx 222 218 (hb hby at_215) (by decide) (by decide) rfl (fun c2820=>?_) (fun c2820=>?_)
       ·skip
        exfalso;revert c2820;decide
       ·skip
        refine ac X2818 hx (1:Int32) 219 (hb hby at_218) rfl (by decide) ?_
        refine ap X2818 hx 223 (hb hby at_219) (by decide) (by decide) ?_
        refine ah (l':=#[.val (.int p0),.val (.int p1),.val (.int p2),.val (.int p3),.val (.int (0:Int32)),.val (.int u5),.val (.int u6),.val (.int u7),.val (.ref a2778),.val (.int (1:Int32)),.val (.ref wr),.val (.ref ro),.val (.ref li),.val (.int (1:Int32))]) X2818 hx 225 (hb hby at_223) rfl rfl ?_
        refine ae X2818 hx 227 (hb hby at_225) rfl rfl ?_
        have ll2824:((1:Int32):Int32).toInt=1:=by decide
        refine ax X2818 hx 255 230 (hb hby at_227) (by decide) (by decide) rfl (fun c2823=>?_) (fun c2823=>?_)
        ·skip
         exfalso;revert c2823;decide
        ·skip
         refine ae X2818 hx 232 (hb hby at_230) rfl rfl ?_
         refine ac X2818 hx (1:Int32) 233 (hb hby at_232) rfl (by decide) ?_
         have ll2826:((1:Int32):Int32).toInt=1:=by decide
         have ll2827:((0:Int32):Int32).toInt=0:=by decide
         refine an X2818 hx 255 236 (hb hby at_233) (by decide) (by decide) rfl (fun c2825=>?_) (fun c2825=>?_)
         ·skip
          refine ae X2818 hx 257 (hb hby at_255) rfl rfl ?_
          have ll2829:((1:Int32):Int32).toInt=1:=by decide
          refine ax X2818 hx 285 260 (hb hby at_257) (by decide) (by decide) rfl (fun c2828=>?_) (fun c2828=>?_)
          ·skip
           exfalso;revert c2828;decide
          ·skip
           refine ae X2818 hx 262 (hb hby at_260) rfl rfl ?_
           refine ac X2818 hx (2:Int32) 263 (hb hby at_262) rfl (by decide) ?_
           have ll2831:((2:Int32):Int32).toInt=2:=by decide
           have ll2832:((0:Int32):Int32).toInt=0:=by decide
           refine an X2818 hx 285 266 (hb hby at_263) (by decide) (by decide) rfl (fun c2830=>?_) (fun c2830=>?_)
           ·skip
            refine ae X2818 hx 287 (hb hby at_285) rfl rfl ?_
            have ll2834:((1:Int32):Int32).toInt=1:=by decide
            refine ax X2818 hx 315 290 (hb hby at_287) (by decide) (by decide) rfl (fun c2833=>?_) (fun c2833=>?_)
            ·skip
             exfalso;revert c2833;decide
            ·skip
             refine ae X2818 hx 292 (hb hby at_290) rfl rfl ?_
             refine ac X2818 hx (3:Int32) 293 (hb hby at_292) rfl (by decide) ?_
             have ll2836:((3:Int32):Int32).toInt=3:=by decide
             have ll2837:((0:Int32):Int32).toInt=0:=by decide
             refine an X2818 hx 315 296 (hb hby at_293) (by decide) (by decide) rfl (fun c2835=>?_) (fun c2835=>?_)
             ·skip
              refine ae X2818 hx 317 (hb hby at_315) rfl rfl ?_
              exact bv X2818 hx hlk hret (hb hby at_317) (by decide) (by decide) q2818 hS (Nat.le_trans hk ((Keep.refl T2809.heap [])).1) ⟨rfl,N2819⟩
             ·skip
              exfalso;revert c2835;decide
           ·skip
            exfalso;revert c2830;decide
         ·skip
          exfalso;revert c2825;decide
      ·skip
       exfalso;revert c2799;decide
     ·skip
      exfalso;revert c2796;decide
    ·skip
     exfalso;revert c2793;decide
   ·skip
    exfalso;revert c2775;decide
  ·skip
   exfalso;revert c2772;decide
 ·skip
  exfalso;revert c2769;decide
theorem OH {p:Program}{l:Launch}{e:Env}{s:State}{m:MethodId}{args:Array Value}{below:List Frame}{meth:Method}{c:Code}{T0 Z:State}{a0:Array Value}{h0:Heap}{n0:Nat}{p0 p1 p2 p3 u5 u6 u7:Int32}{cst:Int32}{fm:Option Addr}{em ro li el:Addr}{ke:ClassId}(X0:Stand p l e room_1 (s.setVm s.vm) m args below meth c T0 [] 0 0)(hx:p.tables.exec=Jvm.exec)(hby:c.code=code)(hml:c.maxLocals=maxLocals)(hret:meth.sig.returnType=ret)(hlk:meth.locks=false)(hown:(s.setVm s.vm).vm.findClass sg5=some m.cls)(hZ:Z.Warmed39 (s.setVm s.vm).vm)(hw:HW a0 Z)(e0:T0.heap=h0)(Z0:n0≤h0.size)(N0:Fr n0 [])(hS:s.Since s.vm 0)(hC:CHv Z bu s.vm h0)(WO:jM Z cst fm em ro li el ke)(O0:Old Z n0 h0)(h5:1≤u5.toInt∧u5.toInt≤3)(h6:1≤u6.toInt∧u6.toInt≤3)(h7:1≤u7.toInt∧u7.toInt≤3) :
  Go p e below (gH s (gG n0) 48 3328) T0 (mkF m 39 #[.val (.int p0),.val (.int p1),.val (.int p2),.val (.int p3),.val (.int (1:Int32)),.val (.int u5),.val (.int u6),.val (.int u7),.unset,.unset,.unset,.unset,.unset,.unset] []):=by
 have hEL:=bW hw
 obtain⟨SX_,SR,zEm,zEr,zFn,zEl,zFe,zVe⟩:=WO
 have l12:(12:Int32).toInt=12:=by decide
 obtain⟨m0,hm0⟩:∃m:Nat,u5.toInt=(m:Int):=⟨u5.toInt.toNat,by omega⟩
 obtain⟨m1,hm1⟩:∃m:Nat,u6.toInt=(m:Int):=⟨u6.toInt.toNat,by omega⟩
 obtain⟨m2,hm2⟩:∃m:Nat,u7.toInt=(m:Int):=⟨u7.toInt.toNat,by omega⟩
 refine ae X0 hx 41 (hb hby at_39) rfl rfl ?_
 refine ac X0 hx (1:Int32) 42 (hb hby at_41) rfl (by decide) ?_
 have ll2839:((1:Int32):Int32).toInt=1:=by decide
 have ll2840:((1:Int32):Int32).toInt=1:=by decide
 refine an X0 hx 56 45 (hb hby at_42) (by decide) (by decide) rfl (fun c2838=>?_) (fun c2838=>?_)
 ·skip
  exfalso;revert c2838;decide
 ·skip
  refine aa X0 hx 46 (hb hby at_45) rfl rfl ?_
  refine ae X0 hx 48 (hb hby at_46) rfl rfl ?_
  refine ag X0 hx hZ hown (tw hw 92 rfl) (tw hw 93 rfl) (tw hw 3 rfl) (tw hw 94 rfl) (by decide) (cDo l Z a0 hw p1 u5 h0 n0 Z0) e0 (argsL:=[(.int p1),(.int u5)]) (rest:=[]) rfl rfl 0 51 rfl (by rw[hml];rfl) (lenOf b0 rfl) (Nat.le_refl _) (by decide) (by decide) (by decide) (by decide) (hb hby at_48) ?_
  intro v2841 T2841 L2841 X2841 hQ2841
  obtain⟨rd0,rfl,hd0,N2841,q2841⟩:=hQ2841
  have N2842:=Fr.app N0 N2841
  show Go _ _ _ _ _ (mkF _ _ _ [(.int rd0)])
  refine ax X2841 hx 56 54 (hb hby at_51) (by decide) (by decide) rfl (fun c2843=>?_) (fun c2843=>?_)
  ·skip
   have nd0:=hd0 c2843
   refine ae X2841 hx 58 (hb hby at_56) rfl rfl ?_
   refine ac X2841 hx (2:Int32) 59 (hb hby at_58) rfl (by decide) ?_
   have ll2845:((2:Int32):Int32).toInt=2:=by decide
   have ll2846:((1:Int32):Int32).toInt=1:=by decide
   refine an X2841 hx 73 62 (hb hby at_59) (by decide) (by decide) rfl (fun c2844=>?_) (fun c2844=>?_)
   ·skip
    refine ae X2841 hx 75 (hb hby at_73) rfl rfl ?_
    refine ac X2841 hx (3:Int32) 76 (hb hby at_75) rfl (by decide) ?_
    have ll2848:((3:Int32):Int32).toInt=3:=by decide
    have ll2849:((1:Int32):Int32).toInt=1:=by decide
    refine an X2841 hx 90 79 (hb hby at_76) (by decide) (by decide) rfl (fun c2847=>?_) (fun c2847=>?_)
    ·skip
     refine aj X2841 hx (12:Int32) 92 (hb hby at_90) rfl (by decide) ?_
     refine aO X2841 hx hZ (aty := .char) (tw hw 0 rfl) q2841 (by decide) (cap:=12) (by decide) (by decide) 94 (hb hby at_92) rfl (by decide) (by decide) (ad := "[C") (by decide) ?_
     intro T2850 h2850 k2850 a2850 g2850 X2850 e2850 E2850 V2850 A2850
     have ge2851:n0≤a2850:=by rw[g2850];exact Z0
     have sz2852:h0.size≤a2850:=by rw[g2850];exact (Keep.refl h0 []).1
     have F2853:=O0.ext E2850
     have K2854:=(Keep.refl h0 []).ext E2850
     have Z2855:n0≤h2850.size:=Nat.le_trans Z0 E2850.1
     have V2850':Arv Z h2850 a2850 k2850 .char (12:Int32) [(.int (0:Int32)),(.int (0:Int32)),(.int (0:Int32)),(.int (0:Int32)),(.int (0:Int32)),(.int (0:Int32)),(.int (0:Int32)),(.int (0:Int32)),(.int (0:Int32)),(.int (0:Int32)),(.int (0:Int32)),(.int (0:Int32))] (.int (0:Int32)):=V2850.pad (pad_rep [] (.int (0:Int32)) 12)
     refine aE (l':=#[.val (.int p0),.val (.int p1),.val (.int p2),.val (.int p3),.val (.int (1:Int32)),.val (.int u5),.val (.int u6),.val (.int u7),.val (.ref a2850),.unset,.unset,.unset,.unset,.unset]) X2850 hx 96 (hb hby at_94) rfl rfl rfl ?_
     refine ac X2850 hx (0:Int32) 97 (hb hby at_96) rfl (by decide) ?_
     refine ah (l':=#[.val (.int p0),.val (.int p1),.val (.int p2),.val (.int p3),.val (.int (1:Int32)),.val (.int u5),.val (.int u6),.val (.int u7),.val (.ref a2850),.val (.int (0:Int32)),.unset,.unset,.unset,.unset]) X2850 hx 99 (hb hby at_97) rfl rfl ?_
     refine al X2850 hx 101 (hb hby at_99) rfl rfl rfl ?_
     refine ae X2850 hx 103 (hb hby at_101) rfl rfl ?_
     refine aj X2850 hx (47:Int32) 105 (hb hby at_103) rfl (by decide) ?_
     have V2856:Arv Z h2850 a2850 k2850 .char 12 ((List.replicate 12 (0:Int32)).map Value.int) (.int 0):=V2850'
     refine aR X2850 hx hZ e2850 V2856 (0) (by decide) (by decide) (by decide) (47:Int32) (by decide) 106 (hb hby at_105) rfl ?_
     intro T2857 h2857 X2857 e2857 W2857 V2857
     have F2858:=F2853.wr W2857 ge2851
     have F2859:=A2850.wr W2857
     have K2861:=K2854.wr W2857 (Or.inr sz2852)
     have N2862:=Fr.snoc X2857 N2842 ge2851
     have Z2863:n0≤h2857.size:=by rw[W2857.size];exact Z2855
     have V2864:=V2857
     rw[bx] at V2864
     refine aw X2857 hx (w:=(1:Int32)) (1:Int32) (by decide) (l':=#[.val (.int p0),.val (.int p1),.val (.int p2),.val (.int p3),.val (.int (1:Int32)),.val (.int u5),.val (.int u6),.val (.int u7),.val (.ref a2850),.val (.int (1:Int32)),.unset,.unset,.unset,.unset]) 109 (hb hby at_106) rfl rfl (by decide) rfl ?_
     refine ae X2857 hx 111 (hb hby at_109) rfl rfl ?_
     refine ac X2857 hx (1:Int32) 112 (hb hby at_111) rfl (by decide) ?_
     have ll2866:((1:Int32):Int32).toInt=1:=by decide
     have ll2867:((1:Int32):Int32).toInt=1:=by decide
     refine an X2857 hx 127 115 (hb hby at_112) (by decide) (by decide) rfl (fun c2865=>?_) (fun c2865=>?_)
     ·skip
      exfalso;revert c2865;decide
     ·skip
      refine al X2857 hx 117 (hb hby at_115) rfl rfl rfl ?_
      refine ae X2857 hx 119 (hb hby at_117) rfl rfl ?_
      refine aa X2857 hx 120 (hb hby at_119) rfl rfl ?_
      refine ae X2857 hx 122 (hb hby at_120) rfl rfl ?_
      refine ag X2857 hx hZ hown (tw hw 98 rfl) (tw hw 99 rfl) (tw hw 3 rfl) (tw hw 100 rfl) (by decide) (cPt l Z a0 hw a2850 (1:Int32) p1 u5 h2857 n0 Z2863 k2850 ((List.replicate 12 (0:Int32)).set 0 47) (0+1) m0 V2864 ge2851 (by rw[List.length_set];exact (by decide)) (by decide) hm0 (by omega) (by omega) (by omega)) e2857 (argsL:=[(.ref a2850),(.int (1:Int32)),(.int p1),(.int u5)]) (rest:=[]) rfl rfl 0 125 rfl (by rw[hml];rfl) (lenOf b5 rfl) (Nat.le_refl _) (by decide) (by decide) (by decide) (by decide) (hb hby at_122) ?_
      intro v2868 T2868 L2868 X2868 hQ2868
      obtain⟨B0,r0,rfl,hr0,N2868,K2868,P0,V2868⟩:=hQ2868
      have N2869:=Fr.app N2862 N2868
      have F2870:=F2858.keep K2868 (allS ge2851 all0)
      have F2871:=F2859.keep K2868
      have Z2873:n0≤T2868.heap.size:=Nat.le_trans Z2863 K2868.1
      have K2874:=K2861.trans K2868 (allS (Or.inr sz2852) all0)
      show Go _ _ _ _ _ (mkF _ _ _ [(.int r0)])
      obtain⟨wa0,wb0,wc0⟩:=dP P0 (by decide)
      refine ah (l':=#[.val (.int p0),.val (.int p1),.val (.int p2),.val (.int p3),.val (.int (1:Int32)),.val (.int u5),.val (.int u6),.val (.int u7),.val (.ref a2850),.val (.int r0),.unset,.unset,.unset,.unset]) X2868 hx 127 (hb hby at_125) rfl rfl ?_
      refine ae X2868 hx 129 (hb hby at_127) rfl rfl ?_
      refine ac X2868 hx (2:Int32) 130 (hb hby at_129) rfl (by decide) ?_
      have ll2876:((2:Int32):Int32).toInt=2:=by decide
      have ll2877:((1:Int32):Int32).toInt=1:=by decide
      refine an X2868 hx 155 133 (hb hby at_130) (by decide) (by decide) rfl (fun c2875=>?_) (fun c2875=>?_)
      ·skip
       refine ae X2868 hx 157 (hb hby at_155) rfl rfl ?_
       refine ac X2868 hx (3:Int32) 158 (hb hby at_157) rfl (by decide) ?_
       have ll2879:((3:Int32):Int32).toInt=3:=by decide
       have ll2880:((1:Int32):Int32).toInt=1:=by decide
       refine an X2868 hx 183 161 (hb hby at_158) (by decide) (by decide) rfl (fun c2878=>?_) (fun c2878=>?_)
       ·skip
        refine al X2868 hx 185 (hb hby at_183) rfl rfl rfl ?_
        refine ae X2868 hx 187 (hb hby at_185) rfl rfl ?_
        have z0:B0.getD 0 0=47:=by  exact wa0
        have y0:∀j,j<m0→B0.getD (0+1+j) 0=chn p1 j:=fun j hj=>by  exact wb0 j hj
        have hch:∀j,j<(0+1+m0)→a6 (B0.getD j 0):=fun j hj=>by
         rcases (show j=0∨(0+1≤j∧j<0+1+m0) by omega) with rfl|hj
         ·exact cz z0
         ·have:=y0 (j-(0+1)) (by omega)
          rw[show 0+1+(j-(0+1))=j by omega] at this
          rw[this]
          exact (bw p1 _).1
        refine ag X2868 hx hZ hown (tw hw 1 rfl) (tw hw 2 rfl) (tw hw 3 rfl) (tw hw 4 rfl) (by decide) (cTk l Z a0 hw a2850 r0 T2868.heap n0 Z2873 cst fm em SX_ F2870 k2850 B0 (0+1+m0) V2868 P0.1 (by rw[hr0]) (by omega) (by omega) hch) rfl (argsL:=[(.ref a2850),(.int r0)]) (rest:=[]) rfl rfl 0 190 rfl (by rw[hml];rfl) (lenOf dT rfl) (Nat.le_refl _) (by decide) (by decide) (by decide) (by decide) (hb hby at_187) ?_
        intro v2881 T2881 L2881 X2881 hQ2881
        obtain⟨wr,cs,rfl,N2881,K2881,gw,sw,S,hlen,hcs⟩:=hQ2881
        have N2882:=Fr.app N2869 N2881
        have F2883:=F2870.keep K2881 all0
        have F2884:=F2871.keep K2881
        have F2885:=V2868.keep K2881 nin0
        have Z2886:n0≤T2881.heap.size:=Nat.le_trans Z2873 K2881.1
        have K2887:=K2874.trans K2881 all0
        show Go _ _ _ _ _ (mkF _ _ _ [(.ref wr)])
        have Ew:=S.exa
        have hs0:(cs.getD 0 0).toInt=47:=by
         rw[hcs 0 (by omega),z0]
         decide
        have H0:Nm cs 0 m0 p1:=⟨by omega,by omega,by rw[hcs _ (by omega),z0];decide,fun j hj=>by rw[hcs _ (by omega)];exact y0 j hj,fun z=>nd0.1 ⟨by omega,z.2⟩,fun z=>nd0.2 ⟨by omega,z.2⟩⟩
        refine aE (l':=#[.val (.int p0),.val (.int p1),.val (.int p2),.val (.int p3),.val (.int (1:Int32)),.val (.int u5),.val (.int u6),.val (.int u7),.val (.ref a2850),.val (.int r0),.val (.ref wr),.unset,.unset,.unset]) X2881 hx 192 (hb hby at_190) rfl rfl rfl ?_
        refine al X2881 hx 194 (hb hby at_192) rfl rfl rfl ?_
        refine cL X2881 hx hZ hown (tw hw 34 rfl) (tw hw 35 rfl) (tw hw 36 rfl) (tw hw 37 rfl) (by decide) (Px l Z a0 hw wr T2881.heap n0 Z2886 cst fm em SX_ F2883 ro SR _ _ cs S (Nat.le_refl _) hs0 p1 m0  H0  hlen) rfl hS (Nat.zero_le _) hEL (CHv.keep K2887 all0 hC) (argsL:=[(.ref wr)]) (rest:=[]) rfl rfl 0 197 rfl (by rw[hml];rfl) (lenOf dU rfl) (Nat.le_refl _) (by decide) (by decide) (by decide) (by decide) (hb hby at_194) ?_
        intro v2888 T2888 L2888 X2888 hS hZ hown hQ2888
        obtain⟨pa,st,ks,s0,rfl,N2888,K2888,gp,sp,Ep,Fw,Fs,Fn,Vs,nst,hs0_⟩:=hQ2888
        have N2889:=Fr.app N2882 N2888
        have hK1:=K2888
        have sp0:=Nat.le_trans (K2887).1 sp
        have F2890:=F2883.keep K2888 all0
        have F2891:=Ew.keep K2888
        have Z2892:n0≤T2888.heap.size:=Nat.le_trans Z2886 K2888.1
        have K2893:=K2887.trans K2888 all0
        have S2894:=S.keep K2888 all0
        have hk:=Nat.le_refl T2888.heap.size
        show Go _ _ _ _ _ (mkF _ _ _ [(.ref pa)])
        have hBp:=sp
        refine aE (l':=#[.val (.int p0),.val (.int p1),.val (.int p2),.val (.int p3),.val (.int (1:Int32)),.val (.int u5),.val (.int u6),.val (.int u7),.val (.ref a2850),.val (.int r0),.val (.ref wr),.val (.ref pa),.unset,.unset]) X2888 hx 199 (hb hby at_197) rfl rfl rfl ?_
        refine al X2888 hx 201 (hb hby at_199) rfl rfl rfl ?_
        refine ak X2888 hx hZ (C:=sg0) hown (tw hw 73 rfl) (tw hw 74 rfl) (tw hw 76 rfl) (tw hw 76 rfl) (tw hw 75 rfl) (tw hw 36 rfl) (tw hw 77 rfl) (by decide) (Pm l Z a0 hw pa T2888.heap n0 Z2892 cst fm em SX_ F2890 wr st ks s0 _ _ cs Ep Fw Fs Vs S2894 0 m0 gp Fn (Nat.ne_of_lt (Nat.lt_of_lt_of_le S.2.1.2 sp)) nst sp (hK1).1 hs0_ (by omega)  hlen) rfl (b:=pa) Ep (argsL:=[]) (rest:=[]) rfl rfl 0 204 rfl (by rw[hml];rfl) (lenOf cV rfl) (Nat.le_refl _) (by decide) (by decide) (by decide) (by decide) (hb hby at_201) ?_
        intro v2895 T2895 L2895 X2895 hQ2895
        obtain⟨r,o0,rfl,N2895,K2895,z0_,⟨Lw0,Bw0,S0⟩,L1_,L2_,L3_⟩:=hQ2895
        have N2896:=Fr.app N2889 N2895
        have F2897:=F2890.keep K2895 (allS gp all0)
        have F2898:=F2891.keep K2895
        have F2899:=Ep.keep K2895
        have Z2900:n0≤T2895.heap.size:=Nat.le_trans Z2892 K2895.1
        have K2901:=K2893.trans K2895 (allS (Or.inr sp0) all0)
        have S2902:=S2894.keep K2895 (allS (Or.inr hBp) all0)
        have K2903:=(Keep.refl T2888.heap [pa]).trans K2895 (allS (Or.inl (List.mem_of_getElem? (i:=0) rfl)) all0)
        show Go _ _ _ _ _ (mkF _ _ _ [(.ref r)])
        refine aE (l':=#[.val (.int p0),.val (.int p1),.val (.int p2),.val (.int p3),.val (.int (1:Int32)),.val (.int u5),.val (.int u6),.val (.int u7),.val (.ref a2850),.val (.int r0),.val (.ref wr),.val (.ref pa),.val (.ref r),.unset]) X2895 hx 206 (hb hby at_204) rfl rfl rfl ?_
        refine al X2895 hx 208 (hb hby at_206) rfl rfl rfl ?_
        refine bT X2895 hx hZ (C:=sg2) hown (tw hw 80 rfl) (tw hw 81 rfl) (mvT hZ (tw hw 82 rfl)) (tw hw 269 rfl) (tw hw 270 rfl) (tw hw 271 rfl) (tw hw 272 rfl) (tw hw 273 rfl) (tw hw 255 rfl) (tw hw 274 rfl) (by decide) (cZ1 l Z a0 hw r T2895.heap n0 Z2900 cst fm em SX_ F2897 L3_) rfl (b:=r) L1_ (argsL:=[]) (rest:=[]) rfl rfl 0 213 rfl (by rw[hml];rfl) (lenOf aF rfl) (Nat.le_refl _) (by decide) (by decide) (by decide) (by decide) (hb hby at_208) ?_
        intro v2904 T2904 L2904 X2904 hQ2904
        obtain⟨rfl,N2904,q2904⟩:=hQ2904
        have N2905:=Fr.app N2896 N2904
        show Go _ _ _ _ _ (mkF _ _ _ [(.int (1:Int32))])
        refine ae X2904 hx 215 (hb hby at_213) rfl rfl ?_
        have ll2907:((1:Int32):Int32).toInt=1:=by decide
        have ll2908:((1:Int32):Int32).toInt=1:=by decide
        refine av X2904 hx 222 218 (hb hby at_215) (by decide) (by decide) rfl (fun c2906=>?_) (fun c2906=>?_)
        ·skip
         exfalso;revert c2906;decide
        ·skip
         refine ac X2904 hx (1:Int32) 219 (hb hby at_218) rfl (by decide) ?_
         refine ap X2904 hx 223 (hb hby at_219) (by decide) (by decide) ?_
         refine ah (l':=#[.val (.int p0),.val (.int p1),.val (.int p2),.val (.int p3),.val (.int (1:Int32)),.val (.int u5),.val (.int u6),.val (.int u7),.val (.ref a2850),.val (.int r0),.val (.ref wr),.val (.ref pa),.val (.ref r),.val (.int (1:Int32))]) X2904 hx 225 (hb hby at_223) rfl rfl ?_
         refine ae X2904 hx 227 (hb hby at_225) rfl rfl ?_
         have ll2910:((1:Int32):Int32).toInt=1:=by decide
         refine ax X2904 hx 255 230 (hb hby at_227) (by decide) (by decide) rfl (fun c2909=>?_) (fun c2909=>?_)
         ·skip
          exfalso;revert c2909;decide
         ·skip
          refine ae X2904 hx 232 (hb hby at_230) rfl rfl ?_
          refine ac X2904 hx (1:Int32) 233 (hb hby at_232) rfl (by decide) ?_
          have ll2912:((1:Int32):Int32).toInt=1:=by decide
          have ll2913:((1:Int32):Int32).toInt=1:=by decide
          refine an X2904 hx 255 236 (hb hby at_233) (by decide) (by decide) rfl (fun c2911=>?_) (fun c2911=>?_)
          ·skip
           exfalso;revert c2911;decide
          ·skip
           refine al X2904 hx 238 (hb hby at_236) rfl rfl rfl ?_
           refine ac X2904 hx (0:Int32) 239 (hb hby at_238) rfl (by decide) ?_
           refine bT X2904 hx hZ (C:=sg2) hown (tw hw 240 rfl) (tw hw 241 rfl) (mvT hZ (tw hw 242 rfl)) (tw hw 276 rfl) (tw hw 277 rfl) (tw hw 278 rfl) (tw hw 279 rfl) (tw hw 273 rfl) (tw hw 255 rfl) (tw hw 280 rfl) (by decide) (cG1 l Z a0 hw r T2895.heap n0 Z2900 o0 L2_) q2904 (b:=r) L1_ (argsL:=[(.int (0:Int32))]) (rest:=[]) rfl rfl 0 244 rfl (by rw[hml];rfl) (lenOf b_ rfl) (Nat.le_refl _) (by decide) (by decide) (by decide) (by decide) (hb hby at_239) ?_
           intro v2914 T2914 L2914 X2914 hQ2914
           obtain⟨rfl,N2914,q2914⟩:=hQ2914
           have N2915:=Fr.app N2905 N2914
           show Go _ _ _ _ _ (mkF _ _ _ [(.ref o0)])
           refine dd X2914 hx hZ hown (tw hw 5 rfl) q2914 (Ins.self S0.exa) 247 (hb hby at_244) rfl ?_
           intro T2916 X2916 e2916
           refine aa X2916 hx 248 (hb hby at_247) rfl rfl ?_
           refine ae X2916 hx 250 (hb hby at_248) rfl rfl ?_
           refine ag X2916 hx hZ hown (tw hw 248 rfl) (tw hw 249 rfl) (tw hw 3 rfl) (tw hw 250 rfl) (by decide) (cSm l Z a0 hw o0 p1 u5 T2895.heap n0 Z2900 cst fm em SX_ F2897 _ _ _ S0 (by rw[aK (by omega)];exact hm0) (fun j hj=>by rw[aK (by omega)] at hj;rw[bq hj];exact H0.2.2.2.1 j hj)) e2916 (argsL:=[(.ref o0),(.int p1),(.int u5)]) (rest:=[]) rfl rfl 0 253 rfl (by rw[hml];rfl) (lenOf cb rfl) (Nat.le_refl _) (by decide) (by decide) (by decide) (by decide) (hb hby at_250) ?_
           intro v2917 T2917 L2917 X2917 hQ2917
           obtain⟨rfl,N2917,q2917⟩:=hQ2917
           have N2918:=Fr.app N2915 N2917
           show Go _ _ _ _ _ (mkF _ _ _ [(.int (1:Int32))])
           refine ah (l':=#[.val (.int p0),.val (.int p1),.val (.int p2),.val (.int p3),.val (.int (1:Int32)),.val (.int u5),.val (.int u6),.val (.int u7),.val (.ref a2850),.val (.int r0),.val (.ref wr),.val (.ref pa),.val (.ref r),.val (.int (1:Int32))]) X2917 hx 255 (hb hby at_253) rfl rfl ?_
           refine ae X2917 hx 257 (hb hby at_255) rfl rfl ?_
           have ll2920:((1:Int32):Int32).toInt=1:=by decide
           refine ax X2917 hx 285 260 (hb hby at_257) (by decide) (by decide) rfl (fun c2919=>?_) (fun c2919=>?_)
           ·skip
            exfalso;revert c2919;decide
           ·skip
            refine ae X2917 hx 262 (hb hby at_260) rfl rfl ?_
            refine ac X2917 hx (2:Int32) 263 (hb hby at_262) rfl (by decide) ?_
            have ll2922:((2:Int32):Int32).toInt=2:=by decide
            have ll2923:((1:Int32):Int32).toInt=1:=by decide
            refine an X2917 hx 285 266 (hb hby at_263) (by decide) (by decide) rfl (fun c2921=>?_) (fun c2921=>?_)
            ·skip
             refine ae X2917 hx 287 (hb hby at_285) rfl rfl ?_
             have ll2925:((1:Int32):Int32).toInt=1:=by decide
             refine ax X2917 hx 315 290 (hb hby at_287) (by decide) (by decide) rfl (fun c2924=>?_) (fun c2924=>?_)
             ·skip
              exfalso;revert c2924;decide
             ·skip
              refine ae X2917 hx 292 (hb hby at_290) rfl rfl ?_
              refine ac X2917 hx (3:Int32) 293 (hb hby at_292) rfl (by decide) ?_
              have ll2927:((3:Int32):Int32).toInt=3:=by decide
              have ll2928:((1:Int32):Int32).toInt=1:=by decide
              refine an X2917 hx 315 296 (hb hby at_293) (by decide) (by decide) rfl (fun c2926=>?_) (fun c2926=>?_)
              ·skip
               refine ae X2917 hx 317 (hb hby at_315) rfl rfl ?_
               exact bv X2917 hx hlk hret (hb hby at_317) (by decide) (by decide) q2917 hS (Nat.le_trans hk (K2903).1) ⟨rfl,N2918⟩
              ·skip
               exfalso;revert c2926;decide
            ·skip
             exfalso;revert c2921;decide
       ·skip
        exfalso;revert c2878;decide
      ·skip
       exfalso;revert c2875;decide
    ·skip
     exfalso;revert c2847;decide
   ·skip
    exfalso;revert c2844;decide
  ·skip
   refine ac X2841 hx (1:Int32) 55 (hb hby at_54) rfl (by decide) ?_
   exact bv X2841 hx hlk hret (hb hby at_55) (by decide) (by decide) q2841 hS (Nat.zero_le _) ⟨rfl,N2842⟩
theorem OI {p:Program}{l:Launch}{e:Env}{s:State}{m:MethodId}{args:Array Value}{below:List Frame}{meth:Method}{c:Code}{T0 Z:State}{a0:Array Value}{h0:Heap}{n0:Nat}{p0 p1 p2 p3 u5 u6 u7:Int32}{cst:Int32}{fm:Option Addr}{em ro li el:Addr}{ke:ClassId}(X0:Stand p l e room_1 (s.setVm s.vm) m args below meth c T0 [] 0 0)(hx:p.tables.exec=Jvm.exec)(hby:c.code=code)(hml:c.maxLocals=maxLocals)(hret:meth.sig.returnType=ret)(hlk:meth.locks=false)(hown:(s.setVm s.vm).vm.findClass sg5=some m.cls)(hZ:Z.Warmed39 (s.setVm s.vm).vm)(hw:HW a0 Z)(e0:T0.heap=h0)(Z0:n0≤h0.size)(N0:Fr n0 [])(hS:s.Since s.vm 0)(hC:CHv Z bu s.vm h0)(WO:jM Z cst fm em ro li el ke)(O0:Old Z n0 h0)(h5:1≤u5.toInt∧u5.toInt≤3)(h6:1≤u6.toInt∧u6.toInt≤3)(h7:1≤u7.toInt∧u7.toInt≤3) :
  Go p e below (gH s (gG n0) 48 3328) T0 (mkF m 39 #[.val (.int p0),.val (.int p1),.val (.int p2),.val (.int p3),.val (.int (2:Int32)),.val (.int u5),.val (.int u6),.val (.int u7),.unset,.unset,.unset,.unset,.unset,.unset] []):=by
 have hEL:=bW hw
 obtain⟨SX_,SR,zEm,zEr,zFn,zEl,zFe,zVe⟩:=WO
 have l12:(12:Int32).toInt=12:=by decide
 obtain⟨m0,hm0⟩:∃m:Nat,u5.toInt=(m:Int):=⟨u5.toInt.toNat,by omega⟩
 obtain⟨m1,hm1⟩:∃m:Nat,u6.toInt=(m:Int):=⟨u6.toInt.toNat,by omega⟩
 obtain⟨m2,hm2⟩:∃m:Nat,u7.toInt=(m:Int):=⟨u7.toInt.toNat,by omega⟩
 refine ae X0 hx 41 (hb hby at_39) rfl rfl ?_
 refine ac X0 hx (1:Int32) 42 (hb hby at_41) rfl (by decide) ?_
 have ll2930:((1:Int32):Int32).toInt=1:=by decide
 have ll2931:((2:Int32):Int32).toInt=2:=by decide
 refine an X0 hx 56 45 (hb hby at_42) (by decide) (by decide) rfl (fun c2929=>?_) (fun c2929=>?_)
 ·skip
  exfalso;revert c2929;decide
 ·skip
  refine aa X0 hx 46 (hb hby at_45) rfl rfl ?_
  refine ae X0 hx 48 (hb hby at_46) rfl rfl ?_
  refine ag X0 hx hZ hown (tw hw 92 rfl) (tw hw 93 rfl) (tw hw 3 rfl) (tw hw 94 rfl) (by decide) (cDo l Z a0 hw p1 u5 h0 n0 Z0) e0 (argsL:=[(.int p1),(.int u5)]) (rest:=[]) rfl rfl 0 51 rfl (by rw[hml];rfl) (lenOf b0 rfl) (Nat.le_refl _) (by decide) (by decide) (by decide) (by decide) (hb hby at_48) ?_
  intro v2932 T2932 L2932 X2932 hQ2932
  obtain⟨rd0,rfl,hd0,N2932,q2932⟩:=hQ2932
  have N2933:=Fr.app N0 N2932
  show Go _ _ _ _ _ (mkF _ _ _ [(.int rd0)])
  refine ax X2932 hx 56 54 (hb hby at_51) (by decide) (by decide) rfl (fun c2934=>?_) (fun c2934=>?_)
  ·skip
   have nd0:=hd0 c2934
   refine ae X2932 hx 58 (hb hby at_56) rfl rfl ?_
   refine ac X2932 hx (2:Int32) 59 (hb hby at_58) rfl (by decide) ?_
   have ll2936:((2:Int32):Int32).toInt=2:=by decide
   have ll2937:((2:Int32):Int32).toInt=2:=by decide
   refine an X2932 hx 73 62 (hb hby at_59) (by decide) (by decide) rfl (fun c2935=>?_) (fun c2935=>?_)
   ·skip
    exfalso;revert c2935;decide
   ·skip
    refine aa X2932 hx 63 (hb hby at_62) rfl rfl ?_
    refine ae X2932 hx 65 (hb hby at_63) rfl rfl ?_
    refine ag X2932 hx hZ hown (tw hw 92 rfl) (tw hw 93 rfl) (tw hw 3 rfl) (tw hw 94 rfl) (by decide) (cDo l Z a0 hw p2 u6 h0 n0 Z0) q2932 (argsL:=[(.int p2),(.int u6)]) (rest:=[]) rfl rfl 0 68 rfl (by rw[hml];rfl) (lenOf b0 rfl) (Nat.le_refl _) (by decide) (by decide) (by decide) (by decide) (hb hby at_65) ?_
    intro v2938 T2938 L2938 X2938 hQ2938
    obtain⟨rd1,rfl,hd1,N2938,q2938⟩:=hQ2938
    have N2939:=Fr.app N2933 N2938
    show Go _ _ _ _ _ (mkF _ _ _ [(.int rd1)])
    refine ax X2938 hx 73 71 (hb hby at_68) (by decide) (by decide) rfl (fun c2940=>?_) (fun c2940=>?_)
    ·skip
     have nd1:=hd1 c2940
     refine ae X2938 hx 75 (hb hby at_73) rfl rfl ?_
     refine ac X2938 hx (3:Int32) 76 (hb hby at_75) rfl (by decide) ?_
     have ll2942:((3:Int32):Int32).toInt=3:=by decide
     have ll2943:((2:Int32):Int32).toInt=2:=by decide
     refine an X2938 hx 90 79 (hb hby at_76) (by decide) (by decide) rfl (fun c2941=>?_) (fun c2941=>?_)
     ·skip
      refine aj X2938 hx (12:Int32) 92 (hb hby at_90) rfl (by decide) ?_
      refine aO X2938 hx hZ (aty := .char) (tw hw 0 rfl) q2938 (by decide) (cap:=12) (by decide) (by decide) 94 (hb hby at_92) rfl (by decide) (by decide) (ad := "[C") (by decide) ?_
      intro T2944 h2944 k2944 a2944 g2944 X2944 e2944 E2944 V2944 A2944
      have ge2945:n0≤a2944:=by rw[g2944];exact Z0
      have sz2946:h0.size≤a2944:=by rw[g2944];exact (Keep.refl h0 []).1
      have F2947:=O0.ext E2944
      have K2948:=(Keep.refl h0 []).ext E2944
      have Z2949:n0≤h2944.size:=Nat.le_trans Z0 E2944.1
      have V2944':Arv Z h2944 a2944 k2944 .char (12:Int32) [(.int (0:Int32)),(.int (0:Int32)),(.int (0:Int32)),(.int (0:Int32)),(.int (0:Int32)),(.int (0:Int32)),(.int (0:Int32)),(.int (0:Int32)),(.int (0:Int32)),(.int (0:Int32)),(.int (0:Int32)),(.int (0:Int32))] (.int (0:Int32)):=V2944.pad (pad_rep [] (.int (0:Int32)) 12)
      refine aE (l':=#[.val (.int p0),.val (.int p1),.val (.int p2),.val (.int p3),.val (.int (2:Int32)),.val (.int u5),.val (.int u6),.val (.int u7),.val (.ref a2944),.unset,.unset,.unset,.unset,.unset]) X2944 hx 96 (hb hby at_94) rfl rfl rfl ?_
      refine ac X2944 hx (0:Int32) 97 (hb hby at_96) rfl (by decide) ?_
      refine ah (l':=#[.val (.int p0),.val (.int p1),.val (.int p2),.val (.int p3),.val (.int (2:Int32)),.val (.int u5),.val (.int u6),.val (.int u7),.val (.ref a2944),.val (.int (0:Int32)),.unset,.unset,.unset,.unset]) X2944 hx 99 (hb hby at_97) rfl rfl ?_
      refine al X2944 hx 101 (hb hby at_99) rfl rfl rfl ?_
      refine ae X2944 hx 103 (hb hby at_101) rfl rfl ?_
      refine aj X2944 hx (47:Int32) 105 (hb hby at_103) rfl (by decide) ?_
      have V2950:Arv Z h2944 a2944 k2944 .char 12 ((List.replicate 12 (0:Int32)).map Value.int) (.int 0):=V2944'
      refine aR X2944 hx hZ e2944 V2950 (0) (by decide) (by decide) (by decide) (47:Int32) (by decide) 106 (hb hby at_105) rfl ?_
      intro T2951 h2951 X2951 e2951 W2951 V2951
      have F2952:=F2947.wr W2951 ge2945
      have F2953:=A2944.wr W2951
      have K2955:=K2948.wr W2951 (Or.inr sz2946)
      have N2956:=Fr.snoc X2951 N2939 ge2945
      have Z2957:n0≤h2951.size:=by rw[W2951.size];exact Z2949
      have V2958:=V2951
      rw[bx] at V2958
      refine aw X2951 hx (w:=(1:Int32)) (1:Int32) (by decide) (l':=#[.val (.int p0),.val (.int p1),.val (.int p2),.val (.int p3),.val (.int (2:Int32)),.val (.int u5),.val (.int u6),.val (.int u7),.val (.ref a2944),.val (.int (1:Int32)),.unset,.unset,.unset,.unset]) 109 (hb hby at_106) rfl rfl (by decide) rfl ?_
      refine ae X2951 hx 111 (hb hby at_109) rfl rfl ?_
      refine ac X2951 hx (1:Int32) 112 (hb hby at_111) rfl (by decide) ?_
      have ll2960:((1:Int32):Int32).toInt=1:=by decide
      have ll2961:((2:Int32):Int32).toInt=2:=by decide
      refine an X2951 hx 127 115 (hb hby at_112) (by decide) (by decide) rfl (fun c2959=>?_) (fun c2959=>?_)
      ·skip
       exfalso;revert c2959;decide
      ·skip
       refine al X2951 hx 117 (hb hby at_115) rfl rfl rfl ?_
       refine ae X2951 hx 119 (hb hby at_117) rfl rfl ?_
       refine aa X2951 hx 120 (hb hby at_119) rfl rfl ?_
       refine ae X2951 hx 122 (hb hby at_120) rfl rfl ?_
       refine ag X2951 hx hZ hown (tw hw 98 rfl) (tw hw 99 rfl) (tw hw 3 rfl) (tw hw 100 rfl) (by decide) (cPt l Z a0 hw a2944 (1:Int32) p1 u5 h2951 n0 Z2957 k2944 ((List.replicate 12 (0:Int32)).set 0 47) (0+1) m0 V2958 ge2945 (by rw[List.length_set];exact (by decide)) (by decide) hm0 (by omega) (by omega) (by omega)) e2951 (argsL:=[(.ref a2944),(.int (1:Int32)),(.int p1),(.int u5)]) (rest:=[]) rfl rfl 0 125 rfl (by rw[hml];rfl) (lenOf b5 rfl) (Nat.le_refl _) (by decide) (by decide) (by decide) (by decide) (hb hby at_122) ?_
       intro v2962 T2962 L2962 X2962 hQ2962
       obtain⟨B0,r0,rfl,hr0,N2962,K2962,P0,V2962⟩:=hQ2962
       have N2963:=Fr.app N2956 N2962
       have F2964:=F2952.keep K2962 (allS ge2945 all0)
       have F2965:=F2953.keep K2962
       have Z2967:n0≤T2962.heap.size:=Nat.le_trans Z2957 K2962.1
       have K2968:=K2955.trans K2962 (allS (Or.inr sz2946) all0)
       show Go _ _ _ _ _ (mkF _ _ _ [(.int r0)])
       obtain⟨wa0,wb0,wc0⟩:=dP P0 (by decide)
       refine ah (l':=#[.val (.int p0),.val (.int p1),.val (.int p2),.val (.int p3),.val (.int (2:Int32)),.val (.int u5),.val (.int u6),.val (.int u7),.val (.ref a2944),.val (.int r0),.unset,.unset,.unset,.unset]) X2962 hx 127 (hb hby at_125) rfl rfl ?_
       refine ae X2962 hx 129 (hb hby at_127) rfl rfl ?_
       refine ac X2962 hx (2:Int32) 130 (hb hby at_129) rfl (by decide) ?_
       have ll2970:((2:Int32):Int32).toInt=2:=by decide
       have ll2971:((2:Int32):Int32).toInt=2:=by decide
       refine an X2962 hx 155 133 (hb hby at_130) (by decide) (by decide) rfl (fun c2969=>?_) (fun c2969=>?_)
       ·skip
        exfalso;revert c2969;decide
       ·skip
        refine al X2962 hx 135 (hb hby at_133) rfl rfl rfl ?_
        refine ae X2962 hx 137 (hb hby at_135) rfl rfl ?_
        refine aj X2962 hx (47:Int32) 139 (hb hby at_137) rfl (by decide) ?_
        refine aR X2962 hx hZ rfl V2962 ((0+1+m0)) hr0 (by omega) (by rw[List.length_map,P0.1];omega) (47:Int32) (by decide) 140 (hb hby at_139) rfl ?_
        intro T2972 h2972 X2972 e2972 W2972 V2972
        have F2973:=F2964.wr W2972 ge2945
        have F2974:=F2965.wr W2972
        have K2976:=K2968.wr W2972 (Or.inr sz2946)
        have N2977:=Fr.snoc X2972 N2963 ge2945
        have Z2978:n0≤h2972.size:=by rw[W2972.size];exact Z2967
        have V2979:=V2972
        rw[bx] at V2979
        refine a5 (w:=(1:Int32)) (l':=#[.val (.int p0),.val (.int p1),.val (.int p2),.val (.int p3),.val (.int (2:Int32)),.val (.int u5),.val (.int u6),.val (.int u7),.val (.ref a2944),.val (.int (r0+(1:Int32))),.unset,.unset,.unset,.unset]) X2972 hx 143 (hb hby at_140) rfl rfl (by decide) rfl ?_
        refine al X2972 hx 145 (hb hby at_143) rfl rfl rfl ?_
        refine ae X2972 hx 147 (hb hby at_145) rfl rfl ?_
        refine aa X2972 hx 148 (hb hby at_147) rfl rfl ?_
        refine ae X2972 hx 150 (hb hby at_148) rfl rfl ?_
        refine ag X2972 hx hZ hown (tw hw 98 rfl) (tw hw 99 rfl) (tw hw 3 rfl) (tw hw 100 rfl) (by decide) (cPt l Z a0 hw a2944 (r0+(1:Int32)) p2 u6 h2972 n0 Z2978 k2944 (B0.set (0+1+m0) 47) ((0+1+m0)+1) m1 V2979 ge2945 (by rw[List.length_set];exact P0.1) (aC hr0 (by omega)) hm1 (by omega) (by omega) (by omega)) e2972 (argsL:=[(.ref a2944),(.int (r0+(1:Int32))),(.int p2),(.int u6)]) (rest:=[]) rfl rfl 0 153 rfl (by rw[hml];rfl) (lenOf b5 rfl) (Nat.le_refl _) (by decide) (by decide) (by decide) (by decide) (hb hby at_150) ?_
        intro v2980 T2980 L2980 X2980 hQ2980
        obtain⟨B1,r1,rfl,hr1,N2980,K2980,P1,V2980⟩:=hQ2980
        have N2981:=Fr.app N2977 N2980
        have F2982:=F2973.keep K2980 (allS ge2945 all0)
        have F2983:=F2974.keep K2980
        have Z2985:n0≤T2980.heap.size:=Nat.le_trans Z2978 K2980.1
        have K2986:=K2976.trans K2980 (allS (Or.inr sz2946) all0)
        show Go _ _ _ _ _ (mkF _ _ _ [(.int r1)])
        obtain⟨wa1,wb1,wc1⟩:=dP P1 (by rw[P0.1];omega)
        refine ah (l':=#[.val (.int p0),.val (.int p1),.val (.int p2),.val (.int p3),.val (.int (2:Int32)),.val (.int u5),.val (.int u6),.val (.int u7),.val (.ref a2944),.val (.int r1),.unset,.unset,.unset,.unset]) X2980 hx 155 (hb hby at_153) rfl rfl ?_
        refine ae X2980 hx 157 (hb hby at_155) rfl rfl ?_
        refine ac X2980 hx (3:Int32) 158 (hb hby at_157) rfl (by decide) ?_
        have ll2988:((3:Int32):Int32).toInt=3:=by decide
        have ll2989:((2:Int32):Int32).toInt=2:=by decide
        refine an X2980 hx 183 161 (hb hby at_158) (by decide) (by decide) rfl (fun c2987=>?_) (fun c2987=>?_)
        ·skip
         refine al X2980 hx 185 (hb hby at_183) rfl rfl rfl ?_
         refine ae X2980 hx 187 (hb hby at_185) rfl rfl ?_
         have z0:B1.getD 0 0=47:=by rw[wc1 _ (by omega)];exact wa0
         have y0:∀j,j<m0→B1.getD (0+1+j) 0=chn p1 j:=fun j hj=>by rw[wc1 _ (by omega)];exact wb0 j hj
         have z1:B1.getD (0+1+m0) 0=47:=by  exact wa1
         have y1:∀j,j<m1→B1.getD ((0+1+m0)+1+j) 0=chn p2 j:=fun j hj=>by  exact wb1 j hj
         have hch:∀j,j<((0+1+m0)+1+m1)→a6 (B1.getD j 0):=fun j hj=>by
          rcases (show j=0∨(0+1≤j∧j<0+1+m0)∨j=(0+1+m0)∨((0+1+m0)+1≤j∧j<(0+1+m0)+1+m1) by omega) with rfl|hj|rfl|hj
          ·exact cz z0
          ·have:=y0 (j-(0+1)) (by omega)
           rw[show 0+1+(j-(0+1))=j by omega] at this
           rw[this]
           exact (bw p1 _).1
          ·exact cz z1
          ·have:=y1 (j-((0+1+m0)+1)) (by omega)
           rw[show (0+1+m0)+1+(j-((0+1+m0)+1))=j by omega] at this
           rw[this]
           exact (bw p2 _).1
         refine ag X2980 hx hZ hown (tw hw 1 rfl) (tw hw 2 rfl) (tw hw 3 rfl) (tw hw 4 rfl) (by decide) (cTk l Z a0 hw a2944 r1 T2980.heap n0 Z2985 cst fm em SX_ F2982 k2944 B1 ((0+1+m0)+1+m1) V2980 P1.1 (by rw[hr1]) (by omega) (by omega) hch) rfl (argsL:=[(.ref a2944),(.int r1)]) (rest:=[]) rfl rfl 0 190 rfl (by rw[hml];rfl) (lenOf dT rfl) (Nat.le_refl _) (by decide) (by decide) (by decide) (by decide) (hb hby at_187) ?_
         intro v2990 T2990 L2990 X2990 hQ2990
         obtain⟨wr,cs,rfl,N2990,K2990,gw,sw,S,hlen,hcs⟩:=hQ2990
         have N2991:=Fr.app N2981 N2990
         have F2992:=F2982.keep K2990 all0
         have F2993:=F2983.keep K2990
         have F2994:=V2980.keep K2990 nin0
         have Z2995:n0≤T2990.heap.size:=Nat.le_trans Z2985 K2990.1
         have K2996:=K2986.trans K2990 all0
         show Go _ _ _ _ _ (mkF _ _ _ [(.ref wr)])
         have Ew:=S.exa
         have hs0:(cs.getD 0 0).toInt=47:=by
          rw[hcs 0 (by omega),z0]
          decide
         have H0:Nm cs 0 m0 p1:=⟨by omega,by omega,by rw[hcs _ (by omega),z0];decide,fun j hj=>by rw[hcs _ (by omega)];exact y0 j hj,fun z=>nd0.1 ⟨by omega,z.2⟩,fun z=>nd0.2 ⟨by omega,z.2⟩⟩
         have H1:Nm cs (0+1+m0) m1 p2:=⟨by omega,by omega,by rw[hcs _ (by omega),z1];decide,fun j hj=>by rw[hcs _ (by omega)];exact y1 j hj,fun z=>nd1.1 ⟨by omega,z.2⟩,fun z=>nd1.2 ⟨by omega,z.2⟩⟩
         refine aE (l':=#[.val (.int p0),.val (.int p1),.val (.int p2),.val (.int p3),.val (.int (2:Int32)),.val (.int u5),.val (.int u6),.val (.int u7),.val (.ref a2944),.val (.int r1),.val (.ref wr),.unset,.unset,.unset]) X2990 hx 192 (hb hby at_190) rfl rfl rfl ?_
         refine al X2990 hx 194 (hb hby at_192) rfl rfl rfl ?_
         refine cL X2990 hx hZ hown (tw hw 34 rfl) (tw hw 35 rfl) (tw hw 36 rfl) (tw hw 37 rfl) (by decide) (Py l Z a0 hw wr T2990.heap n0 Z2995 cst fm em SX_ F2992 ro SR _ _ cs S (Nat.le_refl _) hs0 p1 p2 m0 m1 (0+1+m0) H0 H1 rfl hlen) rfl hS (Nat.zero_le _) hEL (CHv.keep K2996 all0 hC) (argsL:=[(.ref wr)]) (rest:=[]) rfl rfl 0 197 rfl (by rw[hml];rfl) (lenOf dU rfl) (Nat.le_refl _) (by decide) (by decide) (by decide) (by decide) (hb hby at_194) ?_
         intro v2997 T2997 L2997 X2997 hS hZ hown hQ2997
         obtain⟨pa,st,ks,s0,s1,rfl,N2997,K2997,gp,sp,Ep,Fw,Fs,Fn,Vs,nst,hs0_,hs1_⟩:=hQ2997
         have N2998:=Fr.app N2991 N2997
         have hK1:=K2997
         have sp0:=Nat.le_trans (K2996).1 sp
         have F2999:=F2992.keep K2997 all0
         have F3000:=Ew.keep K2997
         have Z3001:n0≤T2997.heap.size:=Nat.le_trans Z2995 K2997.1
         have K3002:=K2996.trans K2997 all0
         have S3003:=S.keep K2997 all0
         have hk:=Nat.le_refl T2997.heap.size
         show Go _ _ _ _ _ (mkF _ _ _ [(.ref pa)])
         have hBp:=sp
         refine aE (l':=#[.val (.int p0),.val (.int p1),.val (.int p2),.val (.int p3),.val (.int (2:Int32)),.val (.int u5),.val (.int u6),.val (.int u7),.val (.ref a2944),.val (.int r1),.val (.ref wr),.val (.ref pa),.unset,.unset]) X2997 hx 199 (hb hby at_197) rfl rfl rfl ?_
         refine al X2997 hx 201 (hb hby at_199) rfl rfl rfl ?_
         refine ak X2997 hx hZ (C:=sg0) hown (tw hw 73 rfl) (tw hw 74 rfl) (tw hw 76 rfl) (tw hw 76 rfl) (tw hw 75 rfl) (tw hw 36 rfl) (tw hw 77 rfl) (by decide) (Pn l Z a0 hw pa T2997.heap n0 Z3001 cst fm em SX_ F2999 wr st ks s0 s1 _ _ cs Ep Fw Fs Vs S3003 0 m0 (0+1+m0) m1 gp Fn (Nat.ne_of_lt (Nat.lt_of_lt_of_le S.2.1.2 sp)) nst sp (hK1).1 hs0_ (by omega) hs1_ (by omega) rfl hlen) rfl (b:=pa) Ep (argsL:=[]) (rest:=[]) rfl rfl 0 204 rfl (by rw[hml];rfl) (lenOf cV rfl) (Nat.le_refl _) (by decide) (by decide) (by decide) (by decide) (hb hby at_201) ?_
         intro v3004 T3004 L3004 X3004 hQ3004
         obtain⟨r,o0,o1,rfl,N3004,K3004,z0_,⟨Lw0,Bw0,S0⟩,z1_,⟨Lw1,Bw1,S1⟩,L1_,L2_,L3_⟩:=hQ3004
         have N3005:=Fr.app N2998 N3004
         have F3006:=F2999.keep K3004 (allS gp all0)
         have F3007:=F3000.keep K3004
         have F3008:=Ep.keep K3004
         have Z3009:n0≤T3004.heap.size:=Nat.le_trans Z3001 K3004.1
         have K3010:=K3002.trans K3004 (allS (Or.inr sp0) all0)
         have S3011:=S3003.keep K3004 (allS (Or.inr hBp) all0)
         have K3012:=(Keep.refl T2997.heap [pa]).trans K3004 (allS (Or.inl (List.mem_of_getElem? (i:=0) rfl)) all0)
         have hne:o1≠em:=Ne.symm (Nat.ne_of_lt (Nat.lt_of_lt_of_le (O0.1▸zEm.lt) (Nat.le_trans Z3001 z1_)))
         show Go _ _ _ _ _ (mkF _ _ _ [(.ref r)])
         refine aE (l':=#[.val (.int p0),.val (.int p1),.val (.int p2),.val (.int p3),.val (.int (2:Int32)),.val (.int u5),.val (.int u6),.val (.int u7),.val (.ref a2944),.val (.int r1),.val (.ref wr),.val (.ref pa),.val (.ref r),.unset]) X3004 hx 206 (hb hby at_204) rfl rfl rfl ?_
         refine al X3004 hx 208 (hb hby at_206) rfl rfl rfl ?_
         refine bT X3004 hx hZ (C:=sg2) hown (tw hw 80 rfl) (tw hw 81 rfl) (mvT hZ (tw hw 82 rfl)) (tw hw 269 rfl) (tw hw 270 rfl) (tw hw 271 rfl) (tw hw 272 rfl) (tw hw 273 rfl) (tw hw 255 rfl) (tw hw 274 rfl) (by decide) (cZ2 l Z a0 hw r T3004.heap n0 Z3009 cst fm em SX_ F3006 o1 hne L3_) rfl (b:=r) L1_ (argsL:=[]) (rest:=[]) rfl rfl 0 213 rfl (by rw[hml];rfl) (lenOf aF rfl) (Nat.le_refl _) (by decide) (by decide) (by decide) (by decide) (hb hby at_208) ?_
         intro v3013 T3013 L3013 X3013 hQ3013
         obtain⟨rfl,N3013,q3013⟩:=hQ3013
         have N3014:=Fr.app N3005 N3013
         show Go _ _ _ _ _ (mkF _ _ _ [(.int (2:Int32))])
         refine ae X3013 hx 215 (hb hby at_213) rfl rfl ?_
         have ll3016:((2:Int32):Int32).toInt=2:=by decide
         have ll3017:((2:Int32):Int32).toInt=2:=by decide
         refine av X3013 hx 222 218 (hb hby at_215) (by decide) (by decide) rfl (fun c3015=>?_) (fun c3015=>?_)
         ·skip
          exfalso;revert c3015;decide
         ·skip
          refine ac X3013 hx (1:Int32) 219 (hb hby at_218) rfl (by decide) ?_
          refine ap X3013 hx 223 (hb hby at_219) (by decide) (by decide) ?_
          refine ah (l':=#[.val (.int p0),.val (.int p1),.val (.int p2),.val (.int p3),.val (.int (2:Int32)),.val (.int u5),.val (.int u6),.val (.int u7),.val (.ref a2944),.val (.int r1),.val (.ref wr),.val (.ref pa),.val (.ref r),.val (.int (1:Int32))]) X3013 hx 225 (hb hby at_223) rfl rfl ?_
          refine ae X3013 hx 227 (hb hby at_225) rfl rfl ?_
          have ll3019:((1:Int32):Int32).toInt=1:=by decide
          refine ax X3013 hx 255 230 (hb hby at_227) (by decide) (by decide) rfl (fun c3018=>?_) (fun c3018=>?_)
          ·skip
           exfalso;revert c3018;decide
          ·skip
           refine ae X3013 hx 232 (hb hby at_230) rfl rfl ?_
           refine ac X3013 hx (1:Int32) 233 (hb hby at_232) rfl (by decide) ?_
           have ll3021:((1:Int32):Int32).toInt=1:=by decide
           have ll3022:((2:Int32):Int32).toInt=2:=by decide
           refine an X3013 hx 255 236 (hb hby at_233) (by decide) (by decide) rfl (fun c3020=>?_) (fun c3020=>?_)
           ·skip
            exfalso;revert c3020;decide
           ·skip
            refine al X3013 hx 238 (hb hby at_236) rfl rfl rfl ?_
            refine ac X3013 hx (0:Int32) 239 (hb hby at_238) rfl (by decide) ?_
            refine bT X3013 hx hZ (C:=sg2) hown (tw hw 240 rfl) (tw hw 241 rfl) (mvT hZ (tw hw 242 rfl)) (tw hw 276 rfl) (tw hw 277 rfl) (tw hw 278 rfl) (tw hw 279 rfl) (tw hw 273 rfl) (tw hw 255 rfl) (tw hw 280 rfl) (by decide) (cG1 l Z a0 hw r T3004.heap n0 Z3009 o0 L2_) q3013 (b:=r) L1_ (argsL:=[(.int (0:Int32))]) (rest:=[]) rfl rfl 0 244 rfl (by rw[hml];rfl) (lenOf b_ rfl) (Nat.le_refl _) (by decide) (by decide) (by decide) (by decide) (hb hby at_239) ?_
            intro v3023 T3023 L3023 X3023 hQ3023
            obtain⟨rfl,N3023,q3023⟩:=hQ3023
            have N3024:=Fr.app N3014 N3023
            show Go _ _ _ _ _ (mkF _ _ _ [(.ref o0)])
            refine dd X3023 hx hZ hown (tw hw 5 rfl) q3023 (Ins.self S0.exa) 247 (hb hby at_244) rfl ?_
            intro T3025 X3025 e3025
            refine aa X3025 hx 248 (hb hby at_247) rfl rfl ?_
            refine ae X3025 hx 250 (hb hby at_248) rfl rfl ?_
            refine ag X3025 hx hZ hown (tw hw 248 rfl) (tw hw 249 rfl) (tw hw 3 rfl) (tw hw 250 rfl) (by decide) (cSm l Z a0 hw o0 p1 u5 T3004.heap n0 Z3009 cst fm em SX_ F3006 _ _ _ S0 (by rw[aK (by omega)];exact hm0) (fun j hj=>by rw[aK (by omega)] at hj;rw[bq hj];exact H0.2.2.2.1 j hj)) e3025 (argsL:=[(.ref o0),(.int p1),(.int u5)]) (rest:=[]) rfl rfl 0 253 rfl (by rw[hml];rfl) (lenOf cb rfl) (Nat.le_refl _) (by decide) (by decide) (by decide) (by decide) (hb hby at_250) ?_
            intro v3026 T3026 L3026 X3026 hQ3026
            obtain⟨rfl,N3026,q3026⟩:=hQ3026
            have N3027:=Fr.app N3024 N3026
            show Go _ _ _ _ _ (mkF _ _ _ [(.int (1:Int32))])
            refine ah (l':=#[.val (.int p0),.val (.int p1),.val (.int p2),.val (.int p3),.val (.int (2:Int32)),.val (.int u5),.val (.int u6),.val (.int u7),.val (.ref a2944),.val (.int r1),.val (.ref wr),.val (.ref pa),.val (.ref r),.val (.int (1:Int32))]) X3026 hx 255 (hb hby at_253) rfl rfl ?_
            refine ae X3026 hx 257 (hb hby at_255) rfl rfl ?_
            have ll3029:((1:Int32):Int32).toInt=1:=by decide
            refine ax X3026 hx 285 260 (hb hby at_257) (by decide) (by decide) rfl (fun c3028=>?_) (fun c3028=>?_)
            ·skip
             exfalso;revert c3028;decide
            ·skip
             refine ae X3026 hx 262 (hb hby at_260) rfl rfl ?_
             refine ac X3026 hx (2:Int32) 263 (hb hby at_262) rfl (by decide) ?_
             have ll3031:((2:Int32):Int32).toInt=2:=by decide
             have ll3032:((2:Int32):Int32).toInt=2:=by decide
             refine an X3026 hx 285 266 (hb hby at_263) (by decide) (by decide) rfl (fun c3030=>?_) (fun c3030=>?_)
             ·skip
              exfalso;revert c3030;decide
             ·skip
              refine al X3026 hx 268 (hb hby at_266) rfl rfl rfl ?_
              refine ac X3026 hx (1:Int32) 269 (hb hby at_268) rfl (by decide) ?_
              refine bT X3026 hx hZ (C:=sg2) hown (tw hw 240 rfl) (tw hw 241 rfl) (mvT hZ (tw hw 242 rfl)) (tw hw 276 rfl) (tw hw 277 rfl) (tw hw 278 rfl) (tw hw 279 rfl) (tw hw 273 rfl) (tw hw 255 rfl) (tw hw 280 rfl) (by decide) (cG2 l Z a0 hw r T3004.heap n0 Z3009 cst fm em SX_ F3006 o1 hne L3_) q3026 (b:=r) L1_ (argsL:=[(.int (1:Int32))]) (rest:=[]) rfl rfl 0 274 rfl (by rw[hml];rfl) (lenOf b_ rfl) (Nat.le_refl _) (by decide) (by decide) (by decide) (by decide) (hb hby at_269) ?_
              intro v3033 T3033 L3033 X3033 hQ3033
              obtain⟨rfl,N3033,q3033⟩:=hQ3033
              have N3034:=Fr.app N3027 N3033
              show Go _ _ _ _ _ (mkF _ _ _ [(.ref o1)])
              refine dd X3033 hx hZ hown (tw hw 5 rfl) q3033 (Ins.self S1.exa) 277 (hb hby at_274) rfl ?_
              intro T3035 X3035 e3035
              refine aa X3035 hx 278 (hb hby at_277) rfl rfl ?_
              refine ae X3035 hx 280 (hb hby at_278) rfl rfl ?_
              refine ag X3035 hx hZ hown (tw hw 248 rfl) (tw hw 249 rfl) (tw hw 3 rfl) (tw hw 250 rfl) (by decide) (cSm l Z a0 hw o1 p2 u6 T3004.heap n0 Z3009 cst fm em SX_ F3006 _ _ _ S1 (by rw[aK (by omega)];exact hm1) (fun j hj=>by rw[aK (by omega)] at hj;rw[bq hj];exact H1.2.2.2.1 j hj)) e3035 (argsL:=[(.ref o1),(.int p2),(.int u6)]) (rest:=[]) rfl rfl 0 283 rfl (by rw[hml];rfl) (lenOf cb rfl) (Nat.le_refl _) (by decide) (by decide) (by decide) (by decide) (hb hby at_280) ?_
              intro v3036 T3036 L3036 X3036 hQ3036
              obtain⟨rfl,N3036,q3036⟩:=hQ3036
              have N3037:=Fr.app N3034 N3036
              show Go _ _ _ _ _ (mkF _ _ _ [(.int (1:Int32))])
              refine ah (l':=#[.val (.int p0),.val (.int p1),.val (.int p2),.val (.int p3),.val (.int (2:Int32)),.val (.int u5),.val (.int u6),.val (.int u7),.val (.ref a2944),.val (.int r1),.val (.ref wr),.val (.ref pa),.val (.ref r),.val (.int (1:Int32))]) X3036 hx 285 (hb hby at_283) rfl rfl ?_
              refine ae X3036 hx 287 (hb hby at_285) rfl rfl ?_
              have ll3039:((1:Int32):Int32).toInt=1:=by decide
              refine ax X3036 hx 315 290 (hb hby at_287) (by decide) (by decide) rfl (fun c3038=>?_) (fun c3038=>?_)
              ·skip
               exfalso;revert c3038;decide
              ·skip
               refine ae X3036 hx 292 (hb hby at_290) rfl rfl ?_
               refine ac X3036 hx (3:Int32) 293 (hb hby at_292) rfl (by decide) ?_
               have ll3041:((3:Int32):Int32).toInt=3:=by decide
               have ll3042:((2:Int32):Int32).toInt=2:=by decide
               refine an X3036 hx 315 296 (hb hby at_293) (by decide) (by decide) rfl (fun c3040=>?_) (fun c3040=>?_)
               ·skip
                refine ae X3036 hx 317 (hb hby at_315) rfl rfl ?_
                exact bv X3036 hx hlk hret (hb hby at_317) (by decide) (by decide) q3036 hS (Nat.le_trans hk (K3012).1) ⟨rfl,N3037⟩
               ·skip
                exfalso;revert c3040;decide
        ·skip
         exfalso;revert c2987;decide
     ·skip
      exfalso;revert c2941;decide
    ·skip
     refine ac X2938 hx (1:Int32) 72 (hb hby at_71) rfl (by decide) ?_
     exact bv X2938 hx hlk hret (hb hby at_72) (by decide) (by decide) q2938 hS (Nat.zero_le _) ⟨rfl,N2939⟩
  ·skip
   refine ac X2932 hx (1:Int32) 55 (hb hby at_54) rfl (by decide) ?_
   exact bv X2932 hx hlk hret (hb hby at_55) (by decide) (by decide) q2932 hS (Nat.zero_le _) ⟨rfl,N2933⟩
theorem OJ {p:Program}{l:Launch}{e:Env}{s:State}{m:MethodId}{args:Array Value}{below:List Frame}{meth:Method}{c:Code}{T0 Z:State}{a0:Array Value}{h0:Heap}{n0:Nat}{p0 p1 p2 p3 u5 u6 u7:Int32}{cst:Int32}{fm:Option Addr}{em ro li el:Addr}{ke:ClassId}(X0:Stand p l e room_1 (s.setVm s.vm) m args below meth c T0 [] 0 0)(hx:p.tables.exec=Jvm.exec)(hby:c.code=code)(hml:c.maxLocals=maxLocals)(hret:meth.sig.returnType=ret)(hlk:meth.locks=false)(hown:(s.setVm s.vm).vm.findClass sg5=some m.cls)(hZ:Z.Warmed39 (s.setVm s.vm).vm)(hw:HW a0 Z)(e0:T0.heap=h0)(Z0:n0≤h0.size)(N0:Fr n0 [])(hS:s.Since s.vm 0)(hC:CHv Z bu s.vm h0)(WO:jM Z cst fm em ro li el ke)(O0:Old Z n0 h0)(h5:1≤u5.toInt∧u5.toInt≤3)(h6:1≤u6.toInt∧u6.toInt≤3)(h7:1≤u7.toInt∧u7.toInt≤3) :
  Go p e below (gH s (gG n0) 48 3328) T0 (mkF m 39 #[.val (.int p0),.val (.int p1),.val (.int p2),.val (.int p3),.val (.int (3:Int32)),.val (.int u5),.val (.int u6),.val (.int u7),.unset,.unset,.unset,.unset,.unset,.unset] []):=by
 have hEL:=bW hw
 obtain⟨SX_,SR,zEm,zEr,zFn,zEl,zFe,zVe⟩:=WO
 have l12:(12:Int32).toInt=12:=by decide
 obtain⟨m0,hm0⟩:∃m:Nat,u5.toInt=(m:Int):=⟨u5.toInt.toNat,by omega⟩
 obtain⟨m1,hm1⟩:∃m:Nat,u6.toInt=(m:Int):=⟨u6.toInt.toNat,by omega⟩
 obtain⟨m2,hm2⟩:∃m:Nat,u7.toInt=(m:Int):=⟨u7.toInt.toNat,by omega⟩
 refine ae X0 hx 41 (hb hby at_39) rfl rfl ?_
 refine ac X0 hx (1:Int32) 42 (hb hby at_41) rfl (by decide) ?_
 have ll3044:((1:Int32):Int32).toInt=1:=by decide
 have ll3045:((3:Int32):Int32).toInt=3:=by decide
 refine an X0 hx 56 45 (hb hby at_42) (by decide) (by decide) rfl (fun c3043=>?_) (fun c3043=>?_)
 ·skip
  exfalso;revert c3043;decide
 ·skip
  refine aa X0 hx 46 (hb hby at_45) rfl rfl ?_
  refine ae X0 hx 48 (hb hby at_46) rfl rfl ?_
  refine ag X0 hx hZ hown (tw hw 92 rfl) (tw hw 93 rfl) (tw hw 3 rfl) (tw hw 94 rfl) (by decide) (cDo l Z a0 hw p1 u5 h0 n0 Z0) e0 (argsL:=[(.int p1),(.int u5)]) (rest:=[]) rfl rfl 0 51 rfl (by rw[hml];rfl) (lenOf b0 rfl) (Nat.le_refl _) (by decide) (by decide) (by decide) (by decide) (hb hby at_48) ?_
  intro v3046 T3046 L3046 X3046 hQ3046
  obtain⟨rd0,rfl,hd0,N3046,q3046⟩:=hQ3046
  have N3047:=Fr.app N0 N3046
  show Go _ _ _ _ _ (mkF _ _ _ [(.int rd0)])
  refine ax X3046 hx 56 54 (hb hby at_51) (by decide) (by decide) rfl (fun c3048=>?_) (fun c3048=>?_)
  ·skip
   have nd0:=hd0 c3048
   refine ae X3046 hx 58 (hb hby at_56) rfl rfl ?_
   refine ac X3046 hx (2:Int32) 59 (hb hby at_58) rfl (by decide) ?_
   have ll3050:((2:Int32):Int32).toInt=2:=by decide
   have ll3051:((3:Int32):Int32).toInt=3:=by decide
   refine an X3046 hx 73 62 (hb hby at_59) (by decide) (by decide) rfl (fun c3049=>?_) (fun c3049=>?_)
   ·skip
    exfalso;revert c3049;decide
   ·skip
    refine aa X3046 hx 63 (hb hby at_62) rfl rfl ?_
    refine ae X3046 hx 65 (hb hby at_63) rfl rfl ?_
    refine ag X3046 hx hZ hown (tw hw 92 rfl) (tw hw 93 rfl) (tw hw 3 rfl) (tw hw 94 rfl) (by decide) (cDo l Z a0 hw p2 u6 h0 n0 Z0) q3046 (argsL:=[(.int p2),(.int u6)]) (rest:=[]) rfl rfl 0 68 rfl (by rw[hml];rfl) (lenOf b0 rfl) (Nat.le_refl _) (by decide) (by decide) (by decide) (by decide) (hb hby at_65) ?_
    intro v3052 T3052 L3052 X3052 hQ3052
    obtain⟨rd1,rfl,hd1,N3052,q3052⟩:=hQ3052
    have N3053:=Fr.app N3047 N3052
    show Go _ _ _ _ _ (mkF _ _ _ [(.int rd1)])
    refine ax X3052 hx 73 71 (hb hby at_68) (by decide) (by decide) rfl (fun c3054=>?_) (fun c3054=>?_)
    ·skip
     have nd1:=hd1 c3054
     refine ae X3052 hx 75 (hb hby at_73) rfl rfl ?_
     refine ac X3052 hx (3:Int32) 76 (hb hby at_75) rfl (by decide) ?_
     have ll3056:((3:Int32):Int32).toInt=3:=by decide
     have ll3057:((3:Int32):Int32).toInt=3:=by decide
     refine an X3052 hx 90 79 (hb hby at_76) (by decide) (by decide) rfl (fun c3055=>?_) (fun c3055=>?_)
     ·skip
      exfalso;revert c3055;decide
     ·skip
      refine aa X3052 hx 80 (hb hby at_79) rfl rfl ?_
      refine ae X3052 hx 82 (hb hby at_80) rfl rfl ?_
      refine ag X3052 hx hZ hown (tw hw 92 rfl) (tw hw 93 rfl) (tw hw 3 rfl) (tw hw 94 rfl) (by decide) (cDo l Z a0 hw p3 u7 h0 n0 Z0) q3052 (argsL:=[(.int p3),(.int u7)]) (rest:=[]) rfl rfl 0 85 rfl (by rw[hml];rfl) (lenOf b0 rfl) (Nat.le_refl _) (by decide) (by decide) (by decide) (by decide) (hb hby at_82) ?_
      intro v3058 T3058 L3058 X3058 hQ3058
      obtain⟨rd2,rfl,hd2,N3058,q3058⟩:=hQ3058
      have N3059:=Fr.app N3053 N3058
      show Go _ _ _ _ _ (mkF _ _ _ [(.int rd2)])
      refine ax X3058 hx 90 88 (hb hby at_85) (by decide) (by decide) rfl (fun c3060=>?_) (fun c3060=>?_)
      ·skip
       have nd2:=hd2 c3060
       refine aj X3058 hx (12:Int32) 92 (hb hby at_90) rfl (by decide) ?_
       refine aO X3058 hx hZ (aty := .char) (tw hw 0 rfl) q3058 (by decide) (cap:=12) (by decide) (by decide) 94 (hb hby at_92) rfl (by decide) (by decide) (ad := "[C") (by decide) ?_
       intro T3061 h3061 k3061 a3061 g3061 X3061 e3061 E3061 V3061 A3061
       have ge3062:n0≤a3061:=by rw[g3061];exact Z0
       have sz3063:h0.size≤a3061:=by rw[g3061];exact (Keep.refl h0 []).1
       have F3064:=O0.ext E3061
       have K3065:=(Keep.refl h0 []).ext E3061
       have Z3066:n0≤h3061.size:=Nat.le_trans Z0 E3061.1
       have V3061':Arv Z h3061 a3061 k3061 .char (12:Int32) [(.int (0:Int32)),(.int (0:Int32)),(.int (0:Int32)),(.int (0:Int32)),(.int (0:Int32)),(.int (0:Int32)),(.int (0:Int32)),(.int (0:Int32)),(.int (0:Int32)),(.int (0:Int32)),(.int (0:Int32)),(.int (0:Int32))] (.int (0:Int32)):=V3061.pad (pad_rep [] (.int (0:Int32)) 12)
       refine aE (l':=#[.val (.int p0),.val (.int p1),.val (.int p2),.val (.int p3),.val (.int (3:Int32)),.val (.int u5),.val (.int u6),.val (.int u7),.val (.ref a3061),.unset,.unset,.unset,.unset,.unset]) X3061 hx 96 (hb hby at_94) rfl rfl rfl ?_
       refine ac X3061 hx (0:Int32) 97 (hb hby at_96) rfl (by decide) ?_
       refine ah (l':=#[.val (.int p0),.val (.int p1),.val (.int p2),.val (.int p3),.val (.int (3:Int32)),.val (.int u5),.val (.int u6),.val (.int u7),.val (.ref a3061),.val (.int (0:Int32)),.unset,.unset,.unset,.unset]) X3061 hx 99 (hb hby at_97) rfl rfl ?_
       refine al X3061 hx 101 (hb hby at_99) rfl rfl rfl ?_
       refine ae X3061 hx 103 (hb hby at_101) rfl rfl ?_
       refine aj X3061 hx (47:Int32) 105 (hb hby at_103) rfl (by decide) ?_
       have V3067:Arv Z h3061 a3061 k3061 .char 12 ((List.replicate 12 (0:Int32)).map Value.int) (.int 0):=V3061'
       refine aR X3061 hx hZ e3061 V3067 (0) (by decide) (by decide) (by decide) (47:Int32) (by decide) 106 (hb hby at_105) rfl ?_
       intro T3068 h3068 X3068 e3068 W3068 V3068
       have F3069:=F3064.wr W3068 ge3062
       have F3070:=A3061.wr W3068
       have K3072:=K3065.wr W3068 (Or.inr sz3063)
       have N3073:=Fr.snoc X3068 N3059 ge3062
       have Z3074:n0≤h3068.size:=by rw[W3068.size];exact Z3066
       have V3075:=V3068
       rw[bx] at V3075
       refine aw X3068 hx (w:=(1:Int32)) (1:Int32) (by decide) (l':=#[.val (.int p0),.val (.int p1),.val (.int p2),.val (.int p3),.val (.int (3:Int32)),.val (.int u5),.val (.int u6),.val (.int u7),.val (.ref a3061),.val (.int (1:Int32)),.unset,.unset,.unset,.unset]) 109 (hb hby at_106) rfl rfl (by decide) rfl ?_
       refine ae X3068 hx 111 (hb hby at_109) rfl rfl ?_
       refine ac X3068 hx (1:Int32) 112 (hb hby at_111) rfl (by decide) ?_
       have ll3077:((1:Int32):Int32).toInt=1:=by decide
       have ll3078:((3:Int32):Int32).toInt=3:=by decide
       refine an X3068 hx 127 115 (hb hby at_112) (by decide) (by decide) rfl (fun c3076=>?_) (fun c3076=>?_)
       ·skip
        exfalso;revert c3076;decide
       ·skip
        refine al X3068 hx 117 (hb hby at_115) rfl rfl rfl ?_
        refine ae X3068 hx 119 (hb hby at_117) rfl rfl ?_
        refine aa X3068 hx 120 (hb hby at_119) rfl rfl ?_
        refine ae X3068 hx 122 (hb hby at_120) rfl rfl ?_
        refine ag X3068 hx hZ hown (tw hw 98 rfl) (tw hw 99 rfl) (tw hw 3 rfl) (tw hw 100 rfl) (by decide) (cPt l Z a0 hw a3061 (1:Int32) p1 u5 h3068 n0 Z3074 k3061 ((List.replicate 12 (0:Int32)).set 0 47) (0+1) m0 V3075 ge3062 (by rw[List.length_set];exact (by decide)) (by decide) hm0 (by omega) (by omega) (by omega)) e3068 (argsL:=[(.ref a3061),(.int (1:Int32)),(.int p1),(.int u5)]) (rest:=[]) rfl rfl 0 125 rfl (by rw[hml];rfl) (lenOf b5 rfl) (Nat.le_refl _) (by decide) (by decide) (by decide) (by decide) (hb hby at_122) ?_
        intro v3079 T3079 L3079 X3079 hQ3079
        obtain⟨B0,r0,rfl,hr0,N3079,K3079,P0,V3079⟩:=hQ3079
        have N3080:=Fr.app N3073 N3079
        have F3081:=F3069.keep K3079 (allS ge3062 all0)
        have F3082:=F3070.keep K3079
        have Z3084:n0≤T3079.heap.size:=Nat.le_trans Z3074 K3079.1
        have K3085:=K3072.trans K3079 (allS (Or.inr sz3063) all0)
        show Go _ _ _ _ _ (mkF _ _ _ [(.int r0)])
        obtain⟨wa0,wb0,wc0⟩:=dP P0 (by decide)
        refine ah (l':=#[.val (.int p0),.val (.int p1),.val (.int p2),.val (.int p3),.val (.int (3:Int32)),.val (.int u5),.val (.int u6),.val (.int u7),.val (.ref a3061),.val (.int r0),.unset,.unset,.unset,.unset]) X3079 hx 127 (hb hby at_125) rfl rfl ?_
        refine ae X3079 hx 129 (hb hby at_127) rfl rfl ?_
        refine ac X3079 hx (2:Int32) 130 (hb hby at_129) rfl (by decide) ?_
        have ll3087:((2:Int32):Int32).toInt=2:=by decide
        have ll3088:((3:Int32):Int32).toInt=3:=by decide
        refine an X3079 hx 155 133 (hb hby at_130) (by decide) (by decide) rfl (fun c3086=>?_) (fun c3086=>?_)
        ·skip
         exfalso;revert c3086;decide
        ·skip
         refine al X3079 hx 135 (hb hby at_133) rfl rfl rfl ?_
         refine ae X3079 hx 137 (hb hby at_135) rfl rfl ?_
         refine aj X3079 hx (47:Int32) 139 (hb hby at_137) rfl (by decide) ?_
         refine aR X3079 hx hZ rfl V3079 ((0+1+m0)) hr0 (by omega) (by rw[List.length_map,P0.1];omega) (47:Int32) (by decide) 140 (hb hby at_139) rfl ?_
         intro T3089 h3089 X3089 e3089 W3089 V3089
         have F3090:=F3081.wr W3089 ge3062
         have F3091:=F3082.wr W3089
         have K3093:=K3085.wr W3089 (Or.inr sz3063)
         have N3094:=Fr.snoc X3089 N3080 ge3062
         have Z3095:n0≤h3089.size:=by rw[W3089.size];exact Z3084
         have V3096:=V3089
         rw[bx] at V3096
         refine a5 (w:=(1:Int32)) (l':=#[.val (.int p0),.val (.int p1),.val (.int p2),.val (.int p3),.val (.int (3:Int32)),.val (.int u5),.val (.int u6),.val (.int u7),.val (.ref a3061),.val (.int (r0+(1:Int32))),.unset,.unset,.unset,.unset]) X3089 hx 143 (hb hby at_140) rfl rfl (by decide) rfl ?_
         refine al X3089 hx 145 (hb hby at_143) rfl rfl rfl ?_
         refine ae X3089 hx 147 (hb hby at_145) rfl rfl ?_
         refine aa X3089 hx 148 (hb hby at_147) rfl rfl ?_
         refine ae X3089 hx 150 (hb hby at_148) rfl rfl ?_
         refine ag X3089 hx hZ hown (tw hw 98 rfl) (tw hw 99 rfl) (tw hw 3 rfl) (tw hw 100 rfl) (by decide) (cPt l Z a0 hw a3061 (r0+(1:Int32)) p2 u6 h3089 n0 Z3095 k3061 (B0.set (0+1+m0) 47) ((0+1+m0)+1) m1 V3096 ge3062 (by rw[List.length_set];exact P0.1) (aC hr0 (by omega)) hm1 (by omega) (by omega) (by omega)) e3089 (argsL:=[(.ref a3061),(.int (r0+(1:Int32))),(.int p2),(.int u6)]) (rest:=[]) rfl rfl 0 153 rfl (by rw[hml];rfl) (lenOf b5 rfl) (Nat.le_refl _) (by decide) (by decide) (by decide) (by decide) (hb hby at_150) ?_
         intro v3097 T3097 L3097 X3097 hQ3097
         obtain⟨B1,r1,rfl,hr1,N3097,K3097,P1,V3097⟩:=hQ3097
         have N3098:=Fr.app N3094 N3097
         have F3099:=F3090.keep K3097 (allS ge3062 all0)
         have F3100:=F3091.keep K3097
         have Z3102:n0≤T3097.heap.size:=Nat.le_trans Z3095 K3097.1
         have K3103:=K3093.trans K3097 (allS (Or.inr sz3063) all0)
         show Go _ _ _ _ _ (mkF _ _ _ [(.int r1)])
         obtain⟨wa1,wb1,wc1⟩:=dP P1 (by rw[P0.1];omega)
         refine ah (l':=#[.val (.int p0),.val (.int p1),.val (.int p2),.val (.int p3),.val (.int (3:Int32)),.val (.int u5),.val (.int u6),.val (.int u7),.val (.ref a3061),.val (.int r1),.unset,.unset,.unset,.unset]) X3097 hx 155 (hb hby at_153) rfl rfl ?_
         refine ae X3097 hx 157 (hb hby at_155) rfl rfl ?_
         refine ac X3097 hx (3:Int32) 158 (hb hby at_157) rfl (by decide) ?_
         have ll3105:((3:Int32):Int32).toInt=3:=by decide
         have ll3106:((3:Int32):Int32).toInt=3:=by decide
         refine an X3097 hx 183 161 (hb hby at_158) (by decide) (by decide) rfl (fun c3104=>?_) (fun c3104=>?_)
         ·skip
          exfalso;revert c3104;decide
         ·skip
          refine al X3097 hx 163 (hb hby at_161) rfl rfl rfl ?_
          refine ae X3097 hx 165 (hb hby at_163) rfl rfl ?_
          refine aj X3097 hx (47:Int32) 167 (hb hby at_165) rfl (by decide) ?_
          refine aR X3097 hx hZ rfl V3097 (((0+1+m0)+1+m1)) hr1 (by omega) (by rw[List.length_map,P1.1];omega) (47:Int32) (by decide) 168 (hb hby at_167) rfl ?_
          intro T3107 h3107 X3107 e3107 W3107 V3107
          have F3108:=F3099.wr W3107 ge3062
          have F3109:=F3100.wr W3107
          have K3111:=K3103.wr W3107 (Or.inr sz3063)
          have N3112:=Fr.snoc X3107 N3098 ge3062
          have Z3113:n0≤h3107.size:=by rw[W3107.size];exact Z3102
          have V3114:=V3107
          rw[bx] at V3114
          refine a5 (w:=(1:Int32)) (l':=#[.val (.int p0),.val (.int p1),.val (.int p2),.val (.int p3),.val (.int (3:Int32)),.val (.int u5),.val (.int u6),.val (.int u7),.val (.ref a3061),.val (.int (r1+(1:Int32))),.unset,.unset,.unset,.unset]) X3107 hx 171 (hb hby at_168) rfl rfl (by decide) rfl ?_
          refine al X3107 hx 173 (hb hby at_171) rfl rfl rfl ?_
          refine ae X3107 hx 175 (hb hby at_173) rfl rfl ?_
          refine aa X3107 hx 176 (hb hby at_175) rfl rfl ?_
          refine ae X3107 hx 178 (hb hby at_176) rfl rfl ?_
          refine ag X3107 hx hZ hown (tw hw 98 rfl) (tw hw 99 rfl) (tw hw 3 rfl) (tw hw 100 rfl) (by decide) (cPt l Z a0 hw a3061 (r1+(1:Int32)) p3 u7 h3107 n0 Z3113 k3061 (B1.set ((0+1+m0)+1+m1) 47) (((0+1+m0)+1+m1)+1) m2 V3114 ge3062 (by rw[List.length_set];exact P1.1) (aC hr1 (by omega)) hm2 (by omega) (by omega) (by omega)) e3107 (argsL:=[(.ref a3061),(.int (r1+(1:Int32))),(.int p3),(.int u7)]) (rest:=[]) rfl rfl 0 181 rfl (by rw[hml];rfl) (lenOf b5 rfl) (Nat.le_refl _) (by decide) (by decide) (by decide) (by decide) (hb hby at_178) ?_
          intro v3115 T3115 L3115 X3115 hQ3115
          obtain⟨B2,r2,rfl,hr2,N3115,K3115,P2,V3115⟩:=hQ3115
          have N3116:=Fr.app N3112 N3115
          have F3117:=F3108.keep K3115 (allS ge3062 all0)
          have F3118:=F3109.keep K3115
          have Z3120:n0≤T3115.heap.size:=Nat.le_trans Z3113 K3115.1
          have K3121:=K3111.trans K3115 (allS (Or.inr sz3063) all0)
          show Go _ _ _ _ _ (mkF _ _ _ [(.int r2)])
          obtain⟨wa2,wb2,wc2⟩:=dP P2 (by rw[P1.1];omega)
          refine ah (l':=#[.val (.int p0),.val (.int p1),.val (.int p2),.val (.int p3),.val (.int (3:Int32)),.val (.int u5),.val (.int u6),.val (.int u7),.val (.ref a3061),.val (.int r2),.unset,.unset,.unset,.unset]) X3115 hx 183 (hb hby at_181) rfl rfl ?_
          refine al X3115 hx 185 (hb hby at_183) rfl rfl rfl ?_
          refine ae X3115 hx 187 (hb hby at_185) rfl rfl ?_
          have z0:B2.getD 0 0=47:=by rw[wc2 _ (by omega)];rw[wc1 _ (by omega)];exact wa0
          have y0:∀j,j<m0→B2.getD (0+1+j) 0=chn p1 j:=fun j hj=>by rw[wc2 _ (by omega)];rw[wc1 _ (by omega)];exact wb0 j hj
          have z1:B2.getD (0+1+m0) 0=47:=by rw[wc2 _ (by omega)];exact wa1
          have y1:∀j,j<m1→B2.getD ((0+1+m0)+1+j) 0=chn p2 j:=fun j hj=>by rw[wc2 _ (by omega)];exact wb1 j hj
          have z2:B2.getD ((0+1+m0)+1+m1) 0=47:=by  exact wa2
          have y2:∀j,j<m2→B2.getD (((0+1+m0)+1+m1)+1+j) 0=chn p3 j:=fun j hj=>by  exact wb2 j hj
          have hch:∀j,j<(((0+1+m0)+1+m1)+1+m2)→a6 (B2.getD j 0):=fun j hj=>by
           rcases (show j=0∨(0+1≤j∧j<0+1+m0)∨j=(0+1+m0)∨((0+1+m0)+1≤j∧j<(0+1+m0)+1+m1)∨j=((0+1+m0)+1+m1)∨(((0+1+m0)+1+m1)+1≤j∧j<((0+1+m0)+1+m1)+1+m2) by omega) with rfl|hj|rfl|hj|rfl|hj
           ·exact cz z0
           ·have:=y0 (j-(0+1)) (by omega)
            rw[show 0+1+(j-(0+1))=j by omega] at this
            rw[this]
            exact (bw p1 _).1
           ·exact cz z1
           ·have:=y1 (j-((0+1+m0)+1)) (by omega)
            rw[show (0+1+m0)+1+(j-((0+1+m0)+1))=j by omega] at this
            rw[this]
            exact (bw p2 _).1
           ·exact cz z2
           ·have:=y2 (j-(((0+1+m0)+1+m1)+1)) (by omega)
            rw[show ((0+1+m0)+1+m1)+1+(j-(((0+1+m0)+1+m1)+1))=j by omega] at this
            rw[this]
            exact (bw p3 _).1
          refine ag X3115 hx hZ hown (tw hw 1 rfl) (tw hw 2 rfl) (tw hw 3 rfl) (tw hw 4 rfl) (by decide) (cTk l Z a0 hw a3061 r2 T3115.heap n0 Z3120 cst fm em SX_ F3117 k3061 B2 (((0+1+m0)+1+m1)+1+m2) V3115 P2.1 (by rw[hr2]) (by omega) (by omega) hch) rfl (argsL:=[(.ref a3061),(.int r2)]) (rest:=[]) rfl rfl 0 190 rfl (by rw[hml];rfl) (lenOf dT rfl) (Nat.le_refl _) (by decide) (by decide) (by decide) (by decide) (hb hby at_187) ?_
          intro v3122 T3122 L3122 X3122 hQ3122
          obtain⟨wr,cs,rfl,N3122,K3122,gw,sw,S,hlen,hcs⟩:=hQ3122
          have N3123:=Fr.app N3116 N3122
          have F3124:=F3117.keep K3122 all0
          have F3125:=F3118.keep K3122
          have F3126:=V3115.keep K3122 nin0
          have Z3127:n0≤T3122.heap.size:=Nat.le_trans Z3120 K3122.1
          have K3128:=K3121.trans K3122 all0
          show Go _ _ _ _ _ (mkF _ _ _ [(.ref wr)])
          have Ew:=S.exa
          have hs0:(cs.getD 0 0).toInt=47:=by
           rw[hcs 0 (by omega),z0]
           decide
          have H0:Nm cs 0 m0 p1:=⟨by omega,by omega,by rw[hcs _ (by omega),z0];decide,fun j hj=>by rw[hcs _ (by omega)];exact y0 j hj,fun z=>nd0.1 ⟨by omega,z.2⟩,fun z=>nd0.2 ⟨by omega,z.2⟩⟩
          have H1:Nm cs (0+1+m0) m1 p2:=⟨by omega,by omega,by rw[hcs _ (by omega),z1];decide,fun j hj=>by rw[hcs _ (by omega)];exact y1 j hj,fun z=>nd1.1 ⟨by omega,z.2⟩,fun z=>nd1.2 ⟨by omega,z.2⟩⟩
          have H2:Nm cs ((0+1+m0)+1+m1) m2 p3:=⟨by omega,by omega,by rw[hcs _ (by omega),z2];decide,fun j hj=>by rw[hcs _ (by omega)];exact y2 j hj,fun z=>nd2.1 ⟨by omega,z.2⟩,fun z=>nd2.2 ⟨by omega,z.2⟩⟩
          refine aE (l':=#[.val (.int p0),.val (.int p1),.val (.int p2),.val (.int p3),.val (.int (3:Int32)),.val (.int u5),.val (.int u6),.val (.int u7),.val (.ref a3061),.val (.int r2),.val (.ref wr),.unset,.unset,.unset]) X3122 hx 192 (hb hby at_190) rfl rfl rfl ?_
          refine al X3122 hx 194 (hb hby at_192) rfl rfl rfl ?_
          refine cL X3122 hx hZ hown (tw hw 34 rfl) (tw hw 35 rfl) (tw hw 36 rfl) (tw hw 37 rfl) (by decide) (Pz l Z a0 hw wr T3122.heap n0 Z3127 cst fm em SX_ F3124 ro SR _ _ cs S (Nat.le_refl _) hs0 p1 p2 p3 m0 m1 m2 (0+1+m0) ((0+1+m0)+1+m1) H0 H1 H2 rfl rfl hlen) rfl hS (Nat.zero_le _) hEL (CHv.keep K3128 all0 hC) (argsL:=[(.ref wr)]) (rest:=[]) rfl rfl 0 197 rfl (by rw[hml];rfl) (lenOf dU rfl) (Nat.le_refl _) (by decide) (by decide) (by decide) (by decide) (hb hby at_194) ?_
          intro v3129 T3129 L3129 X3129 hS hZ hown hQ3129
          obtain⟨pa,st,ks,s0,s1,s2,rfl,N3129,K3129,gp,sp,Ep,Fw,Fs,Fn,Vs,nst,hs0_,hs1_,hs2_⟩:=hQ3129
          have N3130:=Fr.app N3123 N3129
          have hK1:=K3129
          have sp0:=Nat.le_trans (K3128).1 sp
          have F3131:=F3124.keep K3129 all0
          have F3132:=Ew.keep K3129
          have Z3133:n0≤T3129.heap.size:=Nat.le_trans Z3127 K3129.1
          have K3134:=K3128.trans K3129 all0
          have S3135:=S.keep K3129 all0
          have hk:=Nat.le_refl T3129.heap.size
          show Go _ _ _ _ _ (mkF _ _ _ [(.ref pa)])
          have hBp:=sp
          refine aE (l':=#[.val (.int p0),.val (.int p1),.val (.int p2),.val (.int p3),.val (.int (3:Int32)),.val (.int u5),.val (.int u6),.val (.int u7),.val (.ref a3061),.val (.int r2),.val (.ref wr),.val (.ref pa),.unset,.unset]) X3129 hx 199 (hb hby at_197) rfl rfl rfl ?_
          refine al X3129 hx 201 (hb hby at_199) rfl rfl rfl ?_
          refine ak X3129 hx hZ (C:=sg0) hown (tw hw 73 rfl) (tw hw 74 rfl) (tw hw 76 rfl) (tw hw 76 rfl) (tw hw 75 rfl) (tw hw 36 rfl) (tw hw 77 rfl) (by decide) (Po l Z a0 hw pa T3129.heap n0 Z3133 cst fm em SX_ F3131 wr st ks s0 s1 s2 _ _ cs Ep Fw Fs Vs S3135 0 m0 (0+1+m0) m1 ((0+1+m0)+1+m1) m2 gp Fn (Nat.ne_of_lt (Nat.lt_of_lt_of_le S.2.1.2 sp)) nst sp (hK1).1 hs0_ (by omega) hs1_ (by omega) hs2_ (by omega) rfl rfl hlen) rfl (b:=pa) Ep (argsL:=[]) (rest:=[]) rfl rfl 0 204 rfl (by rw[hml];rfl) (lenOf cV rfl) (Nat.le_refl _) (by decide) (by decide) (by decide) (by decide) (hb hby at_201) ?_
          intro v3136 T3136 L3136 X3136 hQ3136
          obtain⟨r,o0,o1,o2,rfl,N3136,K3136,z0_,⟨Lw0,Bw0,S0⟩,z1_,⟨Lw1,Bw1,S1⟩,z2_,⟨Lw2,Bw2,S2⟩,L1_,el2,ke2,sel,L2_,L3_⟩:=hQ3136
          have N3137:=Fr.app N3130 N3136
          have F3138:=F3131.keep K3136 (allS gp all0)
          have F3139:=F3132.keep K3136
          have F3140:=Ep.keep K3136
          have Z3141:n0≤T3136.heap.size:=Nat.le_trans Z3133 K3136.1
          have K3142:=K3134.trans K3136 (allS (Or.inr sp0) all0)
          have S3143:=S3135.keep K3136 (allS (Or.inr hBp) all0)
          have K3144:=(Keep.refl T3129.heap [pa]).trans K3136 (allS (Or.inl (List.mem_of_getElem? (i:=0) rfl)) all0)
          show Go _ _ _ _ _ (mkF _ _ _ [(.ref r)])
          refine aE (l':=#[.val (.int p0),.val (.int p1),.val (.int p2),.val (.int p3),.val (.int (3:Int32)),.val (.int u5),.val (.int u6),.val (.int u7),.val (.ref a3061),.val (.int r2),.val (.ref wr),.val (.ref pa),.val (.ref r),.unset]) X3136 hx 206 (hb hby at_204) rfl rfl rfl ?_
          refine al X3136 hx 208 (hb hby at_206) rfl rfl rfl ?_
          refine bT X3136 hx hZ (C:=sg3) hown (tw hw 80 rfl) (tw hw 81 rfl) (mvT hZ (tw hw 82 rfl)) (tw hw 83 rfl) (tw hw 84 rfl) (tw hw 85 rfl) (tw hw 86 rfl) (tw hw 87 rfl) (tw hw 88 rfl) (tw hw 89 rfl) (by decide) (cZN l Z a0 hw r T3136.heap n0 Z3141 el2 ke2 3 _ L2_ L3_) rfl (b:=r) L1_ (argsL:=[]) (rest:=[]) rfl rfl 0 213 rfl (by rw[hml];rfl) (lenOf aF rfl) (Nat.le_refl _) (by decide) (by decide) (by decide) (by decide) (hb hby at_208) ?_
          intro v3145 T3145 L3145 X3145 hQ3145
          obtain⟨rfl,N3145,q3145⟩:=hQ3145
          have N3146:=Fr.app N3137 N3145
          show Go _ _ _ _ _ (mkF _ _ _ [(.int (3:Int32))])
          refine ae X3145 hx 215 (hb hby at_213) rfl rfl ?_
          have ll3148:((3:Int32):Int32).toInt=3:=by decide
          have ll3149:((3:Int32):Int32).toInt=3:=by decide
          refine av X3145 hx 222 218 (hb hby at_215) (by decide) (by decide) rfl (fun c3147=>?_) (fun c3147=>?_)
          ·skip
           exfalso;revert c3147;decide
          ·skip
           refine ac X3145 hx (1:Int32) 219 (hb hby at_218) rfl (by decide) ?_
           refine ap X3145 hx 223 (hb hby at_219) (by decide) (by decide) ?_
           refine ah (l':=#[.val (.int p0),.val (.int p1),.val (.int p2),.val (.int p3),.val (.int (3:Int32)),.val (.int u5),.val (.int u6),.val (.int u7),.val (.ref a3061),.val (.int r2),.val (.ref wr),.val (.ref pa),.val (.ref r),.val (.int (1:Int32))]) X3145 hx 225 (hb hby at_223) rfl rfl ?_
           refine ae X3145 hx 227 (hb hby at_225) rfl rfl ?_
           have ll3151:((1:Int32):Int32).toInt=1:=by decide
           refine ax X3145 hx 255 230 (hb hby at_227) (by decide) (by decide) rfl (fun c3150=>?_) (fun c3150=>?_)
           ·skip
            exfalso;revert c3150;decide
           ·skip
            refine ae X3145 hx 232 (hb hby at_230) rfl rfl ?_
            refine ac X3145 hx (1:Int32) 233 (hb hby at_232) rfl (by decide) ?_
            have ll3153:((1:Int32):Int32).toInt=1:=by decide
            have ll3154:((3:Int32):Int32).toInt=3:=by decide
            refine an X3145 hx 255 236 (hb hby at_233) (by decide) (by decide) rfl (fun c3152=>?_) (fun c3152=>?_)
            ·skip
             exfalso;revert c3152;decide
            ·skip
             refine al X3145 hx 238 (hb hby at_236) rfl rfl rfl ?_
             refine ac X3145 hx (0:Int32) 239 (hb hby at_238) rfl (by decide) ?_
             refine bT X3145 hx hZ (C:=sg3) hown (tw hw 240 rfl) (tw hw 241 rfl) (mvT hZ (tw hw 242 rfl)) (tw hw 243 rfl) (tw hw 244 rfl) (tw hw 245 rfl) (tw hw 246 rfl) (tw hw 87 rfl) (tw hw 88 rfl) (tw hw 247 rfl) (by decide) (cGN l Z a0 hw r (0:Int32) T3136.heap n0 Z3141 el2 ke2 3 _ o0 L2_ L3_ (by decide) (by decide) (by rw[show (0:Int32).toNatClampNeg=0 by decide]<;>rfl)) q3145 (b:=r) L1_ (argsL:=[(.int (0:Int32))]) (rest:=[]) rfl rfl 0 244 rfl (by rw[hml];rfl) (lenOf b_ rfl) (Nat.le_refl _) (by decide) (by decide) (by decide) (by decide) (hb hby at_239) ?_
             intro v3155 T3155 L3155 X3155 hQ3155
             obtain⟨rfl,N3155,q3155⟩:=hQ3155
             have N3156:=Fr.app N3146 N3155
             show Go _ _ _ _ _ (mkF _ _ _ [(.ref o0)])
             refine dd X3155 hx hZ hown (tw hw 5 rfl) q3155 (Ins.self S0.exa) 247 (hb hby at_244) rfl ?_
             intro T3157 X3157 e3157
             refine aa X3157 hx 248 (hb hby at_247) rfl rfl ?_
             refine ae X3157 hx 250 (hb hby at_248) rfl rfl ?_
             refine ag X3157 hx hZ hown (tw hw 248 rfl) (tw hw 249 rfl) (tw hw 3 rfl) (tw hw 250 rfl) (by decide) (cSm l Z a0 hw o0 p1 u5 T3136.heap n0 Z3141 cst fm em SX_ F3138 _ _ _ S0 (by rw[aK (by omega)];exact hm0) (fun j hj=>by rw[aK (by omega)] at hj;rw[bq hj];exact H0.2.2.2.1 j hj)) e3157 (argsL:=[(.ref o0),(.int p1),(.int u5)]) (rest:=[]) rfl rfl 0 253 rfl (by rw[hml];rfl) (lenOf cb rfl) (Nat.le_refl _) (by decide) (by decide) (by decide) (by decide) (hb hby at_250) ?_
             intro v3158 T3158 L3158 X3158 hQ3158
             obtain⟨rfl,N3158,q3158⟩:=hQ3158
             have N3159:=Fr.app N3156 N3158
             show Go _ _ _ _ _ (mkF _ _ _ [(.int (1:Int32))])
             refine ah (l':=#[.val (.int p0),.val (.int p1),.val (.int p2),.val (.int p3),.val (.int (3:Int32)),.val (.int u5),.val (.int u6),.val (.int u7),.val (.ref a3061),.val (.int r2),.val (.ref wr),.val (.ref pa),.val (.ref r),.val (.int (1:Int32))]) X3158 hx 255 (hb hby at_253) rfl rfl ?_
             refine ae X3158 hx 257 (hb hby at_255) rfl rfl ?_
             have ll3161:((1:Int32):Int32).toInt=1:=by decide
             refine ax X3158 hx 285 260 (hb hby at_257) (by decide) (by decide) rfl (fun c3160=>?_) (fun c3160=>?_)
             ·skip
              exfalso;revert c3160;decide
             ·skip
              refine ae X3158 hx 262 (hb hby at_260) rfl rfl ?_
              refine ac X3158 hx (2:Int32) 263 (hb hby at_262) rfl (by decide) ?_
              have ll3163:((2:Int32):Int32).toInt=2:=by decide
              have ll3164:((3:Int32):Int32).toInt=3:=by decide
              refine an X3158 hx 285 266 (hb hby at_263) (by decide) (by decide) rfl (fun c3162=>?_) (fun c3162=>?_)
              ·skip
               exfalso;revert c3162;decide
              ·skip
               refine al X3158 hx 268 (hb hby at_266) rfl rfl rfl ?_
               refine ac X3158 hx (1:Int32) 269 (hb hby at_268) rfl (by decide) ?_
               refine bT X3158 hx hZ (C:=sg3) hown (tw hw 240 rfl) (tw hw 241 rfl) (mvT hZ (tw hw 242 rfl)) (tw hw 243 rfl) (tw hw 244 rfl) (tw hw 245 rfl) (tw hw 246 rfl) (tw hw 87 rfl) (tw hw 88 rfl) (tw hw 247 rfl) (by decide) (cGN l Z a0 hw r (1:Int32) T3136.heap n0 Z3141 el2 ke2 3 _ o1 L2_ L3_ (by decide) (by decide) (by rw[show (1:Int32).toNatClampNeg=1 by decide]<;>rfl)) q3158 (b:=r) L1_ (argsL:=[(.int (1:Int32))]) (rest:=[]) rfl rfl 0 274 rfl (by rw[hml];rfl) (lenOf b_ rfl) (Nat.le_refl _) (by decide) (by decide) (by decide) (by decide) (hb hby at_269) ?_
               intro v3165 T3165 L3165 X3165 hQ3165
               obtain⟨rfl,N3165,q3165⟩:=hQ3165
               have N3166:=Fr.app N3159 N3165
               show Go _ _ _ _ _ (mkF _ _ _ [(.ref o1)])
               refine dd X3165 hx hZ hown (tw hw 5 rfl) q3165 (Ins.self S1.exa) 277 (hb hby at_274) rfl ?_
               intro T3167 X3167 e3167
               refine aa X3167 hx 278 (hb hby at_277) rfl rfl ?_
               refine ae X3167 hx 280 (hb hby at_278) rfl rfl ?_
               refine ag X3167 hx hZ hown (tw hw 248 rfl) (tw hw 249 rfl) (tw hw 3 rfl) (tw hw 250 rfl) (by decide) (cSm l Z a0 hw o1 p2 u6 T3136.heap n0 Z3141 cst fm em SX_ F3138 _ _ _ S1 (by rw[aK (by omega)];exact hm1) (fun j hj=>by rw[aK (by omega)] at hj;rw[bq hj];exact H1.2.2.2.1 j hj)) e3167 (argsL:=[(.ref o1),(.int p2),(.int u6)]) (rest:=[]) rfl rfl 0 283 rfl (by rw[hml];rfl) (lenOf cb rfl) (Nat.le_refl _) (by decide) (by decide) (by decide) (by decide) (hb hby at_280) ?_
               intro v3168 T3168 L3168 X3168 hQ3168
               obtain⟨rfl,N3168,q3168⟩:=hQ3168
               have N3169:=Fr.app N3166 N3168
               show Go _ _ _ _ _ (mkF _ _ _ [(.int (1:Int32))])
               refine ah (l':=#[.val (.int p0),.val (.int p1),.val (.int p2),.val (.int p3),.val (.int (3:Int32)),.val (.int u5),.val (.int u6),.val (.int u7),.val (.ref a3061),.val (.int r2),.val (.ref wr),.val (.ref pa),.val (.ref r),.val (.int (1:Int32))]) X3168 hx 285 (hb hby at_283) rfl rfl ?_
               refine ae X3168 hx 287 (hb hby at_285) rfl rfl ?_
               have ll3171:((1:Int32):Int32).toInt=1:=by decide
               refine ax X3168 hx 315 290 (hb hby at_287) (by decide) (by decide) rfl (fun c3170=>?_) (fun c3170=>?_)
               ·skip
                exfalso;revert c3170;decide
               ·skip
                refine ae X3168 hx 292 (hb hby at_290) rfl rfl ?_
                refine ac X3168 hx (3:Int32) 293 (hb hby at_292) rfl (by decide) ?_
                have ll3173:((3:Int32):Int32).toInt=3:=by decide
                have ll3174:((3:Int32):Int32).toInt=3:=by decide
                refine an X3168 hx 315 296 (hb hby at_293) (by decide) (by decide) rfl (fun c3172=>?_) (fun c3172=>?_)
                ·skip
                 exfalso;revert c3172;decide
                ·skip
                 refine al X3168 hx 298 (hb hby at_296) rfl rfl rfl ?_
                 refine ac X3168 hx (2:Int32) 299 (hb hby at_298) rfl (by decide) ?_
                 refine bT X3168 hx hZ (C:=sg3) hown (tw hw 240 rfl) (tw hw 241 rfl) (mvT hZ (tw hw 242 rfl)) (tw hw 243 rfl) (tw hw 244 rfl) (tw hw 245 rfl) (tw hw 246 rfl) (tw hw 87 rfl) (tw hw 88 rfl) (tw hw 247 rfl) (by decide) (cGN l Z a0 hw r (2:Int32) T3136.heap n0 Z3141 el2 ke2 3 _ o2 L2_ L3_ (by decide) (by decide) (by rw[show (2:Int32).toNatClampNeg=2 by decide]<;>rfl)) q3168 (b:=r) L1_ (argsL:=[(.int (2:Int32))]) (rest:=[]) rfl rfl 0 304 rfl (by rw[hml];rfl) (lenOf b_ rfl) (Nat.le_refl _) (by decide) (by decide) (by decide) (by decide) (hb hby at_299) ?_
                 intro v3175 T3175 L3175 X3175 hQ3175
                 obtain⟨rfl,N3175,q3175⟩:=hQ3175
                 have N3176:=Fr.app N3169 N3175
                 show Go _ _ _ _ _ (mkF _ _ _ [(.ref o2)])
                 refine dd X3175 hx hZ hown (tw hw 5 rfl) q3175 (Ins.self S2.exa) 307 (hb hby at_304) rfl ?_
                 intro T3177 X3177 e3177
                 refine aa X3177 hx 308 (hb hby at_307) rfl rfl ?_
                 refine ae X3177 hx 310 (hb hby at_308) rfl rfl ?_
                 refine ag X3177 hx hZ hown (tw hw 248 rfl) (tw hw 249 rfl) (tw hw 3 rfl) (tw hw 250 rfl) (by decide) (cSm l Z a0 hw o2 p3 u7 T3136.heap n0 Z3141 cst fm em SX_ F3138 _ _ _ S2 (by rw[aK (by omega)];exact hm2) (fun j hj=>by rw[aK (by omega)] at hj;rw[bq hj];exact H2.2.2.2.1 j hj)) e3177 (argsL:=[(.ref o2),(.int p3),(.int u7)]) (rest:=[]) rfl rfl 0 313 rfl (by rw[hml];rfl) (lenOf cb rfl) (Nat.le_refl _) (by decide) (by decide) (by decide) (by decide) (hb hby at_310) ?_
                 intro v3178 T3178 L3178 X3178 hQ3178
                 obtain⟨rfl,N3178,q3178⟩:=hQ3178
                 have N3179:=Fr.app N3176 N3178
                 show Go _ _ _ _ _ (mkF _ _ _ [(.int (1:Int32))])
                 refine ah (l':=#[.val (.int p0),.val (.int p1),.val (.int p2),.val (.int p3),.val (.int (3:Int32)),.val (.int u5),.val (.int u6),.val (.int u7),.val (.ref a3061),.val (.int r2),.val (.ref wr),.val (.ref pa),.val (.ref r),.val (.int (1:Int32))]) X3178 hx 315 (hb hby at_313) rfl rfl ?_
                 refine ae X3178 hx 317 (hb hby at_315) rfl rfl ?_
                 exact bv X3178 hx hlk hret (hb hby at_317) (by decide) (by decide) q3178 hS (Nat.le_trans hk (K3144).1) ⟨rfl,N3179⟩
      ·skip
       refine ac X3058 hx (1:Int32) 89 (hb hby at_88) rfl (by decide) ?_
       exact bv X3058 hx hlk hret (hb hby at_89) (by decide) (by decide) q3058 hS (Nat.zero_le _) ⟨rfl,N3059⟩
    ·skip
     refine ac X3052 hx (1:Int32) 72 (hb hby at_71) rfl (by decide) ?_
     exact bv X3052 hx hlk hret (hb hby at_72) (by decide) (by decide) q3052 hS (Nat.zero_le _) ⟨rfl,N3053⟩
  ·skip
   refine ac X3046 hx (1:Int32) 55 (hb hby at_54) rfl (by decide) ?_
   exact bv X3046 hx hlk hret (hb hby at_55) (by decide) (by decide) q3046 hS (Nat.zero_le _) ⟨rfl,N3047⟩
theorem ou:plainFor x=true:=plainFor_of_name (show plainName sg5=true by first|(simp [plainName,overriddenIn];done)|decide +kernel)
theorem Hm (p0:Int32)(p1:Int32)(p2:Int32)(p3:Int32)(m:MethodId):entryFrame m #[(.int p0),(.int p1),(.int p2),(.int p3)] maxLocals=mkF m 0 #[.val (.int p0),.val (.int p1),.val (.int p2),.val (.int p3),.unset,.unset,.unset,.unset,.unset,.unset,.unset,.unset,.unset,.unset] []:=by first|(simp [entryFrame,mkF,argsToLocals,Value.category,maxLocals];done)|rfl
theorem rm0 (l:Launch)(Z:State)(a0:Array Value)(hw:HW a0 Z)(ws:List Jvm.Cond)(p0:Int32)(p1:Int32)(p2:Int32)(p3:Int32)(h0:Heap)(n0:Nat)(Z0:n0≤h0.size)(cst:Int32)(fm:Option Addr)(em ro li el:Addr)(ke:ClassId)(WO:jM Z cst fm em ro li el ke)(O0:Old Z n0 h0) :
  MetFree l x (head1 (Jvm.Cond.code x code maxLocals ret::ws) room_1) (fun as_ U=>as_=#[(.int p0),(.int p1),(.int p2),(.int p3)]∧Z.Warmed39 U.vm∧U.heap=h0∧CHv Z bu U.vm h0) (fun _ _ _ _ _=>True) (fun _ U o U'=>∃v L,o = .returned v∧gG n0 v U'.heap L∧ReturnedEndW U o U' L 48 3328):=by
 refine cE ou (Hm p0 p1 p2 p3) ?_
 intro p e s m below meth c T0 X0 hx hby hml hret hlk hnm hown hZ e0 hS hC
 have N0:=Fr.nil n0
 refine aa X0 hx 1 (hb hby at_0) rfl rfl ?_
 refine ac X0 hx (3:Int32) 2 (hb hby at_1) rfl (by decide) ?_
 refine bs X0 hx 3 (hb hby at_2) rfl ?_
 refine ah (l':=#[.val (.int p0),.val (.int p1),.val (.int p2),.val (.int p3),.val (.int (p0&&&(3:Int32))),.unset,.unset,.unset,.unset,.unset,.unset,.unset,.unset,.unset]) X0 hx 5 (hb hby at_3) rfl rfl ?_
 refine ac X0 hx (1:Int32) 6 (hb hby at_5) rfl (by decide) ?_
 refine aa X0 hx 7 (hb hby at_6) rfl rfl ?_
 refine ac X0 hx (2:Int32) 8 (hb hby at_7) rfl (by decide) ?_
 refine cm X0 hx 9 (hb hby at_8) rfl ?_
 refine ac X0 hx (3:Int32) 10 (hb hby at_9) rfl (by decide) ?_
 refine bs X0 hx 11 (hb hby at_10) rfl ?_
 refine ac X0 hx (3:Int32) 12 (hb hby at_11) rfl (by decide) ?_
 refine hH X0 hx 13 (hb hby at_12) rfl (by decide) ?_
 refine aQ X0 hx 14 (hb hby at_13) rfl ?_
 refine ah (l':=#[.val (.int p0),.val (.int p1),.val (.int p2),.val (.int p3),.val (.int (p0&&&(3:Int32))),.val (.int ((1:Int32)+((((p0.toUInt32>>>((2:Int32)&&&31).toUInt32).toInt32)&&&(3:Int32)) % (3:Int32)))),.unset,.unset,.unset,.unset,.unset,.unset,.unset,.unset]) X0 hx 16 (hb hby at_14) rfl rfl ?_
 refine ac X0 hx (1:Int32) 17 (hb hby at_16) rfl (by decide) ?_
 refine aa X0 hx 18 (hb hby at_17) rfl rfl ?_
 refine ac X0 hx (4:Int32) 19 (hb hby at_18) rfl (by decide) ?_
 refine cm X0 hx 20 (hb hby at_19) rfl ?_
 refine ac X0 hx (3:Int32) 21 (hb hby at_20) rfl (by decide) ?_
 refine bs X0 hx 22 (hb hby at_21) rfl ?_
 refine ac X0 hx (3:Int32) 23 (hb hby at_22) rfl (by decide) ?_
 refine hH X0 hx 24 (hb hby at_23) rfl (by decide) ?_
 refine aQ X0 hx 25 (hb hby at_24) rfl ?_
 refine ah (l':=#[.val (.int p0),.val (.int p1),.val (.int p2),.val (.int p3),.val (.int (p0&&&(3:Int32))),.val (.int ((1:Int32)+((((p0.toUInt32>>>((2:Int32)&&&31).toUInt32).toInt32)&&&(3:Int32)) % (3:Int32)))),.val (.int ((1:Int32)+((((p0.toUInt32>>>((4:Int32)&&&31).toUInt32).toInt32)&&&(3:Int32)) % (3:Int32)))),.unset,.unset,.unset,.unset,.unset,.unset,.unset]) X0 hx 27 (hb hby at_25) rfl rfl ?_
 refine ac X0 hx (1:Int32) 28 (hb hby at_27) rfl (by decide) ?_
 refine aa X0 hx 29 (hb hby at_28) rfl rfl ?_
 refine aj X0 hx (6:Int32) 31 (hb hby at_29) rfl (by decide) ?_
 refine cm X0 hx 32 (hb hby at_31) rfl ?_
 refine ac X0 hx (3:Int32) 33 (hb hby at_32) rfl (by decide) ?_
 refine bs X0 hx 34 (hb hby at_33) rfl ?_
 refine ac X0 hx (3:Int32) 35 (hb hby at_34) rfl (by decide) ?_
 refine hH X0 hx 36 (hb hby at_35) rfl (by decide) ?_
 refine aQ X0 hx 37 (hb hby at_36) rfl ?_
 refine ah (l':=#[.val (.int p0),.val (.int p1),.val (.int p2),.val (.int p3),.val (.int (p0&&&(3:Int32))),.val (.int ((1:Int32)+((((p0.toUInt32>>>((2:Int32)&&&31).toUInt32).toInt32)&&&(3:Int32)) % (3:Int32)))),.val (.int ((1:Int32)+((((p0.toUInt32>>>((4:Int32)&&&31).toUInt32).toInt32)&&&(3:Int32)) % (3:Int32)))),.val (.int ((1:Int32)+((((p0.toUInt32>>>((6:Int32)&&&31).toUInt32).toInt32)&&&(3:Int32)) % (3:Int32)))),.unset,.unset,.unset,.unset,.unset,.unset]) X0 hx 39 (hb hby at_37) rfl rfl ?_
 have h4:=eB p0
 generalize (p0&&&(3:Int32))=u4 at h4 ⊢
 have h5:=eC ((p0.toUInt32>>>((2:Int32)&&&31).toUInt32).toInt32)
 generalize ((1:Int32)+((((p0.toUInt32>>>((2:Int32)&&&31).toUInt32).toInt32)&&&(3:Int32)) % (3:Int32)))=u5 at h5 ⊢
 have h6:=eC ((p0.toUInt32>>>((4:Int32)&&&31).toUInt32).toInt32)
 generalize ((1:Int32)+((((p0.toUInt32>>>((4:Int32)&&&31).toUInt32).toInt32)&&&(3:Int32)) % (3:Int32)))=u6 at h6 ⊢
 have h7:=eC ((p0.toUInt32>>>((6:Int32)&&&31).toUInt32).toInt32)
 generalize ((1:Int32)+((((p0.toUInt32>>>((6:Int32)&&&31).toUInt32).toInt32)&&&(3:Int32)) % (3:Int32)))=u7 at h7 ⊢
 obtain rfl|rfl|rfl|rfl:u4=0∨u4=1∨u4=2∨u4=3:=by
  rcases (show u4.toInt=0∨u4.toInt=1∨u4.toInt=2∨u4.toInt=3 by omega) with q|q|q|q
  ·exact Or.inl (cF (by rw[q];decide))
  ·exact Or.inr (Or.inl (cF (by rw[q];decide)))
  ·exact Or.inr (Or.inr (Or.inl (cF (by rw[q];decide))))
  ·exact Or.inr (Or.inr (Or.inr (cF (by rw[q];decide))))
 ·exact OG X0 hx hby hml hret hlk hown hZ hw e0 Z0 N0 hS hC WO O0 h5 h6 h7
 ·exact OH X0 hx hby hml hret hlk hown hZ hw e0 Z0 N0 hS hC WO O0 h5 h6 h7
 ·exact OI X0 hx hby hml hret hlk hown hZ hw e0 Z0 N0 hS hC WO O0 h5 h6 h7
 ·exact OJ X0 hx hby hml hret hlk hown hZ hw e0 Z0 N0 hS hC WO O0 h5 h6 h7
theorem ov {Z:State}{a0:Array Value}{t:Term}{em:Addr}{cl:Cell}{v:Value}(ev:t.eval a0 Z none [] Z=some (.ref em))(at_:Z.arrayAt? em=some cl)(q:(Term.length t).eval a0 Z none [] Z=some v):cl.slots.size<2 ^ 31:=by
 refine Decidable.byContradiction fun hn=>?_
 have hn':¬cl.slots.size<2147483648:=hn
 simp [Term.eval,ev,at_,hn'] at q
theorem ni {Z:State}{a0:Array Value}{t:Term}{a:Addr}{cl:Cell}{ty:FieldType}{z:Int32}(ev:t.eval a0 Z none [] Z=some (.ref a))(A:Arr Z Z.heap a cl ty)(w:(Jvm.Cond.eq (Jvm.Term.length t) (Jvm.Term.int z)).value a0 Z none Z []=some true)(n:Nat)(hz:z.toInt=n):cl.slots.size=n:=by
 have q:=eqv_i (F:=Jvm.Term.int z) (Term.int_eval z) w
 have at_:=Arr.fin (Vm.Alike.refl _) A
 have h2:=ov ev at_ q
 have h3:cl.slots.size.toInt32=z:=Value.int.inj (Option.some.inj ((len_f ev at_ h2).symm.trans q))
 have h4:=len_toInt h2
 rw[h3] at h4
 omega
theorem nj {Z:State}{a:Addr}{cl:Cell}{ty:FieldType}{dv:Value}(A:Arr Z Z.heap a cl ty)(n:Nat)(S:cl.slots.size=n)(z:Int32)(hz:z.toNatClampNeg=n)(hz':¬z<0)(vs:List Value)(hl:vs.length=n)(H:HasL cl 0 vs)(hf:∀v∈vs,fits ty v=true):Arv Z Z.heap a cl.cls ty z vs dv:=by
 refine⟨cl,A,rfl,S.trans hz.symm,hz',fun j hj=>?_,fun j hj=>?_⟩
 ·have:=HasL.at (dv:=dv) vs 0 H j (by omega)
  rwa [Nat.zero_add] at this
 ·have hj':j<vs.length:=by omega
  rw[List.getD_eq_getElem?_getD,List.getElem?_eq_getElem hj']
  exact hf _ (List.getElem_mem hj')
theorem ow {Z:State}{a0:Array Value}(hw:HW a0 Z)(hn:narrow_1.value a0 Z none Z []=some true)(hr:rest_1_c.value a0 Z none Z []=some true):∃(cst:Int32)(fm:Option Addr)(em ro li el:Addr)(ke:ClassId),jM Z cst fm em ro li el ke:=by
 obtain⟨u0,v0⟩:=and_e (show rest_1_c.value a0 Z none Z []=some true from hr)
 obtain⟨u1,v1⟩:=and_e v0
 obtain⟨u2,v2⟩:=and_e v1
 obtain⟨u3,v3⟩:=and_e v2
 obtain⟨u4,v4⟩:=and_e v3
 obtain⟨u5,v5⟩:=and_e v4
 obtain⟨u6,v6⟩:=and_e v5
 obtain⟨u7,v7⟩:=and_e v6
 obtain⟨u8,v8⟩:=and_e v7
 obtain⟨u9,v9⟩:=and_e v8
 obtain⟨u10,v10⟩:=and_e v9
 obtain⟨u11,v11⟩:=and_e v10
 obtain⟨u12,v12⟩:=and_e v11
 obtain⟨u13,v13⟩:=and_e v12
 obtain⟨u14,v14⟩:=and_e v13
 obtain⟨u15,v15⟩:=and_e v14
 obtain⟨u16,v16⟩:=and_e v15
 obtain⟨u17,v17⟩:=and_e v16
 obtain⟨u18,v18⟩:=and_e v17
 obtain⟨u19,v19⟩:=and_e v18
 obtain⟨u20,v20⟩:=and_e v19
 obtain⟨u21,v21⟩:=and_e v20
 obtain⟨u22,v22⟩:=and_e v21
 obtain⟨u23,v23⟩:=and_e v22
 obtain⟨u24,v24⟩:=and_e v23
 obtain⟨u25,v25⟩:=and_e v24
 obtain⟨u26,v26⟩:=and_e v25
 obtain⟨u27,v27⟩:=and_e v26
 obtain⟨n0,m0⟩:=and_e (show narrow_1.value a0 Z none Z []=some true from hn)
 obtain⟨n1,m1⟩:=and_e m0
 obtain⟨n2,m2⟩:=and_e m1
 have n3:=m2
 obtain⟨cst,ec⟩:=is_v u1
 have hc:cst≠0:=fun q=>by subst q;simp [Cond.value,ec,Term.int_eval] at u2
 have SC:=Sta.start ec (Or.inl (Cond.before_iff.mpr u0))
 obtain⟨fv,ef,rf⟩:=isR_v u8
 obtain⟨fm,rfl⟩:∃fm,fv=bp fm:=by
  rcases ref_cases rf with rfl|⟨q,rfl⟩
  ·exact⟨none,rfl⟩
  ·exact⟨some q,rfl⟩
 have SF:=Sta.start ef (Or.inl (Cond.before_iff.mpr u7))
 obtain⟨em,ee⟩:=exa_v u11
 have SE:=Sta.start ee (Or.inl (Cond.before_iff.mpr u10))
 have zEm:=Exa.start ee u11
 have SA:=Sta.start (eqv_i (Term.int_eval _) u21) (Or.inl (Cond.before_iff.mpr u20))
 have SH:=Sta.start (eqv_i (Term.int_eval _) u24) (Or.inl (Cond.before_iff.mpr u23))
 have SL:=Sta.start (eqv_i (Term.int_eval _) u27) (Or.inl (Cond.before_iff.mpr u26))
 obtain⟨ro,er⟩:=exa_v n0
 have SR:=Sta.start er (Or.inr ⟨(tw hw 36 rfl),(tw hw 71 rfl)⟩)
 have zEr:=Exa.start er n0
 obtain⟨li,el⟩:=exa_v n1
 have zFn:=Fld.start ((fld_at er).symm.trans el)
 have zEl:=Exa.start el n1
 obtain⟨ea,eea⟩:=arr_v n2
 have zFe:=Fld.start ((fld_at el).symm.trans eea)
 obtain⟨ca,Ac⟩:=Arr.start eea n2
 have zVe:Arv Z Z.heap ea ca.cls (.object sg6) 0 [] .null:=nj Ac 0 (ni eea Ac n3 0 (by decide)) 0 (by decide) (by decide) [] rfl trivial (by simp)
 exact⟨cst,fm,em,ro,li,ea,ca.cls,⟨hc,SC,SF,SA,SH,SL,SE⟩,SR,zEm,zEr,zFn,zEl,zFe,zVe⟩
theorem ox {Z:State}{a0:Array Value}(hw:HW a0 Z)(hh:Jvm.Pilot.@@N@@.Jvm.D.constsHeld consts_1 Z)(hr:rest_1_c.value a0 Z none Z []=some true):CHv Z bu Z.vm Z.heap:=by
 obtain⟨u0,v0⟩:=and_e (show rest_1_c.value a0 Z none Z []=some true from hr)
 obtain⟨u1,v1⟩:=and_e v0
 obtain⟨u2,v2⟩:=and_e v1
 exact CHv.start (bW hw) (fun q hq=>hh q hq) (Cond.before_iff.mpr u2) (tw hw 23 rfl) (tw hw 6 rfl)
theorem jF {Post:Tables→Env→Array Value→State→Outcome→State→Prop}(hpost:∀tb e args s v u,(limb_1_1.after args s (.returned v) u=true∧limb_1_2.after args s (.returned v) u=true∧True)→ReturnedEndW s (.returned v) u (Jvm.fieldLocs frame_1_writes args s++Jvm.arrayLocs frame_1_arrays args s++Jvm.staticLocs frame_1_statics s) 48 3328→Post tb e args s (.returned v) u) :
  ArmFor flags0 classFile x code maxLocals ret World_1 tables_1 room_1 Calls_1 rest_1 Pre_1 Post:=by
 intro l hfl _ _ p e ha hc hk s m args below hf hA hF happ hP
 obtain⟨hcalls,hrest,hpre⟩:=hP
 obtain⟨-,-,-,hnamed,-,-,-,hat⟩:=(Spec.applies_iff hf).mp happ
 obtain⟨hg,hn⟩:=and_e (Cond.before_iff.mp (show (Jvm.Cond.and given_1 narrow_1).before args s=true from hpre))
 obtain⟨h1,g0⟩:=and_e hg
 obtain⟨t0,g1⟩:=and_e g0
 obtain⟨t1,g2⟩:=and_e g1
 obtain⟨t2,g3⟩:=and_e g2
 have t3:=g3
 obtain⟨w0,w1,w2,w3,rfl⟩:∃w0 w1 w2 w3:Value,args=#[w0,w1,w2,w3]:=by
  have hs:args.size=4:=by simpa [Cond.value,given_1] using h1
  obtain⟨L⟩:=args
  match L,hs with
  | [w0,w1,w2,w3],_=>exact⟨w0,w1,w2,w3,rfl⟩
 have hw:=fun d (hd:d∈tables_1)=>atoms_spec (ws:=Jvm.Cond.code x code maxLocals ret::tables_1) hat d (List.mem_cons_of_mem _ hd)
 have hr_:rest_1_c.value _ s none s []=some true:=Cond.before_iff.mp (show rest_1_c.before _ s=true from hrest)
 obtain⟨cst,fm,em,ro,li,el,ke,WO⟩:=ow hw hn hr_
 have hCv0:=ox hw hcalls.1 hr_
 obtain⟨i0,e0⟩:=is_v t0
 obtain rfl:w0=(.int i0):=Option.some.inj e0
 obtain⟨i1,e1⟩:=is_v t1
 obtain rfl:w1=(.int i1):=Option.some.inj e1
 obtain⟨i2,e2⟩:=is_v t2
 obtain rfl:w2=(.int i2):=Option.some.inj e2
 obtain⟨i3,e3⟩:=is_v t3
 obtain rfl:w3=(.int i3):=Option.some.inj e3
 obtain⟨n,o,h1,h2,h3,_,L,rfl,⟨rfl,N⟩,hq⟩:=rm0 l s _ hw tables_1 i0 i1 i2 i3 s.heap s.heap.size (Nat.le_refl _) cst fm em ro li el ke WO (Old.start s) p e ha hc hk s m _ below hf ((Spec.applies_iff_loose hf).mp happ).1 ⟨rfl,State.Warmed39.refl s,rfl,hCv0⟩ trivial
 refine⟨n,_,h1,h2,h3,hpost _ _ _ _ _ _ ⟨Cond.after_iff.mpr rfl,Cond.after_iff.mpr (eq_i res_at (Term.int_eval (1)) rfl),trivial⟩ ⟨hq.1,hq.2.1,hq.2.2.1,(hq.2.2.2.sift fun y hy=>Or.inr (N y hy)).mono (by decide) (by decide)⟩⟩
theorem main_1_1:Claimed_1_1:=jF fun _ _ _ _ _ _ h hF=>⟨h.1,hF⟩
theorem main_1_2:Claimed_1_2:=jF fun _ _ _ _ _ _ h hF=>⟨h.2.1,hF⟩
end Jvm.Pilot.@@N@@
namespace Jvm.Pilot.@@N@@
open Jvm Jvm.ClassFile Sem Op Lib Jvm.Free Jvm.Stand Jvm.Pilot.@@N@@.Jvm.D
/-! MADE BY PROGRAM (witnessworld.py) out of the Statement's table words and the real class files: 37 classes;the members and pool entries that the words name. The judged class is class 1,her method 6. -/
namespace start1
open Jvm.ClassFile
def u (s:String):CpInfo := .utf8 (stringToUtf16 s)
def gap:Nat→List CpInfo→List CpInfo
 | 0,r=>r
 | n+1,r => .unusable::gap n r
def poolList (es:List (Nat×CpInfo))(last:Nat):List CpInfo:=es.foldr (fun e r=>gap e.1 (e.2::r)) (gap last [])
def pool (es:List (Nat×CpInfo))(last:Nat):Array CpInfo:=⟨poolList es last⟩
def fileOf (pool:Array CpInfo)(this:Nat)(attrs:Array Attribute:=#[])(ms:Array MethodInfo:=#[])(fl:Nat:=33)(sup:Nat:=0)(ifs:Array Nat:=#[])(fds:Array FieldInfo:=#[]):ClassFile where
 minorVersion:=0
 majorVersion:=65
 constantPool:=pool
 accessFlags:=fl
 thisClass:=this
 superClass:=sup
 interfaces:=ifs
 fields:=fds
 methods:=ms
 attributes:=attrs
def plain (name:String)(sup:Option ClassId):Class where
 name:=name
 kind := .ordinary
 loader:=none
 accessFlags:=33
 super:=sup
 interfaces:=#[]
 cf:=none
 fields:=#[]
 methods:=#[]
 instanceTypes:=#[]
 staticTypes:=#[]
 resolved:=#[]
 callSites:=[]
 init := .initialized
 statics:=none
 mirror:=none

def pool0:Array CpInfo:=pool [(5,u "<init>"),(0,u "()V"),(1,.class_ 10),(1,u "java/lang/Object")] 113

def k0c0:Code:={ maxStack:=0,maxLocals:=1,code:=object_method_1_code,exceptionTable:=#[],attributes:=#[] }
def k0m0:Method:={ name := "<init>",desc := "()V",sig:={ parameters:=[],returnType:=none },accessFlags:=1,code:=some k0c0 }
def k0:Class:={ plain "java/lang/Object" none with
 accessFlags:=33
 interfaces:=#[]
 cf:=some (fileOf pool0 8 #[] #[⟨1,5,6,#[]⟩] 33 0 #[] #[])
 fields:=#[]
 methods:=#[k0m0]
 instanceTypes:=#[]
 staticTypes:=#[]
 resolved:=Array.replicate 124 none
 statics:=none }

def pool1:Array CpInfo:=pool [(2,.class_ 4),(1,u "java/lang/Object"),(0,u "<init>"),(0,u "()V"),(0,.methodref 8 9),(0,.class_ 10),(0,.nameAndType 11 12),(0,u "com/example/hierarchical_roles/hierarchicalroles/ResourcePathParsePinLaw"),(0,u "ch"),(0,u "(II)C"),(0,.methodref 14 15),(0,.class_ 16),(0,.nameAndType 17 18),(0,u "java/lang/String"),(0,u "length"),(0,u "()I"),(0,.methodref 14 20),(0,.nameAndType 21 22),(0,u "charAt"),(0,u "(I)C"),(0,.methodref 14 24),(0,.nameAndType 5 25),(0,u "([C)V"),(0,.methodref 8 27),(0,.nameAndType 28 29),(0,u "dots"),(0,u "(II)Z"),(0,.methodref 8 31),(0,.nameAndType 32 33),(0,u "put"),(0,u "([CIII)I"),(0,.methodref 8 35),(0,.nameAndType 36 37),(0,u "take"),(0,u "([CI)Ljava/lang/String;"),(0,.methodref 39 40),(0,.class_ 41),(0,.nameAndType 42 43),(0,u "com/example/hierarchical_roles/hierarchicalroles/ResourcePath"),(0,u "parse"),(0,u "(Ljava/lang/String;)Lcom/example/hierarchical_roles/hierarchicalroles/ResourcePath;"),(0,.methodref 39 45),(0,.nameAndType 46 47),(0,u "names"),(0,u "()Ljava/util/List;"),(0,.interfaceMethodref 49 50),(0,.class_ 51),(0,.nameAndType 52 18),(0,u "java/util/List"),(0,u "size"),(0,.interfaceMethodref 49 54),(0,.nameAndType 55 56),(0,u "get"),(0,u "(I)Ljava/lang/Object;"),(0,.methodref 8 58),(0,.nameAndType 59 60),(0,u "same"),(0,u "(Ljava/lang/String;II)Z"),(3,u "law"),(0,u "(IIII)Z")] 4

def k1m0:Method:={ name := "<init>",desc := "()V",sig:={ parameters:=[],returnType:=none },accessFlags:=1,code:=none }
def k1c1:Code:={ maxStack:=3,maxLocals:=3,code:=method_2_code,exceptionTable:=#[],attributes:=#[] }
def k1m1:Method:={ name := "ch",desc := "(II)C",sig:={ parameters:=[.int,.int],returnType:=some .char },accessFlags:=10,code:=some k1c1 }
def k1c2:Code:={ maxStack:=2,maxLocals:=2,code:=method_3_code,exceptionTable:=#[],attributes:=#[] }
def k1m2:Method:={ name := "dots",desc := "(II)Z",sig:={ parameters:=[.int,.int],returnType:=some .boolean },accessFlags:=10,code:=some k1c2 }
def k1c3:Code:={ maxStack:=4,maxLocals:=4,code:=method_4_code,exceptionTable:=#[],attributes:=#[] }
def k1m3:Method:={ name := "put",desc := "([CIII)I",sig:={ parameters:=[(.array .char),.int,.int,.int],returnType:=some .int },accessFlags:=10,code:=some k1c3 }
def k1c4:Code:={ maxStack:=3,maxLocals:=3,code:=method_5_code,exceptionTable:=#[],attributes:=#[] }
def k1m4:Method:={ name := "same",desc := "(Ljava/lang/String;II)Z",sig:={ parameters:=[(.object "java/lang/String"),.int,.int],returnType:=some .boolean },accessFlags:=10,code:=some k1c4 }
def k1c5:Code:={ maxStack:=7,maxLocals:=2,code:=method_6_code,exceptionTable:=#[],attributes:=#[] }
def k1m5:Method:={ name := "take",desc := "([CI)Ljava/lang/String;",sig:={ parameters:=[(.array .char),.int],returnType:=some (.object "java/lang/String") },accessFlags:=10,code:=some k1c5 }
def k1c6:Code:={ maxStack:=4,maxLocals:=14,code:=code,exceptionTable:=#[],attributes:=#[] }
def k1m6:Method:={ name := "law",desc := "(IIII)Z",sig:={ parameters:=[.int,.int,.int,.int],returnType:=some .boolean },accessFlags:=9,code:=some k1c6 }
def k1:Class:={ plain "com/example/hierarchical_roles/hierarchicalroles/ResourcePathParsePinLaw" (some 0) with
 accessFlags:=49
 interfaces:=#[]
 cf:=some (fileOf pool1 8 #[] #[⟨1,5,6,#[]⟩,⟨10,11,12,#[]⟩,⟨10,28,29,#[]⟩,⟨10,32,33,#[]⟩,⟨10,59,60,#[]⟩,⟨10,36,37,#[]⟩,⟨9,64,65,#[]⟩] 49 2 #[] #[])
 fields:=#[]
 methods:=#[k1m0,k1m1,k1m2,k1m3,k1m4,k1m5,k1m6]
 instanceTypes:=#[]
 staticTypes:=#[]
 resolved:=Array.replicate 70 none
 statics:=none }

def pool2:Array CpInfo:=pool [(1,.class_ 2),(0,u "java/io/Serializable"),(0,.class_ 4),(0,u "java/lang/Object")] 2

def k2:Class:={ plain "java/io/Serializable" (some 0) with
 accessFlags:=1537
 interfaces:=#[]
 cf:=some (fileOf pool2 1 #[] #[] 1537 3 #[] #[])
 fields:=#[]
 methods:=#[]
 instanceTypes:=#[]
 staticTypes:=#[]
 resolved:=Array.replicate 7 none
 statics:=none }

def pool3:Array CpInfo:=pool [(1,.class_ 2),(0,u "java/lang/Comparable"),(0,.class_ 4),(0,u "java/lang/Object")] 7

def k3:Class:={ plain "java/lang/Comparable" (some 0) with
 accessFlags:=1537
 interfaces:=#[]
 cf:=some (fileOf pool3 1 #[] #[] 1537 3 #[] #[])
 fields:=#[]
 methods:=#[]
 instanceTypes:=#[]
 staticTypes:=#[]
 resolved:=Array.replicate 12 none
 statics:=none }

def pool4:Array CpInfo:=pool [(2,.class_ 4),(1,u "java/lang/CharSequence"),(42,.class_ 48),(0,u "java/lang/CharSequence$1CodePointIterator"),(10,.class_ 60),(0,u "java/lang/CharSequence$1CharIterator"),(5,.class_ 67),(0,u "java/lang/Object")] 63

def k4:Class:={ plain "java/lang/CharSequence" (some 0) with
 accessFlags:=1537
 interfaces:=#[]
 cf:=some (fileOf pool4 2 #[.nestMembers #[47,59]] #[] 1537 66 #[] #[])
 fields:=#[]
 methods:=#[]
 instanceTypes:=#[]
 staticTypes:=#[]
 resolved:=Array.replicate 131 none
 statics:=none }

def pool5:Array CpInfo:=pool [(1,.class_ 2),(0,u "java/lang/constant/Constable"),(0,.class_ 4),(0,u "java/lang/Object")] 6

def k5:Class:={ plain "java/lang/constant/Constable" (some 0) with
 accessFlags:=1537
 interfaces:=#[]
 cf:=some (fileOf pool5 1 #[] #[] 1537 3 #[] #[])
 fields:=#[]
 methods:=#[]
 instanceTypes:=#[]
 staticTypes:=#[]
 resolved:=Array.replicate 11 none
 statics:=none }

def pool6:Array CpInfo:=pool [(1,.class_ 2),(0,u "java/lang/constant/ConstantDesc"),(0,.class_ 4),(0,u "java/lang/Object")] 32

def k6:Class:={ plain "java/lang/constant/ConstantDesc" (some 0) with
 accessFlags:=1537
 interfaces:=#[]
 cf:=some (fileOf pool6 1 #[] #[] 1537 3 #[] #[])
 fields:=#[]
 methods:=#[]
 instanceTypes:=#[]
 staticTypes:=#[]
 resolved:=Array.replicate 37 none
 statics:=none }

def pool7:Array CpInfo:=pool [(1,.methodref 2 3),(0,.class_ 4),(0,.nameAndType 5 6),(0,u "java/lang/Object"),(0,u "<init>"),(0,u "()V"),(2,.fieldref 10 11),(0,.class_ 12),(0,.nameAndType 13 14),(0,u "java/lang/String"),(0,u "value"),(0,u "[B"),(0,.fieldref 10 16),(0,.nameAndType 17 18),(0,u "coder"),(0,u "B"),(2,u "hash"),(0,u "I"),(2,u "hashIsZero"),(0,u "Z"),(0,.methodref 10 28),(0,.nameAndType 5 29),(0,u "([CIILjava/lang/Void;)V"),(6,u "checkBoundsOffCount"),(0,u "(III)I"),(0,.fieldref 10 39),(0,.nameAndType 40 26),(0,u "COMPACT_STRINGS"),(1,.class_ 44),(1,u "java/lang/StringUTF16"),(0,u "compress"),(1,.methodref 42 48),(0,.nameAndType 49 50),(0,u "coderFromArrayLen"),(0,u "([BI)B"),(56,.class_ 109),(1,u "java/lang/StringLatin1"),(32,u "()Z"),(34,.methodref 42 178),(0,.nameAndType 45 179),(0,u "([CII)[B"),(31,u "([BB)V"),(122,u "()I"),(0,.methodref 10 336),(0,.nameAndType 17 337),(0,u "()B"),(22,.methodref 42 361),(0,.nameAndType 362 363),(0,u "getChar"),(0,u "([BI)C"),(12,u "([BI[BII)I"),(14,u "(II)V"),(35,u "(I)C"),(64,.methodref 10 493),(0,.nameAndType 494 142),(0,u "isLatin1"),(0,.methodref 107 496),(0,.nameAndType 497 363),(0,u "charAt"),(0,.methodref 42 496),(2,u "checkIndex"),(3,.methodref 10 506),(0,.nameAndType 507 334),(0,u "length"),(5,u "checkFromToIndex"),(7,.methodref 10 522),(0,.nameAndType 523 524),(0,u "checkBoundsBeginEnd"),(0,u "(III)V"),(34,.class_ 561),(1,u "jdk/internal/util/ArraysSupport"),(0,u "mismatch"),(12,.class_ 576),(0,u "java/lang/CharSequence"),(22,u "CASE_INSENSITIVE_ORDER"),(0,u "Ljava/util/Comparator;"),(6,.methodref 559 608),(0,.nameAndType 562 376),(15,.methodref 10 625),(0,.nameAndType 626 627),(0,u "startsWith"),(0,u "(Ljava/lang/String;I)Z"),(7,u "indexOf"),(0,u "(II)I"),(0,.methodref 107 638),(0,.nameAndType 635 639),(0,u "([BIII)I"),(0,.methodref 42 638),(42,u "substring"),(0,u "(II)Ljava/lang/String;"),(0,.methodref 107 686),(0,.nameAndType 687 688),(0,u "newString"),(0,u "([BII)Ljava/lang/String;"),(0,.methodref 42 686),(320,u "([C)V"),(42,.fieldref 1054 1055),(0,.class_ 1056),(0,.nameAndType 1057 1058),(0,u "jdk/internal/util/Preconditions"),(0,u "SIOOBE_FORMATTER"),(0,u "Ljava/util/function/BiFunction;"),(0,.methodref 1054 1060),(0,.nameAndType 501 1061),(0,u "(IILjava/util/function/BiFunction;)I"),(0,.methodref 1054 1063),(0,.nameAndType 513 1064),(0,u "(IIILjava/util/function/BiFunction;)I"),(0,.methodref 1054 1066),(0,.nameAndType 1067 1064),(0,u "checkFromIndexSize"),(33,u "serialPersistentFields"),(0,u "[Ljava/io/ObjectStreamField;"),(0,.class_ 1104),(0,u "java/lang/String$CaseInsensitiveComparator"),(1,.class_ 1107),(0,u "java/io/Serializable"),(0,.class_ 1109),(0,u "java/lang/Comparable"),(0,.class_ 1111),(0,u "java/lang/constant/Constable"),(0,.class_ 1113),(0,u "java/lang/constant/ConstantDesc"),(2,u "serialVersionUID"),(0,u "J"),(3,u "REPL"),(0,u "C"),(2,u "LATIN1"),(1,u "UTF16"),(129,u "(Ljava/lang/String;)Z")] 193

def k7m0:Method:={ name := "<init>",desc := "()V",sig:={ parameters:=[],returnType:=none },accessFlags:=1,code:=none }
def k7c1:Code:={ maxStack:=5,maxLocals:=2,code:=jdk_42_method_3_code,exceptionTable:=#[],attributes:=#[] }
def k7m1:Method:={ name := "<init>",desc := "([C)V",sig:={ parameters:=[(.array .char)],returnType:=none },accessFlags:=1,code:=some k7c1 }
def k7c2:Code:={ maxStack:=2,maxLocals:=1,code:=jdk_42_method_54_code,exceptionTable:=#[],attributes:=#[] }
def k7m2:Method:={ name := "length",desc := "()I",sig:={ parameters:=[],returnType:=some .int },accessFlags:=1,code:=some k7c2 }
def k7c3:Code:={ maxStack:=2,maxLocals:=2,code:=jdk_42_method_56_code,exceptionTable:=#[],attributes:=#[] }
def k7m3:Method:={ name := "charAt",desc := "(I)C",sig:={ parameters:=[.int],returnType:=some .char },accessFlags:=1,code:=some k7c3 }
def k7c4:Code:={ maxStack:=5,maxLocals:=8,code:=jdk_42_method_75_code,exceptionTable:=#[],attributes:=#[] }
def k7m4:Method:={ name := "startsWith",desc := "(Ljava/lang/String;I)Z",sig:={ parameters:=[(.object "java/lang/String"),.int],returnType:=some .boolean },accessFlags:=1,code:=some k7c4 }
def k7c5:Code:={ maxStack:=3,maxLocals:=2,code:=jdk_42_method_76_code,exceptionTable:=#[],attributes:=#[] }
def k7m5:Method:={ name := "startsWith",desc := "(Ljava/lang/String;)Z",sig:={ parameters:=[(.object "java/lang/String")],returnType:=some .boolean },accessFlags:=1,code:=some k7c5 }
def k7c6:Code:={ maxStack:=4,maxLocals:=3,code:=jdk_42_method_80_code,exceptionTable:=#[],attributes:=#[] }
def k7m6:Method:={ name := "indexOf",desc := "(II)I",sig:={ parameters:=[.int,.int],returnType:=some .int },accessFlags:=1,code:=some k7c6 }
def k7c7:Code:={ maxStack:=3,maxLocals:=5,code:=jdk_42_method_92_code,exceptionTable:=#[],attributes:=#[] }
def k7m7:Method:={ name := "substring",desc := "(II)Ljava/lang/String;",sig:={ parameters:=[.int,.int],returnType:=some (.object "java/lang/String") },accessFlags:=1,code:=some k7c7 }
def k7c8:Code:={ maxStack:=4,maxLocals:=6,code:=jdk_42_method_149_code,exceptionTable:=#[],attributes:=#[] }
def k7m8:Method:={ name := "<init>",desc := "([CIILjava/lang/Void;)V",sig:={ parameters:=[(.array .char),.int,.int,(.object "java/lang/Void")],returnType:=none },accessFlags:=2,code:=some k7c8 }
def k7c9:Code:={ maxStack:=2,maxLocals:=3,code:=jdk_42_method_151_code,exceptionTable:=#[],attributes:=#[] }
def k7m9:Method:={ name := "<init>",desc := "([BB)V",sig:={ parameters:=[(.array .byte),.byte],returnType:=none },accessFlags:=0,code:=some k7c9 }
def k7c10:Code:={ maxStack:=1,maxLocals:=1,code:=jdk_42_method_152_code,exceptionTable:=#[],attributes:=#[] }
def k7m10:Method:={ name := "coder",desc := "()B",sig:={ parameters:=[],returnType:=some .byte },accessFlags:=0,code:=some k7c10 }
def k7c11:Code:={ maxStack:=1,maxLocals:=1,code:=jdk_42_method_154_code,exceptionTable:=#[],attributes:=#[] }
def k7m11:Method:={ name := "isLatin1",desc := "()Z",sig:={ parameters:=[],returnType:=some .boolean },accessFlags:=0,code:=some k7c11 }
def k7c12:Code:={ maxStack:=3,maxLocals:=2,code:=jdk_42_method_155_code,exceptionTable:=#[],attributes:=#[] }
def k7m12:Method:={ name := "checkIndex",desc := "(II)V",sig:={ parameters:=[.int,.int],returnType:=none },accessFlags:=8,code:=some k7c12 }
def k7c13:Code:={ maxStack:=4,maxLocals:=3,code:=jdk_42_method_157_code,exceptionTable:=#[],attributes:=#[] }
def k7m13:Method:={ name := "checkBoundsOffCount",desc := "(III)I",sig:={ parameters:=[.int,.int,.int],returnType:=some .int },accessFlags:=8,code:=some k7c13 }
def k7c14:Code:={ maxStack:=4,maxLocals:=3,code:=jdk_42_method_158_code,exceptionTable:=#[],attributes:=#[] }
def k7m14:Method:={ name := "checkBoundsBeginEnd",desc := "(III)V",sig:={ parameters:=[.int,.int,.int],returnType:=none },accessFlags:=8,code:=some k7c14 }
def k7:Class:={ plain "java/lang/String" (some 0) with
 accessFlags:=49
 interfaces:=#[2,3,4,5,6]
 cf:=some (fileOf pool7 10 #[.nestMembers #[1103]] #[⟨1,5,6,#[]⟩,⟨1,5,1010,#[]⟩,⟨1,507,334,#[]⟩,⟨1,497,427,#[]⟩,⟨1,626,627,#[]⟩,⟨1,626,1257,#[]⟩,⟨1,635,636,#[]⟩,⟨1,683,684,#[]⟩,⟨2,5,29,#[]⟩,⟨0,5,211,#[]⟩,⟨0,17,337,#[]⟩,⟨0,494,142,#[]⟩,⟨8,501,391,#[]⟩,⟨8,36,37,#[]⟩,⟨8,523,524,#[]⟩] 49 2 #[1106,1108,575,1110,1112] #[⟨18,13,14,#[]⟩,⟨18,17,18,#[]⟩,⟨2,21,22,#[]⟩,⟨2,25,26,#[]⟩,⟨26,1116,1117,#[]⟩,⟨24,40,26,#[]⟩,⟨26,1101,1102,#[]⟩,⟨26,1121,1122,#[]⟩,⟨25,599,600,#[]⟩,⟨24,1125,18,#[]⟩,⟨24,1127,18,#[]⟩])
 fields:=#[⟨"value",(.array .byte),18,0,0⟩,⟨"coder",.byte,18,1,0⟩,⟨"hash",.int,2,2,0⟩,⟨"hashIsZero",.boolean,2,3,0⟩,⟨"serialVersionUID",.long,26,0,0⟩,⟨"COMPACT_STRINGS",.boolean,24,1,0⟩,⟨"serialPersistentFields",(.array (.object "java/io/ObjectStreamField")),26,2,0⟩,⟨"REPL",.char,26,3,0⟩,⟨"CASE_INSENSITIVE_ORDER",(.object "java/util/Comparator"),25,4,0⟩,⟨"LATIN1",.byte,24,5,0⟩,⟨"UTF16",.byte,24,6,0⟩]
 methods:=#[k7m0,k7m1,k7m2,k7m3,k7m4,k7m5,k7m6,k7m7,k7m8,k7m9,k7m10,k7m11,k7m12,k7m13,k7m14]
 instanceTypes:=#[(.array .byte),.byte,.int,.boolean]
 staticTypes:=#[.long,.boolean,(.array (.object "java/io/ObjectStreamField")),.char,(.object "java/util/Comparator"),.byte,.byte]
 resolved:=Array.replicate 1451 none
 statics:=some 0 }

def pool8:Array CpInfo:=pool [(3,.class_ 4),(0,u "java/lang/String"),(1,.class_ 8),(1,u "java/lang/Object"),(0,u "<init>"),(0,u "()V"),(0,.methodref 12 13),(0,.class_ 14),(0,.nameAndType 15 16),(0,u "java/lang/StringUTF16"),(0,u "newBytesLength"),(0,u "(I)I"),(3,.integer 1073741823),(23,.fieldref 12 45),(0,.nameAndType 46 47),(0,u "$assertionsDisabled"),(0,u "Z"),(0,.methodref 12 49),(0,.nameAndType 50 51),(0,u "length"),(0,u "([B)I"),(7,.fieldref 12 60),(0,.nameAndType 61 62),(0,u "HI_BYTE_SHIFT"),(0,u "I"),(0,.fieldref 12 64),(0,.nameAndType 65 62),(0,u "LO_BYTE_SHIFT"),(1,.methodref 12 68),(0,.nameAndType 69 70),(0,u "checkIndex"),(0,u "(I[B)V"),(0,.methodref 12 72),(0,.nameAndType 73 74),(0,u "getChar"),(0,u "([BI)C"),(21,.methodref 12 97),(0,.nameAndType 98 99),(0,u "checkBoundsBeginEnd"),(0,u "(II[B)V"),(7,.methodref 12 108),(0,.nameAndType 109 110),(0,u "newBytesFor"),(0,u "(I)[B"),(0,.methodref 12 112),(0,.nameAndType 113 114),(0,u "putChar"),(0,u "([BII)V"),(0,.methodref 12 116),(0,.nameAndType 117 118),(0,u "compress"),(0,u "([CI[BII)I"),(0,.methodref 12 120),(0,.nameAndType 121 122),(0,u "toBytes"),(0,u "([CII)[B"),(0,.methodref 12 124),(0,.nameAndType 117 125),(0,u "([BI[BII)I"),(0,.methodref 127 128),(0,.class_ 129),(0,.nameAndType 130 131),(0,u "java/util/Arrays"),(0,u "copyOfRange"),(0,u "([BII)[B"),(41,.methodref 12 174),(0,.nameAndType 175 99),(0,u "checkBoundsOffCount"),(7,.methodref 184 185),(0,.class_ 186),(0,.nameAndType 187 188),(0,u "java/lang/Math"),(0,u "min"),(0,u "(II)I"),(35,.methodref 184 225),(0,.nameAndType 226 188),(0,u "max"),(0,.integer 65536),(0,.methodref 12 229),(0,.nameAndType 230 231),(0,u "indexOfChar"),(0,u "([BIII)I"),(9,.methodref 3 242),(0,.nameAndType 98 243),(0,u "(III)V"),(0,.methodref 12 245),(0,.nameAndType 246 231),(0,u "indexOfCharUnsafe"),(4,.fieldref 3 252),(0,.nameAndType 253 47),(0,u "COMPACT_STRINGS"),(3,.methodref 12 258),(0,.nameAndType 117 131),(0,.methodref 12 260),(0,.nameAndType 261 262),(0,u "coderFromArrayLen"),(0,u "([BI)B"),(0,.methodref 3 264),(0,.nameAndType 9 265),(0,u "([BB)V"),(2,u "indexOf"),(12,u "(III)I"),(45,u "newString"),(0,u "([BII)Ljava/lang/String;"),(40,.class_ 371),(1,u "java/lang/StringUTF16$LinesSpliterator"),(20,u "charAt"),(21,.methodref 3 415),(0,.nameAndType 69 416),(0,u "(II)V"),(2,.methodref 3 420),(0,.nameAndType 175 281),(9,u "MAX_LENGTH"),(196,.class_ 628),(0,u "java/lang/StringUTF16$CodePointsSpliterator"),(0,.class_ 630),(0,u "java/lang/StringUTF16$CharsSpliterator")] 4

def k8m0:Method:={ name := "<init>",desc := "()V",sig:={ parameters:=[],returnType:=none },accessFlags:=0,code:=none }
def k8c1:Code:={ maxStack:=1,maxLocals:=1,code:=jdk_52_method_2_code,exceptionTable:=#[],attributes:=#[] }
def k8m1:Method:={ name := "newBytesFor",desc := "(I)[B",sig:={ parameters:=[.int],returnType:=some (.array .byte) },accessFlags:=9,code:=some k8c1 }
def k8c2:Code:={ maxStack:=4,maxLocals:=1,code:=jdk_52_method_3_code,exceptionTable:=#[],attributes:=#[] }
def k8m2:Method:={ name := "newBytesLength",desc := "(I)I",sig:={ parameters:=[.int],returnType:=some .int },accessFlags:=9,code:=some k8c2 }
def k8c3:Code:={ maxStack:=4,maxLocals:=3,code:=jdk_52_method_4_code,exceptionTable:=#[],attributes:=#[] }
def k8m3:Method:={ name := "putChar",desc := "([BII)V",sig:={ parameters:=[(.array .byte),.int,.int],returnType:=none },accessFlags:=8,code:=some k8c3 }
def k8c4:Code:={ maxStack:=3,maxLocals:=2,code:=jdk_52_method_5_code,exceptionTable:=#[],attributes:=#[] }
def k8m4:Method:={ name := "getChar",desc := "([BI)C",sig:={ parameters:=[(.array .byte),.int],returnType:=some .char },accessFlags:=8,code:=some k8c4 }
def k8c5:Code:={ maxStack:=2,maxLocals:=1,code:=jdk_52_method_6_code,exceptionTable:=#[],attributes:=#[] }
def k8m5:Method:={ name := "length",desc := "([B)I",sig:={ parameters:=[(.array .byte)],returnType:=some .int },accessFlags:=9,code:=some k8c5 }
def k8c6:Code:={ maxStack:=4,maxLocals:=5,code:=jdk_52_method_14_code,exceptionTable:=#[],attributes:=#[] }
def k8m6:Method:={ name := "toBytes",desc := "([CII)[B",sig:={ parameters:=[(.array .char),.int,.int],returnType:=some (.array .byte) },accessFlags:=9,code:=some k8c6 }
def k8c7:Code:={ maxStack:=2,maxLocals:=2,code:=jdk_52_method_15_code,exceptionTable:=#[],attributes:=#[] }
def k8m7:Method:={ name := "coderFromArrayLen",desc := "([BI)B",sig:={ parameters:=[(.array .byte),.int],returnType:=some .byte },accessFlags:=8,code:=some k8c7 }
def k8c8:Code:={ maxStack:=5,maxLocals:=6,code:=jdk_52_method_16_code,exceptionTable:=#[],attributes:=#[] }
def k8m8:Method:={ name := "compress",desc := "([CII)[B",sig:={ parameters:=[(.array .char),.int,.int],returnType:=some (.array .byte) },accessFlags:=9,code:=some k8c8 }
def k8c9:Code:={ maxStack:=5,maxLocals:=6,code:=jdk_52_method_17_code,exceptionTable:=#[],attributes:=#[] }
def k8m9:Method:={ name := "compress",desc := "([BII)[B",sig:={ parameters:=[(.array .byte),.int,.int],returnType:=some (.array .byte) },accessFlags:=9,code:=some k8c9 }
def k8c10:Code:={ maxStack:=3,maxLocals:=7,code:=jdk_52_method_21_code,exceptionTable:=#[],attributes:=#[] }
def k8m10:Method:={ name := "compress",desc := "([CI[BII)I",sig:={ parameters:=[(.array .char),.int,(.array .byte),.int,.int],returnType:=some .int },accessFlags:=9,code:=some k8c10 }
def k8c11:Code:={ maxStack:=3,maxLocals:=7,code:=jdk_52_method_22_code,exceptionTable:=#[],attributes:=#[] }
def k8m11:Method:={ name := "compress",desc := "([BI[BII)I",sig:={ parameters:=[(.array .byte),.int,(.array .byte),.int,.int],returnType:=some .int },accessFlags:=9,code:=some k8c11 }
def k8c12:Code:={ maxStack:=4,maxLocals:=4,code:=jdk_52_method_40_code,exceptionTable:=#[],attributes:=#[] }
def k8m12:Method:={ name := "indexOf",desc := "([BIII)I",sig:={ parameters:=[(.array .byte),.int,.int,.int],returnType:=some .int },accessFlags:=9,code:=some k8c12 }
def k8c13:Code:={ maxStack:=4,maxLocals:=4,code:=jdk_52_method_47_code,exceptionTable:=#[],attributes:=#[] }
def k8m13:Method:={ name := "indexOfChar",desc := "([BIII)I",sig:={ parameters:=[(.array .byte),.int,.int,.int],returnType:=some .int },accessFlags:=10,code:=some k8c13 }
def k8c14:Code:={ maxStack:=2,maxLocals:=5,code:=jdk_52_method_48_code,exceptionTable:=#[],attributes:=#[] }
def k8m14:Method:={ name := "indexOfCharUnsafe",desc := "([BIII)I",sig:={ parameters:=[(.array .byte),.int,.int,.int],returnType:=some .int },accessFlags:=10,code:=some k8c14 }
def k8c15:Code:={ maxStack:=6,maxLocals:=5,code:=jdk_52_method_69_code,exceptionTable:=#[],attributes:=#[] }
def k8m15:Method:={ name := "newString",desc := "([BII)Ljava/lang/String;",sig:={ parameters:=[(.array .byte),.int,.int],returnType:=some (.object "java/lang/String") },accessFlags:=9,code:=some k8c15 }
def k8c16:Code:={ maxStack:=2,maxLocals:=2,code:=jdk_52_method_83_code,exceptionTable:=#[],attributes:=#[] }
def k8m16:Method:={ name := "charAt",desc := "([BI)C",sig:={ parameters:=[(.array .byte),.int],returnType:=some .char },accessFlags:=9,code:=some k8c16 }
def k8c17:Code:={ maxStack:=2,maxLocals:=2,code:=jdk_52_method_91_code,exceptionTable:=#[],attributes:=#[] }
def k8m17:Method:={ name := "checkIndex",desc := "(I[B)V",sig:={ parameters:=[.int,(.array .byte)],returnType:=none },accessFlags:=9,code:=some k8c17 }
def k8c18:Code:={ maxStack:=3,maxLocals:=3,code:=jdk_52_method_93_code,exceptionTable:=#[],attributes:=#[] }
def k8m18:Method:={ name := "checkBoundsBeginEnd",desc := "(II[B)V",sig:={ parameters:=[.int,.int,(.array .byte)],returnType:=none },accessFlags:=9,code:=some k8c18 }
def k8c19:Code:={ maxStack:=3,maxLocals:=3,code:=jdk_52_method_94_code,exceptionTable:=#[],attributes:=#[] }
def k8m19:Method:={ name := "checkBoundsOffCount",desc := "(II[B)V",sig:={ parameters:=[.int,.int,(.array .byte)],returnType:=none },accessFlags:=9,code:=some k8c19 }
def k8:Class:={ plain "java/lang/StringUTF16" (some 0) with
 accessFlags:=48
 interfaces:=#[]
 cf:=some (fileOf pool8 12 #[.nestMembers #[627,629,369]] #[⟨0,9,10,#[]⟩,⟨9,109,110,#[]⟩,⟨9,15,16,#[]⟩,⟨8,113,114,#[]⟩,⟨8,73,74,#[]⟩,⟨9,50,51,#[]⟩,⟨9,121,122,#[]⟩,⟨8,261,262,#[]⟩,⟨9,117,122,#[]⟩,⟨9,117,131,#[]⟩,⟨9,117,118,#[]⟩,⟨9,117,125,#[]⟩,⟨9,268,231,#[]⟩,⟨10,230,231,#[]⟩,⟨10,246,231,#[]⟩,⟨9,327,328,#[]⟩,⟨9,392,74,#[]⟩,⟨9,69,70,#[]⟩,⟨9,98,99,#[]⟩,⟨9,175,99,#[]⟩] 48 6 #[] #[⟨26,61,62,#[]⟩,⟨26,65,62,#[]⟩,⟨24,430,62,#[]⟩,⟨4120,46,47,#[]⟩])
 fields:=#[⟨"HI_BYTE_SHIFT",.int,26,0,0⟩,⟨"LO_BYTE_SHIFT",.int,26,1,0⟩,⟨"MAX_LENGTH",.int,24,2,0⟩,⟨"$assertionsDisabled",.boolean,4120,3,0⟩]
 methods:=#[k8m0,k8m1,k8m2,k8m3,k8m4,k8m5,k8m6,k8m7,k8m8,k8m9,k8m10,k8m11,k8m12,k8m13,k8m14,k8m15,k8m16,k8m17,k8m18,k8m19]
 instanceTypes:=#[]
 staticTypes:=#[.int,.int,.int,.boolean]
 resolved:=Array.replicate 635 none
 statics:=some 1 }

def pool9:Array CpInfo:=pool [(1,.methodref 2 3),(0,.class_ 4),(0,.nameAndType 5 6),(0,u "java/lang/Object"),(0,u "<init>"),(0,u "()V"),(0,.fieldref 8 9),(0,.class_ 10),(0,.nameAndType 11 12),(0,u "com/example/hierarchical_roles/hierarchicalroles/ResourcePath"),(0,u "written"),(0,u "Ljava/lang/String;"),(0,.fieldref 8 14),(0,.nameAndType 15 16),(0,u "starts"),(0,u "[I"),(0,.fieldref 8 18),(0,.nameAndType 19 20),(0,u "names"),(0,u "Ljava/util/List;"),(0,.fieldref 8 22),(0,.nameAndType 23 24),(0,u "ROOT"),(0,u "Lcom/example/hierarchical_roles/hierarchicalroles/ResourcePath;"),(2,.methodref 28 29),(0,.class_ 30),(0,.nameAndType 31 32),(0,u "java/util/Objects"),(0,u "requireNonNull"),(0,u "(Ljava/lang/Object;Ljava/lang/String;)Ljava/lang/Object;"),(0,.methodref 34 35),(0,.class_ 36),(0,.nameAndType 37 38),(0,u "java/lang/String"),(0,u "length"),(0,u "()I"),(0,.methodref 8 40),(0,.nameAndType 41 42),(0,u "checkName"),(0,u "(Ljava/lang/String;II)V"),(10,u "()Ljava/util/List;"),(1,.class_ 57),(1,u "java/util/List"),(13,.string 11),(0,.string 73),(0,u "/"),(0,.methodref 34 75),(0,.nameAndType 76 77),(0,u "startsWith"),(0,u "(Ljava/lang/String;)Z"),(9,.methodref 34 88),(0,.nameAndType 89 90),(0,u "indexOf"),(0,u "(II)I"),(0,.methodref 8 92),(0,.nameAndType 5 93),(0,u "(Ljava/lang/String;[I)V"),(0,.methodref 8 95),(0,.nameAndType 96 97),(0,u "end"),(0,u "(I)I"),(2,.methodref 34 101),(0,.nameAndType 102 103),(0,u "charAt"),(0,u "(I)C"),(0,.string 105),(0,u ".."),(0,.methodref 34 107),(0,.nameAndType 76 108),(0,u "(Ljava/lang/String;I)Z"),(0,.methodref 34 110),(0,.nameAndType 111 112),(0,u "substring"),(0,u "(II)Ljava/lang/String;"),(14,.interfaceMethodref 55 128),(0,.nameAndType 129 130),(0,u "of"),(0,u "([Ljava/lang/Object;)Ljava/util/List;"),(35,u "(Ljava/lang/String;)Lcom/example/hierarchical_roles/hierarchicalroles/ResourcePath;"),(0,u "parse")] 35

def k9c0:Code:={ maxStack:=2,maxLocals:=3,code:=prog_26_method_2_code,exceptionTable:=#[],attributes:=#[] }
def k9m0:Method:={ name := "<init>",desc := "(Ljava/lang/String;[I)V",sig:={ parameters:=[(.object "java/lang/String"),(.array .int)],returnType:=none },accessFlags:=2,code:=some k9c0 }
def k9c1:Code:={ maxStack:=4,maxLocals:=6,code:=prog_26_method_5_code,exceptionTable:=#[],attributes:=#[] }
def k9m1:Method:={ name := "parse",desc := "(Ljava/lang/String;)Lcom/example/hierarchical_roles/hierarchicalroles/ResourcePath;",sig:={ parameters:=[(.object "java/lang/String")],returnType:=some (.object "com/example/hierarchical_roles/hierarchicalroles/ResourcePath") },accessFlags:=9,code:=some k9c1 }
def k9c2:Code:={ maxStack:=5,maxLocals:=7,code:=prog_26_method_6_code,exceptionTable:=#[],attributes:=#[] }
def k9m2:Method:={ name := "checkName",desc := "(Ljava/lang/String;II)V",sig:={ parameters:=[(.object "java/lang/String"),.int,.int],returnType:=none },accessFlags:=10,code:=some k9c2 }
def k9c3:Code:={ maxStack:=3,maxLocals:=2,code:=prog_26_method_7_code,exceptionTable:=#[],attributes:=#[] }
def k9m3:Method:={ name := "end",desc := "(I)I",sig:={ parameters:=[.int],returnType:=some .int },accessFlags:=2,code:=some k9c3 }
def k9c4:Code:={ maxStack:=6,maxLocals:=4,code:=prog_26_method_9_code,exceptionTable:=#[],attributes:=#[] }
def k9m4:Method:={ name := "names",desc := "()Ljava/util/List;",sig:={ parameters:=[],returnType:=some (.object "java/util/List") },accessFlags:=1,code:=some k9c4 }
def k9:Class:={ plain "com/example/hierarchical_roles/hierarchicalroles/ResourcePath" (some 0) with
 accessFlags:=49
 interfaces:=#[]
 cf:=some (fileOf pool9 8 #[] #[⟨2,5,93,#[]⟩,⟨9,167,166,#[]⟩,⟨10,41,42,#[]⟩,⟨2,96,97,#[]⟩,⟨1,19,53,#[]⟩] 49 2 #[] #[⟨26,23,24,#[]⟩,⟨18,11,12,#[]⟩,⟨18,15,16,#[]⟩,⟨2,19,20,#[]⟩])
 fields:=#[⟨"ROOT",(.object "com/example/hierarchical_roles/hierarchicalroles/ResourcePath"),26,0,0⟩,⟨"written",(.object "java/lang/String"),18,0,0⟩,⟨"starts",(.array .int),18,1,0⟩,⟨"names",(.object "java/util/List"),2,2,0⟩]
 methods:=#[k9m0,k9m1,k9m2,k9m3,k9m4]
 instanceTypes:=#[(.object "java/lang/String"),(.array .int),(.object "java/util/List")]
 staticTypes:=#[(.object "com/example/hierarchical_roles/hierarchicalroles/ResourcePath")]
 resolved:=Array.replicate 203 none
 statics:=some 6 }

def pool10:Array CpInfo:=pool [(2,.class_ 4),(1,u "java/lang/Object"),(0,u "<init>"),(0,u "()V"),(35,.class_ 44),(1,u "java/util/Objects"),(0,u "requireNonNull"),(0,u "(Ljava/lang/Object;)Ljava/lang/Object;"),(47,u "(Ljava/lang/Object;Ljava/lang/String;)Ljava/lang/Object;")] 89

def k10m0:Method:={ name := "<init>",desc := "()V",sig:={ parameters:=[],returnType:=none },accessFlags:=2,code:=none }
def k10c1:Code:={ maxStack:=2,maxLocals:=1,code:=jdk_31_method_10_code,exceptionTable:=#[],attributes:=#[] }
def k10m1:Method:={ name := "requireNonNull",desc := "(Ljava/lang/Object;)Ljava/lang/Object;",sig:={ parameters:=[(.object "java/lang/Object")],returnType:=some (.object "java/lang/Object") },accessFlags:=9,code:=some k10c1 }
def k10c2:Code:={ maxStack:=3,maxLocals:=2,code:=jdk_31_method_11_code,exceptionTable:=#[],attributes:=#[] }
def k10m2:Method:={ name := "requireNonNull",desc := "(Ljava/lang/Object;Ljava/lang/String;)Ljava/lang/Object;",sig:={ parameters:=[(.object "java/lang/Object"),(.object "java/lang/String")],returnType:=some (.object "java/lang/Object") },accessFlags:=9,code:=some k10c2 }
def k10:Class:={ plain "java/util/Objects" (some 0) with
 accessFlags:=49
 interfaces:=#[]
 cf:=some (fileOf pool10 42 #[] #[⟨2,5,6,#[]⟩,⟨9,45,46,#[]⟩,⟨9,45,94,#[]⟩] 49 2 #[] #[])
 fields:=#[]
 methods:=#[k10m0,k10m1,k10m2]
 instanceTypes:=#[]
 staticTypes:=#[]
 resolved:=Array.replicate 184 none
 statics:=none }

def pool11:Array CpInfo:=pool [(9,u "<init>"),(6,.class_ 18),(1,u "java/lang/Object"),(0,u "()V"),(1,.class_ 23),(1,u "jdk/internal/util/ArraysSupport"),(0,u "LOG2_ARRAY_LONG_INDEX_SCALE"),(0,u "I"),(2,u "U"),(0,u "Ljdk/internal/misc/Unsafe;"),(8,u "BIG_ENDIAN"),(0,u "Z"),(8,u "LOG2_BYTE_BIT_SIZE"),(4,u "LOG2_ARRAY_INT_INDEX_SCALE"),(54,u "JLA"),(0,u "Ljdk/internal/access/JavaLangAccess;"),(11,u "LOG2_ARRAY_BOOLEAN_INDEX_SCALE"),(9,u "LOG2_ARRAY_BYTE_INDEX_SCALE"),(5,u "LOG2_ARRAY_CHAR_INDEX_SCALE"),(5,u "LOG2_ARRAY_SHORT_INDEX_SCALE"),(5,u "mismatch"),(12,u "LOG2_ARRAY_FLOAT_INDEX_SCALE"),(24,u "LOG2_ARRAY_DOUBLE_INDEX_SCALE"),(89,u "T_BOOLEAN"),(2,u "T_CHAR"),(1,u "T_FLOAT"),(1,u "T_DOUBLE"),(1,u "T_BYTE"),(1,u "T_SHORT"),(1,u "T_INT"),(1,u "T_LONG"),(1,u "SOFT_MAX_ARRAY_LENGTH"),(42,u "([BI[BII)I")] 40

def k11m0:Method:={ name := "<init>",desc := "()V",sig:={ parameters:=[],returnType:=none },accessFlags:=2,code:=none }
def k11c1:Code:={ maxStack:=8,maxLocals:=8,code:=jdk_48_method_14_code,exceptionTable:=#[],attributes:=#[] }
def k11m1:Method:={ name := "mismatch",desc := "([BI[BII)I",sig:={ parameters:=[(.array .byte),.int,(.array .byte),.int,.int],returnType:=some .int },accessFlags:=9,code:=some k11c1 }
def k11:Class:={ plain "jdk/internal/util/ArraysSupport" (some 0) with
 accessFlags:=33
 interfaces:=#[]
 cf:=some (fileOf pool11 21 #[] #[⟨2,9,19,#[]⟩,⟨9,149,337,#[]⟩] 33 16 #[] #[⟨24,28,29,#[]⟩,⟨26,38,39,#[]⟩,⟨25,121,25,#[]⟩,⟨25,131,25,#[]⟩,⟨25,137,25,#[]⟩,⟨25,143,25,#[]⟩,⟨25,53,25,#[]⟩,⟨25,24,25,#[]⟩,⟨25,162,25,#[]⟩,⟨25,187,25,#[]⟩,⟨26,48,25,#[]⟩,⟨25,277,25,#[]⟩,⟨25,280,25,#[]⟩,⟨25,282,25,#[]⟩,⟨25,284,25,#[]⟩,⟨25,286,25,#[]⟩,⟨25,288,25,#[]⟩,⟨25,290,25,#[]⟩,⟨25,292,25,#[]⟩,⟨26,108,109,#[]⟩,⟨25,294,25,#[]⟩])
 fields:=#[⟨"U",(.object "jdk/internal/misc/Unsafe"),24,0,0⟩,⟨"BIG_ENDIAN",.boolean,26,1,0⟩,⟨"LOG2_ARRAY_BOOLEAN_INDEX_SCALE",.int,25,2,0⟩,⟨"LOG2_ARRAY_BYTE_INDEX_SCALE",.int,25,3,0⟩,⟨"LOG2_ARRAY_CHAR_INDEX_SCALE",.int,25,4,0⟩,⟨"LOG2_ARRAY_SHORT_INDEX_SCALE",.int,25,5,0⟩,⟨"LOG2_ARRAY_INT_INDEX_SCALE",.int,25,6,0⟩,⟨"LOG2_ARRAY_LONG_INDEX_SCALE",.int,25,7,0⟩,⟨"LOG2_ARRAY_FLOAT_INDEX_SCALE",.int,25,8,0⟩,⟨"LOG2_ARRAY_DOUBLE_INDEX_SCALE",.int,25,9,0⟩,⟨"LOG2_BYTE_BIT_SIZE",.int,26,10,0⟩,⟨"T_BOOLEAN",.int,25,11,0⟩,⟨"T_CHAR",.int,25,12,0⟩,⟨"T_FLOAT",.int,25,13,0⟩,⟨"T_DOUBLE",.int,25,14,0⟩,⟨"T_BYTE",.int,25,15,0⟩,⟨"T_SHORT",.int,25,16,0⟩,⟨"T_INT",.int,25,17,0⟩,⟨"T_LONG",.int,25,18,0⟩,⟨"JLA",(.object "jdk/internal/access/JavaLangAccess"),26,19,0⟩,⟨"SOFT_MAX_ARRAY_LENGTH",.int,25,20,0⟩]
 methods:=#[k11m0,k11m1]
 instanceTypes:=#[]
 staticTypes:=#[(.object "jdk/internal/misc/Unsafe"),.boolean,.int,.int,.int,.int,.int,.int,.int,.int,.int,.int,.int,.int,.int,.int,.int,.int,.int,(.object "jdk/internal/access/JavaLangAccess"),.int]
 resolved:=Array.replicate 378 none
 statics:=none }

def pool12:Array CpInfo:=pool [(8,.class_ 10),(1,u "java/lang/Iterable"),(24,.class_ 36),(0,u "java/lang/Object")] 25

def k12:Class:={ plain "java/lang/Iterable" (some 0) with
 accessFlags:=1537
 interfaces:=#[]
 cf:=some (fileOf pool12 8 #[] #[] 1537 35 #[] #[])
 fields:=#[]
 methods:=#[]
 instanceTypes:=#[]
 staticTypes:=#[]
 resolved:=Array.replicate 62 none
 statics:=none }

def pool13:Array CpInfo:=pool [(10,.class_ 12),(1,u "java/util/Collection"),(47,.class_ 61),(0,u "java/lang/Object"),(0,.class_ 63),(0,u "java/lang/Iterable")] 51

def k13:Class:={ plain "java/util/Collection" (some 0) with
 accessFlags:=1537
 interfaces:=#[12]
 cf:=some (fileOf pool13 10 #[] #[] 1537 60 #[62] #[])
 fields:=#[]
 methods:=#[]
 instanceTypes:=#[]
 staticTypes:=#[]
 resolved:=Array.replicate 115 none
 statics:=none }

def pool14:Array CpInfo:=pool [(8,.class_ 10),(1,u "java/util/SequencedCollection"),(15,.class_ 27),(0,u "java/lang/Object"),(0,.class_ 29),(0,u "java/util/Collection")] 27

def k14:Class:={ plain "java/util/SequencedCollection" (some 0) with
 accessFlags:=1537
 interfaces:=#[13]
 cf:=some (fileOf pool14 8 #[] #[] 1537 26 #[28] #[])
 fields:=#[]
 methods:=#[]
 instanceTypes:=#[]
 staticTypes:=#[]
 resolved:=Array.replicate 57 none
 statics:=none }

def pool15:Array CpInfo:=pool [(8,.class_ 10),(1,u "java/util/List"),(20,u "(Ljava/lang/Object;)V"),(16,u "<init>"),(26,u "get"),(0,u "(I)Ljava/lang/Object;"),(2,u "size"),(0,u "()I"),(7,u "of"),(2,.class_ 93),(1,u "java/util/ImmutableCollections"),(2,.class_ 97),(0,u "java/util/ImmutableCollections$List12"),(0,.methodref 96 99),(0,.nameAndType 48 31),(0,.methodref 96 101),(0,.nameAndType 48 102),(0,u "(Ljava/lang/Object;Ljava/lang/Object;)V"),(0,.class_ 104),(0,u "java/lang/Object"),(3,u "([Ljava/lang/Object;)Ljava/util/List;"),(0,.methodref 91 110),(0,.nameAndType 111 108),(0,u "listFromArray"),(8,.class_ 121),(0,u "java/util/SequencedCollection")] 129

def k15m0:Method:={ name := "size",desc := "()I",sig:={ parameters:=[],returnType:=some .int },accessFlags:=1025,code:=none }
def k15m1:Method:={ name := "get",desc := "(I)Ljava/lang/Object;",sig:={ parameters:=[.int],returnType:=some (.object "java/lang/Object") },accessFlags:=1025,code:=none }
def k15c2:Code:={ maxStack:=5,maxLocals:=2,code:=jdk_40_method_47_code,exceptionTable:=#[],attributes:=#[] }
def k15m2:Method:={ name := "of",desc := "([Ljava/lang/Object;)Ljava/util/List;",sig:={ parameters:=[(.array (.object "java/lang/Object"))],returnType:=some (.object "java/util/List") },accessFlags:=137,code:=some k15c2 }
def k15:Class:={ plain "java/util/List" (some 0) with
 accessFlags:=1537
 interfaces:=#[14]
 cf:=some (fileOf pool15 8 #[] #[⟨1025,79,80,#[]⟩,⟨1025,75,76,#[]⟩,⟨137,88,108,#[]⟩] 1537 103 #[120] #[])
 fields:=#[]
 methods:=#[k15m0,k15m1,k15m2]
 instanceTypes:=#[]
 staticTypes:=#[]
 resolved:=Array.replicate 251 none
 statics:=none }

def pool16:Array CpInfo:=pool [(1,.methodref 2 3),(0,.class_ 4),(0,.nameAndType 5 6),(0,u "java/lang/Object"),(0,u "<init>"),(0,u "()V"),(1,.class_ 10),(1,u "java/util/AbstractCollection"),(66,.class_ 78),(0,u "java/util/Collection")] 81

def k16c0:Code:={ maxStack:=1,maxLocals:=1,code:=jdk_22_method_1_code,exceptionTable:=#[],attributes:=#[] }
def k16m0:Method:={ name := "<init>",desc := "()V",sig:={ parameters:=[],returnType:=none },accessFlags:=4,code:=some k16c0 }
def k16:Class:={ plain "java/util/AbstractCollection" (some 0) with
 accessFlags:=1057
 interfaces:=#[13]
 cf:=some (fileOf pool16 8 #[] #[⟨4,5,6,#[]⟩] 1057 2 #[77] #[])
 fields:=#[]
 methods:=#[k16m0]
 instanceTypes:=#[]
 staticTypes:=#[]
 resolved:=Array.replicate 160 none
 statics:=none }

def pool17:Array CpInfo:=pool [(1,.methodref 2 3),(0,.class_ 4),(0,.nameAndType 5 6),(0,u "java/util/AbstractCollection"),(0,u "<init>"),(0,u "()V"),(1,.class_ 10),(1,u "java/util/ImmutableCollections"),(2,.class_ 14),(0,u "java/util/ImmutableCollections$AbstractImmutableCollection")] 41

def k17c0:Code:={ maxStack:=1,maxLocals:=1,code:=jdk_47_method_1_code,exceptionTable:=#[],attributes:=#[] }
def k17m0:Method:={ name := "<init>",desc := "()V",sig:={ parameters:=[],returnType:=none },accessFlags:=0,code:=some k17c0 }
def k17:Class:={ plain "java/util/ImmutableCollections$AbstractImmutableCollection" (some 16) with
 accessFlags:=1056
 interfaces:=#[]
 cf:=some (fileOf pool17 13 #[.nestHost 8] #[⟨0,5,6,#[]⟩] 1056 2 #[] #[])
 fields:=#[]
 methods:=#[k17m0]
 instanceTypes:=#[]
 staticTypes:=#[]
 resolved:=Array.replicate 56 none
 statics:=none }

def pool18:Array CpInfo:=pool [(1,.class_ 2),(0,u "java/util/RandomAccess"),(0,.class_ 4),(0,u "java/lang/Object")] 2

def k18:Class:={ plain "java/util/RandomAccess" (some 0) with
 accessFlags:=1537
 interfaces:=#[]
 cf:=some (fileOf pool18 1 #[] #[] 1537 3 #[] #[])
 fields:=#[]
 methods:=#[]
 instanceTypes:=#[]
 staticTypes:=#[]
 resolved:=Array.replicate 7 none
 statics:=none }

def pool19:Array CpInfo:=pool [(1,.methodref 2 3),(0,.class_ 4),(0,.nameAndType 5 6),(0,u "java/util/ImmutableCollections$AbstractImmutableCollection"),(0,u "<init>"),(0,u "()V"),(1,.class_ 10),(1,u "java/util/ImmutableCollections"),(3,.class_ 16),(1,u "java/util/ImmutableCollections$AbstractImmutableList"),(60,.class_ 78),(0,u "java/util/List"),(45,.class_ 125),(0,u "java/util/RandomAccess")] 70

def k19c0:Code:={ maxStack:=1,maxLocals:=1,code:=jdk_46_method_1_code,exceptionTable:=#[],attributes:=#[] }
def k19m0:Method:={ name := "<init>",desc := "()V",sig:={ parameters:=[],returnType:=none },accessFlags:=0,code:=some k19c0 }
def k19:Class:={ plain "java/util/ImmutableCollections$AbstractImmutableList" (some 17) with
 accessFlags:=1056
 interfaces:=#[15,18]
 cf:=some (fileOf pool19 14 #[.nestHost 8] #[⟨0,5,6,#[]⟩] 1056 2 #[77,124] #[])
 fields:=#[]
 methods:=#[k19m0]
 instanceTypes:=#[]
 staticTypes:=#[]
 resolved:=Array.replicate 196 none
 statics:=none }

def pool20:Array CpInfo:=pool [(1,.methodref 2 3),(0,.class_ 4),(0,.nameAndType 5 6),(0,u "java/util/ImmutableCollections$AbstractImmutableList"),(0,u "<init>"),(0,u "()V"),(0,.fieldref 8 9),(0,.class_ 10),(0,.nameAndType 11 12),(0,u "java/util/ImmutableCollections$ListN"),(0,u "elements"),(0,u "[Ljava/lang/Object;"),(0,.fieldref 8 14),(0,.nameAndType 15 16),(0,u "allowNulls"),(0,u "Z"),(42,.class_ 60),(0,u "java/io/Serializable"),(4,u "([Ljava/lang/Object;Z)V"),(11,u "size"),(0,u "()I"),(0,u "get"),(0,u "(I)Ljava/lang/Object;"),(33,.class_ 115),(0,u "java/util/ImmutableCollections")] 3

def k20c0:Code:={ maxStack:=2,maxLocals:=3,code:=jdk_45_method_1_code,exceptionTable:=#[],attributes:=#[] }
def k20m0:Method:={ name := "<init>",desc := "([Ljava/lang/Object;Z)V",sig:={ parameters:=[(.array (.object "java/lang/Object")),.boolean],returnType:=none },accessFlags:=2,code:=some k20c0 }
def k20c1:Code:={ maxStack:=1,maxLocals:=1,code:=jdk_45_method_3_code,exceptionTable:=#[],attributes:=#[] }
def k20m1:Method:={ name := "size",desc := "()I",sig:={ parameters:=[],returnType:=some .int },accessFlags:=1,code:=some k20c1 }
def k20c2:Code:={ maxStack:=2,maxLocals:=2,code:=jdk_45_method_4_code,exceptionTable:=#[],attributes:=#[] }
def k20m2:Method:={ name := "get",desc := "(I)Ljava/lang/Object;",sig:={ parameters:=[.int],returnType:=some (.object "java/lang/Object") },accessFlags:=1,code:=some k20c2 }
def k20:Class:={ plain "java/util/ImmutableCollections$ListN" (some 19) with
 accessFlags:=48
 interfaces:=#[2]
 cf:=some (fileOf pool20 8 #[.nestHost 114] #[⟨2,5,65,#[]⟩,⟨1,77,78,#[]⟩,⟨1,79,80,#[]⟩] 48 2 #[59] #[⟨18,11,12,#[]⟩,⟨18,15,16,#[]⟩])
 fields:=#[⟨"elements",(.array (.object "java/lang/Object")),18,0,0⟩,⟨"allowNulls",.boolean,18,1,0⟩]
 methods:=#[k20m0,k20m1,k20m2]
 instanceTypes:=#[(.array (.object "java/lang/Object")),.boolean]
 staticTypes:=#[]
 resolved:=Array.replicate 119 none
 statics:=none }

def pool21:Array CpInfo:=pool [(1,.class_ 2),(0,u "java/lang/String"),(1,.class_ 6),(1,u "java/lang/Object"),(0,u "<init>"),(0,u "()V"),(0,.methodref 1 10),(0,.nameAndType 11 12),(0,u "checkIndex"),(0,u "(II)V"),(1,.class_ 16),(1,u "java/lang/StringLatin1"),(21,.methodref 39 40),(0,.class_ 41),(0,.nameAndType 42 43),(0,u "java/lang/Math"),(0,u "min"),(0,u "(II)I"),(9,u "([BI)C"),(34,.methodref 14 89),(0,.nameAndType 90 91),(0,u "canEncode"),(0,u "(I)Z"),(0,.methodref 39 93),(0,.nameAndType 94 43),(0,u "max"),(0,.methodref 14 96),(0,.nameAndType 97 98),(0,u "indexOfChar"),(0,u "([BIII)I"),(2,u "indexOf"),(10,.methodref 1 113),(0,.nameAndType 7 114),(0,u "([BB)V"),(6,u "$assertionsDisabled"),(0,u "Z"),(8,.class_ 133),(1,u "java/util/Arrays"),(62,u "newString"),(0,u "([BII)Ljava/lang/String;"),(23,.class_ 223),(1,u "java/lang/StringLatin1$LinesSpliterator"),(8,.methodref 131 233),(0,.nameAndType 234 235),(0,u "copyOfRange"),(0,u "([BII)[B"),(16,u "charAt"),(137,.class_ 391),(0,u "java/lang/StringLatin1$CharsSpliterator")] 3

def k21m0:Method:={ name := "<init>",desc := "()V",sig:={ parameters:=[],returnType:=none },accessFlags:=0,code:=none }
def k21c1:Code:={ maxStack:=2,maxLocals:=2,code:=jdk_43_method_2_code,exceptionTable:=#[],attributes:=#[] }
def k21m1:Method:={ name := "charAt",desc := "([BI)C",sig:={ parameters:=[(.array .byte),.int],returnType:=some .char },accessFlags:=9,code:=some k21c1 }
def k21c2:Code:={ maxStack:=2,maxLocals:=1,code:=jdk_43_method_4_code,exceptionTable:=#[],attributes:=#[] }
def k21m2:Method:={ name := "canEncode",desc := "(I)Z",sig:={ parameters:=[.int],returnType:=some .boolean },accessFlags:=9,code:=some k21c2 }
def k21c3:Code:={ maxStack:=4,maxLocals:=4,code:=jdk_43_method_22_code,exceptionTable:=#[],attributes:=#[] }
def k21m3:Method:={ name := "indexOf",desc := "([BIII)I",sig:={ parameters:=[(.array .byte),.int,.int,.int],returnType:=some .int },accessFlags:=9,code:=some k21c3 }
def k21c4:Code:={ maxStack:=2,maxLocals:=6,code:=jdk_43_method_23_code,exceptionTable:=#[],attributes:=#[] }
def k21m4:Method:={ name := "indexOfChar",desc := "([BIII)I",sig:={ parameters:=[(.array .byte),.int,.int,.int],returnType:=some .int },accessFlags:=10,code:=some k21c4 }
def k21c5:Code:={ maxStack:=6,maxLocals:=3,code:=jdk_43_method_47_code,exceptionTable:=#[],attributes:=#[] }
def k21m5:Method:={ name := "newString",desc := "([BII)Ljava/lang/String;",sig:={ parameters:=[(.array .byte),.int,.int],returnType:=some (.object "java/lang/String") },accessFlags:=9,code:=some k21c5 }
def k21:Class:={ plain "java/lang/StringLatin1" (some 0) with
 accessFlags:=48
 interfaces:=#[]
 cf:=some (fileOf pool21 14 #[.nestMembers #[390,221]] #[⟨0,7,8,#[]⟩,⟨9,252,53,#[]⟩,⟨9,90,91,#[]⟩,⟨9,101,98,#[]⟩,⟨10,97,98,#[]⟩,⟨9,196,197,#[]⟩] 48 4 #[] #[⟨4120,121,122,#[]⟩])
 fields:=#[⟨"$assertionsDisabled",.boolean,4120,0,0⟩]
 methods:=#[k21m0,k21m1,k21m2,k21m3,k21m4,k21m5]
 instanceTypes:=#[]
 staticTypes:=#[.boolean]
 resolved:=Array.replicate 395 none
 statics:=none }

def pool22:Array CpInfo:=pool [(1,.class_ 2),(0,u "java/lang/Math"),(1,.class_ 6),(1,u "java/lang/Object"),(0,u "<init>"),(0,u "()V"),(89,.class_ 100),(1,u "java/lang/Math$RandomNumberGeneratorHolder"),(71,u "negativeZeroFloatBits"),(0,u "J"),(2,u "negativeZeroDoubleBits"),(21,u "max"),(2,u "min"),(43,u "$assertionsDisabled"),(0,u "Z"),(88,u "(II)I"),(2,u "twoToTheDoubleScaleDown"),(0,u "D"),(4,u "twoToTheDoubleScaleUp"),(9,u "E"),(3,u "PI"),(2,u "TAU"),(2,u "DEGREES_TO_RADIANS"),(0,u "RADIANS_TO_DEGREES")] 94

def k22m0:Method:={ name := "<init>",desc := "()V",sig:={ parameters:=[],returnType:=none },accessFlags:=2,code:=none }
def k22c1:Code:={ maxStack:=2,maxLocals:=2,code:=jdk_29_method_65_code,exceptionTable:=#[],attributes:=#[] }
def k22m1:Method:={ name := "max",desc := "(II)I",sig:={ parameters:=[.int,.int],returnType:=some .int },accessFlags:=9,code:=some k22c1 }
def k22c2:Code:={ maxStack:=2,maxLocals:=2,code:=jdk_29_method_69_code,exceptionTable:=#[],attributes:=#[] }
def k22m2:Method:={ name := "min",desc := "(II)I",sig:={ parameters:=[.int,.int],returnType:=some .int },accessFlags:=9,code:=some k22c2 }
def k22:Class:={ plain "java/lang/Math" (some 0) with
 accessFlags:=49
 interfaces:=#[]
 cf:=some (fileOf pool22 1 #[.nestMembers #[98]] #[⟨2,7,8,#[]⟩,⟨9,198,335,#[]⟩,⟨9,201,335,#[]⟩] 49 4 #[] #[⟨25,354,339,#[]⟩,⟨25,358,339,#[]⟩,⟨25,361,339,#[]⟩,⟨26,364,339,#[]⟩,⟨26,365,339,#[]⟩,⟨26,172,173,#[]⟩,⟨26,176,173,#[]⟩,⟨8,344,339,#[]⟩,⟨8,338,339,#[]⟩,⟨4120,245,246,#[]⟩])
 fields:=#[⟨"E",.double,25,0,0⟩,⟨"PI",.double,25,1,0⟩,⟨"TAU",.double,25,2,0⟩,⟨"DEGREES_TO_RADIANS",.double,26,3,0⟩,⟨"RADIANS_TO_DEGREES",.double,26,4,0⟩,⟨"negativeZeroFloatBits",.long,26,5,0⟩,⟨"negativeZeroDoubleBits",.long,26,6,0⟩,⟨"twoToTheDoubleScaleUp",.double,8,7,0⟩,⟨"twoToTheDoubleScaleDown",.double,8,8,0⟩,⟨"$assertionsDisabled",.boolean,4120,9,0⟩]
 methods:=#[k22m0,k22m1,k22m2]
 instanceTypes:=#[]
 staticTypes:=#[.double,.double,.double,.double,.double,.long,.long,.double,.double,.boolean]
 resolved:=Array.replicate 460 none
 statics:=none }

def pool23:Array CpInfo:=pool [(2,.class_ 4),(1,u "java/lang/Object"),(0,u "<init>"),(0,u "()V"),(17,.class_ 26),(1,u "jdk/internal/util/Preconditions"),(6,u "checkIndex"),(13,u "checkFromToIndex"),(1,u "checkFromIndexSize"),(5,.class_ 56),(0,u "jdk/internal/util/Preconditions$4"),(57,.class_ 115),(0,u "jdk/internal/util/Preconditions$1"),(7,u "SIOOBE_FORMATTER"),(0,u "Ljava/util/function/BiFunction;"),(0,.class_ 126),(0,u "jdk/internal/util/Preconditions$2"),(3,u "AIOOBE_FORMATTER"),(0,.class_ 132),(0,u "jdk/internal/util/Preconditions$3"),(3,u "IOOBE_FORMATTER"),(41,u "(IILjava/util/function/BiFunction;)I"),(4,u "(IIILjava/util/function/BiFunction;)I")] 10

def k23m0:Method:={ name := "<init>",desc := "()V",sig:={ parameters:=[],returnType:=none },accessFlags:=1,code:=none }
def k23c1:Code:={ maxStack:=3,maxLocals:=3,code:=jdk_41_method_11_code,exceptionTable:=#[],attributes:=#[] }
def k23m1:Method:={ name := "checkIndex",desc := "(IILjava/util/function/BiFunction;)I",sig:={ parameters:=[.int,.int,(.object "java/util/function/BiFunction")],returnType:=some .int },accessFlags:=9,code:=some k23c1 }
def k23c2:Code:={ maxStack:=4,maxLocals:=4,code:=jdk_41_method_12_code,exceptionTable:=#[],attributes:=#[] }
def k23m2:Method:={ name := "checkFromToIndex",desc := "(IIILjava/util/function/BiFunction;)I",sig:={ parameters:=[.int,.int,.int,(.object "java/util/function/BiFunction")],returnType:=some .int },accessFlags:=9,code:=some k23c2 }
def k23c3:Code:={ maxStack:=4,maxLocals:=4,code:=jdk_41_method_13_code,exceptionTable:=#[],attributes:=#[] }
def k23m3:Method:={ name := "checkFromIndexSize",desc := "(IIILjava/util/function/BiFunction;)I",sig:={ parameters:=[.int,.int,.int,(.object "java/util/function/BiFunction")],returnType:=some .int },accessFlags:=9,code:=some k23c3 }
def k23:Class:={ plain "jdk/internal/util/Preconditions" (some 0) with
 accessFlags:=33
 interfaces:=#[]
 cf:=some (fileOf pool23 24 #[.nestMembers #[55,131,125,114]] #[⟨1,5,6,#[]⟩,⟨9,33,178,#[]⟩,⟨9,47,183,#[]⟩,⟨9,49,183,#[]⟩] 33 2 #[] #[⟨25,123,124,#[]⟩,⟨25,130,124,#[]⟩,⟨25,136,124,#[]⟩])
 fields:=#[⟨"SIOOBE_FORMATTER",(.object "java/util/function/BiFunction"),25,0,0⟩,⟨"AIOOBE_FORMATTER",(.object "java/util/function/BiFunction"),25,1,0⟩,⟨"IOOBE_FORMATTER",(.object "java/util/function/BiFunction"),25,2,0⟩]
 methods:=#[k23m0,k23m1,k23m2,k23m3]
 instanceTypes:=#[]
 staticTypes:=#[(.object "java/util/function/BiFunction"),(.object "java/util/function/BiFunction"),(.object "java/util/function/BiFunction")]
 resolved:=Array.replicate 194 none
 statics:=some 2 }

def pool24:Array CpInfo:=pool [(2,.class_ 4),(1,u "java/lang/Object"),(0,u "<init>"),(0,u "()V"),(7,.class_ 16),(1,u "java/util/Arrays"),(57,.class_ 76),(1,u "java/util/Arrays$NaturalOrder"),(36,.class_ 115),(1,u "java/util/Arrays$LegacyMergeSort"),(1,u "Z"),(21,u "copyOfRange"),(10,.methodref 151 152),(0,.class_ 153),(0,.nameAndType 154 155),(0,u "java/lang/System"),(0,u "arraycopy"),(0,u "(Ljava/lang/Object;ILjava/lang/Object;II)V"),(148,.methodref 305 306),(0,.class_ 307),(0,.nameAndType 308 309),(0,u "java/lang/Math"),(0,u "min"),(0,u "(II)I"),(29,.methodref 14 340),(0,.nameAndType 341 342),(0,u "copyOfRangeByte"),(0,u "([BII)[B"),(0,.methodref 14 344),(0,.nameAndType 345 346),(0,u "checkLength"),(0,u "(II)V"),(28,.class_ 376),(0,u "java/util/Arrays$ArrayList"),(68,u "$assertionsDisabled"),(269,u "MIN_ARRAY_SORT_GRAN"),(0,u "I"),(2,u "INSERTIONSORT_THRESHOLD"),(255,.class_ 976),(0,u "java/util/Arrays$ArrayItr")] 52

def k24m0:Method:={ name := "<init>",desc := "()V",sig:={ parameters:=[],returnType:=none },accessFlags:=2,code:=none }
def k24c1:Code:={ maxStack:=4,maxLocals:=2,code:=jdk_65_method_131_code,exceptionTable:=#[],attributes:=#[] }
def k24m1:Method:={ name := "checkLength",desc := "(II)V",sig:={ parameters:=[.int,.int],returnType:=none },accessFlags:=10,code:=some k24c1 }
def k24c2:Code:={ maxStack:=3,maxLocals:=3,code:=jdk_65_method_132_code,exceptionTable:=#[],attributes:=#[] }
def k24m2:Method:={ name := "copyOfRange",desc := "([BII)[B",sig:={ parameters:=[(.array .byte),.int,.int],returnType:=some (.array .byte) },accessFlags:=9,code:=some k24c2 }
def k24c3:Code:={ maxStack:=6,maxLocals:=5,code:=jdk_65_method_133_code,exceptionTable:=#[],attributes:=#[] }
def k24m3:Method:={ name := "copyOfRangeByte",desc := "([BII)[B",sig:={ parameters:=[(.array .byte),.int,.int],returnType:=some (.array .byte) },accessFlags:=10,code:=some k24c3 }
def k24:Class:={ plain "java/util/Arrays" (some 0) with
 accessFlags:=49
 interfaces:=#[]
 cf:=some (fileOf pool24 14 #[.nestMembers #[975,375,113,74]] #[⟨2,5,6,#[]⟩,⟨10,345,346,#[]⟩,⟨9,139,342,#[]⟩,⟨10,341,342,#[]⟩] 49 2 #[] #[⟨26,715,716,#[]⟩,⟨26,719,716,#[]⟩,⟨4120,445,117,#[]⟩])
 fields:=#[⟨"MIN_ARRAY_SORT_GRAN",.int,26,0,0⟩,⟨"INSERTIONSORT_THRESHOLD",.int,26,1,0⟩,⟨"$assertionsDisabled",.boolean,4120,2,0⟩]
 methods:=#[k24m0,k24m1,k24m2,k24m3]
 instanceTypes:=#[]
 staticTypes:=#[.int,.int,.boolean]
 resolved:=Array.replicate 1029 none
 statics:=none }

def pool25:Array CpInfo:=pool [(2,.class_ 4),(1,u "java/lang/Object"),(0,u "<init>"),(0,u "()V"),(1,.class_ 10),(1,u "java/lang/System"),(0,u "allowSecurityManager"),(0,u "I"),(16,u "cons"),(0,u "Ljava/io/Console;"),(77,.class_ 110),(1,u "java/lang/System$CallersHolder"),(43,u "initialErrStream"),(0,u "Ljava/io/PrintStream;"),(19,u "security"),(0,u "Ljava/lang/SecurityManager;"),(31,.class_ 209),(0,u "java/lang/System$1"),(7,u "props"),(0,u "Ljava/util/Properties;"),(2,u "lineSeparator"),(0,u "Ljava/lang/String;"),(96,.class_ 321),(1,u "java/lang/System$LoggerFinder"),(5,.class_ 328),(0,u "java/lang/System$Logger"),(67,u "err"),(2,u "out"),(91,u "notSupportedJnuEncoding"),(15,u "in"),(17,u "initialIn"),(0,u "Ljava/io/InputStream;"),(35,u "bootLayer"),(0,u "Ljava/lang/ModuleLayer;"),(99,.class_ 664),(0,u "java/lang/System$2"),(9,u "NEVER"),(2,u "MAYBE"),(49,u "arraycopy"),(0,u "(Ljava/lang/Object;ILjava/lang/Object;II)V"),(72,.class_ 802),(0,u "java/lang/System$Logger$Level")] 31

def k25m0:Method:={ name := "<init>",desc := "()V",sig:={ parameters:=[],returnType:=none },accessFlags:=2,code:=none }
def k25m1:Method:={ name := "arraycopy",desc := "(Ljava/lang/Object;ILjava/lang/Object;II)V",sig:={ parameters:=[(.object "java/lang/Object"),.int,(.object "java/lang/Object"),.int,.int],returnType:=none },accessFlags:=265,code:=none }
def k25:Class:={ plain "java/lang/System" (some 0) with
 accessFlags:=49
 interfaces:=#[]
 cf:=some (fileOf pool25 8 #[.nestMembers #[319,327,801,108,663,208]] #[⟨2,5,6,#[]⟩,⟨265,727,728,#[]⟩] 49 2 #[] #[⟨25,507,526,#[]⟩,⟨25,399,155,#[]⟩,⟨25,396,155,#[]⟩,⟨10,525,526,#[]⟩,⟨26,674,12,#[]⟩,⟨26,677,12,#[]⟩,⟨10,11,12,#[]⟩,⟨74,175,176,#[]⟩,⟨10,491,222,#[]⟩,⟨74,29,30,#[]⟩,⟨74,154,155,#[]⟩,⟨10,217,218,#[]⟩,⟨10,221,222,#[]⟩,⟨8,562,563,#[]⟩])
 fields:=#[⟨"in",(.object "java/io/InputStream"),25,0,0⟩,⟨"out",(.object "java/io/PrintStream"),25,1,0⟩,⟨"err",(.object "java/io/PrintStream"),25,2,0⟩,⟨"initialIn",(.object "java/io/InputStream"),10,3,0⟩,⟨"NEVER",.int,26,4,0⟩,⟨"MAYBE",.int,26,5,0⟩,⟨"allowSecurityManager",.int,10,6,0⟩,⟨"security",(.object "java/lang/SecurityManager"),74,7,0⟩,⟨"notSupportedJnuEncoding",(.object "java/lang/String"),10,8,0⟩,⟨"cons",(.object "java/io/Console"),74,9,0⟩,⟨"initialErrStream",(.object "java/io/PrintStream"),74,10,0⟩,⟨"props",(.object "java/util/Properties"),10,11,0⟩,⟨"lineSeparator",(.object "java/lang/String"),10,12,0⟩,⟨"bootLayer",(.object "java/lang/ModuleLayer"),8,13,0⟩]
 methods:=#[k25m0,k25m1]
 instanceTypes:=#[]
 staticTypes:=#[(.object "java/io/InputStream"),(.object "java/io/PrintStream"),(.object "java/io/PrintStream"),(.object "java/io/InputStream"),.int,.int,.int,(.object "java/lang/SecurityManager"),(.object "java/lang/String"),(.object "java/io/Console"),(.object "java/io/PrintStream"),(.object "java/util/Properties"),(.object "java/lang/String"),(.object "java/lang/ModuleLayer")]
 resolved:=Array.replicate 834 none
 statics:=none }

def pool26:Array CpInfo:=pool [(2,.class_ 4),(1,u "java/lang/Object"),(0,u "<init>"),(0,u "()V"),(3,.class_ 11),(0,u "java/util/ImmutableCollections$List12"),(0,.class_ 13),(0,u "java/util/ImmutableCollections$ListN"),(3,u "Z"),(18,u "([Ljava/lang/Object;)Ljava/util/List;"),(0,.methodref 38 39),(0,.class_ 40),(0,.nameAndType 41 42),(0,u "java/util/Objects"),(0,u "requireNonNull"),(0,u "(Ljava/lang/Object;)Ljava/lang/Object;"),(0,.methodref 12 44),(0,.nameAndType 5 45),(0,u "([Ljava/lang/Object;Z)V"),(1,.class_ 49),(1,u "java/util/ImmutableCollections"),(0,u "$assertionsDisabled"),(5,u "[Ljava/lang/Object;"),(5,u "EMPTY_LIST"),(0,u "Ljava/util/ImmutableCollections$ListN;"),(8,u "EMPTY_LIST_NULLS"),(22,u "SALT32L"),(0,u "J"),(2,u "REVERSE"),(6,u "archivedObjects"),(2,u "EMPTY"),(0,u "Ljava/lang/Object;"),(0,.class_ 112),(0,u "java/util/ImmutableCollections$SetN"),(5,u "EMPTY_SET"),(0,u "Ljava/util/ImmutableCollections$SetN;"),(0,.class_ 121),(0,u "java/util/ImmutableCollections$MapN"),(3,u "EMPTY_MAP"),(0,u "Ljava/util/ImmutableCollections$MapN;"),(4,u "EXPAND_FACTOR"),(0,u "I"),(18,u "listFromArray"),(17,.class_ 170),(0,u "java/util/ImmutableCollections$MapN$MapNIterator"),(0,.class_ 172),(0,u "java/util/ImmutableCollections$MapN$1"),(0,.class_ 174),(0,u "java/util/ImmutableCollections$Map1"),(0,.class_ 176),(0,u "java/util/ImmutableCollections$AbstractImmutableMap"),(0,.class_ 178),(0,u "java/util/ImmutableCollections$SetN$SetNIterator"),(0,.class_ 180),(0,u "java/util/ImmutableCollections$Set12"),(0,.class_ 182),(0,u "java/util/ImmutableCollections$Set12$1"),(0,.class_ 184),(0,u "java/util/ImmutableCollections$AbstractImmutableSet"),(0,.class_ 186),(0,u "java/util/ImmutableCollections$SubList"),(0,.class_ 188),(0,u "java/util/ImmutableCollections$ListItr"),(0,.class_ 190),(0,u "java/util/ImmutableCollections$AbstractImmutableList"),(0,.class_ 192),(0,u "java/util/ImmutableCollections$AbstractImmutableCollection"),(0,.class_ 194),(0,u "java/util/ImmutableCollections$Access"),(0,.class_ 196),(0,u "java/util/ImmutableCollections$Access$1")] 16

def k26m0:Method:={ name := "<init>",desc := "()V",sig:={ parameters:=[],returnType:=none },accessFlags:=2,code:=none }
def k26c1:Code:={ maxStack:=4,maxLocals:=3,code:=jdk_56_method_4_code,exceptionTable:=#[],attributes:=#[] }
def k26m1:Method:={ name := "listFromArray",desc := "([Ljava/lang/Object;)Ljava/util/List;",sig:={ parameters:=[(.array (.object "java/lang/Object"))],returnType:=some (.object "java/util/List") },accessFlags:=136,code:=some k26c1 }
def k26:Class:={ plain "java/util/ImmutableCollections" (some 0) with
 accessFlags:=32
 interfaces:=#[]
 cf:=some (fileOf pool26 47 #[.nestMembers #[120,169,171,173,175,111,177,179,181,183,12,10,185,187,189,191,193,195]] #[⟨2,5,6,#[]⟩,⟨136,151,36,#[]⟩] 32 2 #[] #[⟨26,95,96,#[]⟩,⟨26,99,17,#[]⟩,⟨10,106,56,#[]⟩,⟨26,109,110,#[]⟩,⟨24,62,63,#[]⟩,⟨24,72,63,#[]⟩,⟨24,118,119,#[]⟩,⟨24,125,126,#[]⟩,⟨24,131,132,#[]⟩,⟨4120,50,17,#[]⟩])
 fields:=#[⟨"SALT32L",.long,26,0,0⟩,⟨"REVERSE",.boolean,26,1,0⟩,⟨"archivedObjects",(.array (.object "java/lang/Object")),10,2,0⟩,⟨"EMPTY",(.object "java/lang/Object"),26,3,0⟩,⟨"EMPTY_LIST",(.object "java/util/ImmutableCollections$ListN"),24,4,0⟩,⟨"EMPTY_LIST_NULLS",(.object "java/util/ImmutableCollections$ListN"),24,5,0⟩,⟨"EMPTY_SET",(.object "java/util/ImmutableCollections$SetN"),24,6,0⟩,⟨"EMPTY_MAP",(.object "java/util/ImmutableCollections$MapN"),24,7,0⟩,⟨"EXPAND_FACTOR",.int,24,8,0⟩,⟨"$assertionsDisabled",.boolean,4120,9,0⟩]
 methods:=#[k26m0,k26m1]
 instanceTypes:=#[]
 staticTypes:=#[.long,.boolean,(.array (.object "java/lang/Object")),(.object "java/lang/Object"),(.object "java/util/ImmutableCollections$ListN"),(.object "java/util/ImmutableCollections$ListN"),(.object "java/util/ImmutableCollections$SetN"),(.object "java/util/ImmutableCollections$MapN"),.int,.boolean]
 resolved:=Array.replicate 213 none
 statics:=some 3 }

def pool27:Array CpInfo:=pool [(1,.methodref 2 3),(0,.class_ 4),(0,.nameAndType 5 6),(0,u "java/util/ImmutableCollections$AbstractImmutableList"),(0,u "<init>"),(0,u "()V"),(0,.methodref 8 9),(0,.class_ 10),(0,.nameAndType 11 12),(0,u "java/util/Objects"),(0,u "requireNonNull"),(0,u "(Ljava/lang/Object;)Ljava/lang/Object;"),(0,.fieldref 14 15),(0,.class_ 16),(0,.nameAndType 17 18),(0,u "java/util/ImmutableCollections$List12"),(0,u "e0"),(0,u "Ljava/lang/Object;"),(0,.fieldref 20 21),(0,.class_ 22),(0,.nameAndType 23 18),(0,u "java/util/ImmutableCollections"),(0,u "EMPTY"),(0,.fieldref 14 25),(0,.nameAndType 26 18),(0,u "e1"),(24,u "size"),(0,u "()I"),(17,.class_ 71),(0,u "java/io/Serializable"),(4,u "(Ljava/lang/Object;)V"),(8,u "(Ljava/lang/Object;Ljava/lang/Object;)V"),(4,u "get"),(0,u "(I)Ljava/lang/Object;")] 33

def k27c0:Code:={ maxStack:=2,maxLocals:=2,code:=jdk_44_method_1_code,exceptionTable:=#[],attributes:=#[] }
def k27m0:Method:={ name := "<init>",desc := "(Ljava/lang/Object;)V",sig:={ parameters:=[(.object "java/lang/Object")],returnType:=none },accessFlags:=0,code:=some k27c0 }
def k27c1:Code:={ maxStack:=2,maxLocals:=3,code:=jdk_44_method_2_code,exceptionTable:=#[],attributes:=#[] }
def k27m1:Method:={ name := "<init>",desc := "(Ljava/lang/Object;Ljava/lang/Object;)V",sig:={ parameters:=[(.object "java/lang/Object"),(.object "java/lang/Object")],returnType:=none },accessFlags:=0,code:=some k27c1 }
def k27c2:Code:={ maxStack:=2,maxLocals:=1,code:=jdk_44_method_3_code,exceptionTable:=#[],attributes:=#[] }
def k27m2:Method:={ name := "size",desc := "()I",sig:={ parameters:=[],returnType:=some .int },accessFlags:=1,code:=some k27c2 }
def k27c3:Code:={ maxStack:=2,maxLocals:=2,code:=jdk_44_method_5_code,exceptionTable:=#[],attributes:=#[] }
def k27m3:Method:={ name := "get",desc := "(I)Ljava/lang/Object;",sig:={ parameters:=[.int],returnType:=some (.object "java/lang/Object") },accessFlags:=1,code:=some k27c3 }
def k27:Class:={ plain "java/util/ImmutableCollections$List12" (some 19) with
 accessFlags:=48
 interfaces:=#[2]
 cf:=some (fileOf pool27 14 #[.nestHost 20] #[⟨0,5,76,#[]⟩,⟨0,5,85,#[]⟩,⟨1,51,52,#[]⟩,⟨1,90,91,#[]⟩] 48 2 #[70] #[⟨18,17,18,#[]⟩,⟨18,26,18,#[]⟩])
 fields:=#[⟨"e0",(.object "java/lang/Object"),18,0,0⟩,⟨"e1",(.object "java/lang/Object"),18,1,0⟩]
 methods:=#[k27m0,k27m1,k27m2,k27m3]
 instanceTypes:=#[(.object "java/lang/Object"),(.object "java/lang/Object")]
 staticTypes:=#[]
 resolved:=Array.replicate 125 none
 statics:=none }

def pool28:Array CpInfo:=pool [(1,u "java/lang/Cloneable"),(0,.class_ 1),(0,u "java/lang/Object"),(0,.class_ 3)] 3

def k28:Class:={ plain "java/lang/Cloneable" (some 0) with
 accessFlags:=1537
 interfaces:=#[]
 cf:=some (fileOf pool28 2 #[] #[] 1537 4 #[] #[])
 fields:=#[]
 methods:=#[]
 instanceTypes:=#[]
 staticTypes:=#[]
 resolved:=Array.replicate 8 none
 statics:=none }

def k29:Class:={ plain "byte" none with kind := .primitive 'B',accessFlags:=0x411 }
def k30:Class:={ plain "[B" (some 0) with kind := .array 29 .byte,interfaces:=#[28,2],accessFlags:=1041 }

def k31:Class:={ plain "char" none with kind := .primitive 'C',accessFlags:=0x411 }
def k32:Class:={ plain "[C" (some 0) with kind := .array 31 .char,interfaces:=#[28,2],accessFlags:=1041 }

def k33:Class:={ plain "int" none with kind := .primitive 'I',accessFlags:=0x411 }
def k34:Class:={ plain "[I" (some 0) with kind := .array 33 .int,interfaces:=#[28,2],accessFlags:=1041 }

def k35:Class:={ plain "[Ljava/lang/Object;" (some 0) with kind := .array 0 (.object "java/lang/Object"),interfaces:=#[28,2],accessFlags:=1041 }

def k36:Class:={ plain "[Ljava/lang/String;" (some 0) with kind := .array 7 (.object "java/lang/String"),interfaces:=#[28,2],accessFlags:=1041 }

def heap:Heap:=#[{ cls:=7,slots:=#[.long 0,.int 1,.null,.int 0,.null,.int 0,.int 0],vm := .statics 7 },
 { cls:=8,slots:=#[.int 0,.int 8,.int 0,.int 1],vm := .statics 8 },
 { cls:=23,slots:=#[.null,.null,.null],vm := .statics 23 },
 { cls:=26,slots:=#[.long 0,.int 0,.null,.ref 4,.ref 5,.null,.null,.null,.int 0,.int 1],vm := .statics 26 },
 { cls:=0,slots:=#[],vm := .none },
 { cls:=20,slots:=#[.null,.int 0],vm := .none },
 { cls:=9,slots:=#[.ref 7],vm := .statics 9 },
 { cls:=9,slots:=#[.null,.null,.ref 8],vm := .none },
 { cls:=20,slots:=#[.ref 9,.int 0],vm := .none },
 { cls:=35,slots:=#[],vm := .none }]
def classes:Array Class:=#[k0,k1,k2,k3,k4,k5,k6,k7,k8,k9,k10,k11,k12,k13,k14,k15,k16,k17,k18,k19,k20,k21,k22,k23,k24,k25,k26,k27,k28,k29,k30,k31,k32,k33,k34,k35,k36]
def interned:List (Array UInt16×Addr):=[]
def slotsUsed:Nat:=32
def theMethod:MethodId:=⟨1,6⟩
def args0:Array Value:=#[.int 5,.int 3,.int 4,.int 7]
def aboutOver (below:List Frame):State where
 vm:={ classes:=classes,interned:=interned.toArray }
 heap:=heap
 slotsUsed:=slotsUsed
 threads:=#[{ frames := .invoking theMethod args0::below }]
def below0:List Frame:=[.native { method:=⟨0,0⟩,args:=#[] }]
def about1:State:=aboutOver below0
def p0:Program := .bare "" "" ""
def e0:Env:=launch0.env 0 0 0
theorem w_frames:about1.frames=Frame.invoking theMethod args0::below0:=rfl
theorem w_args:argsFit about1.vm theMethod args0=true:=by decide +kernel
theorem w_heap:heapFits about1=true:=by decide +kernel
theorem w_runnable:about1.curStatus? = some .runnable:=by decide +kernel
theorem w_alone:about1.alone=true:=by decide +kernel
theorem w_named:about1.methodNamed? x=some theMethod:=by decide +kernel
theorem w_hears:about1.hears theMethod below0=true:=by decide +kernel
theorem w_ripe:about1.ripe theMethod args0 below0=true:=by decide +kernel
theorem w_running:about1.status = .running:=rfl
theorem w_room:about1.hasRoom e0.platform room_1=true :=
 launch0.hasRoom_least _ room_1 (by decide +kernel) (by decide +kernel) (by decide +kernel) (by decide +kernel) (by decide +kernel) (by decide +kernel)
theorem allAtoms_all (ts:List Jvm.Cond)(a:Array Jvm.Value)(st:Jvm.State):(allAtoms ts).before a st=ts.all (fun c=>c.before a st):=by
 induction ts with
 | nil=>rfl
 | cons c t ih =>
  show (Jvm.Cond.and c (allAtoms t)).before a st=_
  rw[Jvm.Cond.before_and,ih,List.all_cons]
def words1:List Jvm.Cond:=Jvm.Cond.code x code maxLocals ret::tables_1
theorem code_word {y:MethodName}{bytes:ByteArray}{mx:Nat}{rt:Option FieldType}{a:Array Value}{s:State}{m:MethodId}{meth:Method}{c:Code}(h1:s.methodNamed? y=some m)(h2:s.vm.method? m=some meth)(h3:meth.code=some c)(h4:c.code=bytes)
  (h5:(c.maxLocals==mx&&c.exceptionTable.isEmpty&&decide (c.maxStack≤mostOperands)&&decide (meth.sig.returnType=rt)&&!meth.locks&&decide (parseMethodDescriptor y.desc=some meth.sig))=true):(Jvm.Cond.code y bytes mx rt).before a s=true:=by
 simp only[Bool.and_eq_true,beq_iff_eq,Bool.not_eq_true',decide_eq_true_eq] at h5
 obtain⟨⟨⟨⟨⟨g1,g2⟩,g3⟩,g4⟩,g5⟩,g6⟩:=h5
 simp [Cond.before,Cond.holds,Cond.value,h1,h2,h3,h4,g1,g2,g3,g4,g5,g6]
def isCode:Jvm.Cond→Bool
 | .code _ _ _ _=>true
 | _=>false
theorem all_split {L:List Jvm.Cond}{P:Jvm.Cond→Bool}(h1:L.all (fun c=>isCode c||P c)=true)(h2:∀c∈L.filter isCode,P c=true):L.all P=true:=by
 refine List.all_eq_true.mpr fun c hc=>?_
 have h:=List.all_eq_true.mp h1 c hc
 rcases Bool.eq_false_or_eq_true (isCode c) with hi|hi
 ·exact h2 c (List.mem_filter.mpr ⟨hc,hi⟩)
 ·simpa [hi] using h
theorem w_c0:(Jvm.Cond.code x code maxLocals ret).before args0 about1=true:=code_word (m:=⟨1,6⟩) (meth:=k1m6) (c:=k1c6) (by decide +kernel) rfl rfl rfl (by decide +kernel)
theorem w_c1:(Jvm.Cond.code ⟨"com/example/hierarchical_roles/hierarchicalroles/ResourcePathParsePinLaw","take","([CI)Ljava/lang/String;"⟩ method_6_code (2:Nat) (Option.some (.object "java/lang/String"))).before args0 about1=true:=code_word (m:=⟨1,5⟩) (meth:=k1m5) (c:=k1c5) (by decide +kernel) rfl rfl rfl (by decide +kernel)
theorem w_c2:(Jvm.Cond.code ⟨"java/lang/String","<init>","([C)V"⟩ jdk_42_method_3_code (2:Nat) (Option.none:Option Jvm.ClassFile.FieldType)).before args0 about1=true:=code_word (m:=⟨7,1⟩) (meth:=k7m1) (c:=k7c1) (by decide +kernel) rfl rfl rfl (by decide +kernel)
theorem w_c3:(Jvm.Cond.code ⟨"java/lang/String","<init>","([CIILjava/lang/Void;)V"⟩ jdk_42_method_149_code (6:Nat) (Option.none:Option Jvm.ClassFile.FieldType)).before args0 about1=true:=code_word (m:=⟨7,8⟩) (meth:=k7m8) (c:=k7c8) (by decide +kernel) rfl rfl rfl (by decide +kernel)
theorem w_c4:(Jvm.Cond.code ⟨"java/lang/Object","<init>","()V"⟩ object_method_1_code (1:Nat) (Option.none:Option Jvm.ClassFile.FieldType)).before args0 about1=true:=code_word (m:=⟨0,0⟩) (meth:=k0m0) (c:=k0c0) (by decide +kernel) rfl rfl rfl (by decide +kernel)
theorem w_c5:(Jvm.Cond.code ⟨"java/lang/StringUTF16","compress","([CII)[B"⟩ jdk_52_method_16_code (6:Nat) (Option.some (.array .byte))).before args0 about1=true:=code_word (m:=⟨8,8⟩) (meth:=k8m8) (c:=k8c8) (by decide +kernel) rfl rfl rfl (by decide +kernel)
theorem w_c6:(Jvm.Cond.code ⟨"java/lang/StringUTF16","compress","([CI[BII)I"⟩ jdk_52_method_21_code (7:Nat) (Option.some .int)).before args0 about1=true:=code_word (m:=⟨8,10⟩) (meth:=k8m10) (c:=k8c10) (by decide +kernel) rfl rfl rfl (by decide +kernel)
theorem w_c7:(Jvm.Cond.code ⟨"java/lang/StringUTF16","coderFromArrayLen","([BI)B"⟩ jdk_52_method_15_code (2:Nat) (Option.some .byte)).before args0 about1=true:=code_word (m:=⟨8,7⟩) (meth:=k8m7) (c:=k8c7) (by decide +kernel) rfl rfl rfl (by decide +kernel)
theorem w_c8:(Jvm.Cond.code ⟨"com/example/hierarchical_roles/hierarchicalroles/ResourcePath","parse","(Ljava/lang/String;)Lcom/example/hierarchical_roles/hierarchicalroles/ResourcePath;"⟩ prog_26_method_5_code (6:Nat) (Option.some (.object "com/example/hierarchical_roles/hierarchicalroles/ResourcePath"))).before args0 about1=true:=code_word (m:=⟨9,1⟩) (meth:=k9m1) (c:=k9c1) (by decide +kernel) rfl rfl rfl (by decide +kernel)
theorem w_c9:(Jvm.Cond.code ⟨"java/util/Objects","requireNonNull","(Ljava/lang/Object;Ljava/lang/String;)Ljava/lang/Object;"⟩ jdk_31_method_11_code (2:Nat) (Option.some (.object "java/lang/Object"))).before args0 about1=true:=code_word (m:=⟨10,2⟩) (meth:=k10m2) (c:=k10c2) (by decide +kernel) rfl rfl rfl (by decide +kernel)
theorem w_c10:(Jvm.Cond.code ⟨"java/lang/String","startsWith","(Ljava/lang/String;)Z"⟩ jdk_42_method_76_code (2:Nat) (Option.some .boolean)).before args0 about1=true:=code_word (m:=⟨7,5⟩) (meth:=k7m5) (c:=k7c5) (by decide +kernel) rfl rfl rfl (by decide +kernel)
theorem w_c11:(Jvm.Cond.code ⟨"java/lang/String","startsWith","(Ljava/lang/String;I)Z"⟩ jdk_42_method_75_code (8:Nat) (Option.some .boolean)).before args0 about1=true:=code_word (m:=⟨7,4⟩) (meth:=k7m4) (c:=k7c4) (by decide +kernel) rfl rfl rfl (by decide +kernel)
theorem w_c12:(Jvm.Cond.code ⟨"java/lang/String","length","()I"⟩ jdk_42_method_54_code (1:Nat) (Option.some .int)).before args0 about1=true:=code_word (m:=⟨7,2⟩) (meth:=k7m2) (c:=k7c2) (by decide +kernel) rfl rfl rfl (by decide +kernel)
theorem w_c13:(Jvm.Cond.code ⟨"java/lang/String","coder","()B"⟩ jdk_42_method_152_code (1:Nat) (Option.some .byte)).before args0 about1=true:=code_word (m:=⟨7,10⟩) (meth:=k7m10) (c:=k7c10) (by decide +kernel) rfl rfl rfl (by decide +kernel)
theorem w_c14:(Jvm.Cond.code ⟨"jdk/internal/util/ArraysSupport","mismatch","([BI[BII)I"⟩ jdk_48_method_14_code (8:Nat) (Option.some .int)).before args0 about1=true:=code_word (m:=⟨11,1⟩) (meth:=k11m1) (c:=k11c1) (by decide +kernel) rfl rfl rfl (by decide +kernel)
theorem w_c15:(Jvm.Cond.code ⟨"com/example/hierarchical_roles/hierarchicalroles/ResourcePath","names","()Ljava/util/List;"⟩ prog_26_method_9_code (4:Nat) (Option.some (.object "java/util/List"))).before args0 about1=true:=code_word (m:=⟨9,4⟩) (meth:=k9m4) (c:=k9c4) (by decide +kernel) rfl rfl rfl (by decide +kernel)
theorem w_c16:(Jvm.Cond.code ⟨"java/util/ImmutableCollections$ListN","size","()I"⟩ jdk_45_method_3_code (1:Nat) (Option.some .int)).before args0 about1=true:=code_word (m:=⟨20,1⟩) (meth:=k20m1) (c:=k20c1) (by decide +kernel) rfl rfl rfl (by decide +kernel)
theorem w_c17:(Jvm.Cond.code ⟨"com/example/hierarchical_roles/hierarchicalroles/ResourcePathParsePinLaw","dots","(II)Z"⟩ method_3_code (2:Nat) (Option.some .boolean)).before args0 about1=true:=code_word (m:=⟨1,2⟩) (meth:=k1m2) (c:=k1c2) (by decide +kernel) rfl rfl rfl (by decide +kernel)
theorem w_c18:(Jvm.Cond.code ⟨"com/example/hierarchical_roles/hierarchicalroles/ResourcePathParsePinLaw","ch","(II)C"⟩ method_2_code (3:Nat) (Option.some .char)).before args0 about1=true:=code_word (m:=⟨1,1⟩) (meth:=k1m1) (c:=k1c1) (by decide +kernel) rfl rfl rfl (by decide +kernel)
theorem w_c19:(Jvm.Cond.code ⟨"com/example/hierarchical_roles/hierarchicalroles/ResourcePathParsePinLaw","put","([CIII)I"⟩ method_4_code (4:Nat) (Option.some .int)).before args0 about1=true:=code_word (m:=⟨1,3⟩) (meth:=k1m3) (c:=k1c3) (by decide +kernel) rfl rfl rfl (by decide +kernel)
theorem w_c20:(Jvm.Cond.code ⟨"java/lang/String","indexOf","(II)I"⟩ jdk_42_method_80_code (3:Nat) (Option.some .int)).before args0 about1=true:=code_word (m:=⟨7,6⟩) (meth:=k7m6) (c:=k7c6) (by decide +kernel) rfl rfl rfl (by decide +kernel)
theorem w_c21:(Jvm.Cond.code ⟨"java/lang/String","isLatin1","()Z"⟩ jdk_42_method_154_code (1:Nat) (Option.some .boolean)).before args0 about1=true:=code_word (m:=⟨7,11⟩) (meth:=k7m11) (c:=k7c11) (by decide +kernel) rfl rfl rfl (by decide +kernel)
theorem w_c22:(Jvm.Cond.code ⟨"java/lang/StringLatin1","indexOf","([BIII)I"⟩ jdk_43_method_22_code (4:Nat) (Option.some .int)).before args0 about1=true:=code_word (m:=⟨21,3⟩) (meth:=k21m3) (c:=k21c3) (by decide +kernel) rfl rfl rfl (by decide +kernel)
theorem w_c23:(Jvm.Cond.code ⟨"java/lang/StringLatin1","canEncode","(I)Z"⟩ jdk_43_method_4_code (1:Nat) (Option.some .boolean)).before args0 about1=true:=code_word (m:=⟨21,2⟩) (meth:=k21m2) (c:=k21c2) (by decide +kernel) rfl rfl rfl (by decide +kernel)
theorem w_c24:(Jvm.Cond.code ⟨"java/lang/Math","max","(II)I"⟩ jdk_29_method_65_code (2:Nat) (Option.some .int)).before args0 about1=true:=code_word (m:=⟨22,1⟩) (meth:=k22m1) (c:=k22c1) (by decide +kernel) rfl rfl rfl (by decide +kernel)
theorem w_c25:(Jvm.Cond.code ⟨"java/lang/Math","min","(II)I"⟩ jdk_29_method_69_code (2:Nat) (Option.some .int)).before args0 about1=true:=code_word (m:=⟨22,2⟩) (meth:=k22m2) (c:=k22c2) (by decide +kernel) rfl rfl rfl (by decide +kernel)
theorem w_c26:(Jvm.Cond.code ⟨"java/lang/StringLatin1","indexOfChar","([BIII)I"⟩ jdk_43_method_23_code (6:Nat) (Option.some .int)).before args0 about1=true:=code_word (m:=⟨21,4⟩) (meth:=k21m4) (c:=k21c4) (by decide +kernel) rfl rfl rfl (by decide +kernel)
theorem w_c27:(Jvm.Cond.code ⟨"com/example/hierarchical_roles/hierarchicalroles/ResourcePath","<init>","(Ljava/lang/String;[I)V"⟩ prog_26_method_2_code (3:Nat) (Option.none:Option Jvm.ClassFile.FieldType)).before args0 about1=true:=code_word (m:=⟨9,0⟩) (meth:=k9m0) (c:=k9c0) (by decide +kernel) rfl rfl rfl (by decide +kernel)
theorem w_c28:(Jvm.Cond.code ⟨"com/example/hierarchical_roles/hierarchicalroles/ResourcePath","end","(I)I"⟩ prog_26_method_7_code (2:Nat) (Option.some .int)).before args0 about1=true:=code_word (m:=⟨9,3⟩) (meth:=k9m3) (c:=k9c3) (by decide +kernel) rfl rfl rfl (by decide +kernel)
theorem w_c29:(Jvm.Cond.code ⟨"com/example/hierarchical_roles/hierarchicalroles/ResourcePath","checkName","(Ljava/lang/String;II)V"⟩ prog_26_method_6_code (7:Nat) (Option.none:Option Jvm.ClassFile.FieldType)).before args0 about1=true:=code_word (m:=⟨9,2⟩) (meth:=k9m2) (c:=k9c2) (by decide +kernel) rfl rfl rfl (by decide +kernel)
theorem w_c30:(Jvm.Cond.code ⟨"java/lang/String","charAt","(I)C"⟩ jdk_42_method_56_code (2:Nat) (Option.some .char)).before args0 about1=true:=code_word (m:=⟨7,3⟩) (meth:=k7m3) (c:=k7c3) (by decide +kernel) rfl rfl rfl (by decide +kernel)
theorem w_c31:(Jvm.Cond.code ⟨"java/lang/StringLatin1","charAt","([BI)C"⟩ jdk_43_method_2_code (2:Nat) (Option.some .char)).before args0 about1=true:=code_word (m:=⟨21,1⟩) (meth:=k21m1) (c:=k21c1) (by decide +kernel) rfl rfl rfl (by decide +kernel)
theorem w_c32:(Jvm.Cond.code ⟨"java/lang/String","checkIndex","(II)V"⟩ jdk_42_method_155_code (2:Nat) (Option.none:Option Jvm.ClassFile.FieldType)).before args0 about1=true:=code_word (m:=⟨7,12⟩) (meth:=k7m12) (c:=k7c12) (by decide +kernel) rfl rfl rfl (by decide +kernel)
theorem w_c33:(Jvm.Cond.code ⟨"jdk/internal/util/Preconditions","checkIndex","(IILjava/util/function/BiFunction;)I"⟩ jdk_41_method_11_code (3:Nat) (Option.some .int)).before args0 about1=true:=code_word (m:=⟨23,1⟩) (meth:=k23m1) (c:=k23c1) (by decide +kernel) rfl rfl rfl (by decide +kernel)
theorem w_c34:(Jvm.Cond.code ⟨"java/lang/String","substring","(II)Ljava/lang/String;"⟩ jdk_42_method_92_code (5:Nat) (Option.some (.object "java/lang/String"))).before args0 about1=true:=code_word (m:=⟨7,7⟩) (meth:=k7m7) (c:=k7c7) (by decide +kernel) rfl rfl rfl (by decide +kernel)
theorem w_c35:(Jvm.Cond.code ⟨"java/lang/String","checkBoundsBeginEnd","(III)V"⟩ jdk_42_method_158_code (3:Nat) (Option.none:Option Jvm.ClassFile.FieldType)).before args0 about1=true:=code_word (m:=⟨7,14⟩) (meth:=k7m14) (c:=k7c14) (by decide +kernel) rfl rfl rfl (by decide +kernel)
theorem w_c36:(Jvm.Cond.code ⟨"jdk/internal/util/Preconditions","checkFromToIndex","(IIILjava/util/function/BiFunction;)I"⟩ jdk_41_method_12_code (4:Nat) (Option.some .int)).before args0 about1=true:=code_word (m:=⟨23,2⟩) (meth:=k23m2) (c:=k23c2) (by decide +kernel) rfl rfl rfl (by decide +kernel)
theorem w_c37:(Jvm.Cond.code ⟨"java/lang/StringLatin1","newString","([BII)Ljava/lang/String;"⟩ jdk_43_method_47_code (3:Nat) (Option.some (.object "java/lang/String"))).before args0 about1=true:=code_word (m:=⟨21,5⟩) (meth:=k21m5) (c:=k21c5) (by decide +kernel) rfl rfl rfl (by decide +kernel)
theorem w_c38:(Jvm.Cond.code ⟨"java/util/Arrays","copyOfRange","([BII)[B"⟩ jdk_65_method_132_code (3:Nat) (Option.some (.array .byte))).before args0 about1=true:=code_word (m:=⟨24,2⟩) (meth:=k24m2) (c:=k24c2) (by decide +kernel) rfl rfl rfl (by decide +kernel)
theorem w_c39:(Jvm.Cond.code ⟨"java/util/Arrays","copyOfRangeByte","([BII)[B"⟩ jdk_65_method_133_code (5:Nat) (Option.some (.array .byte))).before args0 about1=true:=code_word (m:=⟨24,3⟩) (meth:=k24m3) (c:=k24c3) (by decide +kernel) rfl rfl rfl (by decide +kernel)
theorem w_c40:(Jvm.Cond.code ⟨"java/util/Arrays","checkLength","(II)V"⟩ jdk_65_method_131_code (2:Nat) (Option.none:Option Jvm.ClassFile.FieldType)).before args0 about1=true:=code_word (m:=⟨24,1⟩) (meth:=k24m1) (c:=k24c1) (by decide +kernel) rfl rfl rfl (by decide +kernel)
theorem w_c41:(Jvm.Cond.code ⟨"java/lang/String","<init>","([BB)V"⟩ jdk_42_method_151_code (3:Nat) (Option.none:Option Jvm.ClassFile.FieldType)).before args0 about1=true:=code_word (m:=⟨7,9⟩) (meth:=k7m9) (c:=k7c9) (by decide +kernel) rfl rfl rfl (by decide +kernel)
theorem w_c42:(Jvm.Cond.code ⟨"java/util/List","of","([Ljava/lang/Object;)Ljava/util/List;"⟩ jdk_40_method_47_code (2:Nat) (Option.some (.object "java/util/List"))).before args0 about1=true:=code_word (m:=⟨15,2⟩) (meth:=k15m2) (c:=k15c2) (by decide +kernel) rfl rfl rfl (by decide +kernel)
theorem w_c43:(Jvm.Cond.code ⟨"java/util/ImmutableCollections","listFromArray","([Ljava/lang/Object;)Ljava/util/List;"⟩ jdk_56_method_4_code (3:Nat) (Option.some (.object "java/util/List"))).before args0 about1=true:=code_word (m:=⟨26,1⟩) (meth:=k26m1) (c:=k26c1) (by decide +kernel) rfl rfl rfl (by decide +kernel)
theorem w_c44:(Jvm.Cond.code ⟨"java/util/Objects","requireNonNull","(Ljava/lang/Object;)Ljava/lang/Object;"⟩ jdk_31_method_10_code (1:Nat) (Option.some (.object "java/lang/Object"))).before args0 about1=true:=code_word (m:=⟨10,1⟩) (meth:=k10m1) (c:=k10c1) (by decide +kernel) rfl rfl rfl (by decide +kernel)
theorem w_c45:(Jvm.Cond.code ⟨"java/util/ImmutableCollections$ListN","<init>","([Ljava/lang/Object;Z)V"⟩ jdk_45_method_1_code (3:Nat) (Option.none:Option Jvm.ClassFile.FieldType)).before args0 about1=true:=code_word (m:=⟨20,0⟩) (meth:=k20m0) (c:=k20c0) (by decide +kernel) rfl rfl rfl (by decide +kernel)
theorem w_c46:(Jvm.Cond.code ⟨"java/util/ImmutableCollections$AbstractImmutableList","<init>","()V"⟩ jdk_46_method_1_code (1:Nat) (Option.none:Option Jvm.ClassFile.FieldType)).before args0 about1=true:=code_word (m:=⟨19,0⟩) (meth:=k19m0) (c:=k19c0) (by decide +kernel) rfl rfl rfl (by decide +kernel)
theorem w_c47:(Jvm.Cond.code ⟨"java/util/ImmutableCollections$AbstractImmutableCollection","<init>","()V"⟩ jdk_47_method_1_code (1:Nat) (Option.none:Option Jvm.ClassFile.FieldType)).before args0 about1=true:=code_word (m:=⟨17,0⟩) (meth:=k17m0) (c:=k17c0) (by decide +kernel) rfl rfl rfl (by decide +kernel)
theorem w_c48:(Jvm.Cond.code ⟨"java/util/AbstractCollection","<init>","()V"⟩ jdk_22_method_1_code (1:Nat) (Option.none:Option Jvm.ClassFile.FieldType)).before args0 about1=true:=code_word (m:=⟨16,0⟩) (meth:=k16m0) (c:=k16c0) (by decide +kernel) rfl rfl rfl (by decide +kernel)
theorem w_c49:(Jvm.Cond.code ⟨"java/util/ImmutableCollections$ListN","get","(I)Ljava/lang/Object;"⟩ jdk_45_method_4_code (2:Nat) (Option.some (.object "java/lang/Object"))).before args0 about1=true:=code_word (m:=⟨20,2⟩) (meth:=k20m2) (c:=k20c2) (by decide +kernel) rfl rfl rfl (by decide +kernel)
theorem w_c50:(Jvm.Cond.code ⟨"com/example/hierarchical_roles/hierarchicalroles/ResourcePathParsePinLaw","same","(Ljava/lang/String;II)Z"⟩ method_5_code (3:Nat) (Option.some .boolean)).before args0 about1=true:=code_word (m:=⟨1,4⟩) (meth:=k1m4) (c:=k1c4) (by decide +kernel) rfl rfl rfl (by decide +kernel)
theorem w_c51:(Jvm.Cond.code ⟨"java/util/ImmutableCollections$List12","<init>","(Ljava/lang/Object;Ljava/lang/Object;)V"⟩ jdk_44_method_2_code (3:Nat) (Option.none:Option Jvm.ClassFile.FieldType)).before args0 about1=true:=code_word (m:=⟨27,1⟩) (meth:=k27m1) (c:=k27c1) (by decide +kernel) rfl rfl rfl (by decide +kernel)
theorem w_c52:(Jvm.Cond.code ⟨"java/util/ImmutableCollections$List12","size","()I"⟩ jdk_44_method_3_code (1:Nat) (Option.some .int)).before args0 about1=true:=code_word (m:=⟨27,2⟩) (meth:=k27m2) (c:=k27c2) (by decide +kernel) rfl rfl rfl (by decide +kernel)
theorem w_c53:(Jvm.Cond.code ⟨"java/util/ImmutableCollections$List12","get","(I)Ljava/lang/Object;"⟩ jdk_44_method_5_code (2:Nat) (Option.some (.object "java/lang/Object"))).before args0 about1=true:=code_word (m:=⟨27,3⟩) (meth:=k27m3) (c:=k27c3) (by decide +kernel) rfl rfl rfl (by decide +kernel)
theorem w_c54:(Jvm.Cond.code ⟨"java/util/ImmutableCollections$List12","<init>","(Ljava/lang/Object;)V"⟩ jdk_44_method_1_code (2:Nat) (Option.none:Option Jvm.ClassFile.FieldType)).before args0 about1=true:=code_word (m:=⟨27,0⟩) (meth:=k27m0) (c:=k27c0) (by decide +kernel) rfl rfl rfl (by decide +kernel)
theorem w_c55:(Jvm.Cond.code ⟨"java/lang/StringUTF16","toBytes","([CII)[B"⟩ jdk_52_method_14_code (5:Nat) (Option.some (.array .byte))).before args0 about1=true:=code_word (m:=⟨8,6⟩) (meth:=k8m6) (c:=k8c6) (by decide +kernel) rfl rfl rfl (by decide +kernel)
theorem w_c56:(Jvm.Cond.code ⟨"java/lang/StringUTF16","newBytesFor","(I)[B"⟩ jdk_52_method_2_code (1:Nat) (Option.some (.array .byte))).before args0 about1=true:=code_word (m:=⟨8,1⟩) (meth:=k8m1) (c:=k8c1) (by decide +kernel) rfl rfl rfl (by decide +kernel)
theorem w_c57:(Jvm.Cond.code ⟨"java/lang/StringUTF16","newBytesLength","(I)I"⟩ jdk_52_method_3_code (1:Nat) (Option.some .int)).before args0 about1=true:=code_word (m:=⟨8,2⟩) (meth:=k8m2) (c:=k8c2) (by decide +kernel) rfl rfl rfl (by decide +kernel)
theorem w_c58:(Jvm.Cond.code ⟨"java/lang/StringUTF16","putChar","([BII)V"⟩ jdk_52_method_4_code (3:Nat) (Option.none:Option Jvm.ClassFile.FieldType)).before args0 about1=true:=code_word (m:=⟨8,3⟩) (meth:=k8m3) (c:=k8c3) (by decide +kernel) rfl rfl rfl (by decide +kernel)
theorem w_c59:(Jvm.Cond.code ⟨"java/lang/StringUTF16","getChar","([BI)C"⟩ jdk_52_method_5_code (2:Nat) (Option.some .char)).before args0 about1=true:=code_word (m:=⟨8,4⟩) (meth:=k8m4) (c:=k8c4) (by decide +kernel) rfl rfl rfl (by decide +kernel)
theorem w_c60:(Jvm.Cond.code ⟨"java/lang/StringUTF16","indexOf","([BIII)I"⟩ jdk_52_method_40_code (4:Nat) (Option.some .int)).before args0 about1=true:=code_word (m:=⟨8,12⟩) (meth:=k8m12) (c:=k8c12) (by decide +kernel) rfl rfl rfl (by decide +kernel)
theorem w_c61:(Jvm.Cond.code ⟨"java/lang/StringUTF16","indexOfChar","([BIII)I"⟩ jdk_52_method_47_code (4:Nat) (Option.some .int)).before args0 about1=true:=code_word (m:=⟨8,13⟩) (meth:=k8m13) (c:=k8c13) (by decide +kernel) rfl rfl rfl (by decide +kernel)
theorem w_c62:(Jvm.Cond.code ⟨"java/lang/StringUTF16","checkBoundsBeginEnd","(II[B)V"⟩ jdk_52_method_93_code (3:Nat) (Option.none:Option Jvm.ClassFile.FieldType)).before args0 about1=true:=code_word (m:=⟨8,18⟩) (meth:=k8m18) (c:=k8c18) (by decide +kernel) rfl rfl rfl (by decide +kernel)
theorem w_c63:(Jvm.Cond.code ⟨"java/lang/StringUTF16","length","([B)I"⟩ jdk_52_method_6_code (1:Nat) (Option.some .int)).before args0 about1=true:=code_word (m:=⟨8,5⟩) (meth:=k8m5) (c:=k8c5) (by decide +kernel) rfl rfl rfl (by decide +kernel)
theorem w_c64:(Jvm.Cond.code ⟨"java/lang/StringUTF16","indexOfCharUnsafe","([BIII)I"⟩ jdk_52_method_48_code (5:Nat) (Option.some .int)).before args0 about1=true:=code_word (m:=⟨8,14⟩) (meth:=k8m14) (c:=k8c14) (by decide +kernel) rfl rfl rfl (by decide +kernel)
theorem w_c65:(Jvm.Cond.code ⟨"java/lang/StringUTF16","newString","([BII)Ljava/lang/String;"⟩ jdk_52_method_69_code (5:Nat) (Option.some (.object "java/lang/String"))).before args0 about1=true:=code_word (m:=⟨8,15⟩) (meth:=k8m15) (c:=k8c15) (by decide +kernel) rfl rfl rfl (by decide +kernel)
theorem w_c66:(Jvm.Cond.code ⟨"java/lang/StringUTF16","compress","([BII)[B"⟩ jdk_52_method_17_code (6:Nat) (Option.some (.array .byte))).before args0 about1=true:=code_word (m:=⟨8,9⟩) (meth:=k8m9) (c:=k8c9) (by decide +kernel) rfl rfl rfl (by decide +kernel)
theorem w_c67:(Jvm.Cond.code ⟨"java/lang/StringUTF16","compress","([BI[BII)I"⟩ jdk_52_method_22_code (7:Nat) (Option.some .int)).before args0 about1=true:=code_word (m:=⟨8,11⟩) (meth:=k8m11) (c:=k8c11) (by decide +kernel) rfl rfl rfl (by decide +kernel)
theorem w_c68:(Jvm.Cond.code ⟨"java/lang/StringUTF16","checkBoundsOffCount","(II[B)V"⟩ jdk_52_method_94_code (3:Nat) (Option.none:Option Jvm.ClassFile.FieldType)).before args0 about1=true:=code_word (m:=⟨8,19⟩) (meth:=k8m19) (c:=k8c19) (by decide +kernel) rfl rfl rfl (by decide +kernel)
theorem w_c69:(Jvm.Cond.code ⟨"java/lang/String","checkBoundsOffCount","(III)I"⟩ jdk_42_method_157_code (3:Nat) (Option.some .int)).before args0 about1=true:=code_word (m:=⟨7,13⟩) (meth:=k7m13) (c:=k7c13) (by decide +kernel) rfl rfl rfl (by decide +kernel)
theorem w_c70:(Jvm.Cond.code ⟨"jdk/internal/util/Preconditions","checkFromIndexSize","(IIILjava/util/function/BiFunction;)I"⟩ jdk_41_method_13_code (4:Nat) (Option.some .int)).before args0 about1=true:=code_word (m:=⟨23,3⟩) (meth:=k23m3) (c:=k23c3) (by decide +kernel) rfl rfl rfl (by decide +kernel)
theorem w_c71:(Jvm.Cond.code ⟨"java/lang/StringUTF16","charAt","([BI)C"⟩ jdk_52_method_83_code (2:Nat) (Option.some .char)).before args0 about1=true:=code_word (m:=⟨8,16⟩) (meth:=k8m16) (c:=k8c16) (by decide +kernel) rfl rfl rfl (by decide +kernel)
theorem w_c72:(Jvm.Cond.code ⟨"java/lang/StringUTF16","checkIndex","(I[B)V"⟩ jdk_52_method_91_code (2:Nat) (Option.none:Option Jvm.ClassFile.FieldType)).before args0 about1=true:=code_word (m:=⟨8,17⟩) (meth:=k8m17) (c:=k8c17) (by decide +kernel) rfl rfl rfl (by decide +kernel)
def codes1:List Jvm.Cond:=[Jvm.Cond.code x code maxLocals ret,Jvm.Cond.code ⟨"com/example/hierarchical_roles/hierarchicalroles/ResourcePathParsePinLaw","take","([CI)Ljava/lang/String;"⟩ method_6_code (2:Nat) (Option.some (.object "java/lang/String")),Jvm.Cond.code ⟨"java/lang/String","<init>","([C)V"⟩ jdk_42_method_3_code (2:Nat) (Option.none:Option Jvm.ClassFile.FieldType),Jvm.Cond.code ⟨"java/lang/String","<init>","([CIILjava/lang/Void;)V"⟩ jdk_42_method_149_code (6:Nat) (Option.none:Option Jvm.ClassFile.FieldType),Jvm.Cond.code ⟨"java/lang/Object","<init>","()V"⟩ object_method_1_code (1:Nat) (Option.none:Option Jvm.ClassFile.FieldType),Jvm.Cond.code ⟨"java/lang/StringUTF16","compress","([CII)[B"⟩ jdk_52_method_16_code (6:Nat) (Option.some (.array .byte)),Jvm.Cond.code ⟨"java/lang/StringUTF16","compress","([CI[BII)I"⟩ jdk_52_method_21_code (7:Nat) (Option.some .int),Jvm.Cond.code ⟨"java/lang/StringUTF16","coderFromArrayLen","([BI)B"⟩ jdk_52_method_15_code (2:Nat) (Option.some .byte),Jvm.Cond.code ⟨"com/example/hierarchical_roles/hierarchicalroles/ResourcePath","parse","(Ljava/lang/String;)Lcom/example/hierarchical_roles/hierarchicalroles/ResourcePath;"⟩ prog_26_method_5_code (6:Nat) (Option.some (.object "com/example/hierarchical_roles/hierarchicalroles/ResourcePath")),Jvm.Cond.code ⟨"java/util/Objects","requireNonNull","(Ljava/lang/Object;Ljava/lang/String;)Ljava/lang/Object;"⟩ jdk_31_method_11_code (2:Nat) (Option.some (.object "java/lang/Object")),Jvm.Cond.code ⟨"java/lang/String","startsWith","(Ljava/lang/String;)Z"⟩ jdk_42_method_76_code (2:Nat) (Option.some .boolean),Jvm.Cond.code ⟨"java/lang/String","startsWith","(Ljava/lang/String;I)Z"⟩ jdk_42_method_75_code (8:Nat) (Option.some .boolean),Jvm.Cond.code ⟨"java/lang/String","length","()I"⟩ jdk_42_method_54_code (1:Nat) (Option.some .int),Jvm.Cond.code ⟨"java/lang/String","coder","()B"⟩ jdk_42_method_152_code (1:Nat) (Option.some .byte),Jvm.Cond.code ⟨"jdk/internal/util/ArraysSupport","mismatch","([BI[BII)I"⟩ jdk_48_method_14_code (8:Nat) (Option.some .int),Jvm.Cond.code ⟨"com/example/hierarchical_roles/hierarchicalroles/ResourcePath","names","()Ljava/util/List;"⟩ prog_26_method_9_code (4:Nat) (Option.some (.object "java/util/List")),Jvm.Cond.code ⟨"java/util/ImmutableCollections$ListN","size","()I"⟩ jdk_45_method_3_code (1:Nat) (Option.some .int),Jvm.Cond.code ⟨"com/example/hierarchical_roles/hierarchicalroles/ResourcePathParsePinLaw","dots","(II)Z"⟩ method_3_code (2:Nat) (Option.some .boolean),Jvm.Cond.code ⟨"com/example/hierarchical_roles/hierarchicalroles/ResourcePathParsePinLaw","ch","(II)C"⟩ method_2_code (3:Nat) (Option.some .char),Jvm.Cond.code ⟨"com/example/hierarchical_roles/hierarchicalroles/ResourcePathParsePinLaw","put","([CIII)I"⟩ method_4_code (4:Nat) (Option.some .int),Jvm.Cond.code ⟨"java/lang/String","indexOf","(II)I"⟩ jdk_42_method_80_code (3:Nat) (Option.some .int),Jvm.Cond.code ⟨"java/lang/String","isLatin1","()Z"⟩ jdk_42_method_154_code (1:Nat) (Option.some .boolean),Jvm.Cond.code ⟨"java/lang/StringLatin1","indexOf","([BIII)I"⟩ jdk_43_method_22_code (4:Nat) (Option.some .int),Jvm.Cond.code ⟨"java/lang/StringLatin1","canEncode","(I)Z"⟩ jdk_43_method_4_code (1:Nat) (Option.some .boolean),Jvm.Cond.code ⟨"java/lang/Math","max","(II)I"⟩ jdk_29_method_65_code (2:Nat) (Option.some .int),Jvm.Cond.code ⟨"java/lang/Math","min","(II)I"⟩ jdk_29_method_69_code (2:Nat) (Option.some .int),Jvm.Cond.code ⟨"java/lang/StringLatin1","indexOfChar","([BIII)I"⟩ jdk_43_method_23_code (6:Nat) (Option.some .int),Jvm.Cond.code ⟨"com/example/hierarchical_roles/hierarchicalroles/ResourcePath","<init>","(Ljava/lang/String;[I)V"⟩ prog_26_method_2_code (3:Nat) (Option.none:Option Jvm.ClassFile.FieldType),Jvm.Cond.code ⟨"com/example/hierarchical_roles/hierarchicalroles/ResourcePath","end","(I)I"⟩ prog_26_method_7_code (2:Nat) (Option.some .int),Jvm.Cond.code ⟨"com/example/hierarchical_roles/hierarchicalroles/ResourcePath","checkName","(Ljava/lang/String;II)V"⟩ prog_26_method_6_code (7:Nat) (Option.none:Option Jvm.ClassFile.FieldType),Jvm.Cond.code ⟨"java/lang/String","charAt","(I)C"⟩ jdk_42_method_56_code (2:Nat) (Option.some .char),Jvm.Cond.code ⟨"java/lang/StringLatin1","charAt","([BI)C"⟩ jdk_43_method_2_code (2:Nat) (Option.some .char),Jvm.Cond.code ⟨"java/lang/String","checkIndex","(II)V"⟩ jdk_42_method_155_code (2:Nat) (Option.none:Option Jvm.ClassFile.FieldType),Jvm.Cond.code ⟨"jdk/internal/util/Preconditions","checkIndex","(IILjava/util/function/BiFunction;)I"⟩ jdk_41_method_11_code (3:Nat) (Option.some .int),Jvm.Cond.code ⟨"java/lang/String","substring","(II)Ljava/lang/String;"⟩ jdk_42_method_92_code (5:Nat) (Option.some (.object "java/lang/String")),Jvm.Cond.code ⟨"java/lang/String","checkBoundsBeginEnd","(III)V"⟩ jdk_42_method_158_code (3:Nat) (Option.none:Option Jvm.ClassFile.FieldType),Jvm.Cond.code ⟨"jdk/internal/util/Preconditions","checkFromToIndex","(IIILjava/util/function/BiFunction;)I"⟩ jdk_41_method_12_code (4:Nat) (Option.some .int),Jvm.Cond.code ⟨"java/lang/StringLatin1","newString","([BII)Ljava/lang/String;"⟩ jdk_43_method_47_code (3:Nat) (Option.some (.object "java/lang/String")),Jvm.Cond.code ⟨"java/util/Arrays","copyOfRange","([BII)[B"⟩ jdk_65_method_132_code (3:Nat) (Option.some (.array .byte)),Jvm.Cond.code ⟨"java/util/Arrays","copyOfRangeByte","([BII)[B"⟩ jdk_65_method_133_code (5:Nat) (Option.some (.array .byte)),Jvm.Cond.code ⟨"java/util/Arrays","checkLength","(II)V"⟩ jdk_65_method_131_code (2:Nat) (Option.none:Option Jvm.ClassFile.FieldType),Jvm.Cond.code ⟨"java/lang/String","<init>","([BB)V"⟩ jdk_42_method_151_code (3:Nat) (Option.none:Option Jvm.ClassFile.FieldType),Jvm.Cond.code ⟨"java/util/List","of","([Ljava/lang/Object;)Ljava/util/List;"⟩ jdk_40_method_47_code (2:Nat) (Option.some (.object "java/util/List")),Jvm.Cond.code ⟨"java/util/ImmutableCollections","listFromArray","([Ljava/lang/Object;)Ljava/util/List;"⟩ jdk_56_method_4_code (3:Nat) (Option.some (.object "java/util/List")),Jvm.Cond.code ⟨"java/util/Objects","requireNonNull","(Ljava/lang/Object;)Ljava/lang/Object;"⟩ jdk_31_method_10_code (1:Nat) (Option.some (.object "java/lang/Object")),Jvm.Cond.code ⟨"java/util/ImmutableCollections$ListN","<init>","([Ljava/lang/Object;Z)V"⟩ jdk_45_method_1_code (3:Nat) (Option.none:Option Jvm.ClassFile.FieldType),Jvm.Cond.code ⟨"java/util/ImmutableCollections$AbstractImmutableList","<init>","()V"⟩ jdk_46_method_1_code (1:Nat) (Option.none:Option Jvm.ClassFile.FieldType),Jvm.Cond.code ⟨"java/util/ImmutableCollections$AbstractImmutableCollection","<init>","()V"⟩ jdk_47_method_1_code (1:Nat) (Option.none:Option Jvm.ClassFile.FieldType),Jvm.Cond.code ⟨"java/util/AbstractCollection","<init>","()V"⟩ jdk_22_method_1_code (1:Nat) (Option.none:Option Jvm.ClassFile.FieldType),Jvm.Cond.code ⟨"java/util/ImmutableCollections$ListN","get","(I)Ljava/lang/Object;"⟩ jdk_45_method_4_code (2:Nat) (Option.some (.object "java/lang/Object")),Jvm.Cond.code ⟨"com/example/hierarchical_roles/hierarchicalroles/ResourcePathParsePinLaw","same","(Ljava/lang/String;II)Z"⟩ method_5_code (3:Nat) (Option.some .boolean),Jvm.Cond.code ⟨"java/util/ImmutableCollections$List12","<init>","(Ljava/lang/Object;Ljava/lang/Object;)V"⟩ jdk_44_method_2_code (3:Nat) (Option.none:Option Jvm.ClassFile.FieldType),Jvm.Cond.code ⟨"java/util/ImmutableCollections$List12","size","()I"⟩ jdk_44_method_3_code (1:Nat) (Option.some .int),Jvm.Cond.code ⟨"java/util/ImmutableCollections$List12","get","(I)Ljava/lang/Object;"⟩ jdk_44_method_5_code (2:Nat) (Option.some (.object "java/lang/Object")),Jvm.Cond.code ⟨"java/util/ImmutableCollections$List12","<init>","(Ljava/lang/Object;)V"⟩ jdk_44_method_1_code (2:Nat) (Option.none:Option Jvm.ClassFile.FieldType),Jvm.Cond.code ⟨"java/lang/StringUTF16","toBytes","([CII)[B"⟩ jdk_52_method_14_code (5:Nat) (Option.some (.array .byte)),Jvm.Cond.code ⟨"java/lang/StringUTF16","newBytesFor","(I)[B"⟩ jdk_52_method_2_code (1:Nat) (Option.some (.array .byte)),Jvm.Cond.code ⟨"java/lang/StringUTF16","newBytesLength","(I)I"⟩ jdk_52_method_3_code (1:Nat) (Option.some .int),Jvm.Cond.code ⟨"java/lang/StringUTF16","putChar","([BII)V"⟩ jdk_52_method_4_code (3:Nat) (Option.none:Option Jvm.ClassFile.FieldType),Jvm.Cond.code ⟨"java/lang/StringUTF16","getChar","([BI)C"⟩ jdk_52_method_5_code (2:Nat) (Option.some .char),Jvm.Cond.code ⟨"java/lang/StringUTF16","indexOf","([BIII)I"⟩ jdk_52_method_40_code (4:Nat) (Option.some .int),Jvm.Cond.code ⟨"java/lang/StringUTF16","indexOfChar","([BIII)I"⟩ jdk_52_method_47_code (4:Nat) (Option.some .int),Jvm.Cond.code ⟨"java/lang/StringUTF16","checkBoundsBeginEnd","(II[B)V"⟩ jdk_52_method_93_code (3:Nat) (Option.none:Option Jvm.ClassFile.FieldType),Jvm.Cond.code ⟨"java/lang/StringUTF16","length","([B)I"⟩ jdk_52_method_6_code (1:Nat) (Option.some .int),Jvm.Cond.code ⟨"java/lang/StringUTF16","indexOfCharUnsafe","([BIII)I"⟩ jdk_52_method_48_code (5:Nat) (Option.some .int),Jvm.Cond.code ⟨"java/lang/StringUTF16","newString","([BII)Ljava/lang/String;"⟩ jdk_52_method_69_code (5:Nat) (Option.some (.object "java/lang/String")),Jvm.Cond.code ⟨"java/lang/StringUTF16","compress","([BII)[B"⟩ jdk_52_method_17_code (6:Nat) (Option.some (.array .byte)),Jvm.Cond.code ⟨"java/lang/StringUTF16","compress","([BI[BII)I"⟩ jdk_52_method_22_code (7:Nat) (Option.some .int),Jvm.Cond.code ⟨"java/lang/StringUTF16","checkBoundsOffCount","(II[B)V"⟩ jdk_52_method_94_code (3:Nat) (Option.none:Option Jvm.ClassFile.FieldType),Jvm.Cond.code ⟨"java/lang/String","checkBoundsOffCount","(III)I"⟩ jdk_42_method_157_code (3:Nat) (Option.some .int),Jvm.Cond.code ⟨"jdk/internal/util/Preconditions","checkFromIndexSize","(IIILjava/util/function/BiFunction;)I"⟩ jdk_41_method_13_code (4:Nat) (Option.some .int),Jvm.Cond.code ⟨"java/lang/StringUTF16","charAt","([BI)C"⟩ jdk_52_method_83_code (2:Nat) (Option.some .char),Jvm.Cond.code ⟨"java/lang/StringUTF16","checkIndex","(I[B)V"⟩ jdk_52_method_91_code (2:Nat) (Option.none:Option Jvm.ClassFile.FieldType)]
theorem codes_eq:words1.filter isCode=codes1:=rfl
theorem w_codes:∀c∈words1.filter isCode,c.before args0 about1=true:=by
 rw[codes_eq]
 intro c hc
 simp only[codes1,List.mem_cons,List.not_mem_nil,or_false] at hc
 rcases hc with rfl|rfl|rfl|rfl|rfl|rfl|rfl|rfl|rfl|rfl|rfl|rfl|rfl|rfl|rfl|rfl|rfl|rfl|rfl|rfl|rfl|rfl|rfl|rfl|rfl|rfl|rfl|rfl|rfl|rfl|rfl|rfl|rfl|rfl|rfl|rfl|rfl|rfl|rfl|rfl|rfl|rfl|rfl|rfl|rfl|rfl|rfl|rfl|rfl|rfl|rfl|rfl|rfl|rfl|rfl|rfl|rfl|rfl|rfl|rfl|rfl|rfl|rfl|rfl|rfl|rfl|rfl|rfl|rfl|rfl|rfl|rfl|rfl
 ·exact w_c0
 ·exact w_c1
 ·exact w_c2
 ·exact w_c3
 ·exact w_c4
 ·exact w_c5
 ·exact w_c6
 ·exact w_c7
 ·exact w_c8
 ·exact w_c9
 ·exact w_c10
 ·exact w_c11
 ·exact w_c12
 ·exact w_c13
 ·exact w_c14
 ·exact w_c15
 ·exact w_c16
 ·exact w_c17
 ·exact w_c18
 ·exact w_c19
 ·exact w_c20
 ·exact w_c21
 ·exact w_c22
 ·exact w_c23
 ·exact w_c24
 ·exact w_c25
 ·exact w_c26
 ·exact w_c27
 ·exact w_c28
 ·exact w_c29
 ·exact w_c30
 ·exact w_c31
 ·exact w_c32
 ·exact w_c33
 ·exact w_c34
 ·exact w_c35
 ·exact w_c36
 ·exact w_c37
 ·exact w_c38
 ·exact w_c39
 ·exact w_c40
 ·exact w_c41
 ·exact w_c42
 ·exact w_c43
 ·exact w_c44
 ·exact w_c45
 ·exact w_c46
 ·exact w_c47
 ·exact w_c48
 ·exact w_c49
 ·exact w_c50
 ·exact w_c51
 ·exact w_c52
 ·exact w_c53
 ·exact w_c54
 ·exact w_c55
 ·exact w_c56
 ·exact w_c57
 ·exact w_c58
 ·exact w_c59
 ·exact w_c60
 ·exact w_c61
 ·exact w_c62
 ·exact w_c63
 ·exact w_c64
 ·exact w_c65
 ·exact w_c66
 ·exact w_c67
 ·exact w_c68
 ·exact w_c69
 ·exact w_c70
 ·exact w_c71
 ·exact w_c72
theorem w_t1:(words1.take 24).all (fun c=>isCode c||c.before args0 about1)=true:=by decide +kernel
theorem w_t2:((words1.drop 24).take 24).all (fun c=>isCode c||c.before args0 about1)=true:=by decide +kernel
theorem w_t3:(((words1.drop 24).drop 24).take 24).all (fun c=>isCode c||c.before args0 about1)=true:=by decide +kernel
theorem w_t4:((((words1.drop 24).drop 24).drop 24).take 24).all (fun c=>isCode c||c.before args0 about1)=true:=by decide +kernel
theorem w_t5:(((((words1.drop 24).drop 24).drop 24).drop 24).take 24).all (fun c=>isCode c||c.before args0 about1)=true:=by decide +kernel
theorem w_t6:((((((words1.drop 24).drop 24).drop 24).drop 24).drop 24).take 24).all (fun c=>isCode c||c.before args0 about1)=true:=by decide +kernel
theorem w_t7:(((((((words1.drop 24).drop 24).drop 24).drop 24).drop 24).drop 24).take 24).all (fun c=>isCode c||c.before args0 about1)=true:=by decide +kernel
theorem w_t8:((((((((words1.drop 24).drop 24).drop 24).drop 24).drop 24).drop 24).drop 24).take 24).all (fun c=>isCode c||c.before args0 about1)=true:=by decide +kernel
theorem w_t9:(((((((((words1.drop 24).drop 24).drop 24).drop 24).drop 24).drop 24).drop 24).drop 24).take 24).all (fun c=>isCode c||c.before args0 about1)=true:=by decide +kernel
theorem w_t10:((((((((((words1.drop 24).drop 24).drop 24).drop 24).drop 24).drop 24).drop 24).drop 24).drop 24).take 24).all (fun c=>isCode c||c.before args0 about1)=true:=by decide +kernel
theorem w_t11:(((((((((((words1.drop 24).drop 24).drop 24).drop 24).drop 24).drop 24).drop 24).drop 24).drop 24).drop 24).take 24).all (fun c=>isCode c||c.before args0 about1)=true:=by decide +kernel
theorem w_t12:((((((((((((words1.drop 24).drop 24).drop 24).drop 24).drop 24).drop 24).drop 24).drop 24).drop 24).drop 24).drop 24).take 24).all (fun c=>isCode c||c.before args0 about1)=true:=by decide +kernel
theorem w_t13:(((((((((((((words1.drop 24).drop 24).drop 24).drop 24).drop 24).drop 24).drop 24).drop 24).drop 24).drop 24).drop 24).drop 24).take 24).all (fun c=>isCode c||c.before args0 about1)=true:=by decide +kernel
theorem w_t14:((((((((((((((words1.drop 24).drop 24).drop 24).drop 24).drop 24).drop 24).drop 24).drop 24).drop 24).drop 24).drop 24).drop 24).drop 24).take 24).all (fun c=>isCode c||c.before args0 about1)=true:=by decide +kernel
theorem w_t15:((((((((((((((words1.drop 24).drop 24).drop 24).drop 24).drop 24).drop 24).drop 24).drop 24).drop 24).drop 24).drop 24).drop 24).drop 24).drop 24).all (fun c=>isCode c||c.before args0 about1)=true:=by decide +kernel
theorem w_tables:(allAtoms (Jvm.Cond.code x code maxLocals ret::tables_1)).before args0 about1=true:=by
 rw[allAtoms_all]
 show words1.all (fun c=>c.before args0 about1)=true
 refine all_split ?_ w_codes
 rw[←List.take_append_drop 24 words1,List.all_append,w_t1,←List.take_append_drop 24 (words1.drop 24),List.all_append,w_t2,←List.take_append_drop 24 ((words1.drop 24).drop 24),List.all_append,w_t3,←List.take_append_drop 24 (((words1.drop 24).drop 24).drop 24),List.all_append,w_t4,←List.take_append_drop 24 ((((words1.drop 24).drop 24).drop 24).drop 24),List.all_append,w_t5,←List.take_append_drop 24 (((((words1.drop 24).drop 24).drop 24).drop 24).drop 24),List.all_append,w_t6,←List.take_append_drop 24 ((((((words1.drop 24).drop 24).drop 24).drop 24).drop 24).drop 24),List.all_append,w_t7,←List.take_append_drop 24 (((((((words1.drop 24).drop 24).drop 24).drop 24).drop 24).drop 24).drop 24),List.all_append,w_t8,←List.take_append_drop 24 ((((((((words1.drop 24).drop 24).drop 24).drop 24).drop 24).drop 24).drop 24).drop 24),List.all_append,w_t9,←List.take_append_drop 24 (((((((((words1.drop 24).drop 24).drop 24).drop 24).drop 24).drop 24).drop 24).drop 24).drop 24),List.all_append,w_t10,←List.take_append_drop 24 ((((((((((words1.drop 24).drop 24).drop 24).drop 24).drop 24).drop 24).drop 24).drop 24).drop 24).drop 24),List.all_append,w_t11,←List.take_append_drop 24 (((((((((((words1.drop 24).drop 24).drop 24).drop 24).drop 24).drop 24).drop 24).drop 24).drop 24).drop 24).drop 24),List.all_append,w_t12,←List.take_append_drop 24 ((((((((((((words1.drop 24).drop 24).drop 24).drop 24).drop 24).drop 24).drop 24).drop 24).drop 24).drop 24).drop 24).drop 24),List.all_append,w_t13,←List.take_append_drop 24 (((((((((((((words1.drop 24).drop 24).drop 24).drop 24).drop 24).drop 24).drop 24).drop 24).drop 24).drop 24).drop 24).drop 24).drop 24),List.all_append,w_t14,w_t15]
 rfl
theorem w_rest:rest_1_c.before args0 about1=true:=by decide +kernel
theorem w_case:(Jvm.Cond.and given_1 narrow_1).before args0 about1=true:=by decide +kernel
theorem w_consts:constsHeld consts_1 about1:=Jvm.Lit.constsHeldB_iff.mp (by decide +kernel)
theorem w_applies:(headSpec (Jvm.Cond.code x code maxLocals ret::tables_1) room_1).applies x e0.platform about1=true :=
 (Spec.applies_iff w_frames).mpr ⟨w_running,w_runnable,w_alone,w_named,w_hears,w_ripe,w_room,w_tables⟩
theorem atStart:AtStart classFile x code maxLocals ret World_1 tables_1 room_1 Calls_1 rest_1 Pre_1 launch0 p0 e0 about1 theMethod args0 below0 :=
 ⟨lists_1,trivial,launch0.admits_env _ _ _,launch0.least_env,fairChoices_fair.cas,fairChoices_fair.clock,w_frames,w_args,w_heap,w_applies,⟨w_consts,trivial⟩,w_rest,w_case⟩
end start1
theorem witness_1:WitnessClaimed_1:=⟨start1.p0,start1.e0,start1.about1,start1.theMethod,start1.args0,start1.below0,start1.atStart⟩
end Jvm.Pilot.@@N@@
