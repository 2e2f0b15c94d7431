import JvmDerived
import JvmDerived.Pilot.@@N@@Statement
import JvmDerived.Pilot.@@N@@Code
set_option linter.unusedVariables false
set_option linter.unusedSimpArgs false
namespace Jvm.Pilot.@@N@@
open Jvm Jvm.ClassFile Sem Op Lib Jvm.Free Jvm.Stand Jvm.LawKit Jvm.RoadKit Bundle Jvm.Pilot.@@N@@.Jvm.D
abbrev HW (a0:Array Value)(Z:State):Prop:=∀d∈tables_1,d.before a0 Z=true
theorem tw {Z:State}{a0:Array Value}(hw:HW a0 Z)(i:Nat){d:Jvm.Cond}(h:tables_1[i]? = some d):d.before a0 Z=true:=hw d (List.mem_of_getElem? h)
abbrev rp (n:Nat)(v:Value):List Value:=List.replicate n v
section OwnKit
variable {p:Program}{l:Launch}{e:Env}{R:Room}{s:State}{m:MethodId}{args:Array Value}{below:List Frame}{meth:Method}{c:Code}{T:State}{locs:List Loc}{cells slots:Nat}{Z:State}{a0:Array Value}{h h':Heap}{Ev:State→Outcome→Prop}
def Go (p:Program)(e:Env)(below:List Frame)(Ev:State→Outcome→Prop)(T:State)(g:JFrame):Prop :=
 ∃(U:State) (o:Outcome),Steps p.tables e below (T.setTop g) U∧U.status = .running∧Ended U below o∧Ev U o
theorem Go.on {T T':State}{g g':JFrame}(K:Go p e below Ev T' g')(st:∀t,Steps p.tables e below (T'.setTop g') t→Steps p.tables e below (T.setTop g) t):Go p e below Ev T g:=by
 obtain⟨U,o,h1,h2⟩:=K
 exact⟨U,o,st _ h1,h2⟩
abbrev bw (s:State)(Q:Option Value→Heap→List Loc→Prop)(K N:Nat):State→Outcome→Prop:=fun U o=>∃(v:Option Value)(L:List Loc),o = .returned v∧Q v U.heap L∧FrameEnd s o U L K N
theorem o9 {x:MethodName}{code:ByteArray}{ml:Nat}{ret:Option FieldType}{ws:List Jvm.Cond}{rm:Room}{as:Array Value}{h0:Heap}{Q:Option Value→Heap→List Loc→Prop}{K N:Nat}{Ls:Array Slot}(hpn:plainFor x=true)(hef:∀m,entryFrame m as ml=mkF m 0 Ls [])
  (body:∀(p:Program) (e:Env) (s:State) (m:MethodId) (below:List Frame) (meth:Method) (c:Code) (T:State),Stand p l e rm s m as below meth c T [] 0 0→p.tables.exec=Jvm.exec→c.code=code→c.maxLocals=ml→meth.sig.returnType=ret→meth.locks=false→meth.name=x.name→s.vm.findClass x.cls=some m.cls→Z.Warmed39 s.vm→T.heap=h0→Go p e below (bw s Q K N) T (mkF m 0 Ls [])) :
  MetFree l x (head1 (Jvm.Cond.code x code ml ret::ws) rm) (fun a U=>a=as∧Z.Warmed39 U.vm∧U.heap=h0) (fun _ _ _ _ _=>True) (fun _ U o U'=>∃v L,o = .returned v∧Q v U'.heap L∧FrameEnd U o U' L K N):=by
 refine MetFree.of_bodySF hpn hisR ?_
 intro p e s m args below meth c s₁ Bd hml0 hP hK
 obtain⟨rfl,hZ,hh⟩:=hP
 have e0:s₁.heap=h0:=by rw[←hh,Bd.state];rfl
 obtain⟨U,o,h1,h2,h3,h4⟩:=body p e s m below meth c s₁ (Stand.of_body Bd) Bd.exec Bd.bytes hml0 Bd.returns (BodyLoose.notSynchronized Bd) (name_of_methodNamed Bd.named Bd.method).1 (findClass_of_methodNamed Bd.named) hZ e0
 rw[←hef m] at h1
 exact⟨U,o,h1,h2,h3,h4⟩
theorem iD (X:Stand p l e R s m args below meth c T locs cells slots)(hlk:meth.locks=false){Q:Option Value→Heap→List Loc→Prop}{K N:Nat}{g:JFrame}{v:Option Value}(hv:meth.sig.returnType=none→v=none)(hK:cells≤K)(hN:slots≤N)(eT:T.heap=h)(hQ:Q v h locs)
  (hst:∀fs,(∀(f:JFrame) (acts:List Action),f.method=m→f.locked=none→f.entered=[]→(doReturn e (T.setTop f) acts v).1=T.setFrames fs)→Steps p.tables e below (T.setTop g) (T.setFrames fs)):Go p e below (bw s Q K N) T g:=by
 obtain⟨fs,hr,hrun,hended,hW,hsame⟩:=X.leave (v:=v) hv hlk
 exact⟨_,_,hst fs hr,hrun,hended,_,_,rfl,by rw[show (T.setFrames fs).heap=T.heap from rfl,eT];exact hQ,⟨_,rfl⟩,hW,hsame.mono hK hN⟩
theorem zv (X:Stand p l e R s m args below meth c T locs cells slots)(hx:p.tables.exec=Jvm.exec)(hlk:meth.locks=false){Q:Option Value→Heap→List Loc→Prop}{K N:Nat}{pc:Nat}{Ls:Array Slot}{z:Int32}{rest:List Value}(hret:meth.sig.returnType=some .int)(hd:decode c.code pc = .ok (.ireturn,1))(hK:cells≤K)(hN:slots≤N)(eT:T.heap=h)(hQ:Q (some (.int z)) h locs):Go p e below (bw s Q K N) T (mkF m pc Ls (.int z::rest)) :=
 iD X hlk (fun q=>by rw[hret] at q;cases q) hK hN eT hQ (fun fs hr=>retOut X hx hret rfl (Or.inl ⟨rfl,Or.inl rfl,_,rfl⟩) hd hr)
theorem ia (X:Stand p l e R s m args below meth c T locs cells slots)(hx:p.tables.exec=Jvm.exec)(hlk:meth.locks=false){Q:Option Value→Heap→List Loc→Prop}{K N:Nat}{pc:Nat}{Ls:Array Slot}{z:Int32}{rest:List Value}(hret:meth.sig.returnType=some .boolean)(hd:decode c.code pc = .ok (.ireturn,1))(hK:cells≤K)(hN:slots≤N)(eT:T.heap=h)(hQ:Q (some (.int (nar .boolean z))) h locs):Go p e below (bw s Q K N) T (mkF m pc Ls (.int z::rest)) :=
 iD X hlk (fun q=>by rw[hret] at q;cases q) hK hN eT hQ (fun fs hr=>retN X hx (t := .boolean) hret (by simp) hd hr)
theorem Np (X:Stand p l e R s m args below meth c T locs cells slots)(hx:p.tables.exec=Jvm.exec)(hlk:meth.locks=false){Q:Option Value→Heap→List Loc→Prop}{K N:Nat}{pc:Nat}{Ls:Array Slot}{z:UInt64}{rest:List Value}(hret:meth.sig.returnType=some .double)(hd:decode c.code pc = .ok (.dreturn,1))(hK:cells≤K)(hN:slots≤N)(eT:T.heap=h)(hQ:Q (some (.double z)) h locs):Go p e below (bw s Q K N) T (mkF m pc Ls (.double z::rest)) :=
 iD X hlk (fun q=>by rw[hret] at q;cases q) hK hN eT hQ (fun fs hr=>retOut X hx hret rfl (Or.inr (Or.inr (Or.inl ⟨rfl,rfl,_,rfl⟩))) hd hr)
theorem Nq (X:Stand p l e R s m args below meth c T locs cells slots)(hx:p.tables.exec=Jvm.exec)(hlk:meth.locks=false){Q:Option Value→Heap→List Loc→Prop}{K N:Nat}{pc:Nat}{Ls:Array Slot}{z:Int64}{rest:List Value}(hret:meth.sig.returnType=some .long)(hd:decode c.code pc = .ok (.lreturn,1))(hK:cells≤K)(hN:slots≤N)(eT:T.heap=h)(hQ:Q (some (.long z)) h locs):Go p e below (bw s Q K N) T (mkF m pc Ls (.long z::rest)) :=
 iD X hlk (fun q=>by rw[hret] at q;cases q) hK hN eT hQ (fun fs hr=>retOut X hx hret rfl (Or.inr (Or.inl ⟨rfl,rfl,_,rfl⟩)) hd hr)
theorem mi (X:Stand p l e R s m args below meth c T locs cells slots)(hx:p.tables.exec=Jvm.exec)(hlk:meth.locks=false){Q:Option Value→Heap→List Loc→Prop}{K N:Nat}{pc:Nat}{Ls:Array Slot}{w:Value}{rest:List Value}{t:FieldType}(hret:meth.sig.returnType=some t)(ht:t.isReference=true)(hw:w.isRef=true)(hn:narrow t w=w)(hd:decode c.code pc = .ok (.areturn,1))(hK:cells≤K)(hN:slots≤N)(eT:T.heap=h)(hQ:Q (some w) h locs):Go p e below (bw s Q K N) T (mkF m pc Ls (w::rest)) :=
 iD X hlk (fun q=>by rw[hret] at q;cases q) hK hN eT hQ (fun fs hr=>retOut X hx hret hn (Or.inr (Or.inr (Or.inr (Or.inr ⟨rfl,ht,hw⟩)))) hd hr)
theorem Nr (X:Stand p l e R s m args below meth c T locs cells slots)(hx:p.tables.exec=Jvm.exec)(hlk:meth.locks=false){Q:Option Value→Heap→List Loc→Prop}{K N:Nat}{pc:Nat}{Ls:Array Slot}(hret:meth.sig.returnType=none)(hd:decode c.code pc = .ok (.return_,1))(hK:cells≤K)(hN:slots≤N)(eT:T.heap=h)(hQ:Q none h locs):Go p e below (bw s Q K N) T (mkF m pc Ls []) :=
 iD X hlk (fun _=>rfl) hK hN eT hQ (fun fs hr=>X.returnOut hx hret hd hr)
theorem qg (X:Stand p l e R s m args below meth c T locs cells slots)(hx:p.tables.exec=Jvm.exec){pc:Nat}{Ls:Array Slot}{st:List Value}{k:Fin 4}{v:Int32}(q:Nat)(hd:decode c.code pc = .ok (.iload_n k,1))(hq:pc+1=q)(hl:Ls[k.val]? = some (.val (.int v)))(K:Go p e below Ev T (mkF m q Ls (.int v::st))):Go p e below Ev T (mkF m pc Ls st):=by
 subst hq
 exact K.on fun _ k=>XS.iloadN X.here hx rfl hd hl k
theorem uA (X:Stand p l e R s m args below meth c T locs cells slots)(hx:p.tables.exec=Jvm.exec){pc:Nat}{Ls:Array Slot}{st:List Value}{k:Nat}{v:Int32}(q:Nat)(hd:decode c.code pc = .ok (.iload k,2))(hq:pc+2=q)(hl:Ls[k]? = some (.val (.int v)))(K:Go p e below Ev T (mkF m q Ls (.int v::st))):Go p e below Ev T (mkF m pc Ls st):=by
 subst hq
 exact K.on fun _ k=>XS.iload X.here hx rfl hd hl k
theorem nP (X:Stand p l e R s m args below meth c T locs cells slots)(hx:p.tables.exec=Jvm.exec){pc:Nat}{Ls:Array Slot}{st:List Value}{k:Fin 4}{v:Int32}{l':Array Slot}(q:Nat)(hd:decode c.code pc = .ok (.istore_n k,1))(hq:pc+1=q)(hl:storeLocals Ls k.val (.int v)=some l')(K:Go p e below Ev T (mkF m q l' st)):Go p e below Ev T (mkF m pc Ls (.int v::st)):=by
 subst hq
 exact K.on fun _ k=>XS.istoreN X.here hx rfl hd rfl hl k
theorem qh (X:Stand p l e R s m args below meth c T locs cells slots)(hx:p.tables.exec=Jvm.exec){pc:Nat}{Ls:Array Slot}{st:List Value}{k:Nat}{v:Int32}{l':Array Slot}(q:Nat)(hd:decode c.code pc = .ok (.istore k,2))(hq:pc+2=q)(hl:storeLocals Ls k (.int v)=some l')(K:Go p e below Ev T (mkF m q l' st)):Go p e below Ev T (mkF m pc Ls (.int v::st)):=by
 subst hq
 exact K.on fun _ k=>XS.istore X.here hx rfl hd rfl hl k
theorem zw (X:Stand p l e R s m args below meth c T locs cells slots)(hx:p.tables.exec=Jvm.exec){pc:Nat}{Ls:Array Slot}{st:List Value}{k:Fin 4}{v:Int64}(q:Nat)(hd:decode c.code pc = .ok (.lload_n k,1))(hq:pc+1=q)(hl:Ls[k.val]? = some (.val (.long v)))(K:Go p e below Ev T (mkF m q Ls (.long v::st))):Go p e below Ev T (mkF m pc Ls st):=by
 subst hq
 exact K.on fun _ k=>XS.lloadN X.here hx rfl hd hl k
theorem HH (X:Stand p l e R s m args below meth c T locs cells slots)(hx:p.tables.exec=Jvm.exec){pc:Nat}{Ls:Array Slot}{st:List Value}{k:Nat}{v:Int64}(q:Nat)(hd:decode c.code pc = .ok (.lload k,2))(hq:pc+2=q)(hl:Ls[k]? = some (.val (.long v)))(K:Go p e below Ev T (mkF m q Ls (.long v::st))):Go p e below Ev T (mkF m pc Ls st):=by
 subst hq
 exact K.on fun _ k=>XS.lload X.here hx rfl hd hl k
theorem xT (X:Stand p l e R s m args below meth c T locs cells slots)(hx:p.tables.exec=Jvm.exec){pc:Nat}{Ls:Array Slot}{st:List Value}{k:Fin 4}{v:Int64}{l':Array Slot}(q:Nat)(hd:decode c.code pc = .ok (.lstore_n k,1))(hq:pc+1=q)(hl:storeLocals Ls k.val (.long v)=some l')(K:Go p e below Ev T (mkF m q l' st)):Go p e below Ev T (mkF m pc Ls (.long v::st)):=by
 subst hq
 exact K.on fun _ k=>XS.lstoreN X.here hx rfl hd rfl hl k
theorem zx (X:Stand p l e R s m args below meth c T locs cells slots)(hx:p.tables.exec=Jvm.exec){pc:Nat}{Ls:Array Slot}{st:List Value}{k:Nat}{v:Int64}{l':Array Slot}(q:Nat)(hd:decode c.code pc = .ok (.lstore k,2))(hq:pc+2=q)(hl:storeLocals Ls k (.long v)=some l')(K:Go p e below Ev T (mkF m q l' st)):Go p e below Ev T (mkF m pc Ls (.long v::st)):=by
 subst hq
 exact K.on fun _ k=>XS.lstore X.here hx rfl hd rfl hl k
theorem zy (X:Stand p l e R s m args below meth c T locs cells slots)(hx:p.tables.exec=Jvm.exec){pc:Nat}{Ls:Array Slot}{st:List Value}{k:Fin 4}{v:UInt64}(q:Nat)(hd:decode c.code pc = .ok (.dload_n k,1))(hq:pc+1=q)(hl:Ls[k.val]? = some (.val (.double v)))(K:Go p e below Ev T (mkF m q Ls (.double v::st))):Go p e below Ev T (mkF m pc Ls st):=by
 subst hq
 exact K.on fun _ k=>XS.dloadN X.here hx rfl hd hl k
theorem HI (X:Stand p l e R s m args below meth c T locs cells slots)(hx:p.tables.exec=Jvm.exec){pc:Nat}{Ls:Array Slot}{st:List Value}{k:Nat}{v:UInt64}(q:Nat)(hd:decode c.code pc = .ok (.dload k,2))(hq:pc+2=q)(hl:Ls[k]? = some (.val (.double v)))(K:Go p e below Ev T (mkF m q Ls (.double v::st))):Go p e below Ev T (mkF m pc Ls st):=by
 subst hq
 exact K.on fun _ k=>XS.dload X.here hx rfl hd hl k
theorem xU (X:Stand p l e R s m args below meth c T locs cells slots)(hx:p.tables.exec=Jvm.exec){pc:Nat}{Ls:Array Slot}{st:List Value}{k:Fin 4}{v:UInt64}{l':Array Slot}(q:Nat)(hd:decode c.code pc = .ok (.dstore_n k,1))(hq:pc+1=q)(hl:storeLocals Ls k.val (.double v)=some l')(K:Go p e below Ev T (mkF m q l' st)):Go p e below Ev T (mkF m pc Ls (.double v::st)):=by
 subst hq
 exact K.on fun _ k=>XS.dstoreN X.here hx rfl hd rfl hl k
theorem zz (X:Stand p l e R s m args below meth c T locs cells slots)(hx:p.tables.exec=Jvm.exec){pc:Nat}{Ls:Array Slot}{st:List Value}{k:Nat}{v:UInt64}{l':Array Slot}(q:Nat)(hd:decode c.code pc = .ok (.dstore k,2))(hq:pc+2=q)(hl:storeLocals Ls k (.double v)=some l')(K:Go p e below Ev T (mkF m q l' st)):Go p e below Ev T (mkF m pc Ls (.double v::st)):=by
 subst hq
 exact K.on fun _ k=>XS.dstore X.here hx rfl hd rfl hl k
theorem zA (X:Stand p l e R s m args below meth c T locs cells slots)(hx:p.tables.exec=Jvm.exec){pc:Nat}{Ls:Array Slot}{st:List Value}{k:Fin 4}{v:Value}(q:Nat)(hd:decode c.code pc = .ok (.aload_n k,1))(hq:pc+1=q)(hl:Ls[k.val]? = some (.val v))(hv:v.isRef=true)(K:Go p e below Ev T (mkF m q Ls (v::st))):Go p e below Ev T (mkF m pc Ls st):=by
 subst hq
 exact K.on fun _ k=>XS.aloadN X.here hx rfl hd hl hv k
theorem HJ (X:Stand p l e R s m args below meth c T locs cells slots)(hx:p.tables.exec=Jvm.exec){pc:Nat}{Ls:Array Slot}{st:List Value}{k:Nat}{v:Value}(q:Nat)(hd:decode c.code pc = .ok (.aload k,2))(hq:pc+2=q)(hl:Ls[k]? = some (.val v))(hv:v.isRef=true)(K:Go p e below Ev T (mkF m q Ls (v::st))):Go p e below Ev T (mkF m pc Ls st):=by
 subst hq
 exact K.on fun _ k=>XS.aload X.here hx rfl hd hl hv k
theorem xX (X:Stand p l e R s m args below meth c T locs cells slots)(hx:p.tables.exec=Jvm.exec){pc:Nat}{Ls:Array Slot}{st:List Value}{k:Fin 4}{v:Value}{l':Array Slot}(q:Nat)(hd:decode c.code pc = .ok (.astore_n k,1))(hq:pc+1=q)(hv:v.isRef=true)(hl:storeLocals Ls k.val v=some l')(K:Go p e below Ev T (mkF m q l' st)):Go p e below Ev T (mkF m pc Ls (v::st)):=by
 subst hq
 exact K.on fun _ k=>XS.astoreN X.here hx rfl hd rfl hv hl k
theorem zB (X:Stand p l e R s m args below meth c T locs cells slots)(hx:p.tables.exec=Jvm.exec){pc:Nat}{Ls:Array Slot}{st:List Value}{k:Nat}{v:Value}{l':Array Slot}(q:Nat)(hd:decode c.code pc = .ok (.astore k,2))(hq:pc+2=q)(hv:v.isRef=true)(hl:storeLocals Ls k v=some l')(K:Go p e below Ev T (mkF m q l' st)):Go p e below Ev T (mkF m pc Ls (v::st)):=by
 subst hq
 exact K.on fun _ k=>XS.astore X.here hx rfl hd rfl hv hl k
theorem zC (X:Stand p l e R s m args below meth c T locs cells slots)(hx:p.tables.exec=Jvm.exec){pc:Nat}{Ls:Array Slot}{st:List Value}{i:Int}(v:Int32)(q:Nat)(hd:decode c.code pc = .ok (.iconst i,1))(hq:pc+1=q)(hv:Int32.ofInt i=v)(K:Go p e below Ev T (mkF m q Ls (.int v::st))):Go p e below Ev T (mkF m pc Ls st):=by
 subst hq
 exact K.on fun _ k=>XT.iconstV X.here hx rfl v hd hv k
theorem zE (X:Stand p l e R s m args below meth c T locs cells slots)(hx:p.tables.exec=Jvm.exec){pc:Nat}{Ls:Array Slot}{st:List Value}{i:Int}(v:Int32)(q:Nat)(hd:decode c.code pc = .ok (.bipush i,2))(hq:pc+2=q)(hv:(Int8.ofInt i).toInt32=v)(K:Go p e below Ev T (mkF m q Ls (.int v::st))):Go p e below Ev T (mkF m pc Ls st):=by
 subst hq
 exact K.on fun _ k=>XT.bipushV X.here hx rfl v hd hv k
theorem zF (X:Stand p l e R s m args below meth c T locs cells slots)(hx:p.tables.exec=Jvm.exec){pc:Nat}{Ls:Array Slot}{st:List Value}{i:Int}(v:Int32)(q:Nat)(hd:decode c.code pc = .ok (.sipush i,3))(hq:pc+3=q)(hv:(Int16.ofInt i).toInt32=v)(K:Go p e below Ev T (mkF m q Ls (.int v::st))):Go p e below Ev T (mkF m pc Ls st):=by
 subst hq
 exact K.on fun _ k=>XT.sipushV X.here hx rfl v hd hv k
theorem zG (X:Stand p l e R s m args below meth c T locs cells slots)(hx:p.tables.exec=Jvm.exec){pc:Nat}{Ls:Array Slot}{st:List Value}{i:Fin 2}(v:Int64)(q:Nat)(hd:decode c.code pc = .ok (.lconst i,1))(hq:pc+1=q)(hv:Int64.ofNat i=v)(K:Go p e below Ev T (mkF m q Ls (.long v::st))):Go p e below Ev T (mkF m pc Ls st):=by
 subst hq
 exact K.on fun _ k=>XT.lconstV X.here hx rfl v hd hv k
theorem xY (X:Stand p l e R s m args below meth c T locs cells slots)(hx:p.tables.exec=Jvm.exec){pc:Nat}{Ls:Array Slot}{st:List Value}  (q:Nat)(hd:decode c.code pc = .ok (.dconst 0,1))(hq:pc+1=q)  (K:Go p e below Ev T (mkF m q Ls (.double 0::st))):Go p e below Ev T (mkF m pc Ls st):=by
 subst hq
 exact K.on fun _ k=>XS.dconst0 X.here hx rfl hd rfl k
theorem xZ (X:Stand p l e R s m args below meth c T locs cells slots)(hx:p.tables.exec=Jvm.exec){pc:Nat}{Ls:Array Slot}{st:List Value}  (q:Nat)(hd:decode c.code pc = .ok (.dconst 1,1))(hq:pc+1=q)  (K:Go p e below Ev T (mkF m q Ls (.double 4607182418800017408::st))):Go p e below Ev T (mkF m pc Ls st):=by
 subst hq
 exact K.on fun _ k=>XS.dconst1 X.here hx rfl hd rfl k
theorem Ns (X:Stand p l e R s m args below meth c T locs cells slots)(hx:p.tables.exec=Jvm.exec){pc:Nat}{Ls:Array Slot}{st:List Value}  (q:Nat)(hd:decode c.code pc = .ok (.aconst_null,1))(hq:pc+1=q)  (K:Go p e below Ev T (mkF m q Ls (.null::st))):Go p e below Ev T (mkF m pc Ls st):=by
 subst hq
 exact K.on fun _ k=>XS.aconstNull X.here hx rfl hd k
theorem Nt (X:Stand p l e R s m args below meth c T locs cells slots)(hx:p.tables.exec=Jvm.exec){pc:Nat}{Ls:Array Slot}{st:List Value}{k:Nat}{i:Int}{v w:Int32}{l':Array Slot}(q:Nat)(hd:decode c.code pc = .ok (.iinc k i,3))(hq:pc+3=q)(hl:Ls[k]? = some (.val (.int v)))(hv:Int32.ofInt i=w)(hl':storeLocals Ls k (.int (v+w))=some l')(K:Go p e below Ev T (mkF m q l' st)):Go p e below Ev T (mkF m pc Ls st):=by
 subst hq
 exact K.on fun _ k=>XT.iincV X.here hx rfl w hd hv hl hl' k
theorem zH (X:Stand p l e R s m args below meth c T locs cells slots)(hx:p.tables.exec=Jvm.exec){pc:Nat}{Ls:Array Slot}{st:List Value}{x y:Int32}(q:Nat)(hd:decode c.code pc = .ok (.iadd,1))(hq:pc+1=q)  (K:Go p e below Ev T (mkF m q Ls (.int (x+y)::st))):Go p e below Ev T (mkF m pc Ls (.int y :: .int x::st)):=by
 subst hq
 exact K.on fun _ k=>XS.iadd X.here hx rfl hd rfl k
theorem Nu (X:Stand p l e R s m args below meth c T locs cells slots)(hx:p.tables.exec=Jvm.exec){pc:Nat}{Ls:Array Slot}{st:List Value}{x y:Int64}(q:Nat)(hd:decode c.code pc = .ok (.ladd,1))(hq:pc+1=q)  (K:Go p e below Ev T (mkF m q Ls (.long (x+y)::st))):Go p e below Ev T (mkF m pc Ls (.long y :: .long x::st)):=by
 subst hq
 exact K.on fun _ k=>XS.ladd X.here hx rfl hd rfl k
theorem zJ (X:Stand p l e R s m args below meth c T locs cells slots)(hx:p.tables.exec=Jvm.exec){pc:Nat}{Ls:Array Slot}{st:List Value}{x y:Int32}(q:Nat)(hd:decode c.code pc = .ok (.isub,1))(hq:pc+1=q)  (K:Go p e below Ev T (mkF m q Ls (.int (x-y)::st))):Go p e below Ev T (mkF m pc Ls (.int y :: .int x::st)):=by
 subst hq
 exact K.on fun _ k=>XS.isub X.here hx rfl hd rfl k
theorem Nv (X:Stand p l e R s m args below meth c T locs cells slots)(hx:p.tables.exec=Jvm.exec){pc:Nat}{Ls:Array Slot}{st:List Value}{x y:Int64}(q:Nat)(hd:decode c.code pc = .ok (.lsub,1))(hq:pc+1=q)  (K:Go p e below Ev T (mkF m q Ls (.long (x-y)::st))):Go p e below Ev T (mkF m pc Ls (.long y :: .long x::st)):=by
 subst hq
 exact K.on fun _ k=>XS.lsub X.here hx rfl hd rfl k
theorem zK (X:Stand p l e R s m args below meth c T locs cells slots)(hx:p.tables.exec=Jvm.exec){pc:Nat}{Ls:Array Slot}{st:List Value}{x y:Int32}(q:Nat)(hd:decode c.code pc = .ok (.imul,1))(hq:pc+1=q)  (K:Go p e below Ev T (mkF m q Ls (.int (x*y)::st))):Go p e below Ev T (mkF m pc Ls (.int y :: .int x::st)):=by
 subst hq
 exact K.on fun _ k=>XS.imul X.here hx rfl hd rfl k
theorem Nw (X:Stand p l e R s m args below meth c T locs cells slots)(hx:p.tables.exec=Jvm.exec){pc:Nat}{Ls:Array Slot}{st:List Value}{x y:Int64}(q:Nat)(hd:decode c.code pc = .ok (.lmul,1))(hq:pc+1=q)  (K:Go p e below Ev T (mkF m q Ls (.long (x*y)::st))):Go p e below Ev T (mkF m pc Ls (.long y :: .long x::st)):=by
 subst hq
 exact K.on fun _ k=>XS.lmul X.here hx rfl hd rfl k
theorem zL (X:Stand p l e R s m args below meth c T locs cells slots)(hx:p.tables.exec=Jvm.exec){pc:Nat}{Ls:Array Slot}{st:List Value}{x y:Int32}(q:Nat)(hd:decode c.code pc = .ok (.iand,1))(hq:pc+1=q)  (K:Go p e below Ev T (mkF m q Ls (.int (x&&&y)::st))):Go p e below Ev T (mkF m pc Ls (.int y :: .int x::st)):=by
 subst hq
 exact K.on fun _ k=>XS.iand X.here hx rfl hd rfl k
theorem Nx (X:Stand p l e R s m args below meth c T locs cells slots)(hx:p.tables.exec=Jvm.exec){pc:Nat}{Ls:Array Slot}{st:List Value}{x y:Int64}(q:Nat)(hd:decode c.code pc = .ok (.land,1))(hq:pc+1=q)  (K:Go p e below Ev T (mkF m q Ls (.long (x&&&y)::st))):Go p e below Ev T (mkF m pc Ls (.long y :: .long x::st)):=by
 subst hq
 exact K.on fun _ k=>XS.land X.here hx rfl hd rfl k
theorem Pf (X:Stand p l e R s m args below meth c T locs cells slots)(hx:p.tables.exec=Jvm.exec){pc:Nat}{Ls:Array Slot}{st:List Value}{x y:Int32}(q:Nat)(hd:decode c.code pc = .ok (.ior,1))(hq:pc+1=q)  (K:Go p e below Ev T (mkF m q Ls (.int (x ||| y)::st))):Go p e below Ev T (mkF m pc Ls (.int y :: .int x::st)):=by
 subst hq
 exact K.on fun _ k=>XS.ior X.here hx rfl hd rfl k
theorem Pg (X:Stand p l e R s m args below meth c T locs cells slots)(hx:p.tables.exec=Jvm.exec){pc:Nat}{Ls:Array Slot}{st:List Value}{x y:Int64}(q:Nat)(hd:decode c.code pc = .ok (.lor,1))(hq:pc+1=q)  (K:Go p e below Ev T (mkF m q Ls (.long (x ||| y)::st))):Go p e below Ev T (mkF m pc Ls (.long y :: .long x::st)):=by
 subst hq
 exact K.on fun _ k=>XS.lor X.here hx rfl hd rfl k
theorem zM (X:Stand p l e R s m args below meth c T locs cells slots)(hx:p.tables.exec=Jvm.exec){pc:Nat}{Ls:Array Slot}{st:List Value}{x y:Int32}(q:Nat)(hd:decode c.code pc = .ok (.ishl,1))(hq:pc+1=q)  (K:Go p e below Ev T (mkF m q Ls (.int (x<<<(y&&&31))::st))):Go p e below Ev T (mkF m pc Ls (.int y :: .int x::st)):=by
 subst hq
 exact K.on fun _ k=>XS.ishl X.here hx rfl hd rfl k
theorem zN (X:Stand p l e R s m args below meth c T locs cells slots)(hx:p.tables.exec=Jvm.exec){pc:Nat}{Ls:Array Slot}{st:List Value}{x y:Int32}(q:Nat)(hd:decode c.code pc = .ok (.ishr,1))(hq:pc+1=q)  (K:Go p e below Ev T (mkF m q Ls (.int (x>>>(y&&&31))::st))):Go p e below Ev T (mkF m pc Ls (.int y :: .int x::st)):=by
 subst hq
 exact K.on fun _ k=>XS.ishr X.here hx rfl hd rfl k
theorem HK (X:Stand p l e R s m args below meth c T locs cells slots)(hx:p.tables.exec=Jvm.exec){pc:Nat}{Ls:Array Slot}{st:List Value}{x y:Int32}(q:Nat)(hd:decode c.code pc = .ok (.iushr,1))(hq:pc+1=q)  (K:Go p e below Ev T (mkF m q Ls (.int ((x.toUInt32>>>(y&&&31).toUInt32).toInt32)::st))):Go p e below Ev T (mkF m pc Ls (.int y :: .int x::st)):=by
 subst hq
 exact K.on fun _ k=>XS.iushr X.here hx rfl hd rfl k
theorem Ny (X:Stand p l e R s m args below meth c T locs cells slots)(hx:p.tables.exec=Jvm.exec){pc:Nat}{Ls:Array Slot}{st:List Value}{x:Int64}{y:Int32}(q:Nat)(hd:decode c.code pc = .ok (.lshl,1))(hq:pc+1=q)  (K:Go p e below Ev T (mkF m q Ls (.long (x<<<(y&&&0x3f).toInt64)::st))):Go p e below Ev T (mkF m pc Ls (.int y :: .long x::st)):=by
 subst hq
 exact K.on fun _ k=>XS.lshl X.here hx rfl hd rfl k
theorem HL (X:Stand p l e R s m args below meth c T locs cells slots)(hx:p.tables.exec=Jvm.exec){pc:Nat}{Ls:Array Slot}{st:List Value}{x:Int64}{y:Int32}(q:Nat)(hd:decode c.code pc = .ok (.lushr,1))(hq:pc+1=q)  (K:Go p e below Ev T (mkF m q Ls (.long ((x.toUInt64>>>(y&&&0x3f).toInt64.toUInt64).toInt64)::st))):Go p e below Ev T (mkF m pc Ls (.int y :: .long x::st)):=by
 subst hq
 exact K.on fun _ k=>XS.lushr X.here hx rfl hd rfl k
theorem Ph (X:Stand p l e R s m args below meth c T locs cells slots)(hx:p.tables.exec=Jvm.exec){pc:Nat}{Ls:Array Slot}{st:List Value}{x:Int32}(q:Nat)(hd:decode c.code pc = .ok (.i2l,1))(hq:pc+1=q)  (K:Go p e below Ev T (mkF m q Ls (.long (x.toInt64)::st))):Go p e below Ev T (mkF m pc Ls (.int x::st)):=by
 subst hq
 exact K.on fun _ k=>XS.i2l X.here hx rfl hd rfl k
theorem Pi (X:Stand p l e R s m args below meth c T locs cells slots)(hx:p.tables.exec=Jvm.exec){pc:Nat}{Ls:Array Slot}{st:List Value}{x:Int64}(q:Nat)(hd:decode c.code pc = .ok (.l2i,1))(hq:pc+1=q)  (K:Go p e below Ev T (mkF m q Ls (.int (x.toInt32)::st))):Go p e below Ev T (mkF m pc Ls (.long x::st)):=by
 subst hq
 exact K.on fun _ k=>XS.l2i X.here hx rfl hd rfl k
theorem ky (X:Stand p l e R s m args below meth c T locs cells slots)(hx:p.tables.exec=Jvm.exec){pc:Nat}{Ls:Array Slot}{st:List Value}{x y:Int64}(q:Nat)(hd:decode c.code pc = .ok (.lcmp,1))(hq:pc+1=q)  (K:Go p e below Ev T (mkF m q Ls (.int (lcmpW x y)::st))):Go p e below Ev T (mkF m pc Ls (.long y :: .long x::st)):=by
 subst hq
 exact K.on fun _ k=>XS.lcmp X.here hx rfl hd rfl k
theorem Pj (X:Stand p l e R s m args below meth c T locs cells slots)(hx:p.tables.exec=Jvm.exec){pc:Nat}{Ls:Array Slot}{st:List Value}{x:Int32}(q:Nat)(hd:decode c.code pc = .ok (.i2d,1))(hq:pc+1=q)  (K:Go p e below Ev T (mkF m q Ls (.double (FP.i2d x)::st))):Go p e below Ev T (mkF m pc Ls (.int x::st)):=by
 subst hq
 exact K.on fun _ k=>XS.i2dS X.here hx rfl hd rfl rfl k
theorem Nz (X:Stand p l e R s m args below meth c T locs cells slots)(hx:p.tables.exec=Jvm.exec){pc:Nat}{Ls:Array Slot}{st:List Value}{x:UInt64}(q:Nat)(hd:decode c.code pc = .ok (.dneg,1))(hq:pc+1=q)  (K:Go p e below Ev T (mkF m q Ls (.double (FP.dneg x)::st))):Go p e below Ev T (mkF m pc Ls (.double x::st)):=by
 subst hq
 exact K.on fun _ k=>XS.dnegS X.here hx rfl hd rfl rfl k
theorem NA (X:Stand p l e R s m args below meth c T locs cells slots)(hx:p.tables.exec=Jvm.exec){pc:Nat}{Ls:Array Slot}{st:List Value}{x y:UInt64}(q:Nat)(hd:decode c.code pc = .ok (.dadd,1))(hq:pc+1=q)(hn:Jvm.Free.Fl.NoNaN64 (FP.dadd x y))(K:Go p e below Ev T (mkF m q Ls (.double (FP.dadd x y)::st))):Go p e below Ev T (mkF m pc Ls (.double y :: .double x::st)):=by
 subst hq
 exact K.on fun _ k=>XS.daddS X.here hx rfl hd rfl hn rfl k
theorem NB (X:Stand p l e R s m args below meth c T locs cells slots)(hx:p.tables.exec=Jvm.exec){pc:Nat}{Ls:Array Slot}{st:List Value}{x y:UInt64}(q:Nat)(hd:decode c.code pc = .ok (.dsub,1))(hq:pc+1=q)(hn:Jvm.Free.Fl.NoNaN64 (FP.dsub x y))(K:Go p e below Ev T (mkF m q Ls (.double (FP.dsub x y)::st))):Go p e below Ev T (mkF m pc Ls (.double y :: .double x::st)):=by
 subst hq
 exact K.on fun _ k=>XS.dsubS X.here hx rfl hd rfl hn rfl k
theorem NC (X:Stand p l e R s m args below meth c T locs cells slots)(hx:p.tables.exec=Jvm.exec){pc:Nat}{Ls:Array Slot}{st:List Value}{x y:UInt64}(q:Nat)(hd:decode c.code pc = .ok (.dmul,1))(hq:pc+1=q)(hn:Jvm.Free.Fl.NoNaN64 (FP.dmul x y))(K:Go p e below Ev T (mkF m q Ls (.double (FP.dmul x y)::st))):Go p e below Ev T (mkF m pc Ls (.double y :: .double x::st)):=by
 subst hq
 exact K.on fun _ k=>XS.dmulS X.here hx rfl hd rfl hn rfl k
theorem ND (X:Stand p l e R s m args below meth c T locs cells slots)(hx:p.tables.exec=Jvm.exec){pc:Nat}{Ls:Array Slot}{st:List Value}{x y:UInt64}(q:Nat)(hd:decode c.code pc = .ok (.ddiv,1))(hq:pc+1=q)(hn:Jvm.Free.Fl.NoNaN64 (FP.ddiv x y))(K:Go p e below Ev T (mkF m q Ls (.double (FP.ddiv x y)::st))):Go p e below Ev T (mkF m pc Ls (.double y :: .double x::st)):=by
 subst hq
 exact K.on fun _ k=>XS.ddivS X.here hx rfl hd rfl hn rfl k
theorem o_ (X:Stand p l e R s m args below meth c T locs cells slots)(hx:p.tables.exec=Jvm.exec){pc:Nat}{Ls:Array Slot}{st:List Value}{x y:UInt64}{o:CmpOp}{r:Int32}(q:Nat)(hd:decode c.code pc = .ok (.dcmp o,1))(hq:pc+1=q)(hr:cmpValue (FP.dcmp x y) o=r)(K:Go p e below Ev T (mkF m q Ls (.int r::st))):Go p e below Ev T (mkF m pc Ls (.double y :: .double x::st)):=by
 subst hq
 exact K.on fun _ k=>XS.dcmpS X.here hx rfl hd rfl hr k
theorem Pk (X:Stand p l e R s m args below meth c T locs cells slots)(hx:p.tables.exec=Jvm.exec){pc:Nat}{Ls:Array Slot}{st:List Value}{x:Value}(q:Nat)(hd:decode c.code pc = .ok (.dup,1))(hq:pc+1=q)(hc:x.category=1)(K:Go p e below Ev T (mkF m q Ls (x::x::st))):Go p e below Ev T (mkF m pc Ls (x::st)):=by
 subst hq
 exact K.on fun _ k=>XS.dup X.here hx rfl hd rfl hc k
theorem Pl (X:Stand p l e R s m args below meth c T locs cells slots)(hx:p.tables.exec=Jvm.exec){pc:Nat}{Ls:Array Slot}{st:List Value}{x:Value}(q:Nat)(hd:decode c.code pc = .ok (.pop,1))(hq:pc+1=q)(hc:x.category=1)(K:Go p e below Ev T (mkF m q Ls st)):Go p e below Ev T (mkF m pc Ls (x::st)):=by
 subst hq
 exact K.on fun _ k=>XS.pop X.here hx rfl hd rfl hc k
theorem HM (X:Stand p l e R s m args below meth c T locs cells slots)(hx:p.tables.exec=Jvm.exec){pc:Nat}{Ls:Array Slot}{st:List Value}{x y:Value}(q:Nat)(hd:decode c.code pc = .ok (.dup_x1,1))(hq:pc+1=q)(hc:x.category=1)(hc':y.category=1)(K:Go p e below Ev T (mkF m q Ls (x::y::x::st))):Go p e below Ev T (mkF m pc Ls (x::y::st)):=by
 subst hq
 exact K.on fun _ k=>XS.dupX1 X.here hx rfl hd rfl hc hc' k
theorem NE (X:Stand p l e R s m args below meth c T locs cells slots)(hx:p.tables.exec=Jvm.exec){pc:Nat}{Ls:Array Slot}{st:List Value}{x y:Value}(q:Nat)(hd:decode c.code pc = .ok (.dup2,1))(hq:pc+1=q)(hc:x.category=1)(hc':y.category=1)(K:Go p e below Ev T (mkF m q Ls (x::y::x::y::st))):Go p e below Ev T (mkF m pc Ls (x::y::st)):=by
 subst hq
 exact K.on fun _ k=>XT.dup2 X.here hx rfl hd rfl hc hc' k
theorem HN (X:Stand p l e R s m args below meth c T locs cells slots)(hx:p.tables.exec=Jvm.exec){pc:Nat}{Ls:Array Slot}{st:List Value}{own:String}{i:Nat}{v:Int64}(q:Nat)(hZ:Z.Warmed39 s.vm)(hown:s.vm.findClass own=some m.cls)(w:(Jvm.Cond.constantLong own i v).before a0 Z=true)(hd:decode c.code pc = .ok (.ldc2_w i,3))(hq:pc+3=q)(K:Go p e below Ev T (mkF m q Ls (.long v::st))):Go p e below Ev T (mkF m pc Ls st):=by
 subst hq
 exact K.on fun _ k=>X.ldc2J hx hown (mvT hZ w) rfl hd k
theorem HP (X:Stand p l e R s m args below meth c T locs cells slots)(hx:p.tables.exec=Jvm.exec){pc:Nat}{Ls:Array Slot}{st:List Value}{own:String}{i:Nat}{v:UInt64}(q:Nat)(hZ:Z.Warmed39 s.vm)(hown:s.vm.findClass own=some m.cls)(w:(Jvm.Cond.constantDouble own i v).before a0 Z=true)(hd:decode c.code pc = .ok (.ldc2_w i,3))(hq:pc+3=q)(K:Go p e below Ev T (mkF m q Ls (.double v::st))):Go p e below Ev T (mkF m pc Ls st):=by
 subst hq
 exact K.on (X.ldc2DoubleC hx hown (mvT hZ w) (g:=mkF m pc Ls st) rfl hd)
theorem NF (X:Stand p l e R s m args below meth c T locs cells slots)(hx:p.tables.exec=Jvm.exec){pc:Nat}{Ls:Array Slot}{st:List Value}{o:Int}(q:Nat)(hd:decode c.code pc = .ok (.goto o,3))(ho:0≤(pc:Int)+o)(hq:((pc:Int)+o).toNat=q)(K:Go p e below Ev T (mkF m q Ls st)):Go p e below Ev T (mkF m pc Ls st) :=
 K.on fun _ k=>XS.goto X.here hx rfl rfl hd ho hq k
theorem gA (x:Int32):(x<0↔x.toInt<0)∧(0<x↔0<x.toInt)∧(x=0↔x.toInt=0):=by
 refine⟨by rw[Int32.lt_iff_toInt_lt];simp,by rw[Int32.lt_iff_toInt_lt];simp,?_⟩
 rw[←Int32.toInt_inj];simp
theorem jk (X:Stand p l e R s m args below meth c T locs cells slots)(hx:p.tables.exec=Jvm.exec){pc:Nat}{Ls:Array Slot}{st:List Value}{x:Int32}{o:Int}(q1 q2:Nat)(hd:decode c.code pc = .ok (.ifCond .eq o,3))(ho:0≤(pc:Int)+o)(h1:((pc:Int)+o).toNat=q1)(h2:pc+3=q2)(Kt:x.toInt=0→Go p e below Ev T (mkF m q1 Ls st))(Kf:x.toInt≠0→Go p e below Ev T (mkF m q2 Ls st)):Go p e below Ev T (mkF m pc Ls (.int x::st)):=by
 have Q:=gA x
 by_cases hc:x=0
 ·exact (Kt (by first|omega|(simp only[Q] at hc;omega))).on fun _ k=>XS.ifYes X.here hx rfl rfl hd rfl (XT.i0_eq_t (by simpa using hc)) ho h1 k
 ·subst h2
  exact (Kf (by first|omega|(simp only[Q] at hc;omega))).on fun _ k=>XS.ifNo X.here hx rfl hd rfl (XT.i0_eq_f (by simpa using hc)) k
theorem jl (X:Stand p l e R s m args below meth c T locs cells slots)(hx:p.tables.exec=Jvm.exec){pc:Nat}{Ls:Array Slot}{st:List Value}{x:Int32}{o:Int}(q1 q2:Nat)(hd:decode c.code pc = .ok (.ifCond .ne o,3))(ho:0≤(pc:Int)+o)(h1:((pc:Int)+o).toNat=q1)(h2:pc+3=q2)(Kt:x.toInt≠0→Go p e below Ev T (mkF m q1 Ls st))(Kf:x.toInt=0→Go p e below Ev T (mkF m q2 Ls st)):Go p e below Ev T (mkF m pc Ls (.int x::st)):=by
 have Q:=gA x
 by_cases hc:¬x=0
 ·exact (Kt (by first|omega|(simp only[Q] at hc;omega))).on fun _ k=>XS.ifYes X.here hx rfl rfl hd rfl (XT.i0_ne_t (by simpa using hc)) ho h1 k
 ·subst h2
  exact (Kf (by first|omega|(simp only[Q] at hc;omega))).on fun _ k=>XS.ifNo X.here hx rfl hd rfl (XT.i0_ne_f (by simpa using hc)) k
theorem pd (X:Stand p l e R s m args below meth c T locs cells slots)(hx:p.tables.exec=Jvm.exec){pc:Nat}{Ls:Array Slot}{st:List Value}{x:Int32}{o:Int}(q1 q2:Nat)(hd:decode c.code pc = .ok (.ifCond .lt o,3))(ho:0≤(pc:Int)+o)(h1:((pc:Int)+o).toNat=q1)(h2:pc+3=q2)(Kt:x.toInt<0→Go p e below Ev T (mkF m q1 Ls st))(Kf:0≤x.toInt→Go p e below Ev T (mkF m q2 Ls st)):Go p e below Ev T (mkF m pc Ls (.int x::st)):=by
 have Q:=gA x
 by_cases hc:x<0
 ·exact (Kt (by first|omega|(simp only[Q] at hc;omega))).on fun _ k=>XS.ifYes X.here hx rfl rfl hd rfl (XT.i0_lt_t (by simpa using hc)) ho h1 k
 ·subst h2
  exact (Kf (by first|omega|(simp only[Q] at hc;omega))).on fun _ k=>XS.ifNo X.here hx rfl hd rfl (XT.i0_lt_f (by simpa using hc)) k
theorem pe (X:Stand p l e R s m args below meth c T locs cells slots)(hx:p.tables.exec=Jvm.exec){pc:Nat}{Ls:Array Slot}{st:List Value}{x:Int32}{o:Int}(q1 q2:Nat)(hd:decode c.code pc = .ok (.ifCond .ge o,3))(ho:0≤(pc:Int)+o)(h1:((pc:Int)+o).toNat=q1)(h2:pc+3=q2)(Kt:0≤x.toInt→Go p e below Ev T (mkF m q1 Ls st))(Kf:x.toInt<0→Go p e below Ev T (mkF m q2 Ls st)):Go p e below Ev T (mkF m pc Ls (.int x::st)):=by
 have Q:=gA x
 by_cases hc:¬x<0
 ·exact (Kt (by first|omega|(simp only[Q] at hc;omega))).on fun _ k=>XS.ifYes X.here hx rfl rfl hd rfl (XT.i0_ge_t (by simpa using hc)) ho h1 k
 ·subst h2
  exact (Kf (by first|omega|(simp only[Q] at hc;omega))).on fun _ k=>XS.ifNo X.here hx rfl hd rfl (XT.i0_ge_f (by simpa using hc)) k
theorem pf (X:Stand p l e R s m args below meth c T locs cells slots)(hx:p.tables.exec=Jvm.exec){pc:Nat}{Ls:Array Slot}{st:List Value}{x:Int32}{o:Int}(q1 q2:Nat)(hd:decode c.code pc = .ok (.ifCond .gt o,3))(ho:0≤(pc:Int)+o)(h1:((pc:Int)+o).toNat=q1)(h2:pc+3=q2)(Kt:0<x.toInt→Go p e below Ev T (mkF m q1 Ls st))(Kf:x.toInt≤0→Go p e below Ev T (mkF m q2 Ls st)):Go p e below Ev T (mkF m pc Ls (.int x::st)):=by
 have Q:=gA x
 by_cases hc:0<x
 ·exact (Kt (by first|omega|(simp only[Q] at hc;omega))).on fun _ k=>XS.ifYes X.here hx rfl rfl hd rfl (XT.i0_gt_t (by simpa using hc)) ho h1 k
 ·subst h2
  exact (Kf (by first|omega|(simp only[Q] at hc;omega))).on fun _ k=>XS.ifNo X.here hx rfl hd rfl (XT.i0_gt_f (by simpa using hc)) k
theorem pg (X:Stand p l e R s m args below meth c T locs cells slots)(hx:p.tables.exec=Jvm.exec){pc:Nat}{Ls:Array Slot}{st:List Value}{x:Int32}{o:Int}(q1 q2:Nat)(hd:decode c.code pc = .ok (.ifCond .le o,3))(ho:0≤(pc:Int)+o)(h1:((pc:Int)+o).toNat=q1)(h2:pc+3=q2)(Kt:x.toInt≤0→Go p e below Ev T (mkF m q1 Ls st))(Kf:0<x.toInt→Go p e below Ev T (mkF m q2 Ls st)):Go p e below Ev T (mkF m pc Ls (.int x::st)):=by
 have Q:=gA x
 by_cases hc:¬0<x
 ·exact (Kt (by first|omega|(simp only[Q] at hc;omega))).on fun _ k=>XS.ifYes X.here hx rfl rfl hd rfl (XT.i0_le_t (by simpa using hc)) ho h1 k
 ·subst h2
  exact (Kf (by first|omega|(simp only[Q] at hc;omega))).on fun _ k=>XS.ifNo X.here hx rfl hd rfl (XT.i0_le_f (by simpa using hc)) k
theorem kz (x y:Int32):(x<y↔x.toInt<y.toInt)∧(y<x↔y.toInt<x.toInt)∧(x=y↔x.toInt=y.toInt):=by
 exact⟨Int32.lt_iff_toInt_lt,Int32.lt_iff_toInt_lt,Int32.toInt_inj.symm⟩
theorem uB (X:Stand p l e R s m args below meth c T locs cells slots)(hx:p.tables.exec=Jvm.exec){pc:Nat}{Ls:Array Slot}{st:List Value}{x y:Int32}{o:Int}(q1 q2:Nat)(hd:decode c.code pc = .ok (.if_icmp .eq o,3))(ho:0≤(pc:Int)+o)(h1:((pc:Int)+o).toNat=q1)(h2:pc+3=q2)(Kt:x.toInt=y.toInt→Go p e below Ev T (mkF m q1 Ls st))(Kf:x.toInt≠y.toInt→Go p e below Ev T (mkF m q2 Ls st)):Go p e below Ev T (mkF m pc Ls (.int y :: .int x::st)):=by
 have Q:=kz x y
 by_cases hc:x=y
 ·exact (Kt (by first|omega|(simp only[Q] at hc;omega))).on fun _ k=>XS.icmpYes X.here hx rfl rfl hd rfl (XT.ii_eq_t (by simpa using hc)) ho h1 k
 ·subst h2
  exact (Kf (by first|omega|(simp only[Q] at hc;omega))).on fun _ k=>XS.icmpNo X.here hx rfl hd rfl (XT.ii_eq_f (by simpa using hc)) k
theorem uC (X:Stand p l e R s m args below meth c T locs cells slots)(hx:p.tables.exec=Jvm.exec){pc:Nat}{Ls:Array Slot}{st:List Value}{x y:Int32}{o:Int}(q1 q2:Nat)(hd:decode c.code pc = .ok (.if_icmp .ne o,3))(ho:0≤(pc:Int)+o)(h1:((pc:Int)+o).toNat=q1)(h2:pc+3=q2)(Kt:x.toInt≠y.toInt→Go p e below Ev T (mkF m q1 Ls st))(Kf:x.toInt=y.toInt→Go p e below Ev T (mkF m q2 Ls st)):Go p e below Ev T (mkF m pc Ls (.int y :: .int x::st)):=by
 have Q:=kz x y
 by_cases hc:¬x=y
 ·exact (Kt (by first|omega|(simp only[Q] at hc;omega))).on fun _ k=>XS.icmpYes X.here hx rfl rfl hd rfl (XT.ii_ne_t (by simpa using hc)) ho h1 k
 ·subst h2
  exact (Kf (by first|omega|(simp only[Q] at hc;omega))).on fun _ k=>XS.icmpNo X.here hx rfl hd rfl (XT.ii_ne_f (by simpa using hc)) k
theorem uD (X:Stand p l e R s m args below meth c T locs cells slots)(hx:p.tables.exec=Jvm.exec){pc:Nat}{Ls:Array Slot}{st:List Value}{x y:Int32}{o:Int}(q1 q2:Nat)(hd:decode c.code pc = .ok (.if_icmp .lt o,3))(ho:0≤(pc:Int)+o)(h1:((pc:Int)+o).toNat=q1)(h2:pc+3=q2)(Kt:x.toInt<y.toInt→Go p e below Ev T (mkF m q1 Ls st))(Kf:y.toInt≤x.toInt→Go p e below Ev T (mkF m q2 Ls st)):Go p e below Ev T (mkF m pc Ls (.int y :: .int x::st)):=by
 have Q:=kz x y
 by_cases hc:x<y
 ·exact (Kt (by first|omega|(simp only[Q] at hc;omega))).on fun _ k=>XS.icmpYes X.here hx rfl rfl hd rfl (XT.ii_lt_t (by simpa using hc)) ho h1 k
 ·subst h2
  exact (Kf (by first|omega|(simp only[Q] at hc;omega))).on fun _ k=>XS.icmpNo X.here hx rfl hd rfl (XT.ii_lt_f (by simpa using hc)) k
theorem uE (X:Stand p l e R s m args below meth c T locs cells slots)(hx:p.tables.exec=Jvm.exec){pc:Nat}{Ls:Array Slot}{st:List Value}{x y:Int32}{o:Int}(q1 q2:Nat)(hd:decode c.code pc = .ok (.if_icmp .ge o,3))(ho:0≤(pc:Int)+o)(h1:((pc:Int)+o).toNat=q1)(h2:pc+3=q2)(Kt:y.toInt≤x.toInt→Go p e below Ev T (mkF m q1 Ls st))(Kf:x.toInt<y.toInt→Go p e below Ev T (mkF m q2 Ls st)):Go p e below Ev T (mkF m pc Ls (.int y :: .int x::st)):=by
 have Q:=kz x y
 by_cases hc:¬x<y
 ·exact (Kt (by first|omega|(simp only[Q] at hc;omega))).on fun _ k=>XS.icmpYes X.here hx rfl rfl hd rfl (XT.ii_ge_t (by simpa using hc)) ho h1 k
 ·subst h2
  exact (Kf (by first|omega|(simp only[Q] at hc;omega))).on fun _ k=>XS.icmpNo X.here hx rfl hd rfl (XT.ii_ge_f (by simpa using hc)) k
theorem ph (X:Stand p l e R s m args below meth c T locs cells slots)(hx:p.tables.exec=Jvm.exec){pc:Nat}{Ls:Array Slot}{st:List Value}{x y:Int32}{o:Int}(q1 q2:Nat)(hd:decode c.code pc = .ok (.if_icmp .gt o,3))(ho:0≤(pc:Int)+o)(h1:((pc:Int)+o).toNat=q1)(h2:pc+3=q2)(Kt:y.toInt<x.toInt→Go p e below Ev T (mkF m q1 Ls st))(Kf:x.toInt≤y.toInt→Go p e below Ev T (mkF m q2 Ls st)):Go p e below Ev T (mkF m pc Ls (.int y :: .int x::st)):=by
 have Q:=kz x y
 by_cases hc:y<x
 ·exact (Kt (by first|omega|(simp only[Q] at hc;omega))).on fun _ k=>XS.icmpYes X.here hx rfl rfl hd rfl (XT.ii_gt_t (by simpa using hc)) ho h1 k
 ·subst h2
  exact (Kf (by first|omega|(simp only[Q] at hc;omega))).on fun _ k=>XS.icmpNo X.here hx rfl hd rfl (XT.ii_gt_f (by simpa using hc)) k
theorem uF (X:Stand p l e R s m args below meth c T locs cells slots)(hx:p.tables.exec=Jvm.exec){pc:Nat}{Ls:Array Slot}{st:List Value}{x y:Int32}{o:Int}(q1 q2:Nat)(hd:decode c.code pc = .ok (.if_icmp .le o,3))(ho:0≤(pc:Int)+o)(h1:((pc:Int)+o).toNat=q1)(h2:pc+3=q2)(Kt:x.toInt≤y.toInt→Go p e below Ev T (mkF m q1 Ls st))(Kf:y.toInt<x.toInt→Go p e below Ev T (mkF m q2 Ls st)):Go p e below Ev T (mkF m pc Ls (.int y :: .int x::st)):=by
 have Q:=kz x y
 by_cases hc:¬y<x
 ·exact (Kt (by first|omega|(simp only[Q] at hc;omega))).on fun _ k=>XS.icmpYes X.here hx rfl rfl hd rfl (XT.ii_le_t (by simpa using hc)) ho h1 k
 ·subst h2
  exact (Kf (by first|omega|(simp only[Q] at hc;omega))).on fun _ k=>XS.icmpNo X.here hx rfl hd rfl (XT.ii_le_f (by simpa using hc)) k
theorem uG (X:Stand p l e R s m args below meth c T locs cells slots)(hx:p.tables.exec=Jvm.exec){pc:Nat}{Ls:Array Slot}{st:List Value}{x y:Int64}{o:Int}(q0 q1 q2:Nat)(hd0:decode c.code pc = .ok (.lcmp,1))(h0:pc+1=q0)(hd:decode c.code q0 = .ok (.ifCond .eq o,3))(ho:0≤(q0:Int)+o)(h1:((q0:Int)+o).toNat=q1)(h2:q0+3=q2)(Kt:x.toInt=y.toInt→Go p e below Ev T (mkF m q1 Ls st))(Kf:x.toInt≠y.toInt→Go p e below Ev T (mkF m q2 Ls st)):Go p e below Ev T (mkF m pc Ls (.long y :: .long x::st)):=by
 have Q:=c_lcmp x y
 have C:x.toInt<y.toInt∨x.toInt=y.toInt∨y.toInt<x.toInt:=by omega
 refine ky X hx q0 hd0 h0 (jk X hx q1 q2 hd ho h1 h2 (fun hc=>Kt ?_) (fun hc=>Kf ?_))<;>(rcases C with C|C|C<;>first|(have:=Q.1 C;omega)|(have:=Q.2.1 C;omega)|(have:=Q.2.2 C;omega))
theorem uH (X:Stand p l e R s m args below meth c T locs cells slots)(hx:p.tables.exec=Jvm.exec){pc:Nat}{Ls:Array Slot}{st:List Value}{x y:Int64}{o:Int}(q0 q1 q2:Nat)(hd0:decode c.code pc = .ok (.lcmp,1))(h0:pc+1=q0)(hd:decode c.code q0 = .ok (.ifCond .ne o,3))(ho:0≤(q0:Int)+o)(h1:((q0:Int)+o).toNat=q1)(h2:q0+3=q2)(Kt:x.toInt≠y.toInt→Go p e below Ev T (mkF m q1 Ls st))(Kf:x.toInt=y.toInt→Go p e below Ev T (mkF m q2 Ls st)):Go p e below Ev T (mkF m pc Ls (.long y :: .long x::st)):=by
 have Q:=c_lcmp x y
 have C:x.toInt<y.toInt∨x.toInt=y.toInt∨y.toInt<x.toInt:=by omega
 refine ky X hx q0 hd0 h0 (jl X hx q1 q2 hd ho h1 h2 (fun hc=>Kt ?_) (fun hc=>Kf ?_))<;>(rcases C with C|C|C<;>first|(have:=Q.1 C;omega)|(have:=Q.2.1 C;omega)|(have:=Q.2.2 C;omega))
theorem uI (X:Stand p l e R s m args below meth c T locs cells slots)(hx:p.tables.exec=Jvm.exec){pc:Nat}{Ls:Array Slot}{st:List Value}{x y:Int64}{o:Int}(q0 q1 q2:Nat)(hd0:decode c.code pc = .ok (.lcmp,1))(h0:pc+1=q0)(hd:decode c.code q0 = .ok (.ifCond .lt o,3))(ho:0≤(q0:Int)+o)(h1:((q0:Int)+o).toNat=q1)(h2:q0+3=q2)(Kt:x.toInt<y.toInt→Go p e below Ev T (mkF m q1 Ls st))(Kf:y.toInt≤x.toInt→Go p e below Ev T (mkF m q2 Ls st)):Go p e below Ev T (mkF m pc Ls (.long y :: .long x::st)):=by
 have Q:=c_lcmp x y
 have C:x.toInt<y.toInt∨x.toInt=y.toInt∨y.toInt<x.toInt:=by omega
 refine ky X hx q0 hd0 h0 (pd X hx q1 q2 hd ho h1 h2 (fun hc=>Kt ?_) (fun hc=>Kf ?_))<;>(rcases C with C|C|C<;>first|(have:=Q.1 C;omega)|(have:=Q.2.1 C;omega)|(have:=Q.2.2 C;omega))
theorem uJ (X:Stand p l e R s m args below meth c T locs cells slots)(hx:p.tables.exec=Jvm.exec){pc:Nat}{Ls:Array Slot}{st:List Value}{x y:Int64}{o:Int}(q0 q1 q2:Nat)(hd0:decode c.code pc = .ok (.lcmp,1))(h0:pc+1=q0)(hd:decode c.code q0 = .ok (.ifCond .ge o,3))(ho:0≤(q0:Int)+o)(h1:((q0:Int)+o).toNat=q1)(h2:q0+3=q2)(Kt:y.toInt≤x.toInt→Go p e below Ev T (mkF m q1 Ls st))(Kf:x.toInt<y.toInt→Go p e below Ev T (mkF m q2 Ls st)):Go p e below Ev T (mkF m pc Ls (.long y :: .long x::st)):=by
 have Q:=c_lcmp x y
 have C:x.toInt<y.toInt∨x.toInt=y.toInt∨y.toInt<x.toInt:=by omega
 refine ky X hx q0 hd0 h0 (pe X hx q1 q2 hd ho h1 h2 (fun hc=>Kt ?_) (fun hc=>Kf ?_))<;>(rcases C with C|C|C<;>first|(have:=Q.1 C;omega)|(have:=Q.2.1 C;omega)|(have:=Q.2.2 C;omega))
theorem uK (X:Stand p l e R s m args below meth c T locs cells slots)(hx:p.tables.exec=Jvm.exec){pc:Nat}{Ls:Array Slot}{st:List Value}{x y:Int64}{o:Int}(q0 q1 q2:Nat)(hd0:decode c.code pc = .ok (.lcmp,1))(h0:pc+1=q0)(hd:decode c.code q0 = .ok (.ifCond .gt o,3))(ho:0≤(q0:Int)+o)(h1:((q0:Int)+o).toNat=q1)(h2:q0+3=q2)(Kt:y.toInt<x.toInt→Go p e below Ev T (mkF m q1 Ls st))(Kf:x.toInt≤y.toInt→Go p e below Ev T (mkF m q2 Ls st)):Go p e below Ev T (mkF m pc Ls (.long y :: .long x::st)):=by
 have Q:=c_lcmp x y
 have C:x.toInt<y.toInt∨x.toInt=y.toInt∨y.toInt<x.toInt:=by omega
 refine ky X hx q0 hd0 h0 (pf X hx q1 q2 hd ho h1 h2 (fun hc=>Kt ?_) (fun hc=>Kf ?_))<;>(rcases C with C|C|C<;>first|(have:=Q.1 C;omega)|(have:=Q.2.1 C;omega)|(have:=Q.2.2 C;omega))
theorem uL (X:Stand p l e R s m args below meth c T locs cells slots)(hx:p.tables.exec=Jvm.exec){pc:Nat}{Ls:Array Slot}{st:List Value}{x y:Int64}{o:Int}(q0 q1 q2:Nat)(hd0:decode c.code pc = .ok (.lcmp,1))(h0:pc+1=q0)(hd:decode c.code q0 = .ok (.ifCond .le o,3))(ho:0≤(q0:Int)+o)(h1:((q0:Int)+o).toNat=q1)(h2:q0+3=q2)(Kt:x.toInt≤y.toInt→Go p e below Ev T (mkF m q1 Ls st))(Kf:y.toInt<x.toInt→Go p e below Ev T (mkF m q2 Ls st)):Go p e below Ev T (mkF m pc Ls (.long y :: .long x::st)):=by
 have Q:=c_lcmp x y
 have C:x.toInt<y.toInt∨x.toInt=y.toInt∨y.toInt<x.toInt:=by omega
 refine ky X hx q0 hd0 h0 (pg X hx q1 q2 hd ho h1 h2 (fun hc=>Kt ?_) (fun hc=>Kf ?_))<;>(rcases C with C|C|C<;>first|(have:=Q.1 C;omega)|(have:=Q.2.1 C;omega)|(have:=Q.2.2 C;omega))
theorem qi (i j:Int)(o:CmpOp):(i<j→(cmpValue (some (compare i j)) o).toInt=-1)∧(i=j→(cmpValue (some (compare i j)) o).toInt=0)∧(j<i→(cmpValue (some (compare i j)) o).toInt=1):=by
 refine⟨fun q=>?_,fun q=>?_,fun q=>?_⟩
 ·rw[show compare i j = .lt from by rw[Jvm.FP.Core.compare_ite];simp [q]];cases o<;>rfl
 ·rw[show compare i j = .eq from by rw[Jvm.FP.Core.compare_ite];simp [q]];cases o<;>rfl
 ·rw[show compare i j = .gt from by rw[Jvm.FP.Core.compare_ite];simp [show ¬i<j by omega,show ¬i=j by omega]];cases o<;>rfl
theorem Pm (X:Stand p l e R s m args below meth c T locs cells slots)(hx:p.tables.exec=Jvm.exec){pc:Nat}{Ls:Array Slot}{st:List Value}(hZ:Z.Warmed39 s.vm){own C:String}{i n:Nat}(hown:s.vm.findClass own=some m.cls)(w:(Jvm.Cond.classLink own i C).before a0 Z=true)(wi:(Jvm.Cond.instantiable C n).before a0 Z=true)(wz:(Jvm.Cond.initialized C).before a0 Z=true)(eT:T.heap=h)(q:Nat)(hd:decode c.code pc = .ok (.new i,3))(hq:pc+3=q)(hc:cells+1≤R.cells)(hl:slots+n≤R.slots)
  (K:∀(T':State) (h':Heap) (a:Addr),a=h.size→Stand p l e R s m args below meth c T' locs (cells+1) (slots+n)→T'.heap=h'→Ext h h'→Exa Z h' a C→(∀{O nm d:String} {ty:FieldType},Laid Z a0 C O nm d→parseFieldDescriptor d=some ty→Fld Z h' a O nm d (defaultValue ty))→Go p e below Ev T' (mkF m q Ls (.ref a::st))):Go p e below Ev T (mkF m pc Ls st):=by
 subst hq
 obtain⟨T',h',X',e',E',A',D',-,st'⟩:=newO X hx hZ hown w wi wz eT (g:=mkF m pc Ls st) rfl hd hc hl
 exact (K T' h' _ rfl X' e' E' A' D').on st'
theorem x4 (X:Stand p l e R s m args below meth c T locs cells slots)(hx:p.tables.exec=Jvm.exec){pc:Nat}{Ls:Array Slot}{st:List Value}(hZ:Z.Warmed39 s.vm){own:String}{i:Nat}(hown:s.vm.findClass own=some m.cls)(w1:(Jvm.Cond.methodLink own i ⟨"java/lang/Object","<init>","()V"⟩).before a0 Z=true)(w2:(Jvm.Cond.instanceMethod ⟨"java/lang/Object","<init>","()V"⟩).before a0 Z=true)(w3:(Jvm.Cond.code ⟨"java/lang/Object","<init>","()V"⟩ object_method_1_code 1 none).before a0 Z=true)(eT:T.heap=h){a:Addr}(W:Nat)(q:Nat)(hd:decode c.code pc = .ok (.invokespecial i,3))(hq:pc+3=q)(hsz:Ls.size=c.maxLocals)(hf:1≤R.frames)(hW:(st.map fun v=>v.category).sum≤W)(hl:W+12≤R.locals)(K:∀T',Stand p l e R s m args below meth c T' locs cells slots→T'.heap=h→Go p e below Ev T' (mkF m q Ls st)):Go p e below Ev T (mkF m pc Ls (.ref a::st)):=by
 subst hq
 obtain⟨T',X',e',st'⟩:=initO X hx hZ hown w1 w2 w3 eT (g:=mkF m pc Ls (.ref a::st)) rfl hsz rfl hd hf (W:=W) (by show 2*0+_≤_;omega) hl
 exact (K T' X' e').on st'
theorem dz (X:Stand p l e R s m args below meth c T locs cells slots)(hx:p.tables.exec=Jvm.exec){pc:Nat}{Ls:Array Slot}{st:List Value}(hZ:Z.Warmed39 s.vm){own:String}{i:Nat}{y:MethodName}{bytes:ByteArray}{maxL:Nat}{ret:Option FieldType}{rm:Room}{as':Array Value}{Q:Option Value→Heap→List Loc→Prop}{argsL rest:List Value}(hown:s.vm.findClass own=some m.cls)(w1:(Jvm.Cond.methodLink own i y).before a0 Z=true)(w2:(Jvm.Cond.static y).before a0 Z=true)(w3:(Jvm.Cond.initialized y.cls).before a0 Z=true)(w4:(Jvm.Cond.code y bytes maxL ret).before a0 Z=true)(hy:y.cls ≠ "java/lang/invoke/MethodHandle"∧y.cls ≠ "java/lang/invoke/VarHandle")(hM:MetFree l y (head1 [Jvm.Cond.code y bytes maxL ret] rm) (fun a U=>a=as'∧Z.Warmed39 U.vm∧U.heap=h) (fun _ _ _ _ _=>True) (fun _ U o U'=>∃v L,o = .returned v∧Q v U'.heap L∧FrameEnd U o U' L rm.cells rm.slots))(eT:T.heap=h)(hst:st=argsL.reverse++rest)(has:argsL.toArray=as')(W:Nat)(q:Nat)(hq:pc+3=q)(hsz:Ls.size=c.maxLocals)(hlen:∀sig,parseMethodDescriptor y.desc=some sig→argsL.length=sig.parameters.length)(hW:(rest.map fun v=>v.category).sum≤W)(hf:rm.frames+1≤R.frames)(hl:W+(maxL+11)+rm.locals≤R.locals)(hc:cells+rm.cells≤R.cells)(hs:slots+rm.slots≤R.slots)(hd:decode c.code pc = .ok (.invokestatic i,3))
  (K:∀(v:Option Value) (T':State) (L:List Loc),Stand p l e R s m args below meth c T' (locs++L) (cells+rm.cells) (slots+rm.slots)→Q v T'.heap L→Go p e below Ev T' (mkF m q Ls (v.toList++rest))):Go p e below Ev T (mkF m pc Ls st):=by
 subst hq hst
 obtain⟨v,vm1,⟨T',L',k',n'⟩,-,X',⟨L,hQ,l',y',z'⟩,st'⟩:=Jvm.LawKit.callS X hx hown (mvT hZ w1) (mvT hZ w2) (mvT hZ w3) (mvT hZ w4) hy (backOf (W:=W) hM hZ w4 w3 hf hl) (g:=mkF m pc Ls (argsL.reverse++rest)) rfl hsz (argsL:=argsL) (rest:=rest) hlen rfl (by show 2*0+_≤_;omega) hd (fun _ _=>⟨has,eT,hc,hs⟩)
 dsimp only[Pt.U,Pt.locs,Pt.cells,Pt.slots] at X' l' y' z' st' hQ
 subst l' y' z'
 exact (K v T' L X' hQ).on fun t k=>st' t k
theorem kA (X:Stand p l e R s m args below meth c T locs cells slots)(hx:p.tables.exec=Jvm.exec){pc:Nat}{Ls:Array Slot}{st:List Value}(hZ:Z.Warmed39 s.vm){own:String}{i:Nat}{y:MethodName}{bytes:ByteArray}{maxL:Nat}{rm:Room}{as':Array Value}{Q:Option Value→Heap→List Loc→Prop}{argsL rest:List Value}(hy1:y.name = "<init>")(hown:s.vm.findClass own=some m.cls)(w1:(Jvm.Cond.methodLink own i y).before a0 Z=true)(w2:(Jvm.Cond.instanceMethod y).before a0 Z=true)(w3:(Jvm.Cond.initialized y.cls).before a0 Z=true)(w4:(Jvm.Cond.code y bytes maxL none).before a0 Z=true)(hy:y.cls ≠ "java/lang/invoke/MethodHandle"∧y.cls ≠ "java/lang/invoke/VarHandle")(hM:MetFree l y (head1 [Jvm.Cond.code y bytes maxL none] rm) (fun a U=>a=as'∧Z.Warmed39 U.vm∧U.heap=h) (fun _ _ _ _ _=>True) (fun _ U o U'=>∃v L,o = .returned v∧Q v U'.heap L∧FrameEnd U o U' L rm.cells rm.slots))(eT:T.heap=h){a:Addr}(hst:st=argsL.reverse ++ .ref a::rest)(has:(.ref a::argsL).toArray=as')(W:Nat)(q:Nat)(hq:pc+3=q)(hsz:Ls.size=c.maxLocals)(hlen:∀sig,parseMethodDescriptor y.desc=some sig→argsL.length=sig.parameters.length)(hW:(rest.map fun v=>v.category).sum≤W)(hf:rm.frames+1≤R.frames)(hl:W+(maxL+11)+rm.locals≤R.locals)(hc:cells+rm.cells≤R.cells)(hs:slots+rm.slots≤R.slots)(hd:decode c.code pc = .ok (.invokespecial i,3))
  (K:∀(v:Option Value) (T':State) (L:List Loc),Stand p l e R s m args below meth c T' (locs++L) (cells+rm.cells) (slots+rm.slots)→Q v T'.heap L→Go p e below Ev T' (mkF m q Ls (v.toList++rest))):Go p e below Ev T (mkF m pc Ls st):=by
 subst hq hst
 obtain⟨v,vm1,⟨T',L',k',n'⟩,-,X',⟨L,hQ,l',y',z'⟩,st'⟩:=X.specialBack hx hy1 hown (mvT hZ w1) (mvT hZ w2) (mvT hZ w4) hy (backOf (W:=W) hM hZ w4 w3 hf hl) (g:=mkF m pc Ls (argsL.reverse ++ .ref a::rest)) rfl hsz (Steps.refl _) (a:=a) (argsL:=argsL) (rest:=rest) hlen rfl (by show 2*0+_≤_;omega) hd (fun _ _=>⟨has,eT,hc,hs⟩)
 dsimp only[Pt.U,Pt.locs,Pt.cells,Pt.slots] at X' l' y' z' st' hQ
 subst l' y' z'
 exact (K v T' L X' hQ).on fun t k=>st'.trans k
theorem eC (X:Stand p l e R s m args below meth c T locs cells slots)(hx:p.tables.exec=Jvm.exec){pc:Nat}{Ls:Array Slot}{st:List Value}(hZ:Z.Warmed39 s.vm){own:String}{i:Nat}{y z:MethodName}{C:String}{bytes:ByteArray}{maxL:Nat}{ret:Option FieldType}{rm:Room}{as':Array Value}{Q:Option Value→Heap→List Loc→Prop}{argsL rest:List Value}(hown:s.vm.findClass own=some m.cls)(w1:(Jvm.Cond.methodLink own i y).before a0 Z=true)(w2:(Jvm.Cond.declares y).before a0 Z=true)(w5:(Jvm.Cond.selects y.cls y y).before a0 Z=true)(w6:(Jvm.Cond.selects C y z).before a0 Z=true)(w7:(Jvm.Cond.instanceMethod z).before a0 Z=true)(w3:(Jvm.Cond.initialized z.cls).before a0 Z=true)(w4:(Jvm.Cond.code z bytes maxL ret).before a0 Z=true)(hy:y.cls ≠ "java/lang/invoke/MethodHandle"∧y.cls ≠ "java/lang/invoke/VarHandle")(hM:MetFree l z (head1 [Jvm.Cond.code z bytes maxL ret] rm) (fun a U=>a=as'∧Z.Warmed39 U.vm∧U.heap=h) (fun _ _ _ _ _=>True) (fun _ U o U'=>∃v L,o = .returned v∧Q v U'.heap L∧FrameEnd U o U' L rm.cells rm.slots))(eT:T.heap=h){b:Addr}(E:Exa Z h b C)(hst:st=argsL.reverse ++ .ref b::rest)(has:(.ref b::argsL).toArray=as')(W:Nat)(q:Nat)(hq:pc+3=q)(hsz:Ls.size=c.maxLocals)(hlen:∀sig,parseMethodDescriptor y.desc=some sig→argsL.length=sig.parameters.length)(hW:(rest.map fun v=>v.category).sum≤W)(hf:rm.frames+1≤R.frames)(hl:W+(maxL+11)+rm.locals≤R.locals)(hc:cells+rm.cells≤R.cells)(hs:slots+rm.slots≤R.slots)(hd:decode c.code pc = .ok (.invokevirtual i,3))
  (K:∀(v:Option Value) (T':State) (L:List Loc),Stand p l e R s m args below meth c T' (locs++L) (cells+rm.cells) (slots+rm.slots)→Q v T'.heap L→Go p e below Ev T' (mkF m q Ls (v.toList++rest))):Go p e below Ev T (mkF m pc Ls st):=by
 subst hq hst
 obtain⟨cq,kq,qa,qb,qc⟩:=isOf hZ eT E
 obtain⟨v,vm1,⟨T',L',k',n'⟩,-,X',⟨L,hQ,l',y',z'⟩,st'⟩:=X.virtualBack hx hown (mvT hZ w1) (mvT hZ w2) (notFace_of_selects (args:=#[]) (mvT hZ w5)) (mvT hZ w6) (mvT hZ w7) hy (backOf (W:=W) hM hZ w4 w3 hf hl) qa qc (g:=mkF m pc Ls (argsL.reverse ++ .ref b::rest)) rfl hsz (Steps.refl _) (argsL:=argsL) (rest:=rest) hlen rfl (by show 2*0+_≤_;omega) hd (fun _ _=>⟨has,eT,hc,hs⟩)
 dsimp only[Pt.U,Pt.locs,Pt.cells,Pt.slots] at X' l' y' z' st' hQ
 subst l' y' z'
 exact (K v T' L X' hQ).on fun t k=>st'.trans k
theorem ib {n:Nat}(j:Int32)(h0:0≤j.toInt)(z:Int32)(h1:j.toInt<z.toInt)(S:n=z.toNatClampNeg):¬(j<0∨n≤j.toNatClampNeg):=by
 subst S
 intro q
 rcases q with q|q
 ·have:=(gA j).1.mp q;omega
 ·simp only[Int32.toNatClampNeg] at q;omega
theorem lZ {j:Int32}{k:Nat}(h:j.toInt=(k:Int)):j.toNatClampNeg=k:=by simp only[Int32.toNatClampNeg];omega
theorem tf (X:Stand p l e R s m args below meth c T locs cells slots)(hx:p.tables.exec=Jvm.exec){pc:Nat}{Ls:Array Slot}{st:List Value}(hZ:Z.Warmed39 s.vm){aty:ArrayType}(w:(Jvm.Cond.arrayClass (newarray.typeOf aty)).before a0 Z=true)(eT:T.heap=h){n:Int32}(hn:0≤n.toInt){cap:Nat}(hcap:n.toInt≤cap)(hb:cap*8≤536870912)(q:Nat)(hd:decode c.code pc = .ok (.newarray aty,2))(hq:pc+2=q)(hc:cells+1≤R.cells)(hl:slots+cap≤R.slots){ad:String}(had : "["++(newarray.typeOf aty).toString=ad)
  (K:∀(T':State) (h':Heap) (k:ClassId) (a:Addr),a=h.size→Stand p l e R s m args below meth c T' locs (cells+1) (slots+cap)→T'.heap=h'→Ext h h'→Arv Z h' a k (newarray.typeOf aty) n [] (defaultValue (newarray.typeOf aty))→Exa Z h' a ad→Go p e below Ev T' (mkF m q Ls (.ref a::st))):Go p e below Ev T (mkF m pc Ls (.int n::st)):=by
 subst hq
 have hn':¬n<0:=fun q=>by have:=(gA n).1.mp q;omega
 obtain⟨T',h',k,X',e',E',A',B',st'⟩:=newPE X hx hZ w eT (g:=mkF m pc Ls (.int n::st)) rfl hd rfl hn' (cap:=cap) (by simp only[Int32.toNatClampNeg];omega) hb hc hl had
 exact (K T' h' k _ rfl X' e' E' (Arv.new A' hn') B').on st'
theorem Pn (X:Stand p l e R s m args below meth c T locs cells slots)(hx:p.tables.exec=Jvm.exec){pc:Nat}{Ls:Array Slot}{st:List Value}(hZ:Z.Warmed39 s.vm)(eT:T.heap=h){a:Addr}{k:ClassId}{ty:FieldType}{z:Int32}{vs:List Value}{dv:Value}(V:Arv Z h a k ty z vs dv)(q:Nat)(hd:decode c.code pc = .ok (.arraylength,1))(hq:pc+1=q)(K:Go p e below Ev T (mkF m q Ls (.int z::st))):Go p e below Ev T (mkF m pc Ls (.ref a::st)):=by
 subst hq
 obtain⟨cl,A,q1,S,q3,H,G⟩:=V
 refine K.on fun t k=>X.arraylength hx (by rw[eT];exact A.1) (State.isArrayOf_alike hZ.alike A.2.1) (g:=mkF m pc Ls (.ref a::st)) rfl rfl hd t ?_
 rw[len_of S q3]
 exact k
theorem x6 (X:Stand p l e R s m args below meth c T locs cells slots)(hx:p.tables.exec=Jvm.exec){pc:Nat}{Ls:Array Slot}{st:List Value}(hZ:Z.Warmed39 s.vm)(eT:T.heap=h){a:Addr}{k:ClassId}{z j:Int32}{x:UInt64}{vs:List Value}{dv:Value}(V:Arv Z h a k .double z vs dv)(i:Nat)(hi:j.toInt=(i:Int))(hz:j.toInt<z.toInt)(hv:i<vs.length)(q:Nat)(hd:decode c.code pc = .ok (.dastore,1))(hq:pc+1=q)
  (K:∀T' h',Stand p l e R s m args below meth c T' (locs++[⟨a,j.toNatClampNeg⟩]) cells slots→T'.heap=h'→Wr h h' a j.toNatClampNeg (.double x)→Arv Z h' a k .double z (vs.set i (.double x)) dv→Go p e below Ev T' (mkF m q Ls st)):Go p e below Ev T (mkF m pc Ls (.double x :: .int j :: .ref a::st)):=by
 subst hq
 obtain⟨cl,A,q1,S,q3,H,G⟩:=V
 have hj:=ib j (by omega) z hz S
 obtain⟨T',h',X',e',W',st'⟩:=stD X hx hZ eT A hj (g:=mkF m pc Ls (.double x :: .int j :: .ref a::st)) rfl rfl hd
 exact (K T' h' X' e' W' (Arv.set A q1 S q3 H G rfl W' i (lZ hi) hv)).on st'
theorem x8 (X:Stand p l e R s m args below meth c T locs cells slots)(hx:p.tables.exec=Jvm.exec){pc:Nat}{Ls:Array Slot}{st:List Value}(hZ:Z.Warmed39 s.vm)(eT:T.heap=h){a:Addr}{k:ClassId}{z j:Int32}{x:Int32}{vs:List Value}{dv:Value}(V:Arv Z h a k .int z vs dv)(i:Nat)(hi:j.toInt=(i:Int))(hz:j.toInt<z.toInt)(hv:i<vs.length)(q:Nat)(hd:decode c.code pc = .ok (.iastore,1))(hq:pc+1=q)
  (K:∀T' h',Stand p l e R s m args below meth c T' (locs++[⟨a,j.toNatClampNeg⟩]) cells slots→T'.heap=h'→Wr h h' a j.toNatClampNeg (.int x)→Arv Z h' a k .int z (vs.set i (.int x)) dv→Go p e below Ev T' (mkF m q Ls st)):Go p e below Ev T (mkF m pc Ls (.int x :: .int j :: .ref a::st)):=by
 subst hq
 obtain⟨cl,A,q1,S,q3,H,G⟩:=V
 have hj:=ib j (by omega) z hz S
 obtain⟨T',h',X',e',W',st'⟩:=stI X hx hZ eT A hj (g:=mkF m pc Ls (.int x :: .int j :: .ref a::st)) rfl rfl hd
 exact (K T' h' X' e' W' (Arv.set A q1 S q3 H G rfl W' i (lZ hi) hv)).on st'
theorem zO (X:Stand p l e R s m args below meth c T locs cells slots)(hx:p.tables.exec=Jvm.exec){pc:Nat}{Ls:Array Slot}{st:List Value}(hZ:Z.Warmed39 s.vm)(eT:T.heap=h){a:Addr}{k:ClassId}{z j:Int32}{v:Value}{vs:List Value}{dv:Value}(V:Arv Z h a k .double z vs dv)(hi:0≤j.toInt)(hz:j.toInt<z.toInt)(hv:vs.getD j.toNatClampNeg dv=v)(q:Nat)(hd:decode c.code pc = .ok (.daload,1))(hq:pc+1=q)(K:Go p e below Ev T (mkF m q Ls (v::st))):Go p e below Ev T (mkF m pc Ls (.int j :: .ref a::st)):=by
 subst hq
 obtain⟨cl,A,q1,S,q3,H,G⟩:=V
 have hj:=ib j hi z hz S
 exact K.on fun t k=>X.daload hx (by rw[eT];exact A.1) (State.isArrayOf_alike hZ.alike A.2.1) A.2.2 hj (H.at hj hv) (g:=mkF m pc Ls (.int j :: .ref a::st)) rfl rfl hd t k
theorem zP (X:Stand p l e R s m args below meth c T locs cells slots)(hx:p.tables.exec=Jvm.exec){pc:Nat}{Ls:Array Slot}{st:List Value}(hZ:Z.Warmed39 s.vm)(eT:T.heap=h){a:Addr}{k:ClassId}{z j:Int32}{v:Value}{vs:List Value}{dv:Value}(V:Arv Z h a k .int z vs dv)(hi:0≤j.toInt)(hz:j.toInt<z.toInt)(hv:vs.getD j.toNatClampNeg dv=v)(q:Nat)(hd:decode c.code pc = .ok (.iaload,1))(hq:pc+1=q)(K:Go p e below Ev T (mkF m q Ls (v::st))):Go p e below Ev T (mkF m pc Ls (.int j :: .ref a::st)):=by
 subst hq
 obtain⟨cl,A,q1,S,q3,H,G⟩:=V
 have hj:=ib j hi z hz S
 exact K.on fun t k=>X.iaload hx (by rw[eT];exact A.1) (State.isArrayOf_alike hZ.alike A.2.1) A.2.2 hj (H.at hj hv) (g:=mkF m pc Ls (.int j :: .ref a::st)) rfl rfl hd t k
theorem HQ (X:Stand p l e R s m args below meth c T locs cells slots)(hx:p.tables.exec=Jvm.exec){pc:Nat}{Ls:Array Slot}{st:List Value}(hZ:Z.Warmed39 s.vm){own ad:String}{i:Nat}(hown:s.vm.findClass own=some m.cls)(w1:(Jvm.Cond.methodLink own i ⟨ad,"clone","()Ljava/lang/Object;"⟩).before a0 Z=true)(w2:(Jvm.Cond.sameMethod ad "java/lang/Object" "clone" "()Ljava/lang/Object;").before a0 Z=true)(w3:(Jvm.Cond.native ⟨"java/lang/Object","clone","()Ljava/lang/Object;"⟩).before a0 Z=true)(w4:(Jvm.Cond.instanceMethod ⟨"java/lang/Object","clone","()Ljava/lang/Object;"⟩).before a0 Z=true)(w5:(Jvm.Cond.selects ad ⟨ad,"clone","()Ljava/lang/Object;"⟩ ⟨"java/lang/Object","clone","()Ljava/lang/Object;"⟩).before a0 Z=true)(w6:(Jvm.Cond.castable ad "java/lang/Cloneable").before a0 Z=true)(eT:T.heap=h){a:Addr}{k:ClassId}{ty:FieldType}{z:Int32}{vs:List Value}{dv:Value}(V:Arv Z h a k ty z vs dv)(E:Exa Z h a ad)(W cap:Nat)(q:Nat)(hd:decode c.code pc = .ok (.invokevirtual i,3))(hq:pc+3=q)(hsz:Ls.size=c.maxLocals)(hf:1≤R.frames)(hW:(st.map fun v=>v.category).sum≤W)(hl:W+14≤R.locals)(hcap:z.toInt≤cap)(hc:cells+1≤R.cells)(hs:slots+cap≤R.slots)
  (K:∀(T':State) (h':Heap) (b:Addr),b=h.size→Stand p l e R s m args below meth c T' locs (cells+1) (slots+cap)→T'.heap=h'→Ext h h'→Arv Z h' b k ty z vs dv→Exa Z h' b ad→Go p e below Ev T' (mkF m q Ls (.ref b::st))):Go p e below Ev T (mkF m pc Ls (.ref a::st)):=by
 subst hq
 obtain⟨T',h',X',e',E',V',B',st'⟩:=cloneH X hx hZ hown w1 w2 w3 w4 w5 w6 eT V.arh E (g:=mkF m pc Ls (.ref a::st)) rfl hsz rfl hd hf (W:=W) (cap:=cap) (by show 2*0+_≤_;omega) hl (by simp only[Int32.toNatClampNeg];omega) hc hs
 exact (K T' h' _ rfl X' e' E' V' B').on st'
theorem NG (X:Stand p l e R s m args below meth c T locs cells slots)(hx:p.tables.exec=Jvm.exec){pc:Nat}{Ls:Array Slot}{st:List Value}(hZ:Z.Warmed39 s.vm){own C:String}{i:Nat}(hown:s.vm.findClass own=some m.cls)(w:(Jvm.Cond.classLink own i C).before a0 Z=true)(eT:T.heap=h){a:Addr}(F:Ins Z h a C true)(q:Nat)(hd:decode c.code pc = .ok (.checkcast i,3))(hq:pc+3=q)(K:∀T',Stand p l e R s m args below meth c T' locs cells slots→T'.heap=h→Go p e below Ev T' (mkF m q Ls (.ref a::st))):Go p e below Ev T (mkF m pc Ls (.ref a::st)):=by
 subst hq
 obtain⟨T',X',e',st'⟩:=castY X hx hZ hown w eT F (g:=mkF m pc Ls (.ref a::st)) rfl rfl hd
 exact (K T' X' e').on st'
end OwnKit
theorem l4:parseMethodDescriptor "(II)I" = some ⟨[.int,.int],some .int⟩:=by decide +kernel
theorem HS:parseMethodDescriptor "(IIZ)[I" = some ⟨[.int,.int,.boolean],some (.array .int)⟩:=by decide +kernel
theorem HU:parseMethodDescriptor "(IIZ)[D" = some ⟨[.int,.int,.boolean],some (.array .double)⟩:=by decide +kernel
theorem iE:parseMethodDescriptor "(I)V" = some ⟨[.int],none⟩:=by decide +kernel
theorem HY:parseMethodDescriptor "()V" = some ⟨[],none⟩:=by decide +kernel
theorem HZ:parseMethodDescriptor "([[I[[D)Z" = some ⟨[(.array (.array .int)),(.array (.array .double))],some .boolean⟩:=by decide +kernel
theorem H0:parseMethodDescriptor "(Lcom/example/tracefold/tracefold/mining/FactoredInverse;[[I[[D)V" = some ⟨[(.object "com/example/tracefold/tracefold/mining/FactoredInverse"),(.array (.array .int)),(.array (.array .double))],none⟩:=by decide +kernel
theorem uM:parseMethodDescriptor "([II)[I" = some ⟨[(.array .int),.int],some (.array .int)⟩:=by decide +kernel
theorem H3:parseMethodDescriptor "([DI)[D" = some ⟨[(.array .double),.int],some (.array .double)⟩:=by decide +kernel
theorem zQ:parseMethodDescriptor "(Lcom/example/tracefold/tracefold/mining/FactoredInverse;[I)V" = some ⟨[(.object "com/example/tracefold/tracefold/mining/FactoredInverse"),(.array .int)],none⟩:=by decide +kernel
theorem mj:parseMethodDescriptor "([II)V" = some ⟨[(.array .int),.int],none⟩:=by decide +kernel
theorem jm:parseMethodDescriptor "(II)V" = some ⟨[.int,.int],none⟩:=by decide +kernel
theorem zR:parseMethodDescriptor "()J" = some ⟨[],some .long⟩:=by decide +kernel
theorem mo:parseMethodDescriptor "(I)I" = some ⟨[.int],some .int⟩:=by decide +kernel
theorem zS:parseMethodDescriptor "(ID)Z" = some ⟨[.int,.double],some .boolean⟩:=by decide +kernel
theorem zT:parseMethodDescriptor "(III)V" = some ⟨[.int,.int,.int],none⟩:=by decide +kernel
theorem mq:parseMethodDescriptor "(ID)V" = some ⟨[.int,.double],none⟩:=by decide +kernel
theorem zU:parseMethodDescriptor "(IID)V" = some ⟨[.int,.int,.double],none⟩:=by decide +kernel
theorem zV:parseMethodDescriptor "([D)[D" = some ⟨[(.array .double)],some (.array .double)⟩:=by decide +kernel
theorem zW:parseMethodDescriptor "(ILcom/example/tracefold/tracefold/mining/SparseVector;)V" = some ⟨[.int,(.object "com/example/tracefold/tracefold/mining/SparseVector")],none⟩:=by decide +kernel
theorem zX:parseMethodDescriptor "()I" = some ⟨[],some .int⟩:=by decide +kernel
theorem zY:parseMethodDescriptor "(I)D" = some ⟨[.int],some .double⟩:=by decide +kernel
def aV (n0:Nat)(v:Option Value)(h:Heap)(L:List Loc):Prop:=v=some (.int 1)∧Fr n0 L
theorem zZ {i:Int}{a:UInt64}(s:Bool)(c:Nat)(q:Int)(h:Jvm.FP.Core.val64 a = .fin s c q)(h2:Jvm.FP.Core.signed s (c*2 ^ q.toNat)=i*((2 ^ (-q).toNat:Nat):Int)):Jvm.FP.Core.DInt i a:=by
 show Jvm.FP.Core.Whole i _
 rw[h]
 exact h2
theorem x9:Jvm.FP.Core.DInt 0 (0:UInt64):=zZ false 0 (-1074) (by decide +kernel) (by decide +kernel)
set_option maxRecDepth 65536
set_option maxHeartbeats 40000000
section OwnKit2
variable {p:Program}{l:Launch}{e:Env}{R:Room}{s:State}{m:MethodId}{args:Array Value}{below:List Frame}{meth:Method}{c:Code}{T:State}{locs:List Loc}{cells slots:Nat}{Z:State}{a0:Array Value}{h h':Heap}{Ev:State→Outcome→Prop}
theorem uN (X:Stand p l e R s m args below meth c T locs cells slots)(hx:p.tables.exec=Jvm.exec){pc:Nat}{Ls:Array Slot}{st:List Value}(hZ:Z.Warmed39 s.vm){own C:String}{ty:FieldType}{i:Nat}(hown:s.vm.findClass own=some m.cls)(hC:(FieldType.array ty).toString=C)(w1:(Jvm.Cond.classLink own i C).before a0 Z=true)(w2:(Jvm.Cond.arrayOver (.array ty)).before a0 Z=true)(eT:T.heap=h){n:Int32}(hn:0≤n.toInt){cap:Nat}(hcap:n.toInt≤cap)(hb:cap*8≤536870912)(q:Nat)(hd:decode c.code pc = .ok (.anewarray i,3))(hq:pc+3=q)(hc:cells+1≤R.cells)(hl:slots+cap≤R.slots){ad:String}(had : "["++C=ad)
  (K:∀(T':State) (h':Heap) (k:ClassId) (a:Addr),a=h.size→Stand p l e R s m args below meth c T' locs (cells+1) (slots+cap)→T'.heap=h'→Ext h h'→Arv Z h' a k (.array ty) n [] .null→Exa Z h' a ad→OvrA Z k ty C→Go p e below Ev T' (mkF m q Ls (.ref a::st))):Go p e below Ev T (mkF m pc Ls (.int n::st)):=by
 subst hq
 have hn':¬n<0:=fun q=>by have:=(gA n).1.mp q;omega
 obtain⟨T',h',k,X',e',E',A',B',O',st'⟩:=newRA X hx hZ hown hC w1 w2 eT (g:=mkF m pc Ls (.int n::st)) rfl hd rfl hn' (cap:=cap) (by simp only[Int32.toNatClampNeg];omega) hb hc hl had
 exact (K T' h' k _ rfl X' e' E' (Arv.new A' hn') B' O').on st'
theorem mr (X:Stand p l e R s m args below meth c T locs cells slots)(hx:p.tables.exec=Jvm.exec){pc:Nat}{Ls:Array Slot}{st:List Value}(hZ:Z.Warmed39 s.vm)(eT:T.heap=h){a y:Addr}{k:ClassId}{ty:FieldType}{C:String}{z j:Int32}{vs:List Value}{dv:Value}(V:Arv Z h a k (.array ty) z vs dv)(O:OvrA Z k ty C)(I:Ins Z h y C true)(i:Nat)(hi:j.toInt=(i:Int))(hz:j.toInt<z.toInt)(hv:i<vs.length)(q:Nat)(hd:decode c.code pc = .ok (.aastore,1))(hq:pc+1=q)
  (K:∀T' h',Stand p l e R s m args below meth c T' (locs++[⟨a,j.toNatClampNeg⟩]) cells slots→T'.heap=h'→Wr h h' a j.toNatClampNeg (.ref y)→Arv Z h' a k (.array ty) z (vs.set i (.ref y)) dv→Go p e below Ev T' (mkF m q Ls st)):Go p e below Ev T (mkF m pc Ls (.ref y :: .int j :: .ref a::st)):=by
 subst hq
 obtain⟨cl,A,q1,S,q3,H,G⟩:=V
 have hj:=ib j (by omega) z hz S
 obtain⟨T',h',X',e',W',st'⟩:=Jvm.RoadKit.stR X hx hZ eT A hj rfl (Sto.ofVA A q1 O I) (g:=mkF m pc Ls (.ref y :: .int j :: .ref a::st)) rfl rfl hd
 exact (K T' h' X' e' W' (Arv.set A q1 S q3 H G rfl W' i (lZ hi) hv)).on st'
theorem z5 (X:Stand p l e R s m args below meth c T locs cells slots)(hx:p.tables.exec=Jvm.exec){pc:Nat}{Ls:Array Slot}{st:List Value}(hZ:Z.Warmed39 s.vm)(eT:T.heap=h){a:Addr}{k:ClassId}{ty:FieldType}{z j:Int32}{v:Value}{vs:List Value}{dv:Value}(V:Arv Z h a k ty z vs dv)(hty:ty.isReference=true)(hi:0≤j.toInt)(hz:j.toInt<z.toInt)(hv:vs.getD j.toNatClampNeg dv=v)(q:Nat)(hd:decode c.code pc = .ok (.aaload,1))(hq:pc+1=q)(K:Go p e below Ev T (mkF m q Ls (v::st))):Go p e below Ev T (mkF m pc Ls (.int j :: .ref a::st)):=by
 subst hq
 obtain⟨cl,A,q1,S,q3,H,G⟩:=V
 have hj:=ib j hi z hz S
 exact K.on fun t k=>X.aaload hx (by rw[eT];exact A.1) (State.isArrayOf_alike hZ.alike A.2.1) hty A.2.2 hj (H.at hj hv) (g:=mkF m pc Ls (.int j :: .ref a::st)) rfl rfl hd t k
theorem gU (X:Stand p l e R s m args below meth c T locs cells slots)(hx:p.tables.exec=Jvm.exec){pc:Nat}{Ls:Array Slot}{st:List Value}(hZ:Z.Warmed39 s.vm){own:String}{i:Nat}{y z:MethodName}{C:String}{bytes:ByteArray}{maxL:Nat}{ret:Option FieldType}{rm:Room}{as':Array Value}{Q:Option Value→Heap→List Loc→Prop}{argsL rest:List Value}(hown:s.vm.findClass own=some m.cls)(w1:(Jvm.Cond.methodLink own i y).before a0 Z=true)(w2:(Jvm.Cond.privateMethod y).before a0 Z=true)(w5:(Jvm.Cond.selects z.cls z z).before a0 Z=true)(hyz:z.cls=y.cls)(w7:(Jvm.Cond.instanceMethod y).before a0 Z=true)(w3:(Jvm.Cond.initialized y.cls).before a0 Z=true)(w4:(Jvm.Cond.code y bytes maxL ret).before a0 Z=true)(hy:y.cls ≠ "java/lang/invoke/MethodHandle"∧y.cls ≠ "java/lang/invoke/VarHandle")(hM:MetFree l y (head1 [Jvm.Cond.code y bytes maxL ret] rm) (fun a U=>a=as'∧Z.Warmed39 U.vm∧U.heap=h) (fun _ _ _ _ _=>True) (fun _ U o U'=>∃v L,o = .returned v∧Q v U'.heap L∧FrameEnd U o U' L rm.cells rm.slots))(eT:T.heap=h){b:Addr}(E:Exa Z h b C)(hst:st=argsL.reverse ++ .ref b::rest)(has:(.ref b::argsL).toArray=as')(W:Nat)(q:Nat)(hq:pc+3=q)(hsz:Ls.size=c.maxLocals)(hlen:∀sig,parseMethodDescriptor y.desc=some sig→argsL.length=sig.parameters.length)(hW:(rest.map fun v=>v.category).sum≤W)(hf:rm.frames+1≤R.frames)(hl:W+(maxL+11)+rm.locals≤R.locals)(hc:cells+rm.cells≤R.cells)(hs:slots+rm.slots≤R.slots)(hd:decode c.code pc = .ok (.invokevirtual i,3))
  (K:∀(v:Option Value) (T':State) (L:List Loc),Stand p l e R s m args below meth c T' (locs++L) (cells+rm.cells) (slots+rm.slots)→Q v T'.heap L→Go p e below Ev T' (mkF m q Ls (v.toList++rest))):Go p e below Ev T (mkF m pc Ls st):=by
 subst hq hst
 obtain⟨cell,k,g1,g2,g3,g4,-⟩:=E
 have pa:s.PrivateAt y:=Cond.privateMethod_at (mvP hZ w2 (args:=#[]))
 obtain⟨cc,rr,mm,s1,-,s2,-,kP,s3,s4⟩:=Cond.selects_spec (mvT hZ w5:(Jvm.Cond.selects z.cls z z).before args s=true)
 have fc:=findClass_of_methodNamed s2
 rw[hyz] at fc
 have sl:(Jvm.Cond.selects y.cls y y).before args s=true:=selects_self_of_private fc s3 s4 pa (mvT hZ w7) hy
 obtain⟨v,vm1,⟨T',L',k',n'⟩,-,X',⟨L,hQ,l',y',z'⟩,st'⟩:=X.privateBack hx hown (mvT hZ w1) (mvT hZ w7) sl pa (mvT hZ w4) hy (backOf (W:=W) hM hZ w4 w3 hf hl) (g:=mkF m pc Ls (argsL.reverse ++ .ref b::rest)) rfl hsz (Steps.refl _) (a:=b) (by rw[eT];exact g1) (fun q w=>by rw[w] at g4;cases g4) (argsL:=argsL) (rest:=rest) hlen rfl (by show 2*0+_≤_;omega) hd (fun _ _=>⟨has,eT,hc,hs⟩)
 dsimp only[Pt.U,Pt.locs,Pt.cells,Pt.slots] at X' l' y' z' st' hQ
 subst l' y' z'
 exact (K v T' L X' hQ).on fun t k=>st'.trans k
end OwnKit2
section OwnKit5
variable {p:Program}{l:Launch}{e:Env}{R:Room}{s:State}{m:MethodId}{args:Array Value}{below:List Frame}{meth:Method}{c:Code}{T:State}{locs:List Loc}{cells slots:Nat}{Z:State}{a0:Array Value}{h h':Heap}{Ev:State→Outcome→Prop}
section
variable {n0 n:Nat}{a b:Addr}
theorem qk {C cd:Cell}(e:h[b]? = some cd)(q:C.cls=cd.cls∧C.vm=cd.vm∧C.slots.size=cd.slots.size):Keep h (h.setIfInBounds b C) [b]:=by
 refine⟨by simp,fun x c hx r=>?_,fun x c hx=>?_⟩
 ·have ne:b≠x:=fun z=>r (by simp [z])
  rw[Array.getElem?_setIfInBounds_ne ne]
  exact hx
 ·by_cases ne:b=x
  ·subst ne
   cases e.symm.trans hx
   exact⟨C,by rw[Array.getElem?_setIfInBounds_self_of_lt (Array.getElem?_eq_some_iff.mp e).1],q⟩
  ·exact⟨c,by rw[Array.getElem?_setIfInBounds_ne ne];exact hx,rfl,rfl,rfl⟩
def Lds (Z:State)(a0:Array Value)(K:String)(fl:List (String×String×String)):Prop:=∀f∈fl,Laid Z a0 K f.1 f.2.1 f.2.2∧∃t,parseFieldDescriptor f.2.2=some t
end
theorem x_ {tb:Tables} [Ours tb] {e:Env}{below:List Frame}{T target:State}{m:MethodId}{c:Code}{g:JFrame}(h:At T m c below)(hx:tb.exec=Jvm.exec)(hg:g.method=m){x y z:Value}{rest:List Value}(hd:decode c.code g.pc = .ok (.dup_x2,1))(hs:g.stack=x::y::z::rest)(hc:x.category=1)(hc':y.category=1)(hc'':z.category=1)
  (hr:Steps tb e below (T.setTop { g with pc:=g.pc+1,stack:=x::y::z::x::rest }) target):Steps tb e below (T.setTop g) target:=by
 subst hg
 jvm_step h [h.top,hx,hd,dup_x2.wp_sem,hs,hc,hc',hc'']
 exact hr
theorem H4 (X:Stand p l e R s m args below meth c T locs cells slots)(hx:p.tables.exec=Jvm.exec){pc:Nat}{Ls:Array Slot}{st:List Value}{x y z:Value}(q:Nat)(hd:decode c.code pc = .ok (.dup_x2,1))(hq:pc+1=q)(hc:x.category=1)(hc':y.category=1)(hc'':z.category=1)(K:Go p e below Ev T (mkF m q Ls (x::y::z::x::st))):Go p e below Ev T (mkF m pc Ls (x::y::z::st)):=by
 subst hq
 exact K.on fun _ k=>x_ X.here hx rfl hd rfl hc hc' hc'' k
theorem z6 (X:Stand p l e R s m args below meth c T locs cells slots)(hx:p.tables.exec=Jvm.exec){pc:Nat}{Ls:Array Slot}{st:List Value}(hZ:Z.Warmed39 s.vm)(eT:T.heap=h){a:Addr}{k:ClassId}{z j:Int32}{v:Value}{vs:List Value}{dv:Value}(V:Arv Z h a k .boolean z vs dv)(hi:0≤j.toInt)(hz:j.toInt<z.toInt)(hv:vs.getD j.toNatClampNeg dv=v)(q:Nat)(hd:decode c.code pc = .ok (.baload,1))(hq:pc+1=q)(K:Go p e below Ev T (mkF m q Ls (v::st))):Go p e below Ev T (mkF m pc Ls (.int j :: .ref a::st)):=by
 subst hq
 obtain⟨cl,A,q1,S,q3,H,G⟩:=V
 have hj:=ib j hi z hz S
 exact K.on fun t k=>X.baloadBooleans hx (by rw[eT];exact A.1) (State.isArrayOf_alike hZ.alike A.2.1) A.2.2 hj (H.at hj hv) (g:=mkF m pc Ls (.int j :: .ref a::st)) rfl rfl hd t k
theorem ya (X:Stand p l e R s m args below meth c T locs cells slots)(hx:p.tables.exec=Jvm.exec){pc:Nat}{Ls:Array Slot}{st:List Value}(hZ:Z.Warmed39 s.vm)(eT:T.heap=h){a:Addr}{k:ClassId}{z j x:Int32}{vs:List Value}{dv:Value}(V:Arv Z h a k .boolean z vs dv)(i:Nat)(hi:j.toInt=(i:Int))(hz:j.toInt<z.toInt)(hv:i<vs.length)(y:Int32)(hy:nar .boolean x=y)(q:Nat)(hd:decode c.code pc = .ok (.bastore,1))(hq:pc+1=q)
  (K:∀T' h',Stand p l e R s m args below meth c T' (locs++[⟨a,j.toNatClampNeg⟩]) cells slots→T'.heap=h'→Wr h h' a j.toNatClampNeg (.int y)→Arv Z h' a k .boolean z (vs.set i (.int y)) dv→Go p e below Ev T' (mkF m q Ls st)):Go p e below Ev T (mkF m pc Ls (.int x :: .int j :: .ref a::st)):=by
 subst hq hy
 obtain⟨cl,A,q1,S,q3,H,G⟩:=V
 have hj:=ib j (by omega) z hz S
 obtain⟨T',h',X',e',W',st'⟩:=stZ X hx hZ eT A hj (g:=mkF m pc Ls (.int x :: .int j :: .ref a::st)) rfl rfl hd
 exact (K T' h' X' e' W' (Arv.set A q1 S q3 H G (fits_nar_bool _) W' i (lZ hi) hv)).on st'
theorem H5 (X:Stand p l e R s m args below meth c T locs cells slots)(hx:p.tables.exec=Jvm.exec){pc:Nat}{Ls:Array Slot}{st:List Value}(hZ:Z.Warmed39 s.vm){own:String}{i:Nat}(hown:s.vm.findClass own=some m.cls)(w1:(Jvm.Cond.methodLink own i Jvm.Stand.acN).before a0 Z=true)(w2:(Jvm.Cond.native Jvm.Stand.acN).before a0 Z=true)(w3:(Jvm.Cond.static Jvm.Stand.acN).before a0 Z=true)(w4:(Jvm.Cond.initialized "java/lang/System").before a0 Z=true)(eT:T.heap=h){a b:Addr}{k k':ClassId}{ty:FieldType}(hty:((refKind ty != refKind ty)||(!refKind ty&&ty != ty))=false){z z':Int32}{vs vs':List Value}{dv dv':Value}(A:Arv Z h a k ty z vs dv)(B:Arv Z h b k' ty z' vs' dv')(W:Nat)(q:Nat)(hd:decode c.code pc = .ok (.invokestatic i,3))(hq:pc+3=q)(hsz:Ls.size=c.maxLocals)(hf:1≤R.frames)(hW:(st.map fun v=>v.category).sum≤W)(hl:W+(nativeFrameWords "java/lang/System" "arraycopy" 5+11)≤R.locals)
  (K:∀T',Stand p l e R s m args below meth c T' locs cells slots→T'.heap=h→Go p e below Ev T' (mkF m q Ls st)):Go p e below Ev T (mkF m pc Ls (.int 0 :: .int 0 :: .ref b :: .int 0 :: .ref a::st)):=by
 subst hq
 obtain⟨cs,As,q1,S,q3,H,G⟩:=A
 obtain⟨cd,Ad,q1',S',q3',H',G'⟩:=B
 obtain⟨os,ks,hks,sc,hsk⟩:=State.isArrayOf_alike hZ.alike As.2.1
 obtain⟨od,kd,hkd,sd,hdk⟩:=State.isArrayOf_alike hZ.alike Ad.2.1
 have l0:(0:Int32).toInt=0:=by decide
 obtain⟨vm₁,hW₁,X',st'⟩:=X.arraycopyK hx hown (mvT hZ w1) (mvT hZ w2) (mvT hZ w3) (mvT hZ w4) (n:=0) (srcPos:=0) (destPos:=0) (by rw[eT];exact As.1) (by rw[eT];exact Ad.1) os od As.2.2 Ad.2.2 hks hkd hsk hdk hty (by decide) (by decide) (by decide) (by rw[l0];omega) (by rw[l0];omega) (fun vm₁ hw i hi=>absurd hi (Nat.not_lt_zero _)) (g:=mkF m pc Ls (.int 0 :: .int 0 :: .ref b :: .int 0 :: .ref a::st)) rfl hsz rfl hd hf (by show 2*0+_+_≤_;omega)
 have e1:copied cs cd 0 0 0=cd:=rfl
 have e2:copyLocs b (0:Int32).toNatClampNeg (0:Int32).toNatClampNeg=[]:=rfl
 rw[e1] at X' st'
 rw[e2,List.append_nil] at X'
 refine (K _ X' ?_).on st'
 show T.heap.setIfInBounds b cd=h
 rw[eT]
 refine Array.ext_getElem? fun i=>?_
 by_cases e:b=i
 ·subst e
  rw[Array.getElem?_setIfInBounds_self_of_lt (Array.getElem?_eq_some_iff.mp Ad.1).1,Ad.1]
 ·rw[Array.getElem?_setIfInBounds_ne e]
theorem H6 (X:Stand p l e R s m args below meth c T locs cells slots)(hx:p.tables.exec=Jvm.exec){pc:Nat}{Ls:Array Slot}{st:List Value}(hZ:Z.Warmed39 s.vm){own:String}{i:Nat}(hown:s.vm.findClass own=some m.cls)(w1:(Jvm.Cond.methodLink own i Jvm.Stand.acN).before a0 Z=true)(w2:(Jvm.Cond.native Jvm.Stand.acN).before a0 Z=true)(w3:(Jvm.Cond.static Jvm.Stand.acN).before a0 Z=true)(w4:(Jvm.Cond.initialized "java/lang/System").before a0 Z=true)(eT:T.heap=h){a b:Addr}{k k':ClassId}{z z':Int32}{vs vs':List Value}{dv dv':Value}(A:Arv Z h a k .int z vs dv)(B:Arv Z h b k' .int z' vs' dv'){n:Int32}(N:Nat)(hN:n=Int32.ofNat N)(hNs:N<2 ^ 31)(h1:(N:Int)≤z.toInt)(h2:(N:Int)≤z'.toInt)(h3:N≤vs.length)(W:Nat)(q:Nat)(hd:decode c.code pc = .ok (.invokestatic i,3))(hq:pc+3=q)(hsz:Ls.size=c.maxLocals)(hf:1≤R.frames)(hW:(st.map fun v=>v.category).sum≤W)(hl:W+(nativeFrameWords "java/lang/System" "arraycopy" 5+11)≤R.locals)
  (K:∀T' h',Stand p l e R s m args below meth c T' (locs++copyLocs b 0 N) cells slots→T'.heap=h'→Keep h h' [b]→Arv Z h' b k' .int z' (vs.take N++vs'.drop N) dv'→Go p e below Ev T' (mkF m q Ls st)):Go p e below Ev T (mkF m pc Ls (.int n :: .int 0 :: .ref b :: .int 0 :: .ref a::st)):=by
 subst hq hN
 obtain⟨cs,As,q1,S,q3,H,G⟩:=A
 obtain⟨cd,Ad,q1',S',q3',H',G'⟩:=B
 obtain⟨os,ks,hks,sc,hsk⟩:=State.isArrayOf_alike hZ.alike As.2.1
 obtain⟨od,kd,hkd,sd,hdk⟩:=State.isArrayOf_alike hZ.alike Ad.2.1
 have l0:(0:Int32).toInt=0:=by decide
 have h00:(0:Int32).toNatClampNeg=0:=by decide
 have ln:(Int32.ofNat N).toInt=N:=Int32.toInt_ofNat_small hNs
 have lc:(Int32.ofNat N).toNatClampNeg=N:=by show (Int32.ofNat N).toInt.toNat=N;rw[ln];rfl
 have zs:(cs.slots.size:Int)=z.toInt:=by rw[S];simp only[Int32.toNatClampNeg];omega
 have zd:(cd.slots.size:Int)=z'.toInt:=by rw[S'];simp only[Int32.toNatClampNeg];omega
 have n0':¬Int32.ofNat N<0:=fun q=>by have:=(gA (Int32.ofNat N)).1.mp q;omega
 obtain⟨vm₁,hW₁,X',st'⟩:=X.arraycopyK hx hown (mvT hZ w1) (mvT hZ w2) (mvT hZ w3) (mvT hZ w4) (n:=Int32.ofNat N) (srcPos:=0) (destPos:=0) (by rw[eT];exact As.1) (by rw[eT];exact Ad.1) os od As.2.2 Ad.2.2 hks hkd hsk hdk (by decide) (by decide) (by decide) n0' (by rw[l0,ln];omega) (by rw[l0,ln];omega) (fun vm₁ hw i hi=>by
  have hi':i<cs.slots.size:=by rw[lc] at hi;omega
  obtain⟨x,ex⟩:=fit_I (G i hi') (by simp)
  have ee:=H i hi'
  rw[ex] at ee
  rw[h00,Nat.zero_add,Array.getD_eq_getD_getElem?,ee]
  exact⟨by simp [fits],trivial⟩) (g:=mkF m pc Ls (.int (Int32.ofNat N) :: .int 0 :: .ref b :: .int 0 :: .ref a::st)) rfl hsz rfl hd hf (by show 2*0+_+_≤_;omega)
 have cf:=Jvm.Free.SB.copied_facts cs cd 0 0 (Int32.ofNat N)
 have at_:=Jvm.Free.SBG.copied_at (cs:=cs) (cd:=cd) (p:=0) (n:=N) (by decide) hNs (by omega)
 rw[lc,h00] at X'
 refine (K _ _ X' rfl ?_ ?_).on st'
 ·show Keep h (T.heap.setIfInBounds b _) [b]
  rw[eT]
  exact qk Ad.1 cf
 ·refine⟨copied cs cd 0 0 (Int32.ofNat N),⟨?_,?_,?_⟩,cf.1.trans q1',cf.2.2.trans S',q3',fun j hj=>?_,fun j hj=>?_⟩
  ·show (T.heap.setIfInBounds b _)[b]? = _
   rw[eT,Array.getElem?_setIfInBounds_self_of_lt (Array.getElem?_eq_some_iff.mp Ad.1).1]
  ·obtain⟨o1,k1,hk1,c1,hk2⟩:=Ad.2.1
   exact⟨fun k h=>o1 k (by rw[←cf.2.1];exact h),k1,by rw[cf.1];exact hk1,c1,hk2⟩
  ·rw[cf.2.1];exact Ad.2.2
  ·rw[cf.2.2] at hj
   have:=at_ j
   rw[show (Int32.ofNat 0)=(0:Int32) from rfl] at this
   rw[this]
   by_cases hjN:j<N
   ·rw[if_pos ⟨Nat.zero_le _,by omega⟩,Nat.sub_zero,Array.getD_eq_getD_getElem?,H j (by omega)]
    simp only[List.getD_eq_getElem?_getD]
    rw[List.getElem?_append_left (by rw[List.length_take];omega),List.getElem?_take_of_lt hjN,List.getElem?_eq_getElem (by omega)]
    rfl
   ·rw[if_neg (by omega),H' j hj]
    simp only[List.getD_eq_getElem?_getD]
    rw[List.getElem?_append_right (by rw[List.length_take];omega),List.getElem?_drop,List.length_take,show N+(j-min N vs.length)=j by omega]
  ·rw[cf.2.2] at hj
   by_cases hjN:j<N
   ·have g:=G j (by omega)
    simp only[List.getD_eq_getElem?_getD] at g ⊢
    rw[List.getElem?_append_left (by rw[List.length_take];omega),List.getElem?_take_of_lt hjN,List.getElem?_eq_getElem (by omega)]
    rw[List.getElem?_eq_getElem (by omega)] at g
    exact g
   ·have g:=G' j hj
    simp only[List.getD_eq_getElem?_getD] at g ⊢
    rw[List.getElem?_append_right (by rw[List.length_take];omega),List.getElem?_drop,List.length_take,show N+(j-min N vs.length)=j by omega]
    exact g
theorem tg {k:Nat}{b:Addr}{n:Nat}(q:k≤b):Fr k (copyLocs b 0 n):=fun y hy=>by
 obtain⟨i,-,rfl⟩:=List.mem_map.mp hy
 exact q
end OwnKit5
section OwnMath
variable {p:Program}{l:Launch}{e:Env}{R:Room}{s:State}{m:MethodId}{args:Array Value}{below:List Frame}{meth:Method}{c:Code}{T:State}{locs:List Loc}{cells slots:Nat}{Z:State}{a0:Array Value}{h h':Heap}{Ev:State→Outcome→Prop}
theorem NH (X:Stand p l e R s m args below meth c T locs cells slots)(hx:p.tables.exec=Jvm.exec){pc:Nat}{Ls:Array Slot}{st:List Value}(hZ:Z.Warmed39 s.vm){own:String}{i:Nat}{by0:ByteArray}(hown:s.vm.findClass own=some m.cls)(w1:(Jvm.Cond.methodLink own i ⟨"java/lang/Math","max","(DD)D"⟩).before a0 Z=true)(w2:(Jvm.Cond.static ⟨"java/lang/Math","max","(DD)D"⟩).before a0 Z=true)(w3:(Jvm.Cond.initialized "java/lang/Math").before a0 Z=true)(w4:(Jvm.Cond.code ⟨"java/lang/Math","max","(DD)D"⟩ by0 4 (some .double)).before a0 Z=true)(hby0:by0=Jvm.Free.Fl.Abs.maxDCode)(eT:T.heap=h){a b:UInt64}(ha:Jvm.Free.Fl.NoNaN64 a)(hb:Jvm.Free.Fl.NoNaN64 b){r:UInt64}(hr:Jvm.Native.java_lang_Math.nans.pick64 true a b=r)(W:Nat)(q:Nat)(hd:decode c.code pc = .ok (.invokestatic i,3))(hq:pc+3=q)(hsz:Ls.size=c.maxLocals)(hW:(st.map fun v=>v.category).sum≤W)(hf:1≤R.frames)(hl:W+15≤R.locals)(hc:cells≤R.cells)(hs:slots≤R.slots)(hpd:parseMethodDescriptor "(DD)D" = some ⟨[.double,.double],some .double⟩)
  (K:∀T',Stand p l e R s m args below meth c T' locs cells slots→T'.heap=h→Go p e below Ev T' (mkF m q Ls (.double r::st))):Go p e below Ev T (mkF m pc Ls (.double b :: .double a::st)):=by
 subst hq hby0
 obtain⟨T',X',e',st'⟩:=natS X hx hZ (y:=⟨"java/lang/Math","max","(DD)D"⟩) hown w1 w2 w3 w4 (by decide) eT (W:=W) (F:=fun a'=>a'=#[.double a,.double b]∧Jvm.Free.Fl.NoNaN64 a∧Jvm.Free.Fl.NoNaN64 b) (val := .double (Jvm.Native.java_lang_Math.nans.pick64 true a b)) (val' := .double r) (fun hcd=>Jvm.Free.Fl.Abs.maxD_pays a b hcd hf hl) (g:=mkF m pc Ls (.double b :: .double a::st)) rfl hsz (argsL:=[.double a,.double b]) (rest:=st) (lenOf hpd rfl) rfl (by show 2*0+_≤_;omega) hd hc hs ⟨rfl,ha,hb⟩ (by rw[hr])
 exact (K T' X' e').on st'
theorem NI (X:Stand p l e R s m args below meth c T locs cells slots)(hx:p.tables.exec=Jvm.exec){pc:Nat}{Ls:Array Slot}{st:List Value}(hZ:Z.Warmed39 s.vm){own:String}{i:Nat}{by0:ByteArray}(hown:s.vm.findClass own=some m.cls)(w1:(Jvm.Cond.methodLink own i ⟨"java/lang/Math","abs","(D)D"⟩).before a0 Z=true)(w2:(Jvm.Cond.static ⟨"java/lang/Math","abs","(D)D"⟩).before a0 Z=true)(w3:(Jvm.Cond.initialized "java/lang/Math").before a0 Z=true)(w4:(Jvm.Cond.code ⟨"java/lang/Math","abs","(D)D"⟩ by0 2 (some .double)).before a0 Z=true)(hby0:by0=Jvm.Free.Fl.Abs.absDCode)(eT:T.heap=h){a:UInt64}(ha:Jvm.Free.Fl.NoNaN64 a)(W:Nat)(q:Nat)(hd:decode c.code pc = .ok (.invokestatic i,3))(hq:pc+3=q)(hsz:Ls.size=c.maxLocals)(hW:(st.map fun v=>v.category).sum≤W)(hf:1≤R.frames)(hl:W+13≤R.locals)(hc:cells≤R.cells)(hs:slots≤R.slots)(hpd:parseMethodDescriptor "(D)D" = some ⟨[.double],some .double⟩)
  (K:∀T',Stand p l e R s m args below meth c T' locs cells slots→T'.heap=h→Go p e below Ev T' (mkF m q Ls (.double (a&&&0x7fffffffffffffff)::st))):Go p e below Ev T (mkF m pc Ls (.double a::st)):=by
 subst hq hby0
 obtain⟨T',X',e',st'⟩:=natS X hx hZ (y:=⟨"java/lang/Math","abs","(D)D"⟩) hown w1 w2 w3 w4 (by decide) eT (W:=W) (F:=fun a'=>a'=#[.double a]∧Jvm.Free.Fl.NoNaN64 a) (val := .double (a&&&0x7fffffffffffffff)) (val' := .double (a&&&0x7fffffffffffffff)) (fun hcd=>Jvm.Free.Fl.Abs.absD_pays a hcd hf hl) (g:=mkF m pc Ls (.double a::st)) rfl hsz (argsL:=[.double a]) (rest:=st) (lenOf hpd rfl) rfl (by show 2*0+_≤_;omega) hd hc hs ⟨rfl,ha⟩ rfl
 exact (K T' X' e').on st'
end OwnMath
def cI:Nat→String
 | 0 => "com/example/tracefold/tracefold/mining/FactoredInverse"
 | 1 => "com/example/tracefold/tracefold/mining/SparseVector"
 | 2 => "com/example/tracefold/tracefold/mining/FactoredInverse$StepQueue"
 | 3 => "com/example/tracefold/tracefold/mining/FactoredInverse$Elimination"
 | 4 => "com/example/tracefold/tracefold/mining/FactoredInverse$Lists"
 | _ => ""
def a_:Nat→List (String×String×String)
 | 0=>[("com/example/tracefold/tracefold/mining/FactoredInverse","uColumns","[I"),("com/example/tracefold/tracefold/mining/FactoredInverse","uValues","[D"),("com/example/tracefold/tracefold/mining/FactoredInverse","lRows","[I"),("com/example/tracefold/tracefold/mining/FactoredInverse","lValues","[D"),("com/example/tracefold/tracefold/mining/FactoredInverse","uColumnSteps","[I"),("com/example/tracefold/tracefold/mining/FactoredInverse","uColumnValues","[D"),("com/example/tracefold/tracefold/mining/FactoredInverse","lRowSteps","[I"),("com/example/tracefold/tracefold/mining/FactoredInverse","lRowValues","[D"),("com/example/tracefold/tracefold/mining/FactoredInverse","etaRows","[I"),("com/example/tracefold/tracefold/mining/FactoredInverse","etaPivots","[D"),("com/example/tracefold/tracefold/mining/FactoredInverse","etaStarts","[I"),("com/example/tracefold/tracefold/mining/FactoredInverse","etaPositions","[I"),("com/example/tracefold/tracefold/mining/FactoredInverse","etaValues","[D"),("com/example/tracefold/tracefold/mining/FactoredInverse","n","I"),("com/example/tracefold/tracefold/mining/FactoredInverse","pivotRows","[I"),("com/example/tracefold/tracefold/mining/FactoredInverse","pivotColumns","[I"),("com/example/tracefold/tracefold/mining/FactoredInverse","pivotValues","[D"),("com/example/tracefold/tracefold/mining/FactoredInverse","uStarts","[I"),("com/example/tracefold/tracefold/mining/FactoredInverse","lStarts","[I"),("com/example/tracefold/tracefold/mining/FactoredInverse","uColumnStarts","[I"),("com/example/tracefold/tracefold/mining/FactoredInverse","lRowStarts","[I"),("com/example/tracefold/tracefold/mining/FactoredInverse","rowSteps","[I"),("com/example/tracefold/tracefold/mining/FactoredInverse","columnSteps","[I"),("com/example/tracefold/tracefold/mining/FactoredInverse","written","Lcom/example/tracefold/tracefold/mining/SparseVector;"),("com/example/tracefold/tracefold/mining/FactoredInverse","moved","Lcom/example/tracefold/tracefold/mining/SparseVector;"),("com/example/tracefold/tracefold/mining/FactoredInverse","work","Lcom/example/tracefold/tracefold/mining/SparseVector;"),("com/example/tracefold/tracefold/mining/FactoredInverse","steps","Lcom/example/tracefold/tracefold/mining/SparseVector;"),("com/example/tracefold/tracefold/mining/FactoredInverse","queue","Lcom/example/tracefold/tracefold/mining/FactoredInverse$StepQueue;"),("com/example/tracefold/tracefold/mining/FactoredInverse","etaCount","I")]
 | 1=>[("com/example/tracefold/tracefold/mining/SparseVector","values","[D"),("com/example/tracefold/tracefold/mining/SparseVector","listed","[Z"),("com/example/tracefold/tracefold/mining/SparseVector","positions","[I"),("com/example/tracefold/tracefold/mining/SparseVector","size","I")]
 | 2=>[("com/example/tracefold/tracefold/mining/FactoredInverse$StepQueue","sweep","I"),("com/example/tracefold/tracefold/mining/FactoredInverse$StepQueue","n","I"),("com/example/tracefold/tracefold/mining/FactoredInverse$StepQueue","heap","[I"),("com/example/tracefold/tracefold/mining/FactoredInverse$StepQueue","queued","[Z")]
 | 3=>[("com/example/tracefold/tracefold/mining/FactoredInverse$Elimination","this$0","Lcom/example/tracefold/tracefold/mining/FactoredInverse;"),("com/example/tracefold/tracefold/mining/FactoredInverse$Elimination","rowColumns","[[I"),("com/example/tracefold/tracefold/mining/FactoredInverse$Elimination","rowValues","[[D"),("com/example/tracefold/tracefold/mining/FactoredInverse$Elimination","rowLengths","[I"),("com/example/tracefold/tracefold/mining/FactoredInverse$Elimination","columnLengths","[I"),("com/example/tracefold/tracefold/mining/FactoredInverse$Elimination","columnRows","[[I"),("com/example/tracefold/tracefold/mining/FactoredInverse$Elimination","rowLists","Lcom/example/tracefold/tracefold/mining/FactoredInverse$Lists;"),("com/example/tracefold/tracefold/mining/FactoredInverse$Elimination","columnLists","Lcom/example/tracefold/tracefold/mining/FactoredInverse$Lists;"),("com/example/tracefold/tracefold/mining/FactoredInverse$Elimination","positions","[I"),("com/example/tracefold/tracefold/mining/FactoredInverse$Elimination","uCount","I"),("com/example/tracefold/tracefold/mining/FactoredInverse$Elimination","lCount","I")]
 | 4=>[("com/example/tracefold/tracefold/mining/FactoredInverse$Lists","first","[I"),("com/example/tracefold/tracefold/mining/FactoredInverse$Lists","next","[I"),("com/example/tracefold/tracefold/mining/FactoredInverse$Lists","previous","[I"),("com/example/tracefold/tracefold/mining/FactoredInverse$Lists","listed","[I")]
 | _=>[]
def gV:Nat→List Value
 | 0=>[.null,.null,.null,.null,.null,.null,.null,.null,.null,.null,.null,.null,.null,.int 0,.null,.null,.null,.null,.null,.null,.null,.null,.null,.null,.null,.null,.null,.null,.int 0]
 | 1=>[.null,.null,.null,.int 0]
 | 2=>[.int 0,.int 0,.null,.null]
 | 3=>[.null,.null,.null,.null,.null,.null,.null,.null,.null,.int 0,.int 0]
 | 4=>[.null,.null,.null,.null]
 | _=>[]
def cJ:Nat→MethodName
 | 1=>⟨"java/lang/Math","min","(II)I"⟩
 | 2=>⟨"com/example/tracefold/tracefold/mining/FactoredInverseTransposeTimesPinLaw","cols","(IIZ)[I"⟩
 | 3=>⟨"com/example/tracefold/tracefold/mining/FactoredInverseTransposeTimesPinLaw","vals","(IIZ)[D"⟩
 | 4=>⟨"com/example/tracefold/tracefold/mining/FactoredInverse","<init>","(I)V"⟩
 | 5=>⟨"java/lang/Object","<init>","()V"⟩
 | 6=>⟨"com/example/tracefold/tracefold/mining/SparseVector","<init>","(I)V"⟩
 | 7=>⟨"com/example/tracefold/tracefold/mining/FactoredInverse$StepQueue","<init>","(I)V"⟩
 | 8=>⟨"com/example/tracefold/tracefold/mining/FactoredInverse","invert","([[I[[D)Z"⟩
 | 9=>⟨"com/example/tracefold/tracefold/mining/FactoredInverse$Elimination","<init>","(Lcom/example/tracefold/tracefold/mining/FactoredInverse;[[I[[D)V"⟩
 | 10=>⟨"java/lang/Math","max","(II)I"⟩
 | 11=>⟨"java/util/Arrays","copyOf","([II)[I"⟩
 | 12=>⟨"java/util/Arrays","copyOf","([DI)[D"⟩
 | 13=>⟨"com/example/tracefold/tracefold/mining/FactoredInverse$Lists","<init>","(Lcom/example/tracefold/tracefold/mining/FactoredInverse;[I)V"⟩
 | 14=>⟨"java/util/Arrays","fill","([II)V"⟩
 | 15=>⟨"com/example/tracefold/tracefold/mining/FactoredInverse$Lists","add","(II)V"⟩
 | 16=>⟨"com/example/tracefold/tracefold/mining/FactoredInverse$Elimination","pivot","()J"⟩
 | 17=>⟨"com/example/tracefold/tracefold/mining/FactoredInverse$Lists","first","(I)I"⟩
 | 18=>⟨"com/example/tracefold/tracefold/mining/FactoredInverse$Elimination","find","(II)I"⟩
 | 19=>⟨"com/example/tracefold/tracefold/mining/FactoredInverse$Elimination","qualifies","(ID)Z"⟩
 | 20=>⟨"java/lang/Math","abs","(D)D"⟩
 | 21=>⟨"java/lang/Math","max","(DD)D"⟩
 | 22=>⟨"com/example/tracefold/tracefold/mining/FactoredInverse$Lists","next","(I)I"⟩
 | 23=>⟨"com/example/tracefold/tracefold/mining/FactoredInverse$Elimination","eliminate","(III)V"⟩
 | 24=>⟨"com/example/tracefold/tracefold/mining/FactoredInverse$Elimination","removeEntry","(II)V"⟩
 | 25=>⟨"com/example/tracefold/tracefold/mining/FactoredInverse$Elimination","addU","(ID)V"⟩
 | 26=>⟨"com/example/tracefold/tracefold/mining/FactoredInverse$Lists","remove","(I)V"⟩
 | 27=>⟨"com/example/tracefold/tracefold/mining/FactoredInverse$Elimination","removeFromColumn","(II)V"⟩
 | 28=>⟨"com/example/tracefold/tracefold/mining/FactoredInverse$Lists","move","(II)V"⟩
 | 29=>⟨"com/example/tracefold/tracefold/mining/FactoredInverse$Elimination","addL","(ID)V"⟩
 | 30=>⟨"com/example/tracefold/tracefold/mining/FactoredInverse$Elimination","subtract","(IID)V"⟩
 | 31=>⟨"com/example/tracefold/tracefold/mining/FactoredInverse","transpose","()V"⟩
 | 32=>⟨"com/example/tracefold/tracefold/mining/FactoredInverse","transposeTimes","([D)[D"⟩
 | 33=>⟨"com/example/tracefold/tracefold/mining/SparseVector","set","(ID)V"⟩
 | 34=>⟨"com/example/tracefold/tracefold/mining/FactoredInverse","replaceRow","(ILcom/example/tracefold/tracefold/mining/SparseVector;)V"⟩
 | 35=>⟨"com/example/tracefold/tracefold/mining/SparseVector","size","()I"⟩
 | 36=>⟨"com/example/tracefold/tracefold/mining/SparseVector","position","(I)I"⟩
 | 37=>⟨"com/example/tracefold/tracefold/mining/SparseVector","get","(I)D"⟩
 | _=>⟨"","",""⟩
def aH:Nat→ByteArray
 | 1=>jdk_29_method_69_code
 | 2=>method_3_code
 | 3=>method_4_code
 | 4=>prog_41_method_1_code
 | 5=>object_method_1_code
 | 6=>prog_74_method_1_code
 | 7=>prog_44_method_1_code
 | 8=>prog_41_method_2_code
 | 9=>prog_42_method_1_code
 | 10=>jdk_29_method_65_code
 | 11=>jdk_65_method_123_code
 | 12=>jdk_65_method_127_code
 | 13=>prog_43_method_1_code
 | 14=>jdk_65_method_103_code
 | 15=>prog_43_method_4_code
 | 16=>prog_42_method_2_code
 | 17=>prog_43_method_2_code
 | 18=>prog_42_method_4_code
 | 19=>prog_42_method_3_code
 | 20=>jdk_29_method_64_code
 | 21=>jdk_29_method_68_code
 | 22=>prog_43_method_3_code
 | 23=>prog_42_method_5_code
 | 24=>prog_42_method_7_code
 | 25=>prog_42_method_11_code
 | 26=>prog_43_method_5_code
 | 27=>prog_42_method_9_code
 | 28=>prog_43_method_6_code
 | 29=>prog_42_method_12_code
 | 30=>prog_42_method_6_code
 | 31=>prog_41_method_4_code
 | 32=>prog_41_method_6_code
 | 33=>prog_74_method_9_code
 | 34=>prog_41_method_10_code
 | 35=>prog_74_method_6_code
 | 36=>prog_74_method_7_code
 | 37=>prog_74_method_4_code
 | _=>code
def ic:Nat→Nat
 | 1=>2
 | 2=>3
 | 3=>3
 | 4=>2
 | 5=>1
 | 6=>2
 | 7=>2
 | 8=>7
 | 9=>10
 | 10=>2
 | 11=>3
 | 12=>3
 | 13=>4
 | 14=>4
 | 15=>3
 | 16=>12
 | 17=>2
 | 18=>4
 | 19=>9
 | 20=>2
 | 21=>4
 | 22=>2
 | 23=>12
 | 24=>4
 | 25=>4
 | 26=>2
 | 27=>4
 | 28=>3
 | 29=>4
 | 30=>15
 | 31=>8
 | 32=>10
 | 33=>4
 | 34=>7
 | 35=>1
 | 36=>2
 | 37=>2
 | _=>0
def pj:Nat→Option FieldType
 | 1=>(some .int)
 | 2=>(some (.array .int))
 | 3=>(some (.array .double))
 | 4=>none
 | 5=>none
 | 6=>none
 | 7=>none
 | 8=>(some .boolean)
 | 9=>none
 | 10=>(some .int)
 | 11=>(some (.array .int))
 | 12=>(some (.array .double))
 | 13=>none
 | 14=>none
 | 15=>none
 | 16=>(some .long)
 | 17=>(some .int)
 | 18=>(some .int)
 | 19=>(some .boolean)
 | 20=>(some .double)
 | 21=>(some .double)
 | 22=>(some .int)
 | 23=>none
 | 24=>none
 | 25=>none
 | 26=>none
 | 27=>none
 | 28=>none
 | 29=>none
 | 30=>none
 | 31=>none
 | 32=>(some (.array .double))
 | 33=>none
 | 34=>none
 | 35=>(some .int)
 | 36=>(some .int)
 | 37=>(some .double)
 | _=>none
abbrev DC:=Nat→Except DecodeError (Instr×Nat)
def lkI:List (Instr×Nat)→Nat→Nat→Option (Instr×Nat)
 | [],_,_=>none
 | x::t,c,q=>bif Nat.beq c q then some x else lkI t (c+x.2) q
def lkC:List (Nat×List (Instr×Nat))→Nat→Option (Instr×Nat)
 | [],_=>none
 | x::t,q=>bif Nat.ble x.1 q then lkI x.2 x.1 q else lkC t q
def ckI (code:ByteArray):List (Instr×Nat)→Nat→Bool
 | [],_=>true
 | x::t,c=>decide (decode code c = .ok x)&&ckI code t (c+x.2)
def ckC (code:ByteArray):List (Nat×List (Instr×Nat))→Bool
 | []=>true
 | x::t=>ckI code x.2 x.1&&ckC code t
theorem z7 {code:ByteArray}{q:Nat}{y:Instr×Nat}:∀(l:List (Instr×Nat))(c:Nat),ckI code l c=true→lkI l c q=some y→decode code q = .ok y
 | [],_,_,h=>by cases h
 | x::t,c,hc,h=>by
  unfold ckI at hc
  rw[Bool.and_eq_true,decide_eq_true_eq] at hc
  unfold lkI at h
  cases e:Nat.beq c q with
  | true =>
   rw[e] at h
   cases h
   have:=Nat.eq_of_beq_eq_true e
   subst this
   exact hc.1
  | false =>
   rw[e] at h
   exact z7 t _ hc.2 h
theorem z8 {code:ByteArray}{q:Nat}{y:Instr×Nat}:∀(l:List (Nat×List (Instr×Nat))),ckC code l=true→lkC l q=some y→decode code q = .ok y
 | [],_,h=>by cases h
 | x::t,hc,h=>by
  unfold ckC at hc
  rw[Bool.and_eq_true] at hc
  unfold lkC at h
  cases e:Nat.ble x.1 q with
  | true =>
   rw[e] at h
   exact z7 x.2 _ hc.1 h
  | false =>
   rw[e] at h
   exact z8 t hc.2 h
def dcT (t:List (Nat×List (Instr×Nat)))(code:ByteArray):DC:=fun q=>match lkC t q with
 | some x => .ok x
 | none=>decode code q
theorem NJ {t:List (Nat×List (Instr×Nat))}{code:ByteArray}(h:ckC code t=true):dcT t code=decode code:=by
 funext q
 unfold dcT
 split
 ·next x e=>exact (z8 t h e).symm
 ·rfl
def tl:Nat→List (Nat×List (Instr×Nat))
 | 0=>[(930,[(.iload 29,2),(.i2d,1),(.dcmp .l,1),(.ifCond .ne 16,3),(.dload 51,2),(.iload 30,2),(.i2d,1),(.dcmp .l,1),(.ifCond .ne 7,3),(.iconst 1,1),(.goto 4,3),(.iconst 0,1),(.ireturn,1)]),(909,[(.dmul,1),(.dadd,1),(.dstore 49,2),(.iload 24,2),(.i2d,1),(.dload 45,2),(.dmul,1),(.iload 26,2),(.i2d,1),(.dload 47,2),(.dmul,1),(.dadd,1),(.dstore 51,2),(.dload 49,2)]),(886,[(.iload 36,2),(.i2d,1),(.dload 47,2),(.dmul,1),(.dstore 47,2),(.dload 49,2),(.dstore 45,2),(.iload 23,2),(.i2d,1),(.dload 45,2),(.dmul,1),(.iload 25,2),(.i2d,1),(.dload 47,2)]),(862,[(.i2d,1),(.dload 45,2),(.dmul,1),(.dstore 45,2),(.dload 49,2),(.dstore 47,2),(.goto 26,3),(.dload 45,2),(.iload 35,2),(.i2d,1),(.dload 47,2),(.dmul,1),(.dadd,1),(.dstore 49,2)]),(836,[(.dstore 45,2),(.iload 13,2),(.iconst 1,1),(.if_icmp .lt 57,3),(.iload 32,2),(.ifCond .ne 29,3),(.dload 47,2),(.iload 36,2),(.i2d,1),(.dload 45,2),(.dmul,1),(.dadd,1),(.dstore 49,2),(.iload 35,2)]),(812,[(.goto 26,3),(.dload 45,2),(.iload 40,2),(.i2d,1),(.dload 47,2),(.dmul,1),(.dadd,1),(.dstore 49,2),(.iload 41,2),(.i2d,1),(.dload 47,2),(.dmul,1),(.dstore 47,2),(.dload 49,2)]),(789,[(.dload 47,2),(.iload 41,2),(.i2d,1),(.dload 45,2),(.dmul,1),(.dadd,1),(.dstore 49,2),(.iload 40,2),(.i2d,1),(.dload 45,2),(.dmul,1),(.dstore 45,2),(.dload 49,2),(.dstore 47,2)]),(765,[(.ireturn,1),(.aload 44,2),(.iconst 0,1),(.daload,1),(.dstore 45,2),(.aload 44,2),(.iconst 1,1),(.daload,1),(.dstore 47,2),(.iload 13,2),(.iconst 2,1),(.if_icmp .lt 57,3),(.iload 37,2),(.ifCond .ne 29,3)]),(736,[(.invokevirtual 39,3),(.aload 42,2),(.iload 37,2),(.aload 43,2),(.invokevirtual 43,3),(.aload 42,2),(.aload 31,2),(.invokevirtual 47,3),(.astore 44,2),(.aload 44,2),(.arraylength,1),(.iconst 2,1),(.if_icmp .eq 5,3),(.iconst 0,1)]),(710,[(.aload 43,2),(.invokevirtual 43,3),(.iload 13,2),(.iconst 2,1),(.if_icmp .lt 30,3),(.aload 43,2),(.iconst 0,1),(.iload 40,2),(.i2d,1),(.invokevirtual 39,3),(.aload 43,2),(.iconst 1,1),(.iload 41,2),(.i2d,1)]),(684,[(.iconst 1,1),(.if_icmp .lt 30,3),(.aload 43,2),(.iconst 0,1),(.iload 35,2),(.i2d,1),(.invokevirtual 39,3),(.aload 43,2),(.iconst 1,1),(.iload 36,2),(.i2d,1),(.invokevirtual 39,3),(.aload 42,2),(.iload 32,2)]),(656,[(.astore 42,2),(.new 32,3),(.dup,1),(.iconst 2,1),(.invokespecial 34,3),(.astore 43,2),(.aload 42,2),(.aload 27,2),(.aload 28,2),(.invokevirtual 35,3),(.ifCond .ne 5,3),(.iconst 0,1),(.ireturn,1),(.iload 13,2)]),(625,[(.iload 38,2),(.goto 5,3),(.iload 39,2),(.istore 40,2),(.iload 37,2),(.ifCond .ne 8,3),(.iload 39,2),(.goto 5,3),(.iload 38,2),(.istore 41,2),(.new 27,3),(.dup,1),(.iconst 2,1),(.invokespecial 29,3)]),(603,[(.iand,1),(.ishl,1),(.imul,1),(.istore 38,2),(.iload 5,2),(.iconst 4,1),(.iushr,1),(.bipush 31,2),(.iand,1),(.bipush 16,2),(.isub,1),(.istore 39,2),(.iload 37,2),(.ifCond .ne 8,3)]),(583,[(.iload 5,2),(.iconst 1,1),(.iushr,1),(.iconst 1,1),(.iand,1),(.ifCond .ne 7,3),(.iconst 1,1),(.goto 4,3),(.iconst (-1),1),(.iconst 1,1),(.iload 5,2),(.iconst 2,1),(.iushr,1),(.iconst 3,1)]),(554,[(.iload 33,2),(.goto 5,3),(.iload 34,2),(.istore 35,2),(.iload 32,2),(.ifCond .ne 8,3),(.iload 34,2),(.goto 5,3),(.iload 33,2),(.istore 36,2),(.iload 5,2),(.iconst 1,1),(.iand,1),(.istore 37,2)]),(532,[(.iand,1),(.ishl,1),(.imul,1),(.istore 33,2),(.iload 4,2),(.iconst 4,1),(.iushr,1),(.bipush 31,2),(.iand,1),(.bipush 16,2),(.isub,1),(.istore 34,2),(.iload 32,2),(.ifCond .ne 8,3)]),(512,[(.iload 4,2),(.iconst 1,1),(.iushr,1),(.iconst 1,1),(.iand,1),(.ifCond .ne 7,3),(.iconst 1,1),(.goto 4,3),(.iconst (-1),1),(.iconst 1,1),(.iload 4,2),(.iconst 2,1),(.iushr,1),(.iconst 3,1)]),(493,[(.iconst 0,1),(.iload 29,2),(.i2d,1),(.dastore,1),(.dup,1),(.iconst 1,1),(.iload 30,2),(.i2d,1),(.dastore,1),(.astore 31,2),(.iload 4,2),(.iconst 1,1),(.iand,1),(.istore 32,2)]),(472,[(.bipush 15,2),(.ishl,1),(.bipush 15,2),(.ishr,1),(.istore 29,2),(.iload_n 3,1),(.bipush 15,2),(.ishl,1),(.bipush 15,2),(.ishr,1),(.istore 30,2),(.iconst 2,1),(.newarray .double,2),(.dup,1)]),(447,[(.iload 23,2),(.iload 24,2),(.iload 14,2),(.invokestatic 23,3),(.aastore,1),(.dup,1),(.iconst 1,1),(.iload 25,2),(.iload 26,2),(.iload 14,2),(.invokestatic 23,3),(.aastore,1),(.astore 28,2),(.iload_n 2,1)]),(423,[(.invokestatic 15,3),(.aastore,1),(.dup,1),(.iconst 1,1),(.iload 25,2),(.iload 26,2),(.iload 14,2),(.invokestatic 15,3),(.aastore,1),(.astore 27,2),(.iconst 2,1),(.anewarray 21,3),(.dup,1),(.iconst 0,1)]),(397,[(.istore 24,2),(.iload 25,2),(.istore 28,2),(.iload 26,2),(.istore 25,2),(.iload 28,2),(.istore 26,2),(.iconst 2,1),(.anewarray 13,3),(.dup,1),(.iconst 0,1),(.iload 23,2),(.iload 24,2),(.iload 14,2)]),(368,[(.istore 23,2),(.iload 22,2),(.istore 24,2),(.iload 19,2),(.istore 25,2),(.iload 20,2),(.istore 26,2),(.iload 12,2),(.ifCond .eq 27,3),(.iload 23,2),(.istore 27,2),(.iload 24,2),(.istore 23,2),(.iload 27,2)]),(341,[(.ishl,1),(.imul,1),(.istore 22,2),(.iload 19,2),(.istore 23,2),(.iload 20,2),(.istore 24,2),(.iload 21,2),(.istore 25,2),(.iload 22,2),(.istore 26,2),(.iload 11,2),(.ifCond .eq 19,3),(.iload 21,2)]),(314,[(.ishl,1),(.imul,1),(.istore 21,2),(.iload 6,2),(.bipush 6,2),(.if_icmp .eq 10,3),(.iload 6,2),(.bipush 7,2),(.if_icmp .ne 7,3),(.iconst 0,1),(.goto 10,3),(.iload 10,2),(.iconst 1,1),(.iload 18,2)]),(289,[(.ishl,1),(.imul,1),(.istore 20,2),(.iload 6,2),(.iconst 2,1),(.if_icmp .eq 9,3),(.iload 6,2),(.iconst 4,1),(.if_icmp .ne 7,3),(.iconst 0,1),(.goto 10,3),(.iload 9,2),(.iconst 1,1),(.iload 17,2)]),(264,[(.ishl,1),(.imul,1),(.istore 19,2),(.iload 6,2),(.iconst 3,1),(.if_icmp .eq 9,3),(.iload 6,2),(.iconst 4,1),(.if_icmp .ne 7,3),(.iconst 0,1),(.goto 10,3),(.iload 8,2),(.iconst 1,1),(.iload 16,2)]),(236,[(.imul,1),(.istore 22,2),(.goto 106,3),(.iload 6,2),(.iconst 5,1),(.if_icmp .eq 10,3),(.iload 6,2),(.bipush 7,2),(.if_icmp .ne 7,3),(.iconst 0,1),(.goto 10,3),(.iload 7,2),(.iconst 1,1),(.iload 15,2)]),(214,[(.goto 4,3),(.iconst (-1),1),(.imul,1),(.istore 24,2),(.iload 24,2),(.iconst 1,1),(.iload 16,2),(.iload 17,2),(.iadd,1),(.iload 23,2),(.isub,1),(.iload 6,2),(.iadd,1),(.ishl,1)]),(192,[(.iconst 1,1),(.iload 17,2),(.ishl,1),(.imul,1),(.istore 21,2),(.iload 7,2),(.iload 8,2),(.imul,1),(.iload 9,2),(.imul,1),(.iload 6,2),(.iconst 1,1),(.if_icmp .ne 7,3),(.iconst 1,1)]),(170,[(.istore 23,2),(.iload 7,2),(.iconst 1,1),(.iload 23,2),(.ishl,1),(.imul,1),(.istore 19,2),(.iload 8,2),(.iconst 1,1),(.iload 16,2),(.ishl,1),(.imul,1),(.istore 20,2),(.iload 9,2)]),(146,[(.iload_n 1,1),(.bipush 6,2),(.iushr,1),(.iconst 3,1),(.iand,1),(.istore 18,2),(.iload 6,2),(.iconst 1,1),(.if_icmp .gt 85,3),(.iload 15,2),(.iload 16,2),(.iload 17,2),(.iadd,1),(.invokestatic 7,3)]),(129,[(.iand,1),(.istore 15,2),(.iload_n 1,1),(.iconst 2,1),(.iushr,1),(.iconst 3,1),(.iand,1),(.istore 16,2),(.iload_n 1,1),(.iconst 4,1),(.iushr,1),(.iconst 3,1),(.iand,1),(.istore 17,2)]),(106,[(.invokestatic 7,3),(.istore 13,2),(.iload_n 0,1),(.bipush 11,2),(.iushr,1),(.iconst 1,1),(.iand,1),(.ifCond .eq 7,3),(.iconst 1,1),(.goto 4,3),(.iconst 0,1),(.istore 14,2),(.iload_n 1,1),(.iconst 3,1)]),(86,[(.iushr,1),(.iconst 1,1),(.iand,1),(.ifCond .eq 7,3),(.iconst 1,1),(.goto 4,3),(.iconst 0,1),(.istore 12,2),(.iload_n 0,1),(.bipush 9,2),(.iushr,1),(.iconst 3,1),(.iand,1),(.iconst 2,1)]),(64,[(.iconst (-1),1),(.istore 10,2),(.iload_n 0,1),(.bipush 7,2),(.iushr,1),(.iconst 1,1),(.iand,1),(.ifCond .eq 7,3),(.iconst 1,1),(.goto 4,3),(.iconst 0,1),(.istore 11,2),(.iload_n 0,1),(.bipush 8,2)]),(40,[(.iand,1),(.ifCond .ne 7,3),(.iconst 1,1),(.goto 4,3),(.iconst (-1),1),(.istore 9,2),(.iload_n 0,1),(.bipush 6,2),(.iushr,1),(.iconst 1,1),(.iand,1),(.ifCond .ne 7,3),(.iconst 1,1),(.goto 4,3)]),(21,[(.iload_n 0,1),(.iconst 4,1),(.iushr,1),(.iconst 1,1),(.iand,1),(.ifCond .ne 7,3),(.iconst 1,1),(.goto 4,3),(.iconst (-1),1),(.istore 8,2),(.iload_n 0,1),(.iconst 5,1),(.iushr,1),(.iconst 1,1)]),(0,[(.iload_n 0,1),(.bipush 7,2),(.iand,1),(.istore 6,2),(.iload_n 0,1),(.iconst 3,1),(.iushr,1),(.iconst 1,1),(.iand,1),(.ifCond .ne 7,3),(.iconst 1,1),(.goto 4,3),(.iconst (-1),1),(.istore 7,2)])]
 | 1=>[(0,[(.iload_n 0,1),(.iload_n 1,1),(.if_icmp .gt 7,3),(.iload_n 0,1),(.goto 4,3),(.iload_n 1,1),(.ireturn,1)])]
 | 2=>[(56,[(.iastore,1),(.areturn,1)]),(38,[(.iload_n 0,1),(.ifCond .eq 11,3),(.iconst 1,1),(.newarray .int,2),(.dup,1),(.iconst 0,1),(.iconst 0,1),(.iastore,1),(.areturn,1),(.iconst 1,1),(.newarray .int,2),(.dup,1),(.iconst 0,1),(.iconst 1,1)]),(21,[(.iconst 0,1),(.iastore,1),(.goto 14,3),(.iconst 2,1),(.newarray .int,2),(.dup,1),(.iconst 0,1),(.iconst 0,1),(.iastore,1),(.dup,1),(.iconst 1,1),(.iconst 1,1),(.iastore,1),(.areturn,1)]),(0,[(.iload_n 0,1),(.ifCond .eq 37,3),(.iload_n 1,1),(.ifCond .eq 33,3),(.iload_n 2,1),(.ifCond .eq 17,3),(.iconst 2,1),(.newarray .int,2),(.dup,1),(.iconst 0,1),(.iconst 1,1),(.iastore,1),(.dup,1),(.iconst 1,1)])]
 | 3=>[(55,[(.iconst 1,1),(.newarray .double,2),(.dup,1),(.iconst 0,1),(.iload_n 1,1),(.i2d,1),(.dastore,1),(.areturn,1)]),(38,[(.iload_n 1,1),(.i2d,1),(.dastore,1),(.areturn,1),(.iload_n 0,1),(.ifCond .eq 12,3),(.iconst 1,1),(.newarray .double,2),(.dup,1),(.iconst 0,1),(.iload_n 0,1),(.i2d,1),(.dastore,1),(.areturn,1)]),(21,[(.iconst 1,1),(.iload_n 0,1),(.i2d,1),(.dastore,1),(.goto 16,3),(.iconst 2,1),(.newarray .double,2),(.dup,1),(.iconst 0,1),(.iload_n 0,1),(.i2d,1),(.dastore,1),(.dup,1),(.iconst 1,1)]),(0,[(.iload_n 0,1),(.ifCond .eq 41,3),(.iload_n 1,1),(.ifCond .eq 37,3),(.iload_n 2,1),(.ifCond .eq 19,3),(.iconst 2,1),(.newarray .double,2),(.dup,1),(.iconst 0,1),(.iload_n 1,1),(.i2d,1),(.dastore,1),(.dup,1)])]
 | 4=>[(227,[(.new 99,3),(.dup,1),(.iload_n 1,1),(.invokespecial 101,3),(.putfield 102,3),(.return_,1)]),(199,[(.putfield 90,3),(.aload_n 0,1),(.new 81,3),(.dup,1),(.iload_n 1,1),(.invokespecial 83,3),(.putfield 93,3),(.aload_n 0,1),(.new 81,3),(.dup,1),(.iload_n 1,1),(.invokespecial 83,3),(.putfield 96,3),(.aload_n 0,1)]),(172,[(.iload_n 1,1),(.newarray .int,2),(.putfield 78,3),(.aload_n 0,1),(.new 81,3),(.dup,1),(.iload_n 1,1),(.invokespecial 83,3),(.putfield 86,3),(.aload_n 0,1),(.new 81,3),(.dup,1),(.iload_n 1,1),(.invokespecial 83,3)]),(149,[(.iadd,1),(.newarray .int,2),(.putfield 69,3),(.aload_n 0,1),(.iload_n 1,1),(.iconst 1,1),(.iadd,1),(.newarray .int,2),(.putfield 72,3),(.aload_n 0,1),(.iload_n 1,1),(.newarray .int,2),(.putfield 75,3),(.aload_n 0,1)]),(129,[(.iload_n 1,1),(.iconst 1,1),(.iadd,1),(.newarray .int,2),(.putfield 63,3),(.aload_n 0,1),(.iload_n 1,1),(.iconst 1,1),(.iadd,1),(.newarray .int,2),(.putfield 66,3),(.aload_n 0,1),(.iload_n 1,1),(.iconst 1,1)]),(104,[(.putfield 50,3),(.aload_n 0,1),(.iload_n 1,1),(.newarray .int,2),(.putfield 54,3),(.aload_n 0,1),(.iload_n 1,1),(.newarray .int,2),(.putfield 57,3),(.aload_n 0,1),(.iload_n 1,1),(.newarray .double,2),(.putfield 60,3),(.aload_n 0,1)]),(76,[(.aload_n 0,1),(.bipush 17,2),(.newarray .int,2),(.putfield 41,3),(.aload_n 0,1),(.sipush 256,3),(.newarray .int,2),(.putfield 44,3),(.aload_n 0,1),(.sipush 256,3),(.newarray .double,2),(.putfield 47,3),(.aload_n 0,1),(.iload_n 1,1)]),(48,[(.newarray .int,2),(.putfield 29,3),(.aload_n 0,1),(.iconst 0,1),(.newarray .double,2),(.putfield 32,3),(.aload_n 0,1),(.bipush 16,2),(.newarray .int,2),(.putfield 35,3),(.aload_n 0,1),(.bipush 16,2),(.newarray .double,2),(.putfield 38,3)]),(25,[(.aload_n 0,1),(.iconst 0,1),(.newarray .double,2),(.putfield 20,3),(.aload_n 0,1),(.iconst 0,1),(.newarray .int,2),(.putfield 23,3),(.aload_n 0,1),(.iconst 0,1),(.newarray .double,2),(.putfield 26,3),(.aload_n 0,1),(.iconst 0,1)]),(0,[(.aload_n 0,1),(.invokespecial 1,3),(.aload_n 0,1),(.iconst 0,1),(.newarray .int,2),(.putfield 7,3),(.aload_n 0,1),(.iconst 0,1),(.newarray .double,2),(.putfield 13,3),(.aload_n 0,1),(.iconst 0,1),(.newarray .int,2),(.putfield 17,3)])]
 | 6=>[(26,[(.return_,1)]),(0,[(.aload_n 0,1),(.invokespecial 1,3),(.aload_n 0,1),(.iload_n 1,1),(.newarray .double,2),(.putfield 7,3),(.aload_n 0,1),(.iload_n 1,1),(.newarray .boolean,2),(.putfield 13,3),(.aload_n 0,1),(.bipush 16,2),(.newarray .int,2),(.putfield 17,3)])]
 | 7=>[(23,[(.newarray .boolean,2),(.putfield 20,3),(.return_,1)]),(0,[(.aload_n 0,1),(.invokespecial 1,3),(.aload_n 0,1),(.iconst (-1),1),(.putfield 7,3),(.aload_n 0,1),(.iload_n 1,1),(.putfield 13,3),(.aload_n 0,1),(.iload_n 1,1),(.newarray .int,2),(.putfield 16,3),(.aload_n 0,1),(.iload_n 1,1)])]
 | 8=>[(48,[(.bipush 32,2),(.lushr,1),(.l2i,1),(.lload 5,2),(.l2i,1),(.invokevirtual 118,3),(.iinc 4 1,3),(.goto (-42),3),(.aload_n 0,1),(.invokevirtual 122,3),(.iconst 1,1),(.ireturn,1)]),(22,[(.getfield 50,3),(.if_icmp .ge 39,3),(.aload_n 3,1),(.invokevirtual 114,3),(.lstore 5,2),(.lload 5,2),(.lconst 0,1),(.lcmp,1),(.ifCond .ge 5,3),(.iconst 0,1),(.ireturn,1),(.aload_n 3,1),(.iload 4,2),(.lload 5,2)]),(0,[(.aload_n 0,1),(.iconst 0,1),(.putfield 106,3),(.new 109,3),(.dup,1),(.aload_n 0,1),(.aload_n 1,1),(.aload_n 2,1),(.invokespecial 111,3),(.astore_n 3,1),(.iconst 0,1),(.istore 4,2),(.iload 4,2),(.aload_n 0,1)])]
 | 9=>[(339,[(.putfield 67,3),(.aload_n 0,1),(.getfield 67,3),(.iconst (-1),1),(.invokestatic 70,3),(.return_,1)]),(310,[(.invokespecial 57,3),(.putfield 60,3),(.aload_n 0,1),(.new 55,3),(.dup,1),(.aload_n 1,1),(.aload_n 0,1),(.getfield 34,3),(.invokespecial 57,3),(.putfield 64,3),(.aload_n 0,1),(.aload_n 1,1),(.getfield 15,3),(.newarray .int,2)]),(283,[(.iadd,1),(.iastore,1),(.iload 5,2),(.iastore,1),(.iinc 8 1,3),(.goto (-37),3),(.iinc 5 1,3),(.goto (-66),3),(.aload_n 0,1),(.new 55,3),(.dup,1),(.aload_n 1,1),(.aload_n 0,1),(.getfield 31,3)]),(261,[(.aload 6,2),(.iload 8,2),(.iaload,1),(.istore 9,2),(.aload_n 0,1),(.getfield 52,3),(.iload 9,2),(.aaload,1),(.aload 4,2),(.iload 9,2),(.dup2,1),(.iaload,1),(.dup_x2,1),(.iconst 1,1)]),(234,[(.getfield 15,3),(.if_icmp .ge 63,3),(.aload_n 2,1),(.iload 5,2),(.aaload,1),(.astore 6,2),(.aload 6,2),(.arraylength,1),(.istore 7,2),(.iconst 0,1),(.istore 8,2),(.iload 8,2),(.iload 7,2),(.if_icmp .ge 36,3)]),(207,[(.iconst 1,1),(.invokestatic 37,3),(.newarray .int,2),(.aastore,1),(.iinc 4 1,3),(.goto (-32),3),(.aload_n 1,1),(.getfield 15,3),(.newarray .int,2),(.astore 4,2),(.iconst 0,1),(.istore 5,2),(.iload 5,2),(.aload_n 1,1)]),(179,[(.putfield 52,3),(.iconst 0,1),(.istore 4,2),(.iload 4,2),(.aload_n 1,1),(.getfield 15,3),(.if_icmp .ge 29,3),(.aload_n 0,1),(.getfield 52,3),(.iload 4,2),(.aload_n 0,1),(.getfield 34,3),(.iload 4,2),(.iaload,1)]),(152,[(.iload 8,2),(.dup2,1),(.iaload,1),(.iconst 1,1),(.iadd,1),(.iastore,1),(.iinc 7 1,3),(.goto (-28),3),(.iinc 4 1,3),(.goto (-114),3),(.aload_n 0,1),(.aload_n 1,1),(.getfield 15,3),(.anewarray 19,3)]),(126,[(.aload 5,2),(.arraylength,1),(.istore 6,2),(.iconst 0,1),(.istore 7,2),(.iload 7,2),(.iload 6,2),(.if_icmp .ge 27,3),(.aload 5,2),(.iload 7,2),(.iaload,1),(.istore 8,2),(.aload_n 0,1),(.getfield 34,3)]),(104,[(.invokestatic 49,3),(.aastore,1),(.aload_n 0,1),(.getfield 31,3),(.iload 4,2),(.aload_n 2,1),(.iload 4,2),(.aaload,1),(.arraylength,1),(.iastore,1),(.aload_n 2,1),(.iload 4,2),(.aaload,1),(.astore 5,2)]),(79,[(.invokestatic 37,3),(.invokestatic 43,3),(.aastore,1),(.aload_n 0,1),(.getfield 27,3),(.iload 4,2),(.aload_n 3,1),(.iload 4,2),(.aaload,1),(.aload_n 0,1),(.getfield 21,3),(.iload 4,2),(.aaload,1),(.arraylength,1)]),(56,[(.aload_n 1,1),(.getfield 15,3),(.if_icmp .ge 111,3),(.aload_n 0,1),(.getfield 21,3),(.iload 4,2),(.aload_n 2,1),(.iload 4,2),(.aaload,1),(.aload_n 2,1),(.iload 4,2),(.aaload,1),(.arraylength,1),(.iconst 1,1)]),(28,[(.putfield 27,3),(.aload_n 0,1),(.aload_n 1,1),(.getfield 15,3),(.newarray .int,2),(.putfield 31,3),(.aload_n 0,1),(.aload_n 1,1),(.getfield 15,3),(.newarray .int,2),(.putfield 34,3),(.iconst 0,1),(.istore 4,2),(.iload 4,2)]),(0,[(.aload_n 0,1),(.aload_n 1,1),(.putfield 3,3),(.aload_n 0,1),(.invokespecial 9,3),(.aload_n 0,1),(.aload_n 1,1),(.getfield 15,3),(.anewarray 19,3),(.putfield 21,3),(.aload_n 0,1),(.aload_n 1,1),(.getfield 15,3),(.anewarray 25,3)])]
 | 10=>[(0,[(.iload_n 0,1),(.iload_n 1,1),(.if_icmp .lt 7,3),(.iload_n 0,1),(.goto 4,3),(.iload_n 1,1),(.ireturn,1)])]
 | 11=>[(21,[(.iconst 0,1),(.aload_n 0,1),(.arraylength,1),(.iload_n 1,1),(.invokestatic 304,3),(.invokestatic 150,3),(.aload_n 2,1),(.areturn,1)]),(0,[(.iload_n 1,1),(.aload_n 0,1),(.arraylength,1),(.if_icmp .ne 11,3),(.aload_n 0,1),(.invokevirtual 316,3),(.checkcast 317,3),(.areturn,1),(.iload_n 1,1),(.newarray .int,2),(.astore_n 2,1),(.aload_n 0,1),(.iconst 0,1),(.aload_n 2,1)])]
 | 12=>[(21,[(.iconst 0,1),(.aload_n 0,1),(.arraylength,1),(.iload_n 1,1),(.invokestatic 304,3),(.invokestatic 150,3),(.aload_n 2,1),(.areturn,1)]),(0,[(.iload_n 1,1),(.aload_n 0,1),(.arraylength,1),(.if_icmp .ne 11,3),(.aload_n 0,1),(.invokevirtual 328,3),(.checkcast 329,3),(.areturn,1),(.iload_n 1,1),(.newarray .double,2),(.astore_n 2,1),(.aload_n 0,1),(.iconst 0,1),(.aload_n 2,1)])]
 | 13=>[(76,[(.iload_n 3,1),(.iaload,1),(.invokevirtual 34,3),(.iinc 3 (-1),3),(.goto (-15),3),(.return_,1)]),(54,[(.aload_n 0,1),(.getfield 25,3),(.iconst (-1),1),(.invokestatic 28,3),(.aload_n 1,1),(.getfield 7,3),(.iconst 1,1),(.isub,1),(.istore_n 3,1),(.iload_n 3,1),(.ifCond .lt 17,3),(.aload_n 0,1),(.iload_n 3,1),(.aload_n 2,1)]),(26,[(.aload_n 0,1),(.aload_n 1,1),(.getfield 7,3),(.newarray .int,2),(.putfield 22,3),(.aload_n 0,1),(.aload_n 1,1),(.getfield 7,3),(.newarray .int,2),(.putfield 25,3),(.aload_n 0,1),(.getfield 13,3),(.iconst (-1),1),(.invokestatic 28,3)]),(0,[(.aload_n 0,1),(.invokespecial 1,3),(.aload_n 0,1),(.aload_n 1,1),(.getfield 7,3),(.iconst 1,1),(.iadd,1),(.newarray .int,2),(.putfield 13,3),(.aload_n 0,1),(.aload_n 1,1),(.getfield 7,3),(.newarray .int,2),(.putfield 19,3)])]
 | 14=>[(20,[(.return_,1)]),(0,[(.iconst 0,1),(.istore_n 2,1),(.aload_n 0,1),(.arraylength,1),(.istore_n 3,1),(.iload_n 2,1),(.iload_n 3,1),(.if_icmp .ge 13,3),(.aload_n 0,1),(.iload_n 2,1),(.iload_n 1,1),(.iastore,1),(.iinc 2 1,3),(.goto (-12),3)])]
 | 15=>[(44,[(.iload_n 2,1),(.iload_n 1,1),(.iastore,1),(.aload_n 0,1),(.getfield 25,3),(.iload_n 1,1),(.iload_n 2,1),(.iastore,1),(.return_,1)]),(20,[(.getfield 13,3),(.iload_n 2,1),(.iaload,1),(.ifCond .lt 15,3),(.aload_n 0,1),(.getfield 22,3),(.aload_n 0,1),(.getfield 13,3),(.iload_n 2,1),(.iaload,1),(.iload_n 1,1),(.iastore,1),(.aload_n 0,1),(.getfield 13,3)]),(0,[(.aload_n 0,1),(.getfield 19,3),(.iload_n 1,1),(.aload_n 0,1),(.getfield 13,3),(.iload_n 2,1),(.iaload,1),(.iastore,1),(.aload_n 0,1),(.getfield 22,3),(.iload_n 1,1),(.iconst (-1),1),(.iastore,1),(.aload_n 0,1)])]
 | 16=>[(323,[(.invokevirtual 91,3),(.istore 7,2),(.goto (-130),3),(.iinc 6 1,3),(.goto (-320),3),(.lload_n 1,1),(.lreturn,1)]),(298,[(.goto (-80),3),(.iload 5,2),(.lload_n 1,1),(.lconst 0,1),(.lcmp,1),(.ifCond .lt 7,3),(.iconst 1,1),(.goto 4,3),(.iconst 0,1),(.iadd,1),(.istore 5,2),(.aload_n 0,1),(.getfield 60,3),(.iload 7,2)]),(274,[(.daload,1),(.invokevirtual 87,3),(.ifCond .eq 17,3),(.iload 7,2),(.i2l,1),(.bipush 32,2),(.lshl,1),(.iload 9,2),(.i2l,1),(.lor,1),(.lstore_n 1,1),(.lload 10,2),(.lstore_n 3,1),(.iinc 8 1,3)]),(251,[(.i2l,1),(.lmul,1),(.lstore 10,2),(.lload 10,2),(.lload_n 3,1),(.lcmp,1),(.ifCond .ge 36,3),(.aload_n 0,1),(.iload 7,2),(.aload_n 0,1),(.getfield 27,3),(.iload 7,2),(.aaload,1),(.iload 8,2)]),(231,[(.aaload,1),(.iload 8,2),(.iaload,1),(.istore 9,2),(.iload 6,2),(.iconst 1,1),(.isub,1),(.i2l,1),(.aload_n 0,1),(.getfield 34,3),(.iload 9,2),(.iaload,1),(.iconst 1,1),(.isub,1)]),(205,[(.iconst 4,1),(.if_icmp .ge 125,3),(.lload_n 3,1),(.lconst 0,1),(.lcmp,1),(.ifCond .le 119,3),(.iconst 0,1),(.istore 8,2),(.iload 8,2),(.iload 6,2),(.if_icmp .ge 79,3),(.aload_n 0,1),(.getfield 21,3),(.iload 7,2)]),(173,[(.aload_n 0,1),(.getfield 64,3),(.iload 7,2),(.invokevirtual 91,3),(.istore 7,2),(.goto (-141),3),(.aload_n 0,1),(.getfield 60,3),(.iload 6,2),(.invokevirtual 80,3),(.istore 7,2),(.iload 7,2),(.ifCond .lt 131,3),(.iload 5,2)]),(148,[(.lload 10,2),(.lstore_n 3,1),(.iinc 8 1,3),(.goto (-91),3),(.iload 5,2),(.lload_n 1,1),(.lconst 0,1),(.lcmp,1),(.ifCond .lt 7,3),(.iconst 1,1),(.goto 4,3),(.iconst 0,1),(.iadd,1),(.istore 5,2)]),(123,[(.iload 9,2),(.iload 7,2),(.invokevirtual 84,3),(.daload,1),(.invokevirtual 87,3),(.ifCond .eq 17,3),(.iload 9,2),(.i2l,1),(.bipush 32,2),(.lshl,1),(.iload 7,2),(.i2l,1),(.lor,1),(.lstore_n 1,1)]),(101,[(.i2l,1),(.lmul,1),(.lstore 10,2),(.lload 10,2),(.lload_n 3,1),(.lcmp,1),(.ifCond .ge 42,3),(.aload_n 0,1),(.iload 9,2),(.aload_n 0,1),(.getfield 27,3),(.iload 9,2),(.aaload,1),(.aload_n 0,1)]),(81,[(.aaload,1),(.iload 8,2),(.iaload,1),(.istore 9,2),(.aload_n 0,1),(.getfield 31,3),(.iload 9,2),(.iaload,1),(.iconst 1,1),(.isub,1),(.i2l,1),(.iload 6,2),(.iconst 1,1),(.isub,1)]),(55,[(.lconst 0,1),(.lcmp,1),(.ifCond .le 130,3),(.iconst 0,1),(.istore 8,2),(.iload 8,2),(.aload_n 0,1),(.getfield 34,3),(.iload 7,2),(.iaload,1),(.if_icmp .ge 85,3),(.aload_n 0,1),(.getfield 52,3),(.iload 7,2)]),(27,[(.lconst 0,1),(.lcmp,1),(.ifCond .ge 308,3),(.aload_n 0,1),(.getfield 64,3),(.iload 6,2),(.invokevirtual 80,3),(.istore 7,2),(.iload 7,2),(.ifCond .lt 142,3),(.iload 5,2),(.iconst 4,1),(.if_icmp .ge 136,3),(.lload_n 3,1)]),(0,[(.ldc2_w 74,3),(.lstore_n 1,1),(.ldc2_w 78,3),(.lstore_n 3,1),(.iconst 0,1),(.istore 5,2),(.iconst 1,1),(.istore 6,2),(.iload 6,2),(.aload_n 0,1),(.getfield 3,3),(.getfield 15,3),(.if_icmp .gt 314,3),(.lload_n 1,1)])]
 | 17=>[(0,[(.aload_n 0,1),(.getfield 13,3),(.iload_n 1,1),(.iaload,1),(.ireturn,1)])]
 | 18=>[(0,[(.iconst 0,1),(.istore_n 3,1),(.aload_n 0,1),(.getfield 21,3),(.iload_n 1,1),(.aaload,1),(.iload_n 3,1),(.iaload,1),(.iload_n 2,1),(.if_icmp .eq 9,3),(.iinc 3 1,3),(.goto (-15),3),(.iload_n 3,1),(.ireturn,1)])]
 | 19=>[(51,[(.dstore 6,2),(.iinc 8 1,3),(.goto (-33),3),(.dload 4,2),(.ldc2_w 103,3),(.dload 6,2),(.dmul,1),(.dcmp .l,1),(.ifCond .lt 7,3),(.iconst 1,1),(.goto 4,3),(.iconst 0,1),(.ireturn,1)]),(25,[(.aload_n 0,1),(.getfield 31,3),(.iload_n 1,1),(.iaload,1),(.if_icmp .ge 28,3),(.dload 6,2),(.aload_n 0,1),(.getfield 27,3),(.iload_n 1,1),(.aaload,1),(.iload 8,2),(.daload,1),(.invokestatic 94,3),(.invokestatic 100,3)]),(0,[(.dload_n 2,1),(.invokestatic 94,3),(.dstore 4,2),(.dload 4,2),(.ldc2_w 98,3),(.dcmp .g,1),(.ifCond .ge 5,3),(.iconst 0,1),(.ireturn,1),(.dconst 0,1),(.dstore 6,2),(.iconst 0,1),(.istore 8,2),(.iload 8,2)])]
 | 22=>[(0,[(.aload_n 0,1),(.getfield 19,3),(.iload_n 1,1),(.iaload,1),(.ireturn,1)])]
 | 23=>[(351,[(.getfield 34,3),(.iload_n 3,1),(.iconst 0,1),(.iastore,1),(.return_,1)]),(325,[(.iaload,1),(.invokevirtual 141,3),(.iinc 7 1,3),(.goto (-99),3),(.aload_n 0,1),(.getfield 3,3),(.getfield 144,3),(.iload_n 1,1),(.iconst 1,1),(.iadd,1),(.aload_n 0,1),(.getfield 147,3),(.iastore,1),(.aload_n 0,1)]),(297,[(.iload 8,2),(.dload 10,2),(.invokevirtual 150,3),(.aload_n 0,1),(.iload 8,2),(.iload_n 2,1),(.dload 10,2),(.invokevirtual 153,3),(.aload_n 0,1),(.getfield 60,3),(.iload 8,2),(.aload_n 0,1),(.getfield 31,3),(.iload 8,2)]),(273,[(.aload_n 0,1),(.getfield 27,3),(.iload 8,2),(.aaload,1),(.iload 9,2),(.daload,1),(.dload 5,2),(.ddiv,1),(.dstore 10,2),(.aload_n 0,1),(.iload 8,2),(.iload 9,2),(.invokevirtual 105,3),(.aload_n 0,1)]),(248,[(.iload_n 3,1),(.aaload,1),(.iload 7,2),(.iaload,1),(.istore 8,2),(.iload 8,2),(.iload_n 2,1),(.if_icmp .ne 6,3),(.goto 68,3),(.aload_n 0,1),(.iload 8,2),(.iload_n 3,1),(.invokevirtual 84,3),(.istore 9,2)]),(224,[(.iload_n 1,1),(.aload_n 0,1),(.getfield 147,3),(.iastore,1),(.iconst 0,1),(.istore 7,2),(.iload 7,2),(.aload_n 0,1),(.getfield 34,3),(.iload_n 3,1),(.iaload,1),(.if_icmp .ge 94,3),(.aload_n 0,1),(.getfield 52,3)]),(192,[(.invokevirtual 138,3),(.aload_n 0,1),(.getfield 64,3),(.iload 8,2),(.aload_n 0,1),(.getfield 34,3),(.iload 8,2),(.iaload,1),(.invokevirtual 141,3),(.iinc 7 1,3),(.goto (-48),3),(.aload_n 0,1),(.getfield 3,3),(.getfield 144,3)]),(169,[(.getfield 31,3),(.iload_n 2,1),(.iaload,1),(.if_icmp .ge 43,3),(.aload_n 0,1),(.getfield 21,3),(.iload_n 2,1),(.aaload,1),(.iload 7,2),(.iaload,1),(.istore 8,2),(.aload_n 0,1),(.iload 8,2),(.iload_n 2,1)]),(143,[(.getfield 127,3),(.iastore,1),(.aload_n 0,1),(.getfield 60,3),(.iload_n 2,1),(.invokevirtual 134,3),(.aload_n 0,1),(.getfield 64,3),(.iload_n 3,1),(.invokevirtual 134,3),(.iconst 0,1),(.istore 7,2),(.iload 7,2),(.aload_n 0,1)]),(118,[(.iload_n 2,1),(.aaload,1),(.iload 7,2),(.daload,1),(.invokevirtual 130,3),(.iinc 7 1,3),(.goto (-36),3),(.aload_n 0,1),(.getfield 3,3),(.getfield 124,3),(.iload_n 1,1),(.iconst 1,1),(.iadd,1),(.aload_n 0,1)]),(95,[(.aload_n 0,1),(.getfield 31,3),(.iload_n 2,1),(.iaload,1),(.if_icmp .ge 31,3),(.aload_n 0,1),(.aload_n 0,1),(.getfield 21,3),(.iload_n 2,1),(.aaload,1),(.iload 7,2),(.iaload,1),(.aload_n 0,1),(.getfield 27,3)]),(70,[(.getfield 121,3),(.iload_n 1,1),(.dload 5,2),(.dastore,1),(.aload_n 0,1),(.getfield 3,3),(.getfield 124,3),(.iload_n 1,1),(.aload_n 0,1),(.getfield 127,3),(.iastore,1),(.iconst 0,1),(.istore 7,2),(.iload 7,2)]),(46,[(.aload_n 0,1),(.getfield 3,3),(.getfield 115,3),(.iload_n 2,1),(.iload_n 1,1),(.iastore,1),(.aload_n 0,1),(.getfield 3,3),(.getfield 118,3),(.iload_n 3,1),(.iload_n 1,1),(.iastore,1),(.aload_n 0,1),(.getfield 3,3)]),(21,[(.iload 4,2),(.invokevirtual 105,3),(.aload_n 0,1),(.getfield 3,3),(.getfield 109,3),(.iload_n 1,1),(.iload_n 2,1),(.iastore,1),(.aload_n 0,1),(.getfield 3,3),(.getfield 112,3),(.iload_n 1,1),(.iload_n 3,1),(.iastore,1)]),(0,[(.aload_n 0,1),(.iload_n 2,1),(.iload_n 3,1),(.invokevirtual 84,3),(.istore 4,2),(.aload_n 0,1),(.getfield 27,3),(.iload_n 2,1),(.aaload,1),(.iload 4,2),(.daload,1),(.dstore 5,2),(.aload_n 0,1),(.iload_n 2,1)])]
 | 24=>[(36,[(.getfield 27,3),(.iload_n 1,1),(.aaload,1),(.iload_n 3,1),(.daload,1),(.dastore,1),(.return_,1)]),(18,[(.iload_n 2,1),(.aload_n 0,1),(.getfield 21,3),(.iload_n 1,1),(.aaload,1),(.iload_n 3,1),(.iaload,1),(.iastore,1),(.aload_n 0,1),(.getfield 27,3),(.iload_n 1,1),(.aaload,1),(.iload_n 2,1),(.aload_n 0,1)]),(0,[(.aload_n 0,1),(.getfield 31,3),(.iload_n 1,1),(.dup2,1),(.iaload,1),(.iconst 1,1),(.isub,1),(.dup_x2,1),(.iastore,1),(.istore_n 3,1),(.aload_n 0,1),(.getfield 21,3),(.iload_n 1,1),(.aaload,1)])]
 | 25=>[(90,[(.getfield 168,3),(.aload_n 0,1),(.dup,1),(.getfield 127,3),(.dup_x1,1),(.iconst 1,1),(.iadd,1),(.putfield 127,3),(.dload_n 2,1),(.dastore,1),(.return_,1)]),(60,[(.getfield 3,3),(.getfield 165,3),(.arraylength,1),(.invokestatic 49,3),(.putfield 168,3),(.aload_n 0,1),(.getfield 3,3),(.getfield 165,3),(.aload_n 0,1),(.getfield 127,3),(.iload_n 1,1),(.iastore,1),(.aload_n 0,1),(.getfield 3,3)]),(28,[(.getfield 127,3),(.imul,1),(.aload_n 0,1),(.getfield 3,3),(.getfield 15,3),(.invokestatic 37,3),(.invokestatic 43,3),(.putfield 165,3),(.aload_n 0,1),(.getfield 3,3),(.aload_n 0,1),(.getfield 3,3),(.getfield 168,3),(.aload_n 0,1)]),(0,[(.aload_n 0,1),(.getfield 127,3),(.aload_n 0,1),(.getfield 3,3),(.getfield 165,3),(.arraylength,1),(.if_icmp .ne 61,3),(.aload_n 0,1),(.getfield 3,3),(.aload_n 0,1),(.getfield 3,3),(.getfield 165,3),(.iconst 2,1),(.aload_n 0,1)])]
 | 26=>[(70,[(.iaload,1),(.iastore,1),(.aload_n 0,1),(.getfield 25,3),(.iload_n 1,1),(.iconst (-1),1),(.iastore,1),(.return_,1)]),(46,[(.aload_n 0,1),(.getfield 19,3),(.iload_n 1,1),(.iaload,1),(.ifCond .lt 20,3),(.aload_n 0,1),(.getfield 22,3),(.aload_n 0,1),(.getfield 19,3),(.iload_n 1,1),(.iaload,1),(.aload_n 0,1),(.getfield 22,3),(.iload_n 1,1)]),(24,[(.iaload,1),(.iastore,1),(.goto 20,3),(.aload_n 0,1),(.getfield 13,3),(.aload_n 0,1),(.getfield 25,3),(.iload_n 1,1),(.iaload,1),(.aload_n 0,1),(.getfield 19,3),(.iload_n 1,1),(.iaload,1),(.iastore,1)]),(0,[(.aload_n 0,1),(.getfield 22,3),(.iload_n 1,1),(.iaload,1),(.ifCond .lt 23,3),(.aload_n 0,1),(.getfield 19,3),(.aload_n 0,1),(.getfield 22,3),(.iload_n 1,1),(.iaload,1),(.aload_n 0,1),(.getfield 19,3),(.iload_n 1,1)])]
 | 27=>[(42,[(.dup_x2,1),(.iastore,1),(.iaload,1),(.iastore,1),(.return_,1)]),(24,[(.iload_n 1,1),(.aaload,1),(.iload_n 3,1),(.aload_n 0,1),(.getfield 52,3),(.iload_n 1,1),(.aaload,1),(.aload_n 0,1),(.getfield 34,3),(.iload_n 1,1),(.dup2,1),(.iaload,1),(.iconst 1,1),(.isub,1)]),(0,[(.iconst 0,1),(.istore_n 3,1),(.aload_n 0,1),(.getfield 52,3),(.iload_n 1,1),(.aaload,1),(.iload_n 3,1),(.iaload,1),(.iload_n 2,1),(.if_icmp .eq 9,3),(.iinc 3 1,3),(.goto (-15),3),(.aload_n 0,1),(.getfield 52,3)])]
 | 28=>[(24,[(.aload_n 0,1),(.iload_n 1,1),(.iload_n 2,1),(.invokevirtual 34,3),(.return_,1)]),(0,[(.aload_n 0,1),(.getfield 25,3),(.iload_n 1,1),(.iaload,1),(.ifCond .lt 24,3),(.aload_n 0,1),(.getfield 25,3),(.iload_n 1,1),(.iaload,1),(.iload_n 2,1),(.if_icmp .eq 14,3),(.aload_n 0,1),(.iload_n 1,1),(.invokevirtual 38,3)])]
 | 29=>[(90,[(.getfield 174,3),(.aload_n 0,1),(.dup,1),(.getfield 147,3),(.dup_x1,1),(.iconst 1,1),(.iadd,1),(.putfield 147,3),(.dload_n 2,1),(.dastore,1),(.return_,1)]),(60,[(.getfield 3,3),(.getfield 171,3),(.arraylength,1),(.invokestatic 49,3),(.putfield 174,3),(.aload_n 0,1),(.getfield 3,3),(.getfield 171,3),(.aload_n 0,1),(.getfield 147,3),(.iload_n 1,1),(.iastore,1),(.aload_n 0,1),(.getfield 3,3)]),(28,[(.getfield 147,3),(.imul,1),(.aload_n 0,1),(.getfield 3,3),(.getfield 15,3),(.invokestatic 37,3),(.invokestatic 43,3),(.putfield 171,3),(.aload_n 0,1),(.getfield 3,3),(.aload_n 0,1),(.getfield 3,3),(.getfield 174,3),(.aload_n 0,1)]),(0,[(.aload_n 0,1),(.getfield 147,3),(.aload_n 0,1),(.getfield 3,3),(.getfield 171,3),(.arraylength,1),(.if_icmp .ne 61,3),(.aload_n 0,1),(.getfield 3,3),(.aload_n 0,1),(.getfield 3,3),(.getfield 171,3),(.iconst 2,1),(.aload_n 0,1)])]
 | 30=>[(273,[(.iload_n 1,1),(.aaload,1),(.iload 5,2),(.iaload,1),(.iconst (-1),1),(.iastore,1),(.iinc 5 1,3),(.goto (-29),3),(.return_,1)]),(245,[(.iinc 5 1,3),(.goto (-209),3),(.iconst 0,1),(.istore 5,2),(.iload 5,2),(.aload_n 0,1),(.getfield 31,3),(.iload_n 1,1),(.iaload,1),(.if_icmp .ge 24,3),(.aload_n 0,1),(.getfield 67,3),(.aload_n 0,1),(.getfield 21,3)]),(219,[(.getfield 27,3),(.iload_n 1,1),(.aaload,1),(.iload 9,2),(.dload 12,2),(.dastore,1),(.aload_n 0,1),(.getfield 64,3),(.iload 6,2),(.aload_n 0,1),(.getfield 34,3),(.iload 6,2),(.iaload,1),(.invokevirtual 141,3)]),(195,[(.iload 14,2),(.iload 9,2),(.iastore,1),(.aload_n 0,1),(.getfield 67,3),(.iload 6,2),(.iconst (-1),1),(.iastore,1),(.aload_n 0,1),(.iload 6,2),(.iload_n 1,1),(.invokevirtual 138,3),(.goto 14,3),(.aload_n 0,1)]),(173,[(.aload_n 0,1),(.getfield 31,3),(.iload_n 1,1),(.iaload,1),(.iconst 1,1),(.isub,1),(.iaload,1),(.istore 14,2),(.aload_n 0,1),(.iload_n 1,1),(.iload 9,2),(.invokevirtual 105,3),(.aload_n 0,1),(.getfield 67,3)]),(143,[(.invokestatic 94,3),(.ldc2_w 163,3),(.dload 10,2),(.invokestatic 94,3),(.dload 7,2),(.invokestatic 94,3),(.invokestatic 100,3),(.dmul,1),(.dcmp .g,1),(.ifCond .gt 54,3),(.aload_n 0,1),(.getfield 21,3),(.iload_n 1,1),(.aaload,1)]),(119,[(.iastore,1),(.goto 109,3),(.aload_n 0,1),(.getfield 27,3),(.iload_n 1,1),(.aaload,1),(.iload 9,2),(.daload,1),(.dstore 10,2),(.dload 10,2),(.dload 7,2),(.dsub,1),(.dstore 12,2),(.dload 12,2)]),(95,[(.invokevirtual 157,3),(.aload_n 0,1),(.iload 6,2),(.iload_n 1,1),(.invokevirtual 160,3),(.aload_n 0,1),(.getfield 67,3),(.iload 6,2),(.aload_n 0,1),(.getfield 31,3),(.iload_n 1,1),(.iaload,1),(.iconst 1,1),(.isub,1)]),(71,[(.dmul,1),(.dstore 7,2),(.aload_n 0,1),(.getfield 67,3),(.iload 6,2),(.iaload,1),(.istore 9,2),(.iload 9,2),(.ifCond .ge 38,3),(.aload_n 0,1),(.iload_n 1,1),(.iload 6,2),(.dload 7,2),(.dneg,1)]),(50,[(.aload_n 0,1),(.getfield 21,3),(.iload_n 2,1),(.aaload,1),(.iload 5,2),(.iaload,1),(.istore 6,2),(.dload_n 3,1),(.aload_n 0,1),(.getfield 27,3),(.iload_n 2,1),(.aaload,1),(.iload 5,2),(.daload,1)]),(24,[(.iload 5,2),(.iaload,1),(.iload 5,2),(.iastore,1),(.iinc 5 1,3),(.goto (-30),3),(.iconst 0,1),(.istore 5,2),(.iload 5,2),(.aload_n 0,1),(.getfield 31,3),(.iload_n 2,1),(.iaload,1),(.if_icmp .ge 204,3)]),(0,[(.iconst 0,1),(.istore 5,2),(.iload 5,2),(.aload_n 0,1),(.getfield 31,3),(.iload_n 1,1),(.iaload,1),(.if_icmp .ge 25,3),(.aload_n 0,1),(.getfield 67,3),(.aload_n 0,1),(.getfield 21,3),(.iload_n 1,1),(.aaload,1)])]
 | 31=>[(376,[(.iinc 6 1,3),(.goto (-57),3),(.iinc 5 1,3),(.goto (-149),3),(.return_,1)]),(351,[(.istore 7,2),(.aload_n 0,1),(.getfield 29,3),(.iload 7,2),(.iload 5,2),(.iastore,1),(.aload_n 0,1),(.getfield 32,3),(.iload 7,2),(.aload_n 0,1),(.getfield 20,3),(.iload 6,2),(.daload,1),(.dastore,1)]),(331,[(.iadd,1),(.iaload,1),(.if_icmp .ge 49,3),(.aload 4,2),(.aload_n 0,1),(.getfield 17,3),(.iload 6,2),(.iaload,1),(.dup2,1),(.iaload,1),(.dup_x2,1),(.iconst 1,1),(.iadd,1),(.iastore,1)]),(305,[(.daload,1),(.dastore,1),(.iinc 6 1,3),(.goto (-56),3),(.aload_n 0,1),(.getfield 66,3),(.iload 5,2),(.iaload,1),(.istore 6,2),(.iload 6,2),(.aload_n 0,1),(.getfield 66,3),(.iload 5,2),(.iconst 1,1)]),(280,[(.iadd,1),(.iastore,1),(.istore 7,2),(.aload_n 0,1),(.getfield 23,3),(.iload 7,2),(.iload 5,2),(.iastore,1),(.aload_n 0,1),(.getfield 26,3),(.iload 7,2),(.aload_n 0,1),(.getfield 13,3),(.iload 6,2)]),(260,[(.iload 5,2),(.iconst 1,1),(.iadd,1),(.iaload,1),(.if_icmp .ge 48,3),(.aload_n 3,1),(.aload_n 0,1),(.getfield 7,3),(.iload 6,2),(.iaload,1),(.dup2,1),(.iaload,1),(.dup_x2,1),(.iconst 1,1)]),(233,[(.iconst 0,1),(.istore 5,2),(.iload 5,2),(.aload_n 0,1),(.getfield 50,3),(.if_icmp .ge 146,3),(.aload_n 0,1),(.getfield 63,3),(.iload 5,2),(.iaload,1),(.istore 6,2),(.iload 6,2),(.aload_n 0,1),(.getfield 63,3)]),(202,[(.iinc 3 1,3),(.goto (-45),3),(.aload_n 0,1),(.getfield 69,3),(.aload_n 0,1),(.getfield 50,3),(.invokestatic 131,3),(.astore_n 3,1),(.aload_n 0,1),(.getfield 72,3),(.aload_n 0,1),(.getfield 50,3),(.invokestatic 131,3),(.astore 4,2)]),(184,[(.iastore,1),(.aload_n 0,1),(.getfield 72,3),(.iload_n 3,1),(.iconst 1,1),(.iadd,1),(.dup2,1),(.iaload,1),(.aload_n 0,1),(.getfield 72,3),(.iload_n 3,1),(.iaload,1),(.iadd,1),(.iastore,1)]),(162,[(.getfield 50,3),(.if_icmp .ge 43,3),(.aload_n 0,1),(.getfield 69,3),(.iload_n 3,1),(.iconst 1,1),(.iadd,1),(.dup2,1),(.iaload,1),(.aload_n 0,1),(.getfield 69,3),(.iload_n 3,1),(.iaload,1),(.iadd,1)]),(144,[(.iaload,1),(.iconst 1,1),(.iadd,1),(.dup2,1),(.iaload,1),(.iconst 1,1),(.iadd,1),(.iastore,1),(.iinc 3 1,3),(.goto (-25),3),(.iconst 0,1),(.istore_n 3,1),(.iload_n 3,1),(.aload_n 0,1)]),(120,[(.iadd,1),(.iastore,1),(.iinc 3 1,3),(.goto (-25),3),(.iconst 0,1),(.istore_n 3,1),(.iload_n 3,1),(.iload_n 2,1),(.if_icmp .ge 26,3),(.aload_n 0,1),(.getfield 72,3),(.aload_n 0,1),(.getfield 17,3),(.iload_n 3,1)]),(100,[(.iload_n 3,1),(.iload_n 1,1),(.if_icmp .ge 26,3),(.aload_n 0,1),(.getfield 69,3),(.aload_n 0,1),(.getfield 7,3),(.iload_n 3,1),(.iaload,1),(.iconst 1,1),(.iadd,1),(.dup2,1),(.iaload,1),(.iconst 1,1)]),(73,[(.getfield 17,3),(.arraylength,1),(.newarray .double,2),(.putfield 32,3),(.aload_n 0,1),(.getfield 69,3),(.iconst 0,1),(.invokestatic 125,3),(.aload_n 0,1),(.getfield 72,3),(.iconst 0,1),(.invokestatic 125,3),(.iconst 0,1),(.istore_n 3,1)]),(48,[(.putfield 26,3),(.aload_n 0,1),(.getfield 29,3),(.arraylength,1),(.iload_n 2,1),(.if_icmp .ge 25,3),(.aload_n 0,1),(.aload_n 0,1),(.getfield 17,3),(.arraylength,1),(.newarray .int,2),(.putfield 29,3),(.aload_n 0,1),(.aload_n 0,1)]),(24,[(.arraylength,1),(.iload_n 1,1),(.if_icmp .ge 25,3),(.aload_n 0,1),(.aload_n 0,1),(.getfield 7,3),(.arraylength,1),(.newarray .int,2),(.putfield 23,3),(.aload_n 0,1),(.aload_n 0,1),(.getfield 7,3),(.arraylength,1),(.newarray .double,2)]),(0,[(.aload_n 0,1),(.getfield 63,3),(.aload_n 0,1),(.getfield 50,3),(.iaload,1),(.istore_n 1,1),(.aload_n 0,1),(.getfield 66,3),(.aload_n 0,1),(.getfield 50,3),(.iaload,1),(.istore_n 2,1),(.aload_n 0,1),(.getfield 23,3)])]
 | 32=>[(322,[(.dload 7,2),(.dastore,1),(.iinc 5 1,3),(.goto (-102),3),(.aload 4,2),(.areturn,1)]),(298,[(.dup2,1),(.daload,1),(.aload_n 0,1),(.getfield 47,3),(.iload 9,2),(.daload,1),(.dload 7,2),(.dmul,1),(.dsub,1),(.dastore,1),(.iinc 9 1,3),(.goto (-40),3),(.aload 4,2),(.iload 6,2)]),(273,[(.istore 9,2),(.iload 9,2),(.aload_n 0,1),(.getfield 41,3),(.iload 5,2),(.iconst 1,1),(.iadd,1),(.iaload,1),(.if_icmp .ge 32,3),(.aload 4,2),(.aload_n 0,1),(.getfield 44,3),(.iload 9,2),(.iaload,1)]),(249,[(.aload_n 0,1),(.getfield 38,3),(.iload 5,2),(.daload,1),(.ddiv,1),(.dstore 7,2),(.dload 7,2),(.dconst 0,1),(.dcmp .l,1),(.ifCond .eq 55,3),(.aload_n 0,1),(.getfield 41,3),(.iload 5,2),(.iaload,1)]),(223,[(.iconst 0,1),(.istore 5,2),(.iload 5,2),(.aload_n 0,1),(.getfield 106,3),(.if_icmp .ge 99,3),(.aload_n 0,1),(.getfield 35,3),(.iload 5,2),(.iaload,1),(.istore 6,2),(.aload 4,2),(.iload 6,2),(.daload,1)]),(197,[(.dup2,1),(.daload,1),(.aload_n 0,1),(.getfield 32,3),(.iload 9,2),(.daload,1),(.dload 7,2),(.dmul,1),(.dsub,1),(.dastore,1),(.iinc 9 1,3),(.goto (-39),3),(.iinc 5 (-1),3),(.goto (-88),3)]),(173,[(.istore 9,2),(.iload 9,2),(.aload_n 0,1),(.getfield 72,3),(.iload 6,2),(.iconst 1,1),(.iadd,1),(.iaload,1),(.if_icmp .ge 31,3),(.aload_n 3,1),(.aload_n 0,1),(.getfield 29,3),(.iload 9,2),(.iaload,1)]),(149,[(.daload,1),(.dstore 7,2),(.aload 4,2),(.iload 6,2),(.dload 7,2),(.dastore,1),(.dload 7,2),(.dconst 0,1),(.dcmp .l,1),(.ifCond .eq 54,3),(.aload_n 0,1),(.getfield 72,3),(.iload 6,2),(.iaload,1)]),(124,[(.aload_n 0,1),(.getfield 50,3),(.iconst 1,1),(.isub,1),(.istore 5,2),(.iload 5,2),(.ifCond .lt 89,3),(.aload_n 0,1),(.getfield 54,3),(.iload 5,2),(.iaload,1),(.istore 6,2),(.aload_n 3,1),(.iload 5,2)]),(96,[(.iload 7,2),(.daload,1),(.dload 5,2),(.dmul,1),(.dsub,1),(.dastore,1),(.iinc 7 1,3),(.goto (-39),3),(.iinc 4 1,3),(.goto (-95),3),(.aload_n 0,1),(.getfield 50,3),(.newarray .double,2),(.astore 4,2)]),(74,[(.iload 4,2),(.iconst 1,1),(.iadd,1),(.iaload,1),(.if_icmp .ge 31,3),(.aload_n 2,1),(.aload_n 0,1),(.getfield 7,3),(.iload 7,2),(.iaload,1),(.dup2,1),(.daload,1),(.aload_n 0,1),(.getfield 13,3)]),(49,[(.dload 5,2),(.dastore,1),(.dload 5,2),(.dconst 0,1),(.dcmp .l,1),(.ifCond .eq 54,3),(.aload_n 0,1),(.getfield 63,3),(.iload 4,2),(.iaload,1),(.istore 7,2),(.iload 7,2),(.aload_n 0,1),(.getfield 63,3)]),(27,[(.aload_n 2,1),(.aload_n 0,1),(.getfield 57,3),(.iload 4,2),(.iaload,1),(.daload,1),(.aload_n 0,1),(.getfield 60,3),(.iload 4,2),(.daload,1),(.ddiv,1),(.dstore 5,2),(.aload_n 3,1),(.iload 4,2)]),(0,[(.aload_n 1,1),(.invokevirtual 135,3),(.checkcast 136,3),(.astore_n 2,1),(.aload_n 0,1),(.getfield 50,3),(.newarray .double,2),(.astore_n 3,1),(.iconst 0,1),(.istore 4,2),(.iload 4,2),(.aload_n 0,1),(.getfield 50,3),(.if_icmp .ge 92,3)])]
 | 33=>[(50,[(.putfield 30,3),(.iload_n 1,1),(.iastore,1),(.aload_n 0,1),(.getfield 13,3),(.iload_n 1,1),(.iconst 1,1),(.bastore,1),(.aload_n 0,1),(.getfield 7,3),(.iload_n 1,1),(.dload_n 2,1),(.dastore,1),(.return_,1)]),(26,[(.iconst 2,1),(.aload_n 0,1),(.getfield 30,3),(.imul,1),(.invokestatic 34,3),(.putfield 17,3),(.aload_n 0,1),(.getfield 17,3),(.aload_n 0,1),(.dup,1),(.getfield 30,3),(.dup_x1,1),(.iconst 1,1),(.iadd,1)]),(0,[(.aload_n 0,1),(.getfield 13,3),(.iload_n 1,1),(.baload,1),(.ifCond .ne 56,3),(.aload_n 0,1),(.getfield 30,3),(.aload_n 0,1),(.getfield 17,3),(.arraylength,1),(.if_icmp .ne 20,3),(.aload_n 0,1),(.aload_n 0,1),(.getfield 17,3)])]
 | 34=>[(210,[(.aload_n 0,1),(.getfield 41,3),(.aload_n 0,1),(.dup,1),(.getfield 106,3),(.iconst 1,1),(.iadd,1),(.dup_x1,1),(.putfield 106,3),(.iload 4,2),(.iastore,1),(.return_,1)]),(186,[(.aload_n 0,1),(.getfield 35,3),(.aload_n 0,1),(.getfield 106,3),(.iload_n 1,1),(.iastore,1),(.aload_n 0,1),(.getfield 38,3),(.aload_n 0,1),(.getfield 106,3),(.aload_n 2,1),(.iload_n 1,1),(.invokevirtual 162,3),(.dastore,1)]),(156,[(.getfield 44,3),(.iload 4,2),(.iload 6,2),(.iastore,1),(.aload_n 0,1),(.getfield 47,3),(.iload 4,2),(.iinc 4 1,3),(.aload_n 2,1),(.iload 6,2),(.invokevirtual 162,3),(.dastore,1),(.iinc 5 1,3),(.goto (-102),3)]),(130,[(.iconst 2,1),(.iload 4,2),(.imul,1),(.invokestatic 131,3),(.putfield 44,3),(.aload_n 0,1),(.aload_n 0,1),(.getfield 47,3),(.iconst 2,1),(.iload 4,2),(.imul,1),(.invokestatic 182,3),(.putfield 47,3),(.aload_n 0,1)]),(104,[(.aload_n 2,1),(.iload 6,2),(.invokevirtual 162,3),(.dconst 0,1),(.dcmp .l,1),(.ifCond .eq 68,3),(.iload 4,2),(.aload_n 0,1),(.getfield 44,3),(.arraylength,1),(.if_icmp .ne 33,3),(.aload_n 0,1),(.aload_n 0,1),(.getfield 44,3)]),(76,[(.istore 4,2),(.iconst 0,1),(.istore 5,2),(.iload 5,2),(.aload_n 2,1),(.invokevirtual 173,3),(.if_icmp .ge 99,3),(.aload_n 2,1),(.iload 5,2),(.invokevirtual 176,3),(.istore 6,2),(.iload 6,2),(.iload_n 1,1),(.if_icmp .eq 79,3)]),(52,[(.aload_n 0,1),(.getfield 106,3),(.imul,1),(.iconst 1,1),(.iadd,1),(.invokestatic 131,3),(.putfield 41,3),(.aload_n 0,1),(.getfield 41,3),(.aload_n 0,1),(.getfield 106,3),(.iaload,1),(.istore_n 3,1),(.iload_n 3,1)]),(26,[(.putfield 35,3),(.aload_n 0,1),(.aload_n 0,1),(.getfield 38,3),(.iconst 2,1),(.aload_n 0,1),(.getfield 106,3),(.imul,1),(.invokestatic 182,3),(.putfield 38,3),(.aload_n 0,1),(.aload_n 0,1),(.getfield 41,3),(.iconst 2,1)]),(0,[(.aload_n 0,1),(.getfield 106,3),(.aload_n 0,1),(.getfield 35,3),(.arraylength,1),(.if_icmp .ne 56,3),(.aload_n 0,1),(.aload_n 0,1),(.getfield 35,3),(.iconst 2,1),(.aload_n 0,1),(.getfield 106,3),(.imul,1),(.invokestatic 131,3)])]
 | 35=>[(0,[(.aload_n 0,1),(.getfield 30,3),(.ireturn,1)])]
 | 36=>[(0,[(.aload_n 0,1),(.getfield 17,3),(.iload_n 1,1),(.iaload,1),(.ireturn,1)])]
 | 37=>[(0,[(.aload_n 0,1),(.getfield 7,3),(.iload_n 1,1),(.daload,1),(.dreturn,1)])]
 | _=>[]
theorem RE:ckC (aH 0) (tl 0)=true:=by decide +kernel
theorem RF:ckC (aH 1) (tl 1)=true:=by decide +kernel
theorem RG:ckC (aH 2) (tl 2)=true:=by decide +kernel
theorem RH:ckC (aH 3) (tl 3)=true:=by decide +kernel
theorem RI:ckC (aH 4) (tl 4)=true:=by decide +kernel
theorem RJ:ckC (aH 6) (tl 6)=true:=by decide +kernel
theorem RK:ckC (aH 7) (tl 7)=true:=by decide +kernel
theorem RL:ckC (aH 8) (tl 8)=true:=by decide +kernel
theorem RM:ckC (aH 9) (tl 9)=true:=by decide +kernel
theorem Po:ckC (aH 10) (tl 10)=true:=by decide +kernel
theorem Pp:ckC (aH 11) (tl 11)=true:=by decide +kernel
theorem Pq:ckC (aH 12) (tl 12)=true:=by decide +kernel
theorem Ps:ckC (aH 13) (tl 13)=true:=by decide +kernel
theorem Pu:ckC (aH 14) (tl 14)=true:=by decide +kernel
theorem Pv:ckC (aH 15) (tl 15)=true:=by decide +kernel
theorem Pw:ckC (aH 16) (tl 16)=true:=by decide +kernel
theorem Px:ckC (aH 17) (tl 17)=true:=by decide +kernel
theorem Py:ckC (aH 18) (tl 18)=true:=by decide +kernel
theorem Pz:ckC (aH 19) (tl 19)=true:=by decide +kernel
theorem PA:ckC (aH 22) (tl 22)=true:=by decide +kernel
theorem PC:ckC (aH 23) (tl 23)=true:=by decide +kernel
theorem PD:ckC (aH 24) (tl 24)=true:=by decide +kernel
theorem PE:ckC (aH 25) (tl 25)=true:=by decide +kernel
theorem PF:ckC (aH 26) (tl 26)=true:=by decide +kernel
theorem PG:ckC (aH 27) (tl 27)=true:=by decide +kernel
theorem PH:ckC (aH 28) (tl 28)=true:=by decide +kernel
theorem PJ:ckC (aH 29) (tl 29)=true:=by decide +kernel
theorem PK:ckC (aH 30) (tl 30)=true:=by decide +kernel
theorem PL:ckC (aH 31) (tl 31)=true:=by decide +kernel
theorem PM:ckC (aH 32) (tl 32)=true:=by decide +kernel
theorem PN:ckC (aH 33) (tl 33)=true:=by decide +kernel
theorem PO:ckC (aH 34) (tl 34)=true:=by decide +kernel
theorem PP:ckC (aH 35) (tl 35)=true:=by decide +kernel
theorem PQ:ckC (aH 36) (tl 36)=true:=by decide +kernel
theorem PR:ckC (aH 37) (tl 37)=true:=by decide +kernel
theorem tk (n:Nat):ckC (aH n) (tl n)=true:=by
 unfold tl
 split
 ·exact RE
 ·exact RF
 ·exact RG
 ·exact RH
 ·exact RI
 ·exact RJ
 ·exact RK
 ·exact RL
 ·exact RM
 ·exact Po
 ·exact Pp
 ·exact Pq
 ·exact Ps
 ·exact Pu
 ·exact Pv
 ·exact Pw
 ·exact Px
 ·exact Py
 ·exact Pz
 ·exact PA
 ·exact PC
 ·exact PD
 ·exact PE
 ·exact PF
 ·exact PG
 ·exact PH
 ·exact PJ
 ·exact PK
 ·exact PL
 ·exact PM
 ·exact PN
 ·exact PO
 ·exact PP
 ·exact PQ
 ·exact PR
 ·rfl
def tb (n:Nat):DC:=dcT (tl n) (aH n)
theorem z9 (n:Nat):tb n=decode (aH n):=NJ (tk n)
section OwnExec
open Jvm.Free.Fl (NoNaN64)
abbrev AD:=Nat×Nat×List Value
def dX (D:Nat→UInt64)(i:Nat):UInt64:=if i<4096 then D i else UInt64.ofNat i
def iW (x:UInt64):Int32:=x.toUInt32.toInt32
def ab (x:Int32):UInt64:=x.toUInt32.toUInt64
theorem be (x:Int32):iW (ab x)=x:=(congrArg UInt32.toInt32 (UInt32.toUInt32_toUInt64 x.toUInt32)).trans rfl
def den (A:Nat→Addr)(D:Nat→UInt64)(W:Nat→Value):Value→Value
 | .ref i => .ref (A i)
 | .double j => .double (dX D j.toNat)
 | .retAddr k=>W k
 | .int n => .int n
 | .long n => .long n
 | .float n => .int (iW (dX D n.toNat))
 | .null => .null
def kn:Value→Bool
 | .retAddr _=>false
 | _=>true
def rfA:Value→Bool
 | .ref _=>true
 | .null=>true
 | _=>false
def aZ (A:Nat→Addr)(D:Nat→UInt64)(W:Nat→Value):Slot→Slot
 | .val v => .val (den A D W v)
 | .unset => .unset
 | .second => .second
def knS:Slot→Bool
 | .val v=>kn v
 | _=>true
section
variable {A:Nat→Addr}{D:Nat→UInt64}{W:Nat→Value}
theorem dq {v:Value}(h:kn v=true):(den A D W v).category=v.category:=by cases v<;>first|rfl|simp [kn] at h
theorem pk {v:Value}(h:rfA v=true):(den A D W v).isRef=true:=by cases v<;>first|rfl|simp [rfA] at h
theorem I1 {v:Value}(h:rfA v=true):kn v=true:=by cases v<;>first|rfl|simp [rfA] at h
theorem eE {L:Array Slot}{k:Nat}{v:Value}(h:L[k]? = some (.val v)):(L.map (aZ A D W))[k]? = some (.val (den A D W v)):=by rw[Array.getElem?_map,h];rfl
theorem ew {L L':Array Slot}{i:Nat}{x:Slot}(h:setAt L i x=some L'):setAt (L.map (aZ A D W)) i (aZ A D W x)=some (L'.map (aZ A D W)):=by
 unfold setAt at h ⊢
 split at h
 ·rename_i q
  cases h
  rw[if_pos (by simpa using q),Array.map_setIfInBounds]
 ·cases h
theorem jn {L L':Array Slot}{i:Nat}{v:Value}(hL:∀(j:Nat)(x:Slot),L[j]? = some x→knS x=true)(hv:kn v=true)(h:storeSelf L i v=some L'):storeSelf (L.map (aZ A D W)) i (den A D W v)=some (L'.map (aZ A D W)):=by
 unfold storeSelf at h ⊢
 cases e1:setAt L i (.val v) with
 | none=>rw[e1] at h;cases h
 | some L1 =>
  have f1:setAt (L.map (aZ A D W)) i (.val (den A D W v))=some (L1.map (aZ A D W)):=ew e1
  rw[e1] at h
  rw[f1]
  rw[dq hv]
  dsimp only[bind,Option.bind] at h ⊢
  split at h
  ·rename_i q
   rw[if_pos q]
   rw[Array.getElem?_map]
   cases e2:L1[i+1]? with
   | none=>rw[e2] at h;cases h
   | some y =>
    rw[e2] at h
    dsimp only[Option.map] at h ⊢
    have hy:knS y=true:=by
     have e3:L1=L.setIfInBounds i (.val v):=by
      unfold setAt at e1
      split at e1
      ·exact (Option.some.inj e1).symm
      ·cases e1
     rw[e3,Array.getElem?_setIfInBounds_ne (by omega)] at e2
     exact hL _ _ e2
    cases y with
    | unset=>exact ew h
    | second=>exact ew h
    | val old =>
     dsimp only[aZ] at h ⊢
     rw[dq hy]
     split at h
     ·rename_i q2
      rw[if_pos q2]
      cases e4:setAt L1 (i+2) .unset with
      | none=>rw[e4] at h;cases h
      | some L2 =>
       rw[e4] at h
       have f4:setAt (L1.map (aZ A D W)) (i+2) .unset=some (L2.map (aZ A D W)):=ew e4
       rw[f4]
       exact ew h
     ·rename_i q2
      rw[if_neg q2]
      exact ew h
  ·rename_i q
   rw[if_neg q]
   cases h
   rfl
theorem z_ {L L1:Array Slot}{i:Nat}{x:Slot}(hL:∀(j:Nat)(x:Slot),L[j]? = some x→knS x=true)(hx:knS x=true)(e1:setAt L i x=some L1):∀(j:Nat)(x:Slot),L1[j]? = some x→knS x=true:=by
 intro j y hj
 unfold setAt at e1
 split at e1
 ·cases e1
  rw[Array.getElem?_setIfInBounds] at hj
  split at hj
  ·first
   | (cases hj;exact hx)
   | (split at hj<;>cases hj<;>exact hx)
  ·exact hL _ _ hj
 ·cases e1
theorem cQ {L L':Array Slot}{i:Nat}{v:Value}(hL:∀(j:Nat)(x:Slot),L[j]? = some x→knS x=true)(hv:kn v=true)(h:storeLocals L i v=some L'):storeLocals (L.map (aZ A D W)) i (den A D W v)=some (L'.map (aZ A D W)):=by
 unfold storeLocals at h ⊢
 rw[Array.getElem?_map]
 cases e:L[i]? with
 | none=>rw[e] at h;cases h
 | some y =>
  rw[e] at h
  dsimp only[bind,Option.bind,Option.map] at h ⊢
  have hy:=hL _ _ e
  cases y with
  | unset=>exact jn hL hv h
  | second =>
   dsimp only[aZ] at h ⊢
   cases e4:setAt L (i-1) .unset with
   | none=>rw[e4] at h;cases h
   | some L2 =>
    rw[e4] at h
    have f4:setAt (L.map (aZ A D W)) (i-1) .unset=some (L2.map (aZ A D W)):=ew e4
    rw[f4]
    exact jn (z_ hL rfl e4) hv h
  | val old =>
   dsimp only[aZ] at h ⊢
   rw[dq hy]
   split at h
   ·rename_i q2
    rw[if_pos q2]
    cases e4:setAt L (i+1) .unset with
    | none=>rw[e4] at h;cases h
    | some L2 =>
     rw[e4] at h
     have f4:setAt (L.map (aZ A D W)) (i+1) .unset=some (L2.map (aZ A D W)):=ew e4
     rw[f4]
     exact jn (z_ hL rfl e4) hv h
   ·rename_i q2
    rw[if_neg q2]
    exact jn hL hv h
def ef (L:Array Slot):Bool:=L.toList.all knS
theorem dA {L:Array Slot}(h:ef L=true):∀(j:Nat)(x:Slot),L[j]? = some x→knS x=true:=fun j x hj=>by
 refine List.all_eq_true.mp h x (List.mem_of_getElem? (i:=j) ?_)
 rw[Array.getElem?_toList]
 exact hj
end
def fZ:Nat→String
 | 64 => "[I" | 65 => "[D" | 66 => "[Z" | 67 => "[[I" | _ => "[[D"
def eF:Nat→FieldType
 | 64 => .int|65 => .double|66 => .boolean|67 => .array .int|_ => .array .double
def eG:Nat→Value
 | 64 => .int 0|65 => .double 0|66 => .int 0|_ => .null
def HdF (Z:State)(h:Heap)(a:Addr)(k:ClassId)(A:Nat→Addr)(D:Nat→UInt64)(W:Nat→Value)(d:AD):Prop :=
 if d.1<64 then Exa Z h a (cI d.1)∧∀(j:Nat) (v:Value) (f:String×String×String),d.2.2[j]? = some v→(a_ d.1)[j]? = some f→Fld Z h a f.1 f.2.1 f.2.2 (den A D W v)
 else Exa Z h a (fZ d.1)∧Arv Z h a k (eF d.1) (Int32.ofNat d.2.1) (d.2.2.map (den A D W)) (eG d.1)∧(d.1=67→OvrA Z k .int "[I")∧(d.1=68→OvrA Z k .double "[D")
def YgF (Z:State)(n0:Nat)(h:Heap)(A:Nat→Addr)(K:Nat→ClassId)(D:Nat→UInt64)(W:Nat→Value)(ds:List AD):Prop :=
 (∀(i:Nat) (d:AD),ds[i]? = some d→n0≤A i∧HdF Z h (A i) (K i) A D W d)∧∀i j,i<ds.length→j<ds.length→A i=A j→i=j
abbrev eS:=(Nat→Option (Nat×Nat))×(Nat→Option String)×(Nat→Option Value)
def cL (Z:State)(a0:Array Value)(own:String)(P:eS):Prop :=
 (∀i c j,P.1 i=some (c,j)→c<64∧∃f R0 host,(a_ c)[j]? = some f∧((Jvm.Cond.fieldLink own i R0 f.2.1 f.2.2).before a0 Z=true∨(Jvm.Cond.fieldLinkNest own i R0 f.2.1 f.2.2 host).before a0 Z=true)∧Via Z R0 f.1 f.2.1 f.2.2) ∧
 (∀i C,P.2.1 i=some C→(Jvm.Cond.classLink own i C).before a0 Z=true) ∧
 (∀i v,P.2.2 i=some v→(∃n,v = .long n∧(Jvm.Cond.constantLong own i n).before a0 Z=true)∨(∃b:UInt64,v = .double b∧4096≤b.toNat∧(Jvm.Cond.constantDouble own i b).before a0 Z=true))
variable {p:Program}{l:Launch}{e:Env}{R:Room}{s:State}{m:MethodId}{args:Array Value}{below:List Frame}{meth:Method}{c:Code}{T:State}{locs:List Loc}{cells slots:Nat}{Z:State}{a0:Array Value}{h h':Heap}{Ev:State→Outcome→Prop}
def Aa (dk:DC)(P:eS)(ds:List AD)(pc:Nat)(L:Array Slot)(st:List Value):Option (Nat×Array Slot×List Value) :=
 match dk pc with
 | .ok (.iload_n k,1)=>match L[k.val]? with
  | some (.val (.int v))=>some (pc+1,L,.int v::st)
  | some (.val (.float v))=>some (pc+1,L,.float v::st)
  | _=>none
 | .ok (.iload k,2)=>match L[k]? with
  | some (.val (.int v))=>some (pc+2,L,.int v::st)
  | some (.val (.float v))=>some (pc+2,L,.float v::st)
  | _=>none
 | .ok (.lload_n k,1)=>match L[k.val]? with
  | some (.val (.long v))=>some (pc+1,L,.long v::st)
  | _=>none
 | .ok (.lload k,2)=>match L[k]? with
  | some (.val (.long v))=>some (pc+2,L,.long v::st)
  | _=>none
 | .ok (.dload_n k,1)=>match L[k.val]? with
  | some (.val (.double v))=>some (pc+1,L,.double v::st)
  | _=>none
 | .ok (.aload_n k,1)=>match L[k.val]? with
  | some (.val v)=>if rfA v=true then some (pc+1,L,v::st) else none
  | _=>none
 | .ok (.dload k,2)=>match L[k]? with
  | some (.val (.double v))=>some (pc+2,L,.double v::st)
  | _=>none
 | .ok (.aload k,2)=>match L[k]? with
  | some (.val v)=>if rfA v=true then some (pc+2,L,v::st) else none
  | _=>none
 | _=>none
theorem Ae {A:Nat→Addr}{K:Nat→ClassId}{D:Nat→UInt64}{W:Nat→Value}{code:ByteArray}{own:String}{P:eS}{n0:Nat}{ds:List AD}(X:Stand p l e R s m args below meth c T locs cells slots)(hx:p.tables.exec=Jvm.exec)(hby:c.code=code)(hZ:Z.Warmed39 s.vm)(hown:s.vm.findClass own=some m.cls)(hP:cL Z a0 own P)(eT:T.heap=h)(Y:YgF Z n0 h A K D W ds)(hD0:D 0=0){pc pc':Nat}{L L':Array Slot}{st st':List Value}(hs:Aa (decode code) P ds pc L st=some (pc',L',st'))
  (K_:∀T',Stand p l e R s m args below meth c T' locs cells slots→T'.heap=h→Go p e below Ev T' (mkF m pc' (L'.map (aZ A D W)) (st'.map (den A D W)))):Go p e below Ev T (mkF m pc (L.map (aZ A D W)) (st.map (den A D W))):=by
 subst hby
 unfold Aa at hs
 split at hs
 ·next k hd =>
  split at hs
  ·next v hl=>cases hs;exact qg X hx _ hd rfl (eE hl) (K_ _ X eT)
  ·next v hl=>cases hs;exact qg X hx _ hd rfl (eE hl) (K_ _ X eT)
  ·cases hs
 ·next k hd =>
  split at hs
  ·next v hl=>cases hs;exact uA X hx _ hd rfl (eE hl) (K_ _ X eT)
  ·next v hl=>cases hs;exact uA X hx _ hd rfl (eE hl) (K_ _ X eT)
  ·cases hs
 ·next k hd =>
  split at hs
  ·next v hl=>cases hs;exact zw X hx _ hd rfl (eE hl) (K_ _ X eT)
  ·cases hs
 ·next k hd =>
  split at hs
  ·next v hl=>cases hs;exact HH X hx _ hd rfl (eE hl) (K_ _ X eT)
  ·cases hs
 ·next k hd =>
  split at hs
  ·next v hl=>cases hs;exact zy X hx _ hd rfl (eE hl) (K_ _ X eT)
  ·cases hs
 ·next k hd =>
  split at hs
  ·next v hl =>
   split at hs
   ·next hr=>cases hs;exact zA X hx _ hd rfl (eE hl) (pk hr) (K_ _ X eT)
   ·cases hs
  ·cases hs
 ·next k hd =>
  split at hs
  ·next v hl=>cases hs;exact HI X hx _ hd rfl (eE hl) (K_ _ X eT)
  ·cases hs
 ·next k hd =>
  split at hs
  ·next v hl =>
   split at hs
   ·next hr=>cases hs;exact HJ X hx _ hd rfl (eE hl) (pk hr) (K_ _ X eT)
   ·cases hs
  ·cases hs
 ·cases hs
def Af (dk:DC)(P:eS)(ds:List AD)(pc:Nat)(L:Array Slot)(st:List Value):Option (Nat×Array Slot×List Value) :=
 match dk pc with
 | .ok (.istore_n k,1)=>match st with
  | .int v::r=>if ef L=true then (storeLocals L k.val (.int v)).map fun L'=>(pc+1,L',r) else none
  | .float v::r=>if ef L=true then (storeLocals L k.val (.float v)).map fun L'=>(pc+1,L',r) else none
  | _=>none
 | .ok (.istore k,2)=>match st with
  | .int v::r=>if ef L=true then (storeLocals L k (.int v)).map fun L'=>(pc+2,L',r) else none
  | .float v::r=>if ef L=true then (storeLocals L k (.float v)).map fun L'=>(pc+2,L',r) else none
  | _=>none
 | .ok (.lstore_n k,1)=>match st with
  | .long v::r=>if ef L=true then (storeLocals L k.val (.long v)).map fun L'=>(pc+1,L',r) else none
  | _=>none
 | .ok (.lstore k,2)=>match st with
  | .long v::r=>if ef L=true then (storeLocals L k (.long v)).map fun L'=>(pc+2,L',r) else none
  | _=>none
 | .ok (.dstore_n k,1)=>match st with
  | .double v::r=>if ef L=true then (storeLocals L k.val (.double v)).map fun L'=>(pc+1,L',r) else none
  | _=>none
 | .ok (.dstore k,2)=>match st with
  | .double v::r=>if ef L=true then (storeLocals L k (.double v)).map fun L'=>(pc+2,L',r) else none
  | _=>none
 | .ok (.astore_n k,1)=>match st with
  | v::r=>if ef L=true∧rfA v=true then (storeLocals L k.val v).map fun L'=>(pc+1,L',r) else none
  | _=>none
 | .ok (.astore k,2)=>match st with
  | v::r=>if ef L=true∧rfA v=true then (storeLocals L k v).map fun L'=>(pc+2,L',r) else none
  | _=>none
 | _=>none
theorem Ag {A:Nat→Addr}{K:Nat→ClassId}{D:Nat→UInt64}{W:Nat→Value}{code:ByteArray}{own:String}{P:eS}{n0:Nat}{ds:List AD}(X:Stand p l e R s m args below meth c T locs cells slots)(hx:p.tables.exec=Jvm.exec)(hby:c.code=code)(hZ:Z.Warmed39 s.vm)(hown:s.vm.findClass own=some m.cls)(hP:cL Z a0 own P)(eT:T.heap=h)(Y:YgF Z n0 h A K D W ds)(hD0:D 0=0){pc pc':Nat}{L L':Array Slot}{st st':List Value}(hs:Af (decode code) P ds pc L st=some (pc',L',st'))
  (K_:∀T',Stand p l e R s m args below meth c T' locs cells slots→T'.heap=h→Go p e below Ev T' (mkF m pc' (L'.map (aZ A D W)) (st'.map (den A D W)))):Go p e below Ev T (mkF m pc (L.map (aZ A D W)) (st.map (den A D W))):=by
 subst hby
 unfold Af at hs
 split at hs
 ·next k hd =>
  split at hs
  ·next v r =>
   split at hs
   ·next hk =>
    cases e:storeLocals L k.val (.int v) with
    | none=>rw[e] at hs;cases hs
    | some L'=>rw[e] at hs;cases hs;exact nP X hx _ hd rfl (cQ (v := .int v) (dA hk) rfl e) (K_ _ X eT)
   ·cases hs
  ·next v r =>
   split at hs
   ·next hk =>
    cases e:storeLocals L k.val (.float v) with
    | none=>rw[e] at hs;cases hs
    | some L'=>rw[e] at hs;cases hs;exact nP X hx _ hd rfl (cQ (v := .float v) (dA hk) rfl e) (K_ _ X eT)
   ·cases hs
  ·cases hs
 ·next k hd =>
  split at hs
  ·next v r =>
   split at hs
   ·next hk =>
    cases e:storeLocals L k (.int v) with
    | none=>rw[e] at hs;cases hs
    | some L'=>rw[e] at hs;cases hs;exact qh X hx _ hd rfl (cQ (v := .int v) (dA hk) rfl e) (K_ _ X eT)
   ·cases hs
  ·next v r =>
   split at hs
   ·next hk =>
    cases e:storeLocals L k (.float v) with
    | none=>rw[e] at hs;cases hs
    | some L'=>rw[e] at hs;cases hs;exact qh X hx _ hd rfl (cQ (v := .float v) (dA hk) rfl e) (K_ _ X eT)
   ·cases hs
  ·cases hs
 ·next k hd =>
  split at hs
  ·next v r =>
   split at hs
   ·next hk =>
    cases e:storeLocals L k.val (.long v) with
    | none=>rw[e] at hs;cases hs
    | some L'=>rw[e] at hs;cases hs;exact xT X hx _ hd rfl (cQ (v := .long v) (dA hk) rfl e) (K_ _ X eT)
   ·cases hs
  ·cases hs
 ·next k hd =>
  split at hs
  ·next v r =>
   split at hs
   ·next hk =>
    cases e:storeLocals L k (.long v) with
    | none=>rw[e] at hs;cases hs
    | some L'=>rw[e] at hs;cases hs;exact zx X hx _ hd rfl (cQ (v := .long v) (dA hk) rfl e) (K_ _ X eT)
   ·cases hs
  ·cases hs
 ·next k hd =>
  split at hs
  ·next v r =>
   split at hs
   ·next hk =>
    cases e:storeLocals L k.val (.double v) with
    | none=>rw[e] at hs;cases hs
    | some L'=>rw[e] at hs;cases hs;exact xU X hx _ hd rfl (cQ (v := .double v) (dA hk) rfl e) (K_ _ X eT)
   ·cases hs
  ·cases hs
 ·next k hd =>
  split at hs
  ·next v r =>
   split at hs
   ·next hk =>
    cases e:storeLocals L k (.double v) with
    | none=>rw[e] at hs;cases hs
    | some L'=>rw[e] at hs;cases hs;exact zz X hx _ hd rfl (cQ (v := .double v) (dA hk) rfl e) (K_ _ X eT)
   ·cases hs
  ·cases hs
 ·next k hd =>
  split at hs
  ·next v r =>
   split at hs
   ·next hk =>
    cases e:storeLocals L k.val v with
    | none=>rw[e] at hs;cases hs
    | some L'=>rw[e] at hs;cases hs;exact xX X hx _ hd rfl (pk hk.2) (cQ (dA hk.1) (I1 hk.2) e) (K_ _ X eT)
   ·cases hs
  ·cases hs
 ·next k hd =>
  split at hs
  ·next v r =>
   split at hs
   ·next hk =>
    cases e:storeLocals L k v with
    | none=>rw[e] at hs;cases hs
    | some L'=>rw[e] at hs;cases hs;exact zB X hx _ hd rfl (pk hk.2) (cQ (dA hk.1) (I1 hk.2) e) (K_ _ X eT)
   ·cases hs
  ·cases hs
 ·cases hs
def Ah (dk:DC)(P:eS)(ds:List AD)(pc:Nat)(L:Array Slot)(st:List Value):Option (Nat×Array Slot×List Value) :=
 match dk pc with
 | .ok (.iconst i,1)=>some (pc+1,L,.int (Int32.ofInt i)::st)
 | .ok (.bipush i,2)=>some (pc+2,L,.int ((Int8.ofInt i).toInt32)::st)
 | .ok (.sipush i,3)=>some (pc+3,L,.int ((Int16.ofInt i).toInt32)::st)
 | .ok (.lconst k,1)=>some (pc+1,L,.long (Int64.ofNat k.val)::st)
 | .ok (.dconst 0,1)=>some (pc+1,L,.double 0::st)
 | .ok (.dconst 1,1)=>some (pc+1,L,.double 4607182418800017408::st)
 | .ok (.aconst_null,1)=>some (pc+1,L,.null::st)
 | .ok (.ldc2_w i,3)=>match P.2.2 i with
  | some v=>some (pc+3,L,v::st)
  | _=>none
 | _=>none
theorem Ai {A:Nat→Addr}{K:Nat→ClassId}{D:Nat→UInt64}{W:Nat→Value}{code:ByteArray}{own:String}{P:eS}{n0:Nat}{ds:List AD}(X:Stand p l e R s m args below meth c T locs cells slots)(hx:p.tables.exec=Jvm.exec)(hby:c.code=code)(hZ:Z.Warmed39 s.vm)(hown:s.vm.findClass own=some m.cls)(hP:cL Z a0 own P)(eT:T.heap=h)(Y:YgF Z n0 h A K D W ds)(hD0:D 0=0){pc pc':Nat}{L L':Array Slot}{st st':List Value}(hs:Ah (decode code) P ds pc L st=some (pc',L',st'))
  (K_:∀T',Stand p l e R s m args below meth c T' locs cells slots→T'.heap=h→Go p e below Ev T' (mkF m pc' (L'.map (aZ A D W)) (st'.map (den A D W)))):Go p e below Ev T (mkF m pc (L.map (aZ A D W)) (st.map (den A D W))):=by
 subst hby
 unfold Ah at hs
 split at hs
 ·next i hd =>
  cases hs;exact zC X hx (Int32.ofInt i) _ hd rfl rfl (K_ _ X eT)
 ·next i hd =>
  cases hs;exact zE X hx ((Int8.ofInt i).toInt32) _ hd rfl rfl (K_ _ X eT)
 ·next i hd =>
  cases hs;exact zF X hx ((Int16.ofInt i).toInt32) _ hd rfl rfl (K_ _ X eT)
 ·next k hd =>
  cases hs;exact zG X hx (Int64.ofNat k.val) _ hd rfl rfl (K_ _ X eT)
 ·next hd =>
  cases hs;exact xY X hx _ hd rfl (by have:=K_ _ X eT;simpa [den,dX,hD0] using this)
 ·next hd =>
  cases hs;exact xZ X hx _ hd rfl (K_ _ X eT)
 ·next hd =>
  cases hs;exact Ns X hx _ hd rfl (K_ _ X eT)
 ·next i hd =>
  split at hs
  ·next v hv =>
   cases hs
   rcases hP.2.2 i v hv with ⟨n,rfl,w⟩|⟨b,rfl,hb,w⟩
   ·exact HN X hx _ hZ hown w hd rfl (K_ _ X eT)
   ·exact HP X hx _ hZ hown w hd rfl (by have:=K_ _ X eT;simpa [den,dX,Nat.not_lt.mpr hb] using this)
  ·cases hs
 ·cases hs
def Aj (dk:DC)(P:eS)(ds:List AD)(pc:Nat)(L:Array Slot)(st:List Value):Option (Nat×Array Slot×List Value) :=
 match dk pc with
 | .ok (.iinc k i,3)=>match L[k]? with
  | some (.val (.int v))=>if ef L=true then (storeLocals L k (.int (v+Int32.ofInt i))).map fun L'=>(pc+3,L',st) else none
  | _=>none
 | .ok (.iadd,1)=>match st with
  | .int y :: .int x::r=>some (pc+1,L,.int (x+y)::r)
  | _=>none
 | .ok (.isub,1)=>match st with
  | .int y :: .int x::r=>some (pc+1,L,.int (x-y)::r)
  | _=>none
 | .ok (.imul,1)=>match st with
  | .int y :: .int x::r=>some (pc+1,L,.int (x*y)::r)
  | _=>none
 | .ok (.iand,1)=>match st with
  | .int y :: .int x::r=>some (pc+1,L,.int (x&&&y)::r)
  | _=>none
 | .ok (.ior,1)=>match st with
  | .int y :: .int x::r=>some (pc+1,L,.int (x ||| y)::r)
  | _=>none
 | .ok (.ishl,1)=>match st with
  | .int y :: .int x::r=>some (pc+1,L,.int (x<<<(y&&&31))::r)
  | _=>none
 | .ok (.ishr,1)=>match st with
  | .int y :: .int x::r=>some (pc+1,L,.int (x>>>(y&&&31))::r)
  | _=>none
 | _=>none
theorem Ak {A:Nat→Addr}{K:Nat→ClassId}{D:Nat→UInt64}{W:Nat→Value}{code:ByteArray}{own:String}{P:eS}{n0:Nat}{ds:List AD}(X:Stand p l e R s m args below meth c T locs cells slots)(hx:p.tables.exec=Jvm.exec)(hby:c.code=code)(hZ:Z.Warmed39 s.vm)(hown:s.vm.findClass own=some m.cls)(hP:cL Z a0 own P)(eT:T.heap=h)(Y:YgF Z n0 h A K D W ds)(hD0:D 0=0){pc pc':Nat}{L L':Array Slot}{st st':List Value}(hs:Aj (decode code) P ds pc L st=some (pc',L',st'))
  (K_:∀T',Stand p l e R s m args below meth c T' locs cells slots→T'.heap=h→Go p e below Ev T' (mkF m pc' (L'.map (aZ A D W)) (st'.map (den A D W)))):Go p e below Ev T (mkF m pc (L.map (aZ A D W)) (st.map (den A D W))):=by
 subst hby
 unfold Aj at hs
 split at hs
 ·next k i hd =>
  split at hs
  ·next v hl =>
   split at hs
   ·next hk =>
    cases e:storeLocals L k (.int (v+Int32.ofInt i)) with
    | none=>rw[e] at hs;cases hs
    | some L'=>rw[e] at hs;cases hs;exact Nt X hx _ hd rfl (eE hl) rfl (cQ (v := .int _) (dA hk) rfl e) (K_ _ X eT)
   ·cases hs
  ·cases hs
 ·next hd =>
  split at hs
  ·cases hs;exact zH X hx _ hd rfl (K_ _ X eT)
  ·cases hs
 ·next hd =>
  split at hs
  ·cases hs;exact zJ X hx _ hd rfl (K_ _ X eT)
  ·cases hs
 ·next hd =>
  split at hs
  ·cases hs;exact zK X hx _ hd rfl (K_ _ X eT)
  ·cases hs
 ·next hd =>
  split at hs
  ·cases hs;exact zL X hx _ hd rfl (K_ _ X eT)
  ·cases hs
 ·next hd =>
  split at hs
  ·cases hs;exact Pf X hx _ hd rfl (K_ _ X eT)
  ·cases hs
 ·next hd =>
  split at hs
  ·cases hs;exact zM X hx _ hd rfl (K_ _ X eT)
  ·cases hs
 ·next hd =>
  split at hs
  ·cases hs;exact zN X hx _ hd rfl (K_ _ X eT)
  ·cases hs
 ·cases hs
def Al (dk:DC)(P:eS)(ds:List AD)(pc:Nat)(L:Array Slot)(st:List Value):Option (Nat×Array Slot×List Value) :=
 match dk pc with
 | .ok (.ladd,1)=>match st with
  | .long y :: .long x::r=>some (pc+1,L,.long (x+y)::r)
  | _=>none
 | .ok (.lsub,1)=>match st with
  | .long y :: .long x::r=>some (pc+1,L,.long (x-y)::r)
  | _=>none
 | .ok (.lmul,1)=>match st with
  | .long y :: .long x::r=>some (pc+1,L,.long (x*y)::r)
  | _=>none
 | .ok (.land,1)=>match st with
  | .long y :: .long x::r=>some (pc+1,L,.long (x&&&y)::r)
  | _=>none
 | .ok (.lor,1)=>match st with
  | .long y :: .long x::r=>some (pc+1,L,.long (x ||| y)::r)
  | _=>none
 | .ok (.lshl,1)=>match st with
  | .int y :: .long x::r=>some (pc+1,L,.long (x<<<(y&&&0x3f).toInt64)::r)
  | _=>none
 | .ok (.lushr,1)=>match st with
  | .int y :: .long x::r=>some (pc+1,L,.long ((x.toUInt64>>>(y&&&0x3f).toInt64.toUInt64).toInt64)::r)
  | _=>none
 | .ok (.i2l,1)=>match st with
  | .int x::r=>some (pc+1,L,.long x.toInt64::r)
  | _=>none
 | _=>none
theorem Am {A:Nat→Addr}{K:Nat→ClassId}{D:Nat→UInt64}{W:Nat→Value}{code:ByteArray}{own:String}{P:eS}{n0:Nat}{ds:List AD}(X:Stand p l e R s m args below meth c T locs cells slots)(hx:p.tables.exec=Jvm.exec)(hby:c.code=code)(hZ:Z.Warmed39 s.vm)(hown:s.vm.findClass own=some m.cls)(hP:cL Z a0 own P)(eT:T.heap=h)(Y:YgF Z n0 h A K D W ds)(hD0:D 0=0){pc pc':Nat}{L L':Array Slot}{st st':List Value}(hs:Al (decode code) P ds pc L st=some (pc',L',st'))
  (K_:∀T',Stand p l e R s m args below meth c T' locs cells slots→T'.heap=h→Go p e below Ev T' (mkF m pc' (L'.map (aZ A D W)) (st'.map (den A D W)))):Go p e below Ev T (mkF m pc (L.map (aZ A D W)) (st.map (den A D W))):=by
 subst hby
 unfold Al at hs
 split at hs
 ·next hd =>
  split at hs
  ·cases hs;exact Nu X hx _ hd rfl (K_ _ X eT)
  ·cases hs
 ·next hd =>
  split at hs
  ·cases hs;exact Nv X hx _ hd rfl (K_ _ X eT)
  ·cases hs
 ·next hd =>
  split at hs
  ·cases hs;exact Nw X hx _ hd rfl (K_ _ X eT)
  ·cases hs
 ·next hd =>
  split at hs
  ·cases hs;exact Nx X hx _ hd rfl (K_ _ X eT)
  ·cases hs
 ·next hd =>
  split at hs
  ·cases hs;exact Pg X hx _ hd rfl (K_ _ X eT)
  ·cases hs
 ·next hd =>
  split at hs
  ·cases hs;exact Ny X hx _ hd rfl (K_ _ X eT)
  ·cases hs
 ·next hd =>
  split at hs
  ·cases hs;exact HL X hx _ hd rfl (K_ _ X eT)
  ·cases hs
 ·next hd =>
  split at hs
  ·cases hs;exact Ph X hx _ hd rfl (K_ _ X eT)
  ·cases hs
 ·cases hs
def An (dk:DC)(P:eS)(ds:List AD)(pc:Nat)(L:Array Slot)(st:List Value):Option (Nat×Array Slot×List Value) :=
 match dk pc with
 | .ok (.l2i,1)=>match st with
  | .long x::r=>some (pc+1,L,.int x.toInt32::r)
  | _=>none
 | .ok (.dup,1)=>match st with
  | x::r=>if (kn x=true∧x.category=1) then some (pc+1,L,x::x::r) else none
  | _=>none
 | .ok (.pop,1)=>match st with
  | x::r=>if (kn x=true∧x.category=1) then some (pc+1,L,r) else none
  | _=>none
 | .ok (.dup_x1,1)=>match st with
  | x::y::r=>if (kn x=true∧x.category=1)∧(kn y=true∧y.category=1) then some (pc+1,L,x::y::x::r) else none
  | _=>none
 | .ok (.dup2,1)=>match st with
  | x::y::r=>if (kn x=true∧x.category=1)∧(kn y=true∧y.category=1) then some (pc+1,L,x::y::x::y::r) else none
  | _=>none
 | .ok (.dup_x2,1)=>match st with
  | x::y::z::r=>if (kn x=true∧x.category=1)∧(kn y=true∧y.category=1)∧(kn z=true∧z.category=1) then some (pc+1,L,x::y::z::x::r) else none
  | _=>none
 | .ok (.goto o,3)=>if 0≤(pc:Int)+o then some (((pc:Int)+o).toNat,L,st) else none
 | .ok (.ifCond .eq o,3)=>match st with
  | .int x::r=>if 0≤(pc:Int)+o then (if x.toInt=0 then some (((pc:Int)+o).toNat,L,r) else some (pc+3,L,r)) else none
  | _=>none
 | _=>none
theorem Ao {A:Nat→Addr}{K:Nat→ClassId}{D:Nat→UInt64}{W:Nat→Value}{code:ByteArray}{own:String}{P:eS}{n0:Nat}{ds:List AD}(X:Stand p l e R s m args below meth c T locs cells slots)(hx:p.tables.exec=Jvm.exec)(hby:c.code=code)(hZ:Z.Warmed39 s.vm)(hown:s.vm.findClass own=some m.cls)(hP:cL Z a0 own P)(eT:T.heap=h)(Y:YgF Z n0 h A K D W ds)(hD0:D 0=0){pc pc':Nat}{L L':Array Slot}{st st':List Value}(hs:An (decode code) P ds pc L st=some (pc',L',st'))
  (K_:∀T',Stand p l e R s m args below meth c T' locs cells slots→T'.heap=h→Go p e below Ev T' (mkF m pc' (L'.map (aZ A D W)) (st'.map (den A D W)))):Go p e below Ev T (mkF m pc (L.map (aZ A D W)) (st.map (den A D W))):=by
 subst hby
 unfold An at hs
 split at hs
 ·next hd =>
  split at hs
  ·cases hs;exact Pi X hx _ hd rfl (K_ _ X eT)
  ·cases hs
 ·next hd =>
  split at hs
  ·split at hs
   ·next hk=>cases hs;exact Pk X hx _ hd rfl ((dq (hk).1).trans (hk).2) (K_ _ X eT)
   ·cases hs
  ·cases hs
 ·next hd =>
  split at hs
  ·split at hs
   ·next hk=>cases hs;exact Pl X hx _ hd rfl ((dq (hk).1).trans (hk).2) (K_ _ X eT)
   ·cases hs
  ·cases hs
 ·next hd =>
  split at hs
  ·split at hs
   ·next hk=>cases hs;exact HM X hx _ hd rfl ((dq (hk.1).1).trans (hk.1).2) ((dq (hk.2).1).trans (hk.2).2) (K_ _ X eT)
   ·cases hs
  ·cases hs
 ·next hd =>
  split at hs
  ·split at hs
   ·next hk=>cases hs;exact NE X hx _ hd rfl ((dq (hk.1).1).trans (hk.1).2) ((dq (hk.2).1).trans (hk.2).2) (K_ _ X eT)
   ·cases hs
  ·cases hs
 ·next hd =>
  split at hs
  ·split at hs
   ·next hk=>cases hs;exact H4 X hx _ hd rfl ((dq (hk.1).1).trans (hk.1).2) ((dq (hk.2.1).1).trans (hk.2.1).2) ((dq (hk.2.2).1).trans (hk.2.2).2) (K_ _ X eT)
   ·cases hs
  ·cases hs
 ·next o hd =>
  split at hs
  ·next ho=>cases hs;exact NF X hx _ hd ho rfl (K_ _ X eT)
  ·cases hs
 ·next o hd =>
  split at hs
  ·split at hs
   ·next ho =>
    split at hs
    ·next hc=>cases hs;exact jk X hx _ _ hd ho rfl rfl (fun _=>K_ _ X eT) (fun hc'=>by exfalso;omega)
    ·next hc=>cases hs;exact jk X hx _ _ hd ho rfl rfl (fun hc'=>by exfalso;omega) (fun _=>K_ _ X eT)
   ·cases hs
  ·cases hs
 ·cases hs
def Ap (dk:DC)(P:eS)(ds:List AD)(pc:Nat)(L:Array Slot)(st:List Value):Option (Nat×Array Slot×List Value) :=
 match dk pc with
 | .ok (.if_icmp .eq o,3)=>match st with
  | .int y :: .int x::r=>if 0≤(pc:Int)+o then (if x.toInt=y.toInt then some (((pc:Int)+o).toNat,L,r) else some (pc+3,L,r)) else none
  | _=>none
 | .ok (.ifCond .ne o,3)=>match st with
  | .int x::r=>if 0≤(pc:Int)+o then (if x.toInt≠0 then some (((pc:Int)+o).toNat,L,r) else some (pc+3,L,r)) else none
  | _=>none
 | .ok (.if_icmp .ne o,3)=>match st with
  | .int y :: .int x::r=>if 0≤(pc:Int)+o then (if x.toInt≠y.toInt then some (((pc:Int)+o).toNat,L,r) else some (pc+3,L,r)) else none
  | _=>none
 | .ok (.ifCond .lt o,3)=>match st with
  | .int x::r=>if 0≤(pc:Int)+o then (if x.toInt<0 then some (((pc:Int)+o).toNat,L,r) else some (pc+3,L,r)) else none
  | _=>none
 | .ok (.if_icmp .lt o,3)=>match st with
  | .int y :: .int x::r=>if 0≤(pc:Int)+o then (if x.toInt<y.toInt then some (((pc:Int)+o).toNat,L,r) else some (pc+3,L,r)) else none
  | _=>none
 | .ok (.ifCond .ge o,3)=>match st with
  | .int x::r=>if 0≤(pc:Int)+o then (if x.toInt≥0 then some (((pc:Int)+o).toNat,L,r) else some (pc+3,L,r)) else none
  | _=>none
 | .ok (.if_icmp .ge o,3)=>match st with
  | .int y :: .int x::r=>if 0≤(pc:Int)+o then (if x.toInt≥y.toInt then some (((pc:Int)+o).toNat,L,r) else some (pc+3,L,r)) else none
  | _=>none
 | .ok (.ifCond .gt o,3)=>match st with
  | .int x::r=>if 0≤(pc:Int)+o then (if x.toInt > 0 then some (((pc:Int)+o).toNat,L,r) else some (pc+3,L,r)) else none
  | _=>none
 | _=>none
theorem Aq {A:Nat→Addr}{K:Nat→ClassId}{D:Nat→UInt64}{W:Nat→Value}{code:ByteArray}{own:String}{P:eS}{n0:Nat}{ds:List AD}(X:Stand p l e R s m args below meth c T locs cells slots)(hx:p.tables.exec=Jvm.exec)(hby:c.code=code)(hZ:Z.Warmed39 s.vm)(hown:s.vm.findClass own=some m.cls)(hP:cL Z a0 own P)(eT:T.heap=h)(Y:YgF Z n0 h A K D W ds)(hD0:D 0=0){pc pc':Nat}{L L':Array Slot}{st st':List Value}(hs:Ap (decode code) P ds pc L st=some (pc',L',st'))
  (K_:∀T',Stand p l e R s m args below meth c T' locs cells slots→T'.heap=h→Go p e below Ev T' (mkF m pc' (L'.map (aZ A D W)) (st'.map (den A D W)))):Go p e below Ev T (mkF m pc (L.map (aZ A D W)) (st.map (den A D W))):=by
 subst hby
 unfold Ap at hs
 split at hs
 ·next o hd =>
  split at hs
  ·split at hs
   ·next ho =>
    split at hs
    ·next hc=>cases hs;exact uB X hx _ _ hd ho rfl rfl (fun _=>K_ _ X eT) (fun hc'=>by exfalso;omega)
    ·next hc=>cases hs;exact uB X hx _ _ hd ho rfl rfl (fun hc'=>by exfalso;omega) (fun _=>K_ _ X eT)
   ·cases hs
  ·cases hs
 ·next o hd =>
  split at hs
  ·split at hs
   ·next ho =>
    split at hs
    ·next hc=>cases hs;exact jl X hx _ _ hd ho rfl rfl (fun _=>K_ _ X eT) (fun hc'=>by exfalso;omega)
    ·next hc=>cases hs;exact jl X hx _ _ hd ho rfl rfl (fun hc'=>by exfalso;omega) (fun _=>K_ _ X eT)
   ·cases hs
  ·cases hs
 ·next o hd =>
  split at hs
  ·split at hs
   ·next ho =>
    split at hs
    ·next hc=>cases hs;exact uC X hx _ _ hd ho rfl rfl (fun _=>K_ _ X eT) (fun hc'=>by exfalso;omega)
    ·next hc=>cases hs;exact uC X hx _ _ hd ho rfl rfl (fun hc'=>by exfalso;omega) (fun _=>K_ _ X eT)
   ·cases hs
  ·cases hs
 ·next o hd =>
  split at hs
  ·split at hs
   ·next ho =>
    split at hs
    ·next hc=>cases hs;exact pd X hx _ _ hd ho rfl rfl (fun _=>K_ _ X eT) (fun hc'=>by exfalso;omega)
    ·next hc=>cases hs;exact pd X hx _ _ hd ho rfl rfl (fun hc'=>by exfalso;omega) (fun _=>K_ _ X eT)
   ·cases hs
  ·cases hs
 ·next o hd =>
  split at hs
  ·split at hs
   ·next ho =>
    split at hs
    ·next hc=>cases hs;exact uD X hx _ _ hd ho rfl rfl (fun _=>K_ _ X eT) (fun hc'=>by exfalso;omega)
    ·next hc=>cases hs;exact uD X hx _ _ hd ho rfl rfl (fun hc'=>by exfalso;omega) (fun _=>K_ _ X eT)
   ·cases hs
  ·cases hs
 ·next o hd =>
  split at hs
  ·split at hs
   ·next ho =>
    split at hs
    ·next hc=>cases hs;exact pe X hx _ _ hd ho rfl rfl (fun _=>K_ _ X eT) (fun hc'=>by exfalso;omega)
    ·next hc=>cases hs;exact pe X hx _ _ hd ho rfl rfl (fun hc'=>by exfalso;omega) (fun _=>K_ _ X eT)
   ·cases hs
  ·cases hs
 ·next o hd =>
  split at hs
  ·split at hs
   ·next ho =>
    split at hs
    ·next hc=>cases hs;exact uE X hx _ _ hd ho rfl rfl (fun _=>K_ _ X eT) (fun hc'=>by exfalso;omega)
    ·next hc=>cases hs;exact uE X hx _ _ hd ho rfl rfl (fun hc'=>by exfalso;omega) (fun _=>K_ _ X eT)
   ·cases hs
  ·cases hs
 ·next o hd =>
  split at hs
  ·split at hs
   ·next ho =>
    split at hs
    ·next hc=>cases hs;exact pf X hx _ _ hd ho rfl rfl (fun _=>K_ _ X eT) (fun hc'=>by exfalso;omega)
    ·next hc=>cases hs;exact pf X hx _ _ hd ho rfl rfl (fun hc'=>by exfalso;omega) (fun _=>K_ _ X eT)
   ·cases hs
  ·cases hs
 ·cases hs
def Ar (dk:DC)(P:eS)(ds:List AD)(pc:Nat)(L:Array Slot)(st:List Value):Option (Nat×Array Slot×List Value) :=
 match dk pc with
 | .ok (.if_icmp .gt o,3)=>match st with
  | .int y :: .int x::r=>if 0≤(pc:Int)+o then (if x.toInt > y.toInt then some (((pc:Int)+o).toNat,L,r) else some (pc+3,L,r)) else none
  | _=>none
 | .ok (.ifCond .le o,3)=>match st with
  | .int x::r=>if 0≤(pc:Int)+o then (if x.toInt≤0 then some (((pc:Int)+o).toNat,L,r) else some (pc+3,L,r)) else none
  | _=>none
 | .ok (.if_icmp .le o,3)=>match st with
  | .int y :: .int x::r=>if 0≤(pc:Int)+o then (if x.toInt≤y.toInt then some (((pc:Int)+o).toNat,L,r) else some (pc+3,L,r)) else none
  | _=>none
 | .ok (.lcmp,1)=>match dk (pc+1),st with
  | .ok (.ifCond .eq o,3),.long y :: .long x::r=>if 0≤((pc+1:Nat):Int)+o then (if x.toInt=y.toInt then some ((((pc+1:Nat):Int)+o).toNat,L,r) else some (pc+4,L,r)) else none
  | .ok (.ifCond .ne o,3),.long y :: .long x::r=>if 0≤((pc+1:Nat):Int)+o then (if x.toInt≠y.toInt then some ((((pc+1:Nat):Int)+o).toNat,L,r) else some (pc+4,L,r)) else none
  | .ok (.ifCond .lt o,3),.long y :: .long x::r=>if 0≤((pc+1:Nat):Int)+o then (if x.toInt<y.toInt then some ((((pc+1:Nat):Int)+o).toNat,L,r) else some (pc+4,L,r)) else none
  | .ok (.ifCond .ge o,3),.long y :: .long x::r=>if 0≤((pc+1:Nat):Int)+o then (if x.toInt≥y.toInt then some ((((pc+1:Nat):Int)+o).toNat,L,r) else some (pc+4,L,r)) else none
  | .ok (.ifCond .gt o,3),.long y :: .long x::r=>if 0≤((pc+1:Nat):Int)+o then (if x.toInt > y.toInt then some ((((pc+1:Nat):Int)+o).toNat,L,r) else some (pc+4,L,r)) else none
  | .ok (.ifCond .le o,3),.long y :: .long x::r=>if 0≤((pc+1:Nat):Int)+o then (if x.toInt≤y.toInt then some ((((pc+1:Nat):Int)+o).toNat,L,r) else some (pc+4,L,r)) else none
  | _,_=>none
 | .ok (.getfield i,3)=>match st with
  | .ref a::r=>match P.1 i,ds[a]? with
   | some (c,j),some d=>if d.1=c then (match d.2.2[j]? with|some v=>some (pc+3,L,v::r)|none=>none) else none
   | _,_=>none
  | _=>none
 | .ok (.arraylength,1)=>match st with
  | .ref a::r=>match ds[a]? with
   | some d=>if 64≤d.1 then some (pc+1,L,.int (Int32.ofNat d.2.1)::r) else none
   | none=>none
  | _=>none
 | .ok (.iaload,1)=>match st with
  | .int j :: .ref a::r=>match ds[a]? with
   | some d=>if d.1=64∧0≤j.toInt∧j.toInt<(d.2.1:Int)∧d.2.1<2147483648 then (match d.2.2[j.toNatClampNeg]? with|some v=>some (pc+1,L,v::r)|none=>none) else none
   | none=>none
  | _=>none
 | .ok (.daload,1)=>match st with
  | .int j :: .ref a::r=>match ds[a]? with
   | some d=>if d.1=65∧0≤j.toInt∧j.toInt<(d.2.1:Int)∧d.2.1<2147483648 then (match d.2.2[j.toNatClampNeg]? with|some v=>some (pc+1,L,v::r)|none=>none) else none
   | none=>none
  | _=>none
 | _=>none
theorem Au {A:Nat→Addr}{K:Nat→ClassId}{D:Nat→UInt64}{W:Nat→Value}{code:ByteArray}{own:String}{P:eS}{n0:Nat}{ds:List AD}(X:Stand p l e R s m args below meth c T locs cells slots)(hx:p.tables.exec=Jvm.exec)(hby:c.code=code)(hZ:Z.Warmed39 s.vm)(hown:s.vm.findClass own=some m.cls)(hP:cL Z a0 own P)(eT:T.heap=h)(Y:YgF Z n0 h A K D W ds)(hD0:D 0=0){pc pc':Nat}{L L':Array Slot}{st st':List Value}(hs:Ar (decode code) P ds pc L st=some (pc',L',st'))
  (K_:∀T',Stand p l e R s m args below meth c T' locs cells slots→T'.heap=h→Go p e below Ev T' (mkF m pc' (L'.map (aZ A D W)) (st'.map (den A D W)))):Go p e below Ev T (mkF m pc (L.map (aZ A D W)) (st.map (den A D W))):=by
 subst hby
 unfold Ar at hs
 split at hs
 ·next o hd =>
  split at hs
  ·split at hs
   ·next ho =>
    split at hs
    ·next hc=>cases hs;exact ph X hx _ _ hd ho rfl rfl (fun _=>K_ _ X eT) (fun hc'=>by exfalso;omega)
    ·next hc=>cases hs;exact ph X hx _ _ hd ho rfl rfl (fun hc'=>by exfalso;omega) (fun _=>K_ _ X eT)
   ·cases hs
  ·cases hs
 ·next o hd =>
  split at hs
  ·split at hs
   ·next ho =>
    split at hs
    ·next hc=>cases hs;exact pg X hx _ _ hd ho rfl rfl (fun _=>K_ _ X eT) (fun hc'=>by exfalso;omega)
    ·next hc=>cases hs;exact pg X hx _ _ hd ho rfl rfl (fun hc'=>by exfalso;omega) (fun _=>K_ _ X eT)
   ·cases hs
  ·cases hs
 ·next o hd =>
  split at hs
  ·split at hs
   ·next ho =>
    split at hs
    ·next hc=>cases hs;exact uF X hx _ _ hd ho rfl rfl (fun _=>K_ _ X eT) (fun hc'=>by exfalso;omega)
    ·next hc=>cases hs;exact uF X hx _ _ hd ho rfl rfl (fun hc'=>by exfalso;omega) (fun _=>K_ _ X eT)
   ·cases hs
  ·cases hs
 ·next hd =>
  split at hs
  ·next o y x r hd2 =>
   split at hs
   ·next ho =>
    split at hs
    ·next hc=>cases hs;exact uG X hx _ _ _ hd rfl hd2 ho rfl rfl (fun _=>K_ _ X eT) (fun hc'=>by exfalso;omega)
    ·next hc=>cases hs;exact uG X hx _ _ _ hd rfl hd2 ho rfl rfl (fun hc'=>by exfalso;omega) (fun _=>K_ _ X eT)
   ·cases hs
  ·next o y x r hd2 =>
   split at hs
   ·next ho =>
    split at hs
    ·next hc=>cases hs;exact uH X hx _ _ _ hd rfl hd2 ho rfl rfl (fun _=>K_ _ X eT) (fun hc'=>by exfalso;omega)
    ·next hc=>cases hs;exact uH X hx _ _ _ hd rfl hd2 ho rfl rfl (fun hc'=>by exfalso;omega) (fun _=>K_ _ X eT)
   ·cases hs
  ·next o y x r hd2 =>
   split at hs
   ·next ho =>
    split at hs
    ·next hc=>cases hs;exact uI X hx _ _ _ hd rfl hd2 ho rfl rfl (fun _=>K_ _ X eT) (fun hc'=>by exfalso;omega)
    ·next hc=>cases hs;exact uI X hx _ _ _ hd rfl hd2 ho rfl rfl (fun hc'=>by exfalso;omega) (fun _=>K_ _ X eT)
   ·cases hs
  ·next o y x r hd2 =>
   split at hs
   ·next ho =>
    split at hs
    ·next hc=>cases hs;exact uJ X hx _ _ _ hd rfl hd2 ho rfl rfl (fun _=>K_ _ X eT) (fun hc'=>by exfalso;omega)
    ·next hc=>cases hs;exact uJ X hx _ _ _ hd rfl hd2 ho rfl rfl (fun hc'=>by exfalso;omega) (fun _=>K_ _ X eT)
   ·cases hs
  ·next o y x r hd2 =>
   split at hs
   ·next ho =>
    split at hs
    ·next hc=>cases hs;exact uK X hx _ _ _ hd rfl hd2 ho rfl rfl (fun _=>K_ _ X eT) (fun hc'=>by exfalso;omega)
    ·next hc=>cases hs;exact uK X hx _ _ _ hd rfl hd2 ho rfl rfl (fun hc'=>by exfalso;omega) (fun _=>K_ _ X eT)
   ·cases hs
  ·next o y x r hd2 =>
   split at hs
   ·next ho =>
    split at hs
    ·next hc=>cases hs;exact uL X hx _ _ _ hd rfl hd2 ho rfl rfl (fun _=>K_ _ X eT) (fun hc'=>by exfalso;omega)
    ·next hc=>cases hs;exact uL X hx _ _ _ hd rfl hd2 ho rfl rfl (fun hc'=>by exfalso;omega) (fun _=>K_ _ X eT)
   ·cases hs
  ·cases hs
 ·next i hd =>
  split at hs
  ·split at hs
   ·next c j d e1 e2 =>
    split at hs
    ·next hc =>
     split at hs
     ·next v hv =>
      cases hs
      obtain⟨hlt,f,R0,host,hf,w,via⟩:=hP.1 i c j e1
      have H:=(Y.1 _ _ e2).2
      unfold HdF at H
      rw[if_pos (by rw[hc];exact hlt)] at H
      have F:=H.2 j v f hv (by rw[hc];exact hf)
      obtain⟨T',X',e',st'⟩:=getF X hx hZ hown (host:=host) w via eT F (g:=mkF m pc _ _) rfl rfl hd
      exact (K_ T' X' e').on st'
     ·cases hs
    ·cases hs
   ·cases hs
  ·cases hs
 ·next hd =>
  split at hs
  ·split at hs
   ·next d e2 =>
    split at hs
    ·next hc =>
     cases hs
     have H:=(Y.1 _ _ e2).2
     unfold HdF at H
     rw[if_neg (Nat.not_lt.mpr hc)] at H
     exact Pn X hx hZ eT H.2.1 _ hd rfl (K_ _ X eT)
    ·cases hs
   ·cases hs
  ·cases hs
 ·next hd =>
  split at hs
  ·next j a r =>
   split at hs
   ·next d e2 =>
    split at hs
    ·next hc =>
     split at hs
     ·next v hv =>
      cases hs
      have H:=(Y.1 _ _ e2).2
      unfold HdF at H
      rw[if_neg (by omega)] at H
      have hz:=Int32.toInt_ofNat_small (n:=d.2.1) hc.2.2.2
      have hg:(d.2.2.map (den A D W)).getD j.toNatClampNeg (eG d.1)=den A D W v:=by rw[List.getD_eq_getElem?_getD,List.getElem?_map,hv];rfl
      have V:=H.2.1
      rw[hc.1] at V hg
      exact zP X hx hZ eT V hc.2.1 (by omega) hg _ hd rfl (K_ _ X eT)
     ·cases hs
    ·cases hs
   ·cases hs
  ·cases hs
 ·next hd =>
  split at hs
  ·next j a r =>
   split at hs
   ·next d e2 =>
    split at hs
    ·next hc =>
     split at hs
     ·next v hv =>
      cases hs
      have H:=(Y.1 _ _ e2).2
      unfold HdF at H
      rw[if_neg (by omega)] at H
      have hz:=Int32.toInt_ofNat_small (n:=d.2.1) hc.2.2.2
      have hg:(d.2.2.map (den A D W)).getD j.toNatClampNeg (eG d.1)=den A D W v:=by rw[List.getD_eq_getElem?_getD,List.getElem?_map,hv];rfl
      have V:=H.2.1
      rw[hc.1] at V hg
      exact zO X hx hZ eT V hc.2.1 (by omega) hg _ hd rfl (K_ _ X eT)
     ·cases hs
    ·cases hs
   ·cases hs
  ·cases hs
 ·cases hs
def Av (dk:DC)(P:eS)(ds:List AD)(pc:Nat)(L:Array Slot)(st:List Value):Option (Nat×Array Slot×List Value) :=
 match dk pc with
 | .ok (.baload,1)=>match st with
  | .int j :: .ref a::r=>match ds[a]? with
   | some d=>if d.1=66∧0≤j.toInt∧j.toInt<(d.2.1:Int)∧d.2.1<2147483648 then (match d.2.2[j.toNatClampNeg]? with|some v=>some (pc+1,L,v::r)|none=>none) else none
   | none=>none
  | _=>none
 | .ok (.aaload,1)=>match st with
  | .int j :: .ref a::r=>match ds[a]? with
   | some d=>if (d.1=67∨d.1=68)∧0≤j.toInt∧j.toInt<(d.2.1:Int)∧d.2.1<2147483648 then (match d.2.2[j.toNatClampNeg]? with|some v=>some (pc+1,L,v::r)|none=>none) else none
   | none=>none
  | _=>none
 | .ok (.checkcast i,3)=>match st with
  | .ref a::r=>match P.2.1 i,ds[a]? with
   | some C,some d=>if 64≤d.1∧fZ d.1=C then some (pc+3,L,.ref a::r) else none
   | _,_=>none
  | _=>none
 | _=>none
theorem Aw {A:Nat→Addr}{K:Nat→ClassId}{D:Nat→UInt64}{W:Nat→Value}{code:ByteArray}{own:String}{P:eS}{n0:Nat}{ds:List AD}(X:Stand p l e R s m args below meth c T locs cells slots)(hx:p.tables.exec=Jvm.exec)(hby:c.code=code)(hZ:Z.Warmed39 s.vm)(hown:s.vm.findClass own=some m.cls)(hP:cL Z a0 own P)(eT:T.heap=h)(Y:YgF Z n0 h A K D W ds)(hD0:D 0=0){pc pc':Nat}{L L':Array Slot}{st st':List Value}(hs:Av (decode code) P ds pc L st=some (pc',L',st'))
  (K_:∀T',Stand p l e R s m args below meth c T' locs cells slots→T'.heap=h→Go p e below Ev T' (mkF m pc' (L'.map (aZ A D W)) (st'.map (den A D W)))):Go p e below Ev T (mkF m pc (L.map (aZ A D W)) (st.map (den A D W))):=by
 subst hby
 unfold Av at hs
 split at hs
 ·next hd =>
  split at hs
  ·next j a r =>
   split at hs
   ·next d e2 =>
    split at hs
    ·next hc =>
     split at hs
     ·next v hv =>
      cases hs
      have H:=(Y.1 _ _ e2).2
      unfold HdF at H
      rw[if_neg (by omega)] at H
      have hz:=Int32.toInt_ofNat_small (n:=d.2.1) hc.2.2.2
      have hg:(d.2.2.map (den A D W)).getD j.toNatClampNeg (eG d.1)=den A D W v:=by rw[List.getD_eq_getElem?_getD,List.getElem?_map,hv];rfl
      have V:=H.2.1
      rw[hc.1] at V hg
      exact z6 X hx hZ eT V hc.2.1 (by omega) hg _ hd rfl (K_ _ X eT)
     ·cases hs
    ·cases hs
   ·cases hs
  ·cases hs
 ·next hd =>
  split at hs
  ·next j a r =>
   split at hs
   ·next d e2 =>
    split at hs
    ·next hc =>
     split at hs
     ·next v hv =>
      cases hs
      have H:=(Y.1 _ _ e2).2
      unfold HdF at H
      rw[if_neg (by omega)] at H
      have hz:=Int32.toInt_ofNat_small (n:=d.2.1) hc.2.2.2
      have hg:(d.2.2.map (den A D W)).getD j.toNatClampNeg (eG d.1)=den A D W v:=by rw[List.getD_eq_getElem?_getD,List.getElem?_map,hv];rfl
      exact z5 X hx hZ eT H.2.1 (by rcases hc.1 with q|q<;>rw[q]<;>rfl) hc.2.1 (by omega) hg _ hd rfl (K_ _ X eT)
     ·cases hs
    ·cases hs
   ·cases hs
  ·cases hs
 ·next i hd =>
  split at hs
  ·split at hs
   ·next C d e1 e2 =>
    split at hs
    ·next hc =>
     cases hs
     have H:=(Y.1 _ _ e2).2
     unfold HdF at H
     rw[if_neg (Nat.not_lt.mpr hc.1)] at H
     have E:=H.1
     rw[hc.2] at E
     refine NG X hx hZ hown (hP.2.1 i C e1) eT (Ins.self E) _ hd rfl ?_
     intro T' X' e'
     exact K_ T' X' e'
    ·cases hs
   ·cases hs
  ·cases hs
 ·cases hs
def NK (dk:DC)(P:eS)(ds:List AD)(pc:Nat)(L:Array Slot)(st:List Value):Option (Nat×Array Slot×List Value) :=
 match Aa dk P ds pc L st with
 | some r=>some r
 | none=>match Af dk P ds pc L st with
 | some r=>some r
 | none=>match Ah dk P ds pc L st with
 | some r=>some r
 | none=>match Aj dk P ds pc L st with
 | some r=>some r
 | none=>match Al dk P ds pc L st with
 | some r=>some r
 | none=>match An dk P ds pc L st with
 | some r=>some r
 | none=>match Ap dk P ds pc L st with
 | some r=>some r
 | none=>match Ar dk P ds pc L st with
 | some r=>some r
 | none=>match Av dk P ds pc L st with
 | some r=>some r
 | none=>none
theorem H7 {A:Nat→Addr}{K:Nat→ClassId}{D:Nat→UInt64}{W:Nat→Value}{code:ByteArray}{own:String}{P:eS}{n0:Nat}{ds:List AD}(X:Stand p l e R s m args below meth c T locs cells slots)(hx:p.tables.exec=Jvm.exec)(hby:c.code=code)(hZ:Z.Warmed39 s.vm)(hown:s.vm.findClass own=some m.cls)(hP:cL Z a0 own P)(eT:T.heap=h)(Y:YgF Z n0 h A K D W ds)(hD0:D 0=0){pc pc':Nat}{L L':Array Slot}{st st':List Value}(hs:NK (decode code) P ds pc L st=some (pc',L',st'))
  (K_:∀T',Stand p l e R s m args below meth c T' locs cells slots→T'.heap=h→Go p e below Ev T' (mkF m pc' (L'.map (aZ A D W)) (st'.map (den A D W)))):Go p e below Ev T (mkF m pc (L.map (aZ A D W)) (st.map (den A D W))):=by
 unfold NK at hs
 split at hs
 ·next r h1=>cases hs;exact Ae X hx hby hZ hown hP eT Y hD0 h1 K_
 split at hs
 ·next r h1=>cases hs;exact Ag X hx hby hZ hown hP eT Y hD0 h1 K_
 split at hs
 ·next r h1=>cases hs;exact Ai X hx hby hZ hown hP eT Y hD0 h1 K_
 split at hs
 ·next r h1=>cases hs;exact Ak X hx hby hZ hown hP eT Y hD0 h1 K_
 split at hs
 ·next r h1=>cases hs;exact Am X hx hby hZ hown hP eT Y hD0 h1 K_
 split at hs
 ·next r h1=>cases hs;exact Ao X hx hby hZ hown hP eT Y hD0 h1 K_
 split at hs
 ·next r h1=>cases hs;exact Aq X hx hby hZ hown hP eT Y hD0 h1 K_
 split at hs
 ·next r h1=>cases hs;exact Au X hx hby hZ hown hP eT Y hD0 h1 K_
 split at hs
 ·next r h1=>cases hs;exact Aw X hx hby hZ hown hP eT Y hD0 h1 K_
 cases hs
end OwnExec
section OwnExecW
variable {p:Program}{l:Launch}{e:Env}{R:Room}{s:State}{m:MethodId}{args:Array Value}{below:List Frame}{meth:Method}{c:Code}{T:State}{locs:List Loc}{cells slots:Nat}{Z:State}{a0:Array Value}{h h':Heap}{Ev:State→Outcome→Prop}
section
variable {A:Nat→Addr}{K:Nat→ClassId}{D:Nat→UInt64}{W:Nat→Value}{n0:Nat}{ds:List AD}{a b:Addr}{k:ClassId}{d d':AD}{sl:Nat}{v:Value}
theorem HdF.ext (H:HdF Z h a k A D W d)(E:Ext h h'):HdF Z h' a k A D W d:=by
 unfold HdF at H ⊢
 split at H
 ·rename_i q;rw[if_pos q];exact⟨H.1.ext E,fun j v f h1 h2=>(H.2 j v f h1 h2).ext E⟩
 ·rename_i q;rw[if_neg q];exact⟨H.1.ext E,H.2.1.ext E,H.2.2⟩
theorem HdF.other (H:HdF Z h b k A D W d)(Wh:Wr h h' a sl v)(q:b≠a):HdF Z h' b k A D W d:=by
 unfold HdF at H ⊢
 split at H
 ·rename_i q';rw[if_pos q'];exact⟨H.1.wr Wh,fun j v f h1 h2=>(H.2 j v f h1 h2).other Wh (Or.inl q)⟩
 ·rename_i q';rw[if_neg q'];exact⟨H.1.wr Wh,H.2.1.other Wh q,H.2.2⟩
theorem HdF.keep {ws:List Addr}(H:HdF Z h a k A D W d)(Kp:Keep h h' ws)(q:a ∉ ws):HdF Z h' a k A D W d:=by
 unfold HdF at H ⊢
 split at H
 ·rename_i q';rw[if_pos q'];exact⟨H.1.keep Kp,fun j v f h1 h2=>(H.2 j v f h1 h2).keep Kp q⟩
 ·rename_i q';rw[if_neg q'];exact⟨H.1.keep Kp,H.2.1.keep Kp q,H.2.2⟩
theorem HdF.lt (H:HdF Z h a k A D W d):a<h.size:=by
 unfold HdF at H
 split at H
 ·exact H.1.lt
 ·exact H.1.lt
theorem HdF.arr (H:HdF Z h a k A D W d)(q:64≤d.1):Exa Z h a (fZ d.1)∧Arv Z h a k (eF d.1) (Int32.ofNat d.2.1) (d.2.2.map (den A D W)) (eG d.1)∧(d.1=67→OvrA Z k .int "[I")∧(d.1=68→OvrA Z k .double "[D"):=by
 unfold HdF at H
 rwa [if_neg (Nat.not_lt.mpr q)] at H
theorem YgF.wr (Y:YgF Z n0 h A K D W ds){i:Nat}(e:ds[i]? = some d)(Wh:Wr h h' (A i) sl v)(H:HdF Z h' (A i) (K i) A D W d'):YgF Z n0 h' A K D W (ds.set i d'):=by
 have hi:i<ds.length:=(List.getElem?_eq_some_iff.mp e).1
 refine⟨fun j x hj=>?_,fun x y hx hy q=>Y.2 x y (by simpa using hx) (by simpa using hy) q⟩
 rw[List.getElem?_set] at hj
 split at hj
 ·rename_i q
  subst q
  first
  | cases hj
  | (rw[if_pos hi] at hj;cases hj)
  exact⟨(Y.1 _ _ e).1,H⟩
 ·rename_i q
  have hjl:j<ds.length:=(List.getElem?_eq_some_iff.mp hj).1
  exact⟨(Y.1 _ _ hj).1,(Y.1 _ _ hj).2.other Wh fun z=>q (Y.2 _ _ hi hjl z.symm)⟩
theorem YgF.wrA (Y:YgF Z n0 h A K D W ds){i:Nat}{cd z:Nat}{vs vs':List Value}(e:ds[i]? = some (cd,z,vs))(q:64≤cd)(Wh:Wr h h' (A i) sl v)(V:Arv Z h' (A i) (K i) (eF cd) (Int32.ofNat z) (vs'.map (den A D W)) (eG cd)):YgF Z n0 h' A K D W (ds.set i (cd,z,vs')):=by
 have H:=(Y.1 _ _ e).2.arr q
 refine Y.wr e Wh ?_
 unfold HdF
 rw[if_neg (Nat.not_lt.mpr q)]
 exact⟨H.1.wr Wh,V,H.2.2⟩
def eU (Z:State)(a0:Array Value):Prop:=∀c,c<64→Lds Z a0 (cI c) (a_ c)∧((a_ c).map (·.2.1)).Pairwise (·≠·)
theorem YgF.wrF (Y:YgF Z n0 h A K D W ds)(CL:eU Z a0){i j cd z:Nat}{vs:List Value}{f:String×String×String}{w:Value}(e:ds[i]? = some (cd,z,vs))(q:cd<64)(hf:(a_ cd)[j]? = some f)(Wh:Wr h h' (A i) (Jvm.RoadKit.slotOf Z f.1 f.2.1 f.2.2) (den A D W w))(F:∃v,Fld Z h (A i) f.1 f.2.1 f.2.2 v):YgF Z n0 h' A K D W (ds.set i (cd,z,vs.set j w)):=by
 obtain⟨L,hn⟩:=CL cd q
 have H:=(Y.1 _ _ e).2
 unfold HdF at H
 rw[if_pos q] at H
 refine Y.wr e Wh ?_
 unfold HdF
 rw[if_pos q]
 refine⟨H.1.wr Wh,fun x u g hx hg=>?_⟩
 rw[List.getElem?_set] at hx
 split at hx
 ·rename_i q1
  subst q1
  cases hf.symm.trans hg
  split at hx
  ·cases hx
   obtain⟨v0,F⟩:=F
   exact F.same Wh
  ·cases hx
 ·rename_i q1
  have L1:=L _ (List.mem_of_getElem? hg)
  have L2:=L _ (List.mem_of_getElem? hf)
  obtain⟨t1,p1⟩:=L1.2
  obtain⟨t2,p2⟩:=L2.2
  obtain⟨g1,r1⟩:=List.getElem?_eq_some_iff.mp hg
  obtain⟨g2,r2⟩:=List.getElem?_eq_some_iff.mp hf
  have P':=List.pairwise_iff_getElem.mp hn
  have ne:g.2.1≠f.2.1:=by
   rcases Nat.lt_or_gt_of_ne q1 with y|y
   ·have:=P' j x (by simpa using g2) (by simpa using g1) y
    intro z
    apply this
    simp [r1,r2,z]
   ·have:=P' x j (by simpa using g1) (by simpa using g2) y
    intro z
    apply this
    simp [r1,r2,z]
  exact (H.2 x u g hx hg).other Wh (Or.inr (slot_ne L1.1 L2.1 ne p1 p2))
end
def Sit (p:Program)(l:Launch)(e:Env)(R:Room)(s:State)(m:MethodId)(args:Array Value)(below:List Frame)(meth:Method)(c:Code)(Z:State)(n0 nB:Nat)(hB:Heap)(T:State)(A:Nat→Addr)(K:Nat→ClassId)(D:Nat→UInt64)(W:Nat→Value)(ds:List AD)(cells slots:Nat):Prop :=
 ∃(h:Heap) (locs:List Loc),Stand p l e R s m args below meth c T locs cells slots∧T.heap=h∧YgF Z n0 h A K D W ds∧Keep hB h ((List.range nB).map A)∧(∀i,nB≤i→i<ds.length→hB.size≤A i)∧Fr n0 locs∧n0≤h.size∧nB≤ds.length
theorem ie {A:Nat→Addr}{nB i:Nat}{hB:Heap}{n:Nat}(hsz:∀i,nB≤i→i<n→hB.size≤A i)(hi:i<n):A i∈(List.range nB).map A∨hB.size≤A i:=by
 by_cases q:i<nB
 ·exact Or.inl (List.mem_map_of_mem (List.mem_range.mpr q))
 ·exact Or.inr (hsz i (Nat.le_of_not_lt q) hi)
def ql:FieldType→Value→Bool
 | .int,.int _=>true
 | .double,.double _=>true
 | .array _,.ref _=>true
 | .array _,.null=>true
 | .object _,.ref _=>true
 | .object _,.null=>true
 | _,_=>false
def gk (Z:State)(a0:Array Value)(own mn:String)(pw:Nat→Option FieldType)(P:eS):Prop:=∀i ty,pw i=some ty→∀cc j,P.1 i=some (cc,j)→∃f kk,(a_ cc)[j]? = some f∧((Jvm.Cond.lays (cI cc) f.1 f.2.1 f.2.2).before a0 Z=true∨((Jvm.Cond.laysFinal (cI cc) f.1 f.2.1 f.2.2).before a0 Z=true∧own=f.1∧mn = "<init>"))∧(Jvm.Cond.instantiable (cI cc) kk).before a0 Z=true∧parseFieldDescriptor f.2.2=some ty
def Ax (dk:DC)(P:eS)(pw:Nat→Option FieldType)(ds:List AD)(pc:Nat)(L:Array Slot)(st:List Value):Option (Nat×Array Slot×List Value×List AD) :=
 match dk pc with
 | .ok (.putfield i,3)=>match st with
  | v :: .ref a::r=>match pw i,P.1 i,ds[a]? with
   | some ty,some (cc,j),some d=>if d.1=cc∧ql ty v=true∧j<d.2.2.length then some (pc+3,L,r,ds.set a (d.1,d.2.1,d.2.2.set j v)) else none
   | _,_,_=>none
  | _=>none
 | .ok (.iastore,1)=>match st with
  | .int v :: .int j :: .ref a::r=>match ds[a]? with
   | some d=>if d.1=64∧0≤j.toInt∧j.toInt<(d.2.1:Int)∧d.2.1<2147483648∧j.toNatClampNeg<d.2.2.length then some (pc+1,L,r,ds.set a (d.1,d.2.1,d.2.2.set j.toNatClampNeg (.int v))) else none
   | none=>none
  | _=>none
 | .ok (.dastore,1)=>match st with
  | .double v :: .int j :: .ref a::r=>match ds[a]? with
   | some d=>if d.1=65∧0≤j.toInt∧j.toInt<(d.2.1:Int)∧d.2.1<2147483648∧j.toNatClampNeg<d.2.2.length then some (pc+1,L,r,ds.set a (d.1,d.2.1,d.2.2.set j.toNatClampNeg (.double v))) else none
   | none=>none
  | _=>none
 | .ok (.bastore,1)=>match st with
  | .int v :: .int j :: .ref a::r=>match ds[a]? with
   | some d=>if d.1=66∧0≤j.toInt∧j.toInt<(d.2.1:Int)∧d.2.1<2147483648∧j.toNatClampNeg<d.2.2.length then some (pc+1,L,r,ds.set a (d.1,d.2.1,d.2.2.set j.toNatClampNeg (.int (nar .boolean v)))) else none
   | none=>none
  | _=>none
 | .ok (.aastore,1)=>match st with
  | .ref v :: .int j :: .ref a::r=>match ds[a]?,ds[v]? with
   | some d,some dv=>if ((d.1=67∧dv.1=64)∨(d.1=68∧dv.1=65))∧0≤j.toInt∧j.toInt<(d.2.1:Int)∧d.2.1<2147483648∧j.toNatClampNeg<d.2.2.length then some (pc+1,L,r,ds.set a (d.1,d.2.1,d.2.2.set j.toNatClampNeg (.ref v))) else none
   | _,_=>none
  | _=>none
 | _=>none
theorem gB {j:Int32}(h:0≤j.toInt):j.toInt=(j.toNatClampNeg:Int):=by simp only[Int32.toNatClampNeg];omega
theorem H8 {A:Nat→Addr}{K:Nat→ClassId}{D:Nat→UInt64}{W:Nat→Value}{code:ByteArray}{own:String}{P:eS}{pw:Nat→Option FieldType}{n0 nB:Nat}{hB:Heap}{ds ds':List AD}(hx:p.tables.exec=Jvm.exec)(hby:c.code=code)(hZ:Z.Warmed39 s.vm)(hown:s.vm.findClass own=some m.cls)(hP:cL Z a0 own P)(hW:gk Z a0 own meth.name pw P)(CL:eU Z a0)(S:Sit p l e R s m args below meth c Z n0 nB hB T A K D W ds cells slots){pc pc':Nat}{L L':Array Slot}{st st':List Value}(hs:Ax (decode code) P pw ds pc L st=some (pc',L',st',ds'))
  (K_:∀T',Sit p l e R s m args below meth c Z n0 nB hB T' A K D W ds' cells slots→Go p e below Ev T' (mkF m pc' (L'.map (aZ A D W)) (st'.map (den A D W)))):Go p e below Ev T (mkF m pc (L.map (aZ A D W)) (st.map (den A D W))):=by
 subst hby
 obtain⟨h,locs,X,eT,Y,Kp,hsz,N,hn,hnB⟩:=S
 unfold Ax at hs
 split at hs
 ·next i hd =>
  split at hs
  ·next v a r =>
   split at hs
   ·next ty cc j d e0 e1 e2 =>
    split at hs
    ·next hc =>
     cases hs
     obtain⟨hlt,f,R0,host,hf,w,via⟩:=hP.1 i cc j e1
     obtain⟨f',kk,hf',hL,wi,hty⟩:=hW i ty e0 cc j e1
     cases hf.symm.trans hf'
     have hal:a<ds.length:=(List.getElem?_eq_some_iff.mp e2).1
     have H:=(Y.1 _ _ e2).2
     unfold HdF at H
     rw[if_pos (by rw[hc.1];exact hlt)] at H
     have hv0:d.2.2[j]? = some (d.2.2[j]'hc.2.2):=List.getElem?_eq_getElem hc.2.2
     have F:=H.2 j _ f hv0 (by rw[hc.1];exact hf)
     have E:=H.1
     rw[hc.1] at E
     have nf:narrow ty (den A D W v)=den A D W v∧fits ty (den A D W v)=true:=by
      have q:=hc.2.1
      cases ty<;>cases v<;>first|(simp [ql] at q;done)|exact⟨rfl,rfl⟩
     obtain⟨T',h',X',e',Wh,st'⟩:=putF X hx hZ hown (host:=host) w via eT F E hL wi hty nf.1 nf.2 (g:=mkF m pc _ _) rfl rfl hd
     refine (K_ T' ⟨h',_,X',e',?_,Kp.wr Wh (ie hsz hal),?_,Fr.snoc X' N (Y.1 _ _ e2).1,by rw[Wh.size];exact hn,by simpa using hnB⟩).on st'
     ·exact Y.wrF CL (cd:=d.1) (z:=d.2.1) (vs:=d.2.2) e2 (by rw[hc.1];exact hlt) (by rw[hc.1];exact hf) Wh ⟨_,F⟩
     ·intro i hi hl
      exact hsz i hi (by simpa using hl)
    ·cases hs
   ·cases hs
  ·cases hs
 ·next hd =>
  split at hs
  ·next v j a r =>
   split at hs
   ·next d e2 =>
    split at hs
    ·next hc =>
     cases hs
     have hal:a<ds.length:=(List.getElem?_eq_some_iff.mp e2).1
     have V:=((Y.1 _ _ e2).2.arr (by omega)).2.1
     have hz:=Int32.toInt_ofNat_small (n:=d.2.1) hc.2.2.2.1
     rw[hc.1] at V
     refine x8 X hx hZ eT V j.toNatClampNeg (gB hc.2.1) (by omega) (by simpa using hc.2.2.2.2) _ hd rfl ?_
     intro T' h' X' e' Wh V'
     refine K_ T' ⟨h',_,X',e',?_,Kp.wr Wh (ie hsz hal),?_,Fr.snoc X' N (Y.1 _ _ e2).1,by rw[Wh.size];exact hn,by simpa using hnB⟩
     ·exact Y.wrA (cd:=d.1) (z:=d.2.1) (vs:=d.2.2) e2 (by omega) Wh (by rw[hc.1,List.map_set];exact V')
     ·intro i hi hl
      exact hsz i hi (by simpa using hl)
    ·cases hs
   ·cases hs
  ·cases hs
 ·next hd =>
  split at hs
  ·next v j a r =>
   split at hs
   ·next d e2 =>
    split at hs
    ·next hc =>
     cases hs
     have hal:a<ds.length:=(List.getElem?_eq_some_iff.mp e2).1
     have V:=((Y.1 _ _ e2).2.arr (by omega)).2.1
     have hz:=Int32.toInt_ofNat_small (n:=d.2.1) hc.2.2.2.1
     rw[hc.1] at V
     refine x6 X hx hZ eT V j.toNatClampNeg (gB hc.2.1) (by omega) (by simpa using hc.2.2.2.2) _ hd rfl ?_
     intro T' h' X' e' Wh V'
     refine K_ T' ⟨h',_,X',e',?_,Kp.wr Wh (ie hsz hal),?_,Fr.snoc X' N (Y.1 _ _ e2).1,by rw[Wh.size];exact hn,by simpa using hnB⟩
     ·exact Y.wrA (cd:=d.1) (z:=d.2.1) (vs:=d.2.2) e2 (by omega) Wh (by rw[hc.1,List.map_set];exact V')
     ·intro i hi hl
      exact hsz i hi (by simpa using hl)
    ·cases hs
   ·cases hs
  ·cases hs
 ·next hd =>
  split at hs
  ·next v j a r =>
   split at hs
   ·next d e2 =>
    split at hs
    ·next hc =>
     cases hs
     have hal:a<ds.length:=(List.getElem?_eq_some_iff.mp e2).1
     have V:=((Y.1 _ _ e2).2.arr (by omega)).2.1
     have hz:=Int32.toInt_ofNat_small (n:=d.2.1) hc.2.2.2.1
     rw[hc.1] at V
     refine ya X hx hZ eT V j.toNatClampNeg (gB hc.2.1) (by omega) (by simpa using hc.2.2.2.2) _ rfl _ hd rfl ?_
     intro T' h' X' e' Wh V'
     refine K_ T' ⟨h',_,X',e',?_,Kp.wr Wh (ie hsz hal),?_,Fr.snoc X' N (Y.1 _ _ e2).1,by rw[Wh.size];exact hn,by simpa using hnB⟩
     ·exact Y.wrA (cd:=d.1) (z:=d.2.1) (vs:=d.2.2) e2 (by omega) Wh (by rw[hc.1,List.map_set];exact V')
     ·intro i hi hl
      exact hsz i hi (by simpa using hl)
    ·cases hs
   ·cases hs
  ·cases hs
 ·next hd =>
  split at hs
  ·next v j a r =>
   split at hs
   ·next d dv e2 e3 =>
    split at hs
    ·next hc =>
     cases hs
     have hal:a<ds.length:=(List.getElem?_eq_some_iff.mp e2).1
     have HA:=(Y.1 _ _ e2).2.arr (by omega)
     have HV:=(Y.1 _ _ e3).2.arr (by omega)
     have hz:=Int32.toInt_ofNat_small (n:=d.2.1) hc.2.2.2.1
     have V:=HA.2.1
     rcases hc.1 with ⟨q1,q2⟩|⟨q1,q2⟩
     ·rw[q1] at V
      have I:=HV.1
      rw[q2] at I
      refine mr X hx hZ eT V (HA.2.2.1 q1) (Ins.self I) j.toNatClampNeg (gB hc.2.1) (by omega) (by simpa using hc.2.2.2.2) _ hd rfl ?_
      intro T' h' X' e' Wh V'
      refine K_ T' ⟨h',_,X',e',?_,Kp.wr Wh (ie hsz hal),?_,Fr.snoc X' N (Y.1 _ _ e2).1,by rw[Wh.size];exact hn,by simpa using hnB⟩
      ·exact Y.wrA (cd:=d.1) (z:=d.2.1) (vs:=d.2.2) e2 (by omega) Wh (by rw[q1,List.map_set];exact V')
      ·intro i hi hl
       exact hsz i hi (by simpa using hl)
     ·rw[q1] at V
      have I:=HV.1
      rw[q2] at I
      refine mr X hx hZ eT V (HA.2.2.2 q1) (Ins.self I) j.toNatClampNeg (gB hc.2.1) (by omega) (by simpa using hc.2.2.2.2) _ hd rfl ?_
      intro T' h' X' e' Wh V'
      refine K_ T' ⟨h',_,X',e',?_,Kp.wr Wh (ie hsz hal),?_,Fr.snoc X' N (Y.1 _ _ e2).1,by rw[Wh.size];exact hn,by simpa using hnB⟩
      ·exact Y.wrA (cd:=d.1) (z:=d.2.1) (vs:=d.2.2) e2 (by omega) Wh (by rw[q1,List.map_set];exact V')
      ·intro i hi hl
       exact hsz i hi (by simpa using hl)
    ·cases hs
   ·cases hs
  ·cases hs
 ·cases hs
end OwnExecW
section OwnExecN
variable {p:Program}{l:Launch}{e:Env}{R:Room}{s:State}{m:MethodId}{args:Array Value}{below:List Frame}{meth:Method}{c:Code}{T:State}{locs:List Loc}{cells slots:Nat}{Z:State}{a0:Array Value}{h h':Heap}{Ev:State→Outcome→Prop}
def okV (nA nD:Nat):Value→Bool
 | .ref i=>decide (i<nA)
 | .double j=>decide (j.toNat<nD)||decide (4096≤j.toNat)
 | .float j=>decide (j.toNat<nD)||decide (4096≤j.toNat)
 | _=>true
def okS (nA nD:Nat):Slot→Bool
 | .val v=>okV nA nD v
 | _=>true
def okD (nA nD:Nat)(d:AD):Bool:=d.2.2.all (okV nA nD)
def fq (nA nD:Nat)(L:Array Slot)(st:List Value)(ds:List AD):Bool:=L.toList.all (okS nA nD)&&(st.all (okV nA nD)&&ds.all (okD nA nD))
section
variable {A A':Nat→Addr}{K K':Nat→ClassId}{D D':Nat→UInt64}{W:Nat→Value}{nA nD n0:Nat}{ds:List AD}{a:Addr}{k:ClassId}{d:AD}
theorem pl (hA:∀i,i<nA→A' i=A i)(hD:∀j,j<nD→D' j=D j){v:Value}(h:okV nA nD v=true):den A' D' W v=den A D W v:=by
 cases v with
 | ref i=>simp only[okV,decide_eq_true_eq] at h;simp only[den,hA i h]
 | double j =>
  simp only[okV,Bool.or_eq_true,decide_eq_true_eq] at h
  simp only[den,dX]
  split
  ·rename_i q
   rw[hD _ (by omega)]
  ·rfl
 | float j =>
  simp only[okV,Bool.or_eq_true,decide_eq_true_eq] at h
  simp only[den,dX]
  split
  ·rename_i q
   rw[hD _ (by omega)]
  ·rfl
 | _=>rfl
theorem H9 (hA:∀i,i<nA→A' i=A i)(hD:∀j,j<nD→D' j=D j){v:Slot}(h:okS nA nD v=true):aZ A' D' W v=aZ A D W v:=by
 cases v with
 | val v=>simp only[aZ,pl hA hD h]
 | _=>rfl
theorem gW (hA:∀i,i<nA→A' i=A i)(hD:∀j,j<nD→D' j=D j){L:Array Slot}(h:L.toList.all (okS nA nD)=true):L.map (aZ A' D' W)=L.map (aZ A D W):=by
 refine Array.map_congr_left fun x hx=>H9 hA hD ?_
 exact List.all_eq_true.mp h x (by simpa using hx)
theorem eH (hA:∀i,i<nA→A' i=A i)(hD:∀j,j<nD→D' j=D j){L:List Value}(h:L.all (okV nA nD)=true):L.map (den A' D' W)=L.map (den A D W):=List.map_congr_left fun x hx=>pl hA hD (List.all_eq_true.mp h x hx)
theorem HdF.env (hA:∀i,i<nA→A' i=A i)(hD:∀j,j<nD→D' j=D j)(hd:okD nA nD d=true)(H:HdF Z h a k A D W d):HdF Z h a k A' D' W d:=by
 unfold HdF at H ⊢
 split at H
 ·rename_i q
  rw[if_pos q]
  refine⟨H.1,fun j v f h1 h2=>?_⟩
  rw[pl hA hD (List.all_eq_true.mp hd v (List.mem_of_getElem? h1))]
  exact H.2 j v f h1 h2
 ·rename_i q
  rw[if_neg q,eH hA hD hd]
  exact H
theorem YgF.ext (Y:YgF Z n0 h A K D W ds)(E:Ext h h'):YgF Z n0 h' A K D W ds:=⟨fun i d hi=>⟨(Y.1 i d hi).1,(Y.1 i d hi).2.ext E⟩,Y.2⟩
theorem YgF.env (Y:YgF Z n0 h A K D W ds)(hA:∀i,i<ds.length→A' i=A i)(hK:∀i,i<ds.length→K' i=K i)(hD:∀j,j<nD→D' j=D j)(hd:ds.all (okD ds.length nD)=true):YgF Z n0 h A' K' D' W ds:=by
 refine⟨fun i d hi=>?_,fun i j hi hj q=>Y.2 i j hi hj (by rw[←hA i hi,←hA j hj];exact q)⟩
 have hl:i<ds.length:=(List.getElem?_eq_some_iff.mp hi).1
 rw[hA i hl,hK i hl]
 exact⟨(Y.1 i d hi).1,(Y.1 i d hi).2.env hA hD (List.all_eq_true.mp hd d (List.mem_of_getElem? hi))⟩
theorem YgF.push (Y:YgF Z n0 h A K D W ds)(hd:ds.all (okD ds.length nD)=true)(g:a=h.size)(z:n0≤h.size)(E:Ext h h')(H:HdF Z h' a k (fun i=>if i=ds.length then a else A i) D W d):YgF Z n0 h' (fun i=>if i=ds.length then a else A i) (fun i=>if i=ds.length then k else K i) D W (ds++[d]):=by
 have hA:∀i,i<ds.length→(if i=ds.length then a else A i)=A i:=fun i hi=>if_neg (by omega)
 have hK:∀i,i<ds.length→(if i=ds.length then k else K i)=K i:=fun i hi=>if_neg (by omega)
 have Y':=(Y.env (A':=fun i=>if i=ds.length then a else A i) (K':=fun i=>if i=ds.length then k else K i) (nD:=nD) hA hK (fun _ _=>rfl) hd).ext E
 refine⟨fun i x hi=>?_,fun i j hi hj q=>?_⟩
 ·by_cases q:i<ds.length
  ·rw[List.getElem?_append_left q] at hi
   exact Y'.1 i x hi
  ·rw[List.getElem?_append_right (by omega)] at hi
   have e0:i=ds.length:=by
    have:=(List.getElem?_eq_some_iff.mp hi).1
    simp at this
    omega
   subst e0
   simp only[Nat.sub_self,List.getElem?_cons_zero,Option.some.injEq] at hi
   subst hi
   simp only[if_true]
   exact⟨by rw[g];exact z,H⟩
 ·rw[List.length_append,List.length_singleton] at hi hj
  have lt:∀i,i<ds.length→A i<h.size:=fun i hi=>(Y.1 i _ (List.getElem?_eq_getElem hi)).2.lt
  by_cases q1:i=ds.length<;>by_cases q2:j=ds.length
  ·omega
  ·exfalso
   have:=lt j (by omega)
   simp only[q1,if_true,if_neg q2] at q
   rw[g] at q
   exact absurd q (Nat.ne_of_gt this)
  ·exfalso
   have:=lt i (by omega)
   simp only[q2,if_true,if_neg q1] at q
   rw[g] at q
   exact absurd q (Nat.ne_of_lt this)
  ·simp only[if_neg q1,if_neg q2] at q
   exact Y.2 i j (by omega) (by omega) q
end
def iQ (Z:State)(a0:Array Value)(own:String)(nw:Nat→Option (Nat×Nat)):Prop:=∀i cc n,nw i=some (cc,n)→cc<64∧(Jvm.Cond.classLink own i (cI cc)).before a0 Z=true∧(Jvm.Cond.instantiable (cI cc) n).before a0 Z=true∧(Jvm.Cond.initialized (cI cc)).before a0 Z=true∧∀(j:Nat)(v:Value)(f:String×String×String),(gV cc)[j]? = some v→(a_ cc)[j]? = some f→Laid Z a0 (cI cc) f.1 f.2.1 f.2.2∧∃t,parseFieldDescriptor f.2.2=some t∧∀(A:Nat→Addr)(D:Nat→UInt64)(W:Nat→Value),D 0=0→den A D W v=defaultValue t
def fr (Z:State)(a0:Array Value):Prop:=(Jvm.Cond.arrayClass .int).before a0 Z=true∧(Jvm.Cond.arrayClass .double).before a0 Z=true∧(Jvm.Cond.arrayClass .boolean).before a0 Z=true∧(Jvm.Cond.arrayOver (.array .int)).before a0 Z=true∧(Jvm.Cond.arrayOver (.array .double)).before a0 Z=true
def uO:ArrayType→Option Nat
 | .int=>some 64
 | .double=>some 65
 | .boolean=>some 66
 | _=>none
def ig (n:Nat):Nat:=if n≤20 then n else 4
def pm (cd:Nat):Value:=if cd=65 then .double 0 else if cd=67∨cd=68 then .null else .int 0
def NL (dk:DC)(P:eS)(nw:Nat→Option (Nat×Nat))(nD:Nat)(ds:List AD)(pc:Nat)(L:Array Slot)(st:List Value):Option (Nat×List Value×AD×Nat) :=
 match dk pc with
 | .ok (.new i,3)=>match nw i with
  | some (cc,n)=>if fq ds.length nD L st ds=true then some (pc+3,.ref ds.length::st,(cc,0,gV cc),n) else none
  | none=>none
 | .ok (.newarray t,2)=>match uO t,st with
  | some cd,.int n::r=>if fq ds.length nD L r ds=true∧0≤n.toInt∧n.toInt≤1000 then some (pc+2,.ref ds.length::r,(cd,n.toNatClampNeg,List.replicate (ig n.toNatClampNeg) (pm cd)),n.toNatClampNeg) else none
  | _,_=>none
 | .ok (.anewarray i,3)=>match P.2.1 i,st with
  | some C,.int n::r=>if fq ds.length nD L r ds=true∧0≤n.toInt∧n.toInt≤1000∧(C = "[I"∨C = "[D") then some (pc+3,.ref ds.length::r,(if C = "[I" then 67 else 68,n.toNatClampNeg,List.replicate (ig n.toNatClampNeg) .null),n.toNatClampNeg) else none
  | _,_=>none
 | _=>none
theorem l5 {n:Int32}(h:0≤n.toInt):Int32.ofNat n.toNatClampNeg=n:=by
 refine Int32.toInt_inj.mp ?_
 have r:=rng32 n
 rw[Int32.toInt_ofNat_small (by simp only[Int32.toNatClampNeg];omega)]
 exact (gB h).symm
theorem H_ {D:Nat→UInt64}{A:Nat→Addr}{W:Nat→Value}(hD0:D 0=0)(cd n:Nat):(List.replicate n (pm cd)).map (den A D W)=List.replicate n (eG cd)∨¬(64≤cd∧cd≤68):=by
 by_cases h:64≤cd∧cd≤68
 ·left
  rw[List.map_replicate]
  have q:cd=64∨cd=65∨cd=66∨cd=67∨cd=68:=by omega
  rcases q with rfl|rfl|rfl|rfl|rfl
  ·rfl
  ·show List.replicate n (Value.double (dX D 0))=List.replicate n (Value.double 0)
   rw[show dX D 0=0 from hD0]
  ·rfl
  ·rfl
  ·rfl
 ·exact Or.inr h
theorem Ia {A:Nat→Addr}{K:Nat→ClassId}{D:Nat→UInt64}{W:Nat→Value}{code:ByteArray}{own:String}{P:eS}{nw:Nat→Option (Nat×Nat)}{n0 nB nD:Nat}{hB:Heap}{ds:List AD}{d:AD}{w:Nat}(hx:p.tables.exec=Jvm.exec)(hby:c.code=code)(hZ:Z.Warmed39 s.vm)(hown:s.vm.findClass own=some m.cls)(hP:cL Z a0 own P)(hN:iQ Z a0 own nw)(hA:fr Z a0)(hD0:D 0=0)(S:Sit p l e R s m args below meth c Z n0 nB hB T A K D W ds cells slots)(hc:cells+1≤R.cells)(hl:slots+w≤R.slots){pc pc':Nat}{L:Array Slot}{st st':List Value}(hs:NL (decode code) P nw nD ds pc L st=some (pc',st',d,w))
  (K_:∀T' A' K',(∀i,i<ds.length→A' i=A i∧K' i=K i)→Sit p l e R s m args below meth c Z n0 nB hB T' A' K' D W (ds++[d]) (cells+1) (slots+w)→Go p e below Ev T' (mkF m pc' (L.map (aZ A' D W)) (st'.map (den A' D W)))):Go p e below Ev T (mkF m pc (L.map (aZ A D W)) (st.map (den A D W))):=by
 subst hby
 obtain⟨h,locs,X,eT,Y,Kp,hsz,N,hn,hnB⟩:=S
 have go:∀(T':State) (h':Heap) (a:Addr) (k:ClassId) (st1:List Value),a=h.size→Stand p l e R s m args below meth c T' locs (cells+1) (slots+w)→T'.heap=h'→Ext h h'→fq ds.length nD L st1 ds=true→HdF Z h' a k (fun i=>if i=ds.length then a else A i) D W d→st' = .ref ds.length::st1→Go p e below Ev T' (mkF m pc' (L.map (aZ A D W)) (.ref a::st1.map (den A D W))):=by
  intro T' h' a k st1 g X' e' E ok H es
  subst es
  simp only[fq,Bool.and_eq_true] at ok
  have hA:∀i,i<ds.length→(if i=ds.length then a else A i)=A i:=fun i hi=>if_neg (by omega)
  have G:=K_ T' (fun i=>if i=ds.length then a else A i) (fun i=>if i=ds.length then k else K i) (fun i hi=>⟨hA i hi,if_neg (by omega)⟩) ⟨h',locs,X',e',Y.push ok.2.2 g hn E H,?_,?_,N,Nat.le_trans hn E.1,by rw[List.length_append];omega⟩
  ·rw[gW (nD:=nD) hA (fun _ _=>rfl) ok.1,List.map_cons,eH (nD:=nD) hA (fun _ _=>rfl) ok.2.1] at G
   simpa [den] using G
  ·have e1:(List.range nB).map (fun i=>if i=ds.length then a else A i)=(List.range nB).map A:=List.map_congr_left fun i hi=>hA i (by have:=List.mem_range.mp hi;omega)
   rw[e1]
   exact Kp.ext E
  ·intro i hi hil
   rw[List.length_append,List.length_singleton] at hil
   by_cases q:i=ds.length
   ·simp only[q,if_true,g]
    exact Kp.1
   ·simp only[if_neg q]
    exact hsz i hi (by omega)
 unfold NL at hs
 split at hs
 ·next i hd =>
  split at hs
  ·next cc n e0 =>
   split at hs
   ·next ok =>
    obtain⟨hlt,w1,w2,w3,dv⟩:=hN i cc n e0
    cases hs
    refine Pm X hx hZ hown w1 w2 w3 eT _ hd rfl hc hl ?_
    intro T' h' a g X' e' E Ea Dv
    refine go T' h' a 0 _ g X' e' E ok ?_ rfl
    unfold HdF
    rw[if_pos hlt]
    refine⟨Ea,fun j v f h1 h2=>?_⟩
    obtain⟨ld,t,ht,hv⟩:=dv j v f h1 h2
    rw[hv _ _ _ hD0]
    exact Dv ld ht
   ·cases hs
  ·cases hs
 ·next t hd =>
  split at hs
  ·next cd n r ht =>
   split at hs
   ·next ok =>
    cases hs
    have hcap:n.toInt≤(n.toNatClampNeg:Int):=by rw[gB ok.2.1];exact Int.le_refl _
    have fin:∀(T':State) (h':Heap) (k:ClassId) (a:Addr),a=h.size→Stand p l e R s m args below meth c T' locs (cells+1) (slots+n.toNatClampNeg)→T'.heap=h'→Ext h h'→Arv Z h' a k (eF cd) n [] (eG cd)→Exa Z h' a (fZ cd)→64≤cd∧cd≤66→Go p e below Ev T' (mkF m (pc+2) (L.map (aZ A D W)) (.ref a::r.map (den A D W))):=by
     intro T' h' k a g X' e' E V Ea hcd
     refine go T' h' a k r g X' e' E ok.1 ?_ rfl
     unfold HdF
     rw[if_neg (by omega)]
     refine⟨Ea,?_,fun q=>by omega,fun q=>by omega⟩
     show Arv Z h' a k (eF cd) (Int32.ofNat n.toNatClampNeg) ((List.replicate (ig n.toNatClampNeg) (pm cd)).map (den _ D W)) (eG cd)
     rw[l5 ok.2.1]
     rcases H_ (A:=fun i=>if i=ds.length then a else A i) (W:=W) hD0 cd (ig n.toNatClampNeg) with q|q
     ·rw[q];exact V.pad (pad_rep [] _ _)
     ·omega
    cases t<;>simp only[uO] at ht<;>first|(cases ht;done)|skip
    all_goals
     cases ht
     first
     | exact tf X hx hZ (aty := .boolean) hA.2.2.1 eT ok.2.1 (cap:=n.toNatClampNeg) hcap (by simp only[Int32.toNatClampNeg];omega) _ hd rfl hc hl (ad := "[Z") (by decide) (fun T' h' k a g X' e' E V Ea=>fin T' h' k a g X' e' E V Ea (by decide))
     | exact tf X hx hZ (aty := .int) hA.1 eT ok.2.1 (cap:=n.toNatClampNeg) hcap (by simp only[Int32.toNatClampNeg];omega) _ hd rfl hc hl (ad := "[I") (by decide) (fun T' h' k a g X' e' E V Ea=>fin T' h' k a g X' e' E V Ea (by decide))
     | exact tf X hx hZ (aty := .double) hA.2.1 eT ok.2.1 (cap:=n.toNatClampNeg) hcap (by simp only[Int32.toNatClampNeg];omega) _ hd rfl hc hl (ad := "[D") (by decide) (fun T' h' k a g X' e' E V Ea=>fin T' h' k a g X' e' E V Ea (by decide))
   ·cases hs
  ·cases hs
 ·next i hd =>
  split at hs
  ·next C n r hC =>
   split at hs
   ·next ok =>
    cases hs
    have hcap:n.toInt≤(n.toNatClampNeg:Int):=by rw[gB ok.2.1];exact Int.le_refl _
    have wl:=hP.2.1 i C hC
    rcases ok.2.2.2 with rfl|rfl
    ·refine uN X hx hZ hown (ty := .int) (C := "[I") (by decide) wl hA.2.2.2.1 eT ok.2.1 (cap:=n.toNatClampNeg) hcap (by simp only[Int32.toNatClampNeg];omega) _ hd rfl hc hl (ad := "[[I") (by decide) ?_
     intro T' h' k a g X' e' E V Ea O
     refine go T' h' a k r g X' e' E ok.1 ?_ rfl
     show HdF Z h' a k _ D W (67,n.toNatClampNeg,List.replicate (ig n.toNatClampNeg) .null)
     unfold HdF
     rw[if_neg (show ¬(67:Nat)<64 by decide)]
     refine⟨Ea,?_,fun _=>O,fun q=>absurd q (show ¬(67:Nat)=68 by decide)⟩
     show Arv Z h' a k (.array .int) (Int32.ofNat n.toNatClampNeg) ((List.replicate (ig n.toNatClampNeg) Value.null).map (den _ D W)) .null
     rw[l5 ok.2.1,List.map_replicate]
     exact V.pad (pad_rep [] _ _)
    ·refine uN X hx hZ hown (ty := .double) (C := "[D") (by decide) wl hA.2.2.2.2 eT ok.2.1 (cap:=n.toNatClampNeg) hcap (by simp only[Int32.toNatClampNeg];omega) _ hd rfl hc hl (ad := "[[D") (by decide) ?_
     intro T' h' k a g X' e' E V Ea O
     refine go T' h' a k r g X' e' E ok.1 ?_ rfl
     show HdF Z h' a k _ D W (68,n.toNatClampNeg,List.replicate (ig n.toNatClampNeg) .null)
     unfold HdF
     rw[if_neg (show ¬(68:Nat)<64 by decide)]
     refine⟨Ea,?_,fun q=>absurd q (show ¬(68:Nat)=67 by decide),fun _=>O⟩
     show Arv Z h' a k (.array .double) (Int32.ofNat n.toNatClampNeg) ((List.replicate (ig n.toNatClampNeg) Value.null).map (den _ D W)) .null
     rw[l5 ok.2.1,List.map_replicate]
     exact V.pad (pad_rep [] _ _)
   ·cases hs
  ·cases hs
 ·cases hs
end OwnExecN
section OwnExecC
open Jvm.Free.Fl (NoNaN64)
variable {p:Program}{l:Launch}{e:Env}{R:Room}{s:State}{m:MethodId}{args:Array Value}{below:List Frame}{meth:Method}{c:Code}{T:State}{locs:List Loc}{cells slots:Nat}{Z:State}{a0:Array Value}{h h':Heap}{Ev:State→Outcome→Prop}
abbrev Op:=Nat×Nat×Nat×Int32
def aa (cd:Nat)(x y:Int32):Int32:=if cd=20 then x+y else if cd=21 then x-y else if cd=22 then x*y else if cd=23 then x&&&y else if cd=24 then x<<<(y&&&31) else if cd=25 then x>>>(y&&&31) else (x.toUInt32>>>(y&&&31).toUInt32).toInt32
def mt (cd:Nat)(x y:UInt64):UInt64 :=
 if cd=0 then FP.dadd x y else if cd=1 then FP.dsub x y else if cd=2 then FP.dmul x y else if cd=3 then FP.ddiv x y else if cd=4 then x&&&0x7fffffffffffffff else if cd=5 then Jvm.Native.java_lang_Math.nans.pick64 true x y else if cd=6 then FP.dneg x else if cd=7 then FP.i2d (iW x) else ab (aa cd (iW x) (iW y))
def vc1 (o:Op)(D:Nat→UInt64):Prop :=
 if o.1≤3 then NoNaN64 (mt o.1 (dX D o.2.1) (dX D o.2.2.1))
 else if o.1=4 then NoNaN64 (dX D o.2.1)
 else if o.1=5 then NoNaN64 (dX D o.2.1)∧NoNaN64 (dX D o.2.2.1)
 else if o.1≤7 then True
 else if o.1=10 then cmpValue (FP.dcmp (dX D o.2.1) (dX D o.2.2.1)) .l=o.2.2.2
 else if o.1=11 then cmpValue (FP.dcmp (dX D o.2.1) (dX D o.2.2.1)) .g=o.2.2.2
 else if o.1=12 then (if o.2.2.2=0 then (cmpValue (FP.dcmp (dX D o.2.1) (dX D o.2.2.1)) .l).toInt=0 else (cmpValue (FP.dcmp (dX D o.2.1) (dX D o.2.2.1)) .l).toInt≠0)
 else if o.1=13 then (if o.2.2.2=0 then (iW (dX D o.2.1)).toInt=0 else (iW (dX D o.2.1)).toInt≠0)
 else if o.1=15 then (if o.2.2.2=0 then (iW (dX D o.2.2.1)).toInt<(iW (dX D o.2.1)).toInt else (iW (dX D o.2.1)).toInt≤(iW (dX D o.2.2.1)).toInt)
 else True
def nxD (o:Op)(n:Nat)(D:Nat→UInt64):Nat→UInt64:=if o.1≤7∨20≤o.1 then (fun i=>if i=n then mt o.1 (dX D o.2.1) (dX D o.2.2.1) else D i) else D
def nxN (o:Op)(n:Nat):Nat:=if o.1≤7∨20≤o.1 then n+1 else n
def okv:List Op→Nat→(Nat→UInt64)→Prop
 | [],_,_=>True
 | o::t,n,D=>vc1 o D∧okv t (nxN o n) (nxD o n D)
def ca:List Op→Nat→(Nat→UInt64)→Nat→UInt64
 | [],_,D=>D
 | o::t,n,D=>ca t (nxN o n) (nxD o n D)
def fH:List Op→Nat→Nat
 | [],n=>n
 | o::t,n=>fH t (nxN o n)
theorem pn:∀(a b:List Op)(n:Nat)(D:Nat→UInt64),okv (a++b) n D↔okv a n D∧okv b (fH a n) (ca a n D)
 | [],b,n,D=>by simp [okv,fH,ca]
 | o::t,b,n,D=>by
  show vc1 o D∧okv (t++b) (nxN o n) (nxD o n D)↔(vc1 o D∧okv t (nxN o n) (nxD o n D))∧okv b (fH t (nxN o n)) (ca t (nxN o n) (nxD o n D))
  rw[pn t b]
  constructor
  ·rintro ⟨h1,h2,h3⟩;exact⟨⟨h1,h2⟩,h3⟩
  ·rintro ⟨⟨h1,h2⟩,h3⟩;exact⟨h1,h2,h3⟩
theorem mu:∀(a b:List Op)(n:Nat)(D:Nat→UInt64),ca (a++b) n D=ca b (fH a n) (ca a n D)
 | [],_,_,_=>rfl
 | o::t,b,n,D=>mu t b (nxN o n) (nxD o n D)
theorem mv (o:Op)(n:Nat):n≤nxN o n:=by unfold nxN;split<;>omega
theorem jo:∀(t:List Op)(n:Nat),n≤fH t n
 | [],n=>Nat.le_refl n
 | o::t,n=>Nat.le_trans (mv o n) (jo t (nxN o n))
theorem po (o:Op)(n:Nat)(D:Nat→UInt64){i:Nat}(h:i<n):nxD o n D i=D i:=by
 unfold nxD
 split
 ·exact if_neg (by omega)
 ·rfl
theorem fk:∀(t:List Op)(n:Nat)(D:Nat→UInt64){i:Nat},i<n→ca t n D i=D i
 | [],_,_,_,_=>rfl
 | o::t,n,D,i,h=>(fk t (nxN o n) (nxD o n D) (Nat.lt_of_lt_of_le h (mv o n))).trans (po o n D h)
def pA (π:List Nat)(n nc i:Nat):Nat:=if i<nc then π.getD i 0 else n+(i-nc)
def pD (δ:List Nat)(n nc j:Nat):Nat:=if j<4096 then (if j<nc then δ.getD j 0 else n+(j-nc)) else j
def sb (π δ:List Nat) (ω:List Value)(n nc nD mD:Nat):Value→Value
 | .ref i => .ref (pA π n nc i)
 | .double j => .double (UInt64.ofNat (pD δ nD mD j.toNat))
 | .retAddr k=>ω.getD k .null
 | .int x => .int x
 | .long x => .long x
 | .float j=>if pD δ nD mD j.toNat<4096 then .float (UInt32.ofNat (pD δ nD mD j.toNat)) else .int (iW (UInt64.ofNat (pD δ nD mD j.toNat)))
 | .null => .null
def sbO (δ:List Nat)(nD mD:Nat)(o:Op):Op:=(o.1,pD δ nD mD o.2.1,pD δ nD mD o.2.2.1,o.2.2.2)
def sbD (π δ:List Nat) (ω:List Value)(n nc nD mD:Nat)(d:AD):AD:=(d.1,d.2.1,d.2.2.map (sb π δ ω n nc nD mD))
theorem I2 {D:Nat→UInt64}{x:Nat}(h:x<18446744073709551616):dX D (UInt64.ofNat x).toNat=dX D x:=by
 rw[UInt64.toNat_ofNat_of_lt' (by show x<18446744073709551616;exact h)]
def mw:Value→Option Nat
 | .float k=>some k.toNat
 | .int n=>some (n.toUInt32.toNat+1099511627776)
 | _=>none
theorem l6 {A:Nat→Addr}{D:Nat→UInt64}{W:Nat→Value}{v:Value}{i:Nat}(h:mw v=some i):den A D W v = .int (iW (dX D i)):=by
 cases v with
 | float k=>cases h;rfl
 | int n =>
  cases h
  have e1:dX D (n.toUInt32.toNat+1099511627776)=UInt64.ofNat (n.toUInt32.toNat+1099511627776):=if_neg (by omega)
  have e2:UInt32.ofNat (n.toUInt32.toNat+1099511627776)=n.toUInt32:=by
   rw[UInt32.ofNat_add,UInt32.ofNat_toNat,show UInt32.ofNat 1099511627776=0 from rfl,UInt32.add_zero]
  unfold iW
  rw[e1,UInt64.toUInt32_ofNat',e2]
  rfl
 | _=>cases h
def NM:Instr→Option Nat
 | .iadd=>some 20 | .isub=>some 21 | .imul=>some 22 | .iand=>some 23 | .ishl=>some 24 | .ishr=>some 25 | .iushr=>some 26
 | _=>none
def NN (dk:DC)(nD:Nat)(ds:List AD)(orc:List Int32)(pc:Nat)(L:Array Slot)(st:List Value):Option (Nat×List Value×Op×List Int32) :=
 match dk pc with
 | .ok (.dadd,1)=>match st with
  | .double y :: .double x::r=>if fq ds.length nD L r ds=true∧nD<4096 then some (pc+1,.double (UInt64.ofNat nD)::r,(0,x.toNat,y.toNat,0),orc) else none
  | _=>none
 | .ok (.dsub,1)=>match st with
  | .double y :: .double x::r=>if fq ds.length nD L r ds=true∧nD<4096 then some (pc+1,.double (UInt64.ofNat nD)::r,(1,x.toNat,y.toNat,0),orc) else none
  | _=>none
 | .ok (.dmul,1)=>match st with
  | .double y :: .double x::r=>if fq ds.length nD L r ds=true∧nD<4096 then some (pc+1,.double (UInt64.ofNat nD)::r,(2,x.toNat,y.toNat,0),orc) else none
  | _=>none
 | .ok (.ddiv,1)=>match st with
  | .double y :: .double x::r=>if fq ds.length nD L r ds=true∧nD<4096 then some (pc+1,.double (UInt64.ofNat nD)::r,(3,x.toNat,y.toNat,0),orc) else none
  | _=>none
 | .ok (.dneg,1)=>match st with
  | .double x::r=>if fq ds.length nD L r ds=true∧nD<4096 then some (pc+1,.double (UInt64.ofNat nD)::r,(6,x.toNat,0,0),orc) else none
  | _=>none
 | .ok (.dcmp .g,1)=>match st,orc with
  | .double y :: .double x::r,z::oc=>some (pc+1,.int z::r,(11,x.toNat,y.toNat,z),oc)
  | _,_=>none
 | .ok (.dcmp .l,1)=>match dk (pc+1) with
  | .ok (.ifCond .eq o,3)=>match st,orc with
   | .double y :: .double x::r,z::oc=>if 0≤((pc+1:Nat):Int)+o then some (if z=0 then (((pc+1:Nat):Int)+o).toNat else pc+4,r,(12,x.toNat,y.toNat,z),oc) else none
   | _,_=>none
  | .ok (.ifCond .ne o,3)=>match st,orc with
   | .double y :: .double x::r,z::oc=>if 0≤((pc+1:Nat):Int)+o then some (if z=0 then pc+4 else (((pc+1:Nat):Int)+o).toNat,r,(12,x.toNat,y.toNat,z),oc) else none
   | _,_=>none
  | _=>match st,orc with
   | .double y :: .double x::r,z::oc=>some (pc+1,.int z::r,(10,x.toNat,y.toNat,z),oc)
   | _,_=>none
 | .ok (.i2d,1)=>match st with
  | .float x::r=>if fq ds.length nD L r ds=true∧nD<4096 then some (pc+1,.double (UInt64.ofNat nD)::r,(7,x.toNat,0,0),orc) else none
  | _=>none
 | .ok (.ifCond .eq o,3)=>match st,orc with
  | .float x::r,z::oc=>if 0≤(pc:Int)+o then some (if z=0 then ((pc:Int)+o).toNat else pc+3,r,(13,x.toNat,0,z),oc) else none
  | _,_=>none
 | .ok (.ifCond .ne o,3)=>match st,orc with
  | .float x::r,z::oc=>if 0≤(pc:Int)+o then some (if z=0 then pc+3 else ((pc:Int)+o).toNat,r,(13,x.toNat,0,z),oc) else none
  | _,_=>none
 | .ok (.if_icmp .gt o,3)=>match st,orc with
  | y::x::r,z::oc=>match mw y,mw x with
   | some j,some i=>if 0≤(pc:Int)+o then some (if z=0 then ((pc:Int)+o).toNat else pc+3,r,(15,i,j,z),oc) else none
   | _,_=>none
  | _,_=>none
 | .ok (op,1)=>match NM op,st with
  | some cd,y::x::r=>match mw y,mw x with
   | some j,some i=>if fq ds.length nD L r ds=true∧nD<4096 then some (pc+1,.float (UInt32.ofNat nD)::r,(cd,i,j,0),orc) else none
   | _,_=>none
  | _,_=>none
 | _=>none
theorem my {A:Nat→Addr}{D:Nat→UInt64}{W:Nat→Value}{nD:Nat}{x:UInt64}(h:nD<4096):den A (fun i=>if i=nD then x else D i) W (.double (UInt64.ofNat nD)) = .double x:=by
 simp only[den]
 rw[I2 (by omega)]
 simp [dX,h]
theorem Sit.dbl {n0 nB nD:Nat}{hB:Heap}{A:Nat→Addr}{K:Nat→ClassId}{D D':Nat→UInt64}{W:Nat→Value}{ds:List AD}(S:Sit p l e R s m args below meth c Z n0 nB hB T A K D W ds cells slots)(hD:∀j,j<nD→D' j=D j)(hd:ds.all (okD ds.length nD)=true):Sit p l e R s m args below meth c Z n0 nB hB T A K D' W ds cells slots:=by
 obtain⟨h,locs,X,eT,Y,r⟩:=S
 exact⟨h,locs,X,eT,Y.env (fun _ _=>rfl) (fun _ _=>rfl) hD hd,r⟩
theorem Ib {A:Nat→Addr}{K:Nat→ClassId}{D:Nat→UInt64}{W:Nat→Value}{code:ByteArray}{n0 nB nD:Nat}{hB:Heap}{ds:List AD}{o:Op}{orc orc':List Int32}(hx:p.tables.exec=Jvm.exec)(hby:c.code=code)(S:Sit p l e R s m args below meth c Z n0 nB hB T A K D W ds cells slots){pc pc':Nat}{L:Array Slot}{st st':List Value}(hs:NN (decode code) nD ds orc pc L st=some (pc',st',o,orc'))(hv:vc1 o D)
  (K_:Sit p l e R s m args below meth c Z n0 nB hB T A K (nxD o nD D) W ds cells slots→Go p e below Ev T (mkF m pc' (L.map (aZ A (nxD o nD D) W)) (st'.map (den A (nxD o nD D) W)))):Go p e below Ev T (mkF m pc (L.map (aZ A D W)) (st.map (den A D W))):=by
 subst hby
 have S0:=S
 obtain⟨h,locs,X,eT,Y,-⟩:=S
 have fin:∀(x:UInt64) (r:List Value) (q:Nat),fq ds.length nD L r ds=true→nD<4096→(∀i,nxD o nD D i=if i=nD then x else D i)→pc'=q→st' = .double (UInt64.ofNat nD)::r→Go p e below Ev T (mkF m q (L.map (aZ A D W)) (.double x::r.map (den A D W))):=by
  intro x r q ok hn hx1 e1 e2
  subst e1 e2
  have hD:∀j,j<nD→nxD o nD D j=D j:=fun j hj=>po o nD D hj
  simp only[fq,Bool.and_eq_true] at ok
  have G:=K_ (S0.dbl hD ok.2.2)
  rw[gW (nA:=ds.length) (fun _ _=>rfl) hD ok.1,List.map_cons,eH (nA:=ds.length) (fun _ _=>rfl) hD ok.2.1] at G
  have hf:nxD o nD D=fun i=>if i=nD then x else D i:=funext hx1
  rw[hf,my hn] at G
  exact G
 unfold NN at hs
 split at hs
 ·next hd =>
  split at hs
  ·next y x r =>
   split at hs
   ·next ok=>cases hs;exact NA X hx _ hd rfl hv (fin _ r _ ok.1 ok.2 (fun i=>rfl) rfl rfl)
   ·cases hs
  ·cases hs
 ·next hd =>
  split at hs
  ·next y x r =>
   split at hs
   ·next ok=>cases hs;exact NB X hx _ hd rfl hv (fin _ r _ ok.1 ok.2 (fun i=>rfl) rfl rfl)
   ·cases hs
  ·cases hs
 ·next hd =>
  split at hs
  ·next y x r =>
   split at hs
   ·next ok=>cases hs;exact NC X hx _ hd rfl hv (fin _ r _ ok.1 ok.2 (fun i=>rfl) rfl rfl)
   ·cases hs
  ·cases hs
 ·next hd =>
  split at hs
  ·next y x r =>
   split at hs
   ·next ok=>cases hs;exact ND X hx _ hd rfl hv (fin _ r _ ok.1 ok.2 (fun i=>rfl) rfl rfl)
   ·cases hs
  ·cases hs
 ·next hd =>
  split at hs
  ·next x r =>
   split at hs
   ·next ok=>cases hs;exact Nz X hx _ hd rfl (fin _ r _ ok.1 ok.2 (fun i=>rfl) rfl rfl)
   ·cases hs
  ·cases hs
 ·next hd =>
  split at hs
  ·next y x r z oc=>cases hs;exact o_ X hx _ hd rfl hv (K_ S0)
  ·cases hs
 ·next hd =>
  split at hs
  ·next o' hd2 =>
   split at hs
   ·next y x r z oc =>
    split at hs
    ·next ho =>
     cases hs
     have hv':if z=0 then (cmpValue (FP.dcmp (dX D x.toNat) (dX D y.toNat)) .l).toInt=0 else (cmpValue (FP.dcmp (dX D x.toNat) (dX D y.toNat)) .l).toInt≠0:=hv
     refine o_ X hx _ hd rfl rfl (jk X hx _ _ hd2 ho rfl rfl (fun q=>?_) (fun q=>?_))
     ·by_cases hz:z=0
      ·have G:=K_ S0;rw[if_pos hz] at G;exact G
      ·rw[if_neg hz] at hv';exact absurd q hv'
     ·by_cases hz:z=0
      ·rw[if_pos hz] at hv';exact absurd hv' q
      ·have G:=K_ S0;rw[if_neg hz] at G;exact G
    ·cases hs
   ·cases hs
  ·next o' hd2 =>
   split at hs
   ·next y x r z oc =>
    split at hs
    ·next ho =>
     cases hs
     have hv':if z=0 then (cmpValue (FP.dcmp (dX D x.toNat) (dX D y.toNat)) .l).toInt=0 else (cmpValue (FP.dcmp (dX D x.toNat) (dX D y.toNat)) .l).toInt≠0:=hv
     refine o_ X hx _ hd rfl rfl (jl X hx _ _ hd2 ho rfl rfl (fun q=>?_) (fun q=>?_))
     ·by_cases hz:z=0
      ·rw[if_pos hz] at hv';exact absurd hv' q
      ·have G:=K_ S0;rw[if_neg hz] at G;exact G
     ·by_cases hz:z=0
      ·have G:=K_ S0;rw[if_pos hz] at G;exact G
      ·rw[if_neg hz] at hv';exact absurd q hv'
    ·cases hs
   ·cases hs
  ·split at hs
   ·next y x r z oc=>cases hs;exact o_ X hx _ hd rfl hv (K_ S0)
   ·cases hs
 ·next hd =>
  split at hs
  ·next x r =>
   split at hs
   ·next ok=>cases hs;exact Pj X hx _ hd rfl (fin _ r _ ok.1 ok.2 (fun i=>rfl) rfl rfl)
   ·cases hs
  ·cases hs
 ·next o' hd =>
  split at hs
  ·next x r z oc =>
   split at hs
   ·next ho =>
    cases hs
    have hv':if z=0 then (iW (dX D x.toNat)).toInt=0 else (iW (dX D x.toNat)).toInt≠0:=hv
    refine jk X hx _ _ hd ho rfl rfl (fun q=>?_) (fun q=>?_)
    ·by_cases hz:z=0
     ·have G:=K_ S0;rw[if_pos hz] at G;exact G
     ·rw[if_neg hz] at hv';exact absurd q hv'
    ·by_cases hz:z=0
     ·rw[if_pos hz] at hv';exact absurd hv' q
     ·have G:=K_ S0;rw[if_neg hz] at G;exact G
   ·cases hs
  ·cases hs
 ·next o' hd =>
  split at hs
  ·next x r z oc =>
   split at hs
   ·next ho =>
    cases hs
    have hv':if z=0 then (iW (dX D x.toNat)).toInt=0 else (iW (dX D x.toNat)).toInt≠0:=hv
    refine jl X hx _ _ hd ho rfl rfl (fun q=>?_) (fun q=>?_)
    ·by_cases hz:z=0
     ·rw[if_pos hz] at hv';exact absurd hv' q
     ·have G:=K_ S0;rw[if_neg hz] at G;exact G
    ·by_cases hz:z=0
     ·have G:=K_ S0;rw[if_pos hz] at G;exact G
     ·rw[if_neg hz] at hv';exact absurd q hv'
   ·cases hs
  ·cases hs
 ·next o' hd =>
  split at hs
  ·next y x r z oc =>
   split at hs
   ·next j i ej ei =>
    split at hs
    ·next ho =>
     cases hs
     have hv':if z=0 then (iW (dX D j)).toInt<(iW (dX D i)).toInt else (iW (dX D i)).toInt≤(iW (dX D j)).toInt:=hv
     rw[List.map_cons,List.map_cons,l6 ej,l6 ei]
     refine ph X hx _ _ hd ho rfl rfl (fun q=>?_) (fun q=>?_)
     ·by_cases hz:z=0
      ·have G:=K_ S0;rw[if_pos hz] at G;exact G
      ·rw[if_neg hz] at hv';exfalso;omega
     ·by_cases hz:z=0
      ·rw[if_pos hz] at hv';exfalso;omega
      ·have G:=K_ S0;rw[if_neg hz] at G;exact G
    ·cases hs
   ·cases hs
  ·cases hs
 ·next op h1 h2 h3 h4 h5 h6 h7 h8 hd =>
  split at hs
  ·next cd y x r eb =>
   split at hs
   ·next j i ej ei =>
    split at hs
    ·next ok =>
     cases hs
     have finI:∀(z:Int32),mt cd (dX D i) (dX D j)=ab z→(cd≤7∨20≤cd)→Go p e below Ev T (mkF m (pc+1) (L.map (aZ A D W)) (.int z::r.map (den A D W))):=by
      intro z ez hp
      have hD:∀j',j'<nD→nxD (cd,i,j,0) nD D j'=D j':=fun j' hj=>po _ nD D hj
      have okk:=ok.1
      simp only[fq,Bool.and_eq_true] at okk
      have G:=K_ (S0.dbl hD okk.2.2)
      rw[gW (nA:=ds.length) (fun _ _=>rfl) hD okk.1,List.map_cons,eH (nA:=ds.length) (fun _ _=>rfl) hD okk.2.1] at G
      have hf:nxD (cd,i,j,0) nD D=fun i'=>if i'=nD then ab z else D i':=by
       unfold nxD
       rw[if_pos hp]
       dsimp only
       rw[ez]
      have e9:den A (nxD (cd,i,j,0) nD D) W (.float (UInt32.ofNat nD)) = .int z:=by
       rw[hf]
       simp only[den]
       rw[UInt32.toNat_ofNat_of_lt' (by show nD<4294967296;omega)]
       simp [dX,ok.2,be]
      rw[e9] at G
      exact G
     rw[List.map_cons,List.map_cons,l6 ej,l6 ei]
     cases op<;>first
      | (cases eb;exact zH X hx _ hd rfl (finI _ rfl (by decide)))
      | (cases eb;exact zJ X hx _ hd rfl (finI _ rfl (by decide)))
      | (cases eb;exact zK X hx _ hd rfl (finI _ rfl (by decide)))
      | (cases eb;exact zL X hx _ hd rfl (finI _ rfl (by decide)))
      | (cases eb;exact zM X hx _ hd rfl (finI _ rfl (by decide)))
      | (cases eb;exact zN X hx _ hd rfl (finI _ rfl (by decide)))
      | (cases eb;exact HK X hx _ hd rfl (finI _ rfl (by decide)))
      | cases eb
    ·cases hs
   ·cases hs
  ·cases hs
 ·cases hs
end OwnExecC
section OwnExecK
variable {p:Program}{l:Launch}{e:Env}{R:Room}{s:State}{m:MethodId}{args:Array Value}{below:List Frame}{meth:Method}{c:Code}{T:State}{locs:List Loc}{cells slots:Nat}{Z:State}{a0:Array Value}{h h':Heap}{Ev:State→Outcome→Prop}
abbrev Cn:=(Nat×List Value×List AD×Nat)×(Option Value×List AD×List Op)×(Nat×Nat×Nat×Nat)
def jc (r:Nat×Nat×Nat×Nat):Room:={ frames:=r.1,cells:=r.2.1,slots:=r.2.2.1,locals:=r.2.2.2 }
def QF (Z:State)(n0:Nat)(h0:Heap)(A:Nat→Addr)(K:Nat→ClassId)(D:Nat→UInt64)(W:Nat→Value)(cn:Cn)(v:Option Value)(h:Heap)(L:List Loc):Prop :=
 ∃(A':Nat→Addr) (K':Nat→ClassId),(∀i,i<cn.1.2.2.1.length→A' i=A i∧K' i=K i)∧(∀i,cn.1.2.2.1.length≤i→i<cn.2.1.2.1.length→h0.size≤A' i)∧v=cn.2.1.1.map (den A' (ca cn.2.1.2.2 cn.1.2.2.2 D) W)∧Fr n0 L∧Keep h0 h ((List.range cn.1.2.2.1.length).map A)∧YgF Z n0 h A' K' (ca cn.2.1.2.2 cn.1.2.2.2 D) W cn.2.1.2.1∧cn.1.2.2.1.length≤cn.2.1.2.1.length
def CtM (l:Launch)(Z:State)(cn:Cn)(as':Array Value)(h0:Heap)(Q:Option Value→Heap→List Loc→Prop):Prop :=
 MetFree l (cJ cn.1.1) (head1 [Jvm.Cond.code (cJ cn.1.1) (aH cn.1.1) (ic cn.1.1) (pj cn.1.1)] (jc cn.2.2)) (fun a U=>a=as'∧Z.Warmed39 U.vm∧U.heap=h0) (fun _ _ _ _ _=>True) (fun _ U o U'=>∃v L,o = .returned v∧Q v U'.heap L∧FrameEnd U o U' L (jc cn.2.2).cells (jc cn.2.2).slots)
def CtH (cn:Cn):Prop:=∀(l:Launch)(Z:State)(a0:Array Value),(∀d∈tables_1,d.before a0 Z=true)→∀(A:Nat→Addr)(K:Nat→ClassId)(D:Nat→UInt64)(W:Nat→Value)(h0:Heap)(n0:Nat),D 0=0→n0≤h0.size→YgF Z n0 h0 A K D W cn.1.2.2.1→okv cn.2.1.2.2 cn.1.2.2.2 D→CtM l Z cn (cn.1.2.1.map (den A D W)).toArray h0 (QF Z n0 h0 A K D W cn)
def NO (Z:State)(own:String)(op:Instr)(kd mn np rc:Nat):Prop :=
 ∀{p:Program} {l:Launch} {e:Env} {R:Room} {s:State} {m:MethodId} {args:Array Value} {below:List Frame} {meth:Method} {c:Code} {T:State} {locs:List Loc} {cells slots:Nat} {h:Heap} {Ev:State→Outcome→Prop} {rm:Room} {as':Array Value} {Q:Option Value→Heap→List Loc→Prop} {argsL rest:List Value} {b:Addr} {pc:Nat} {Ls:Array Slot},
  Stand p l e R s m args below meth c T locs cells slots→p.tables.exec=Jvm.exec→Z.Warmed39 s.vm→s.vm.findClass own=some m.cls →
  MetFree l (cJ mn) (head1 [Jvm.Cond.code (cJ mn) (aH mn) (ic mn) (pj mn)] rm) (fun a U=>a=as'∧Z.Warmed39 U.vm∧U.heap=h) (fun _ _ _ _ _=>True) (fun _ U o U'=>∃v L,o = .returned v∧Q v U'.heap L∧FrameEnd U o U' L rm.cells rm.slots) →
  T.heap=h→(kd=1→Exa Z h b (cI rc))→(if kd=0 then argsL.toArray else (.ref b::argsL).toArray)=as'→Ls.size=c.maxLocals→argsL.length=np→rm.frames+1≤R.frames→(rest.map fun v=>v.category).sum+(ic mn+11)+rm.locals≤R.locals→cells+rm.cells≤R.cells→slots+rm.slots≤R.slots→decode c.code pc = .ok (op,3) →
  (∀(v:Option Value) (T':State) (L:List Loc),Stand p l e R s m args below meth c T' (locs++L) (cells+rm.cells) (slots+rm.slots)→Q v T'.heap L→Go p e below Ev T' (mkF m (pc+3) Ls (v.toList++rest))) →
  Go p e below Ev T (mkF m pc Ls (argsL.reverse++(if kd=0 then rest else .ref b::rest)))
def fo (Z:State)(own:String)(cl:Instr→Option (Nat×Nat×Nat×Nat)):Prop:=∀op kd mn np rc,cl op=some (kd,mn,np,rc)→NO Z own op kd mn np rc
def okO:List Op→Nat→Bool
 | [],_=>true
 | o::t,n=>(decide (o.2.1<n)||decide (4096≤o.2.1))&&((decide (o.2.2.1<n)||decide (4096≤o.2.2.1))&&okO t (nxN o n))
def okC (nA nD:Nat)(v:Value):Bool:=okV nA nD v
def okE (nA nD:Nat)(d:AD):Bool:=d.2.2.all (okC nA nD)
abbrev Sc:=Cn×List Nat×List Nat×List Value
def f6 (ds:List AD) (π:List Nat)(xs:List AD):List AD:=ds.zipIdx.map fun x=>match π.findIdx? (·==x.2) with
 | some i=>xs.getD i x.1
 | none=>x.1
def NP (kd rc:Nat)(ds:List AD)(v:Option Value):Bool :=
 match v with
 | some (.ref b)=>(kd != 1)||(decide (rc<64)&&(match ds[b]? with|some d=>d.1==rc|none=>false))
 | _=>false
theorem NQ {kd rc:Nat}{ds:List AD}{v:Option Value}(h:NP kd rc ds v=true):∃b,v=some (.ref b)∧(kd=1→rc<64∧∃d,ds[b]? = some d∧d.1=rc):=by
 unfold NP at h
 split at h
 ·next b =>
  refine⟨b,rfl,fun q=>?_⟩
  subst q
  simp only[bne_self_eq_false,Bool.false_or,Bool.and_eq_true,decide_eq_true_eq] at h
  refine⟨h.1,?_⟩
  have h2:=h.2
  split at h2
  ·next d e=>exact⟨d,e,by simpa using h2⟩
  ·cases h2
 ·cases h
def qm (kd np:Nat)(st:List Value):List Value:=if kd=0 then st.drop np else (st.drop np).drop 1
def th (kd np:Nat)(st:List Value):List Value:=if kd=0 then (st.take np).reverse else (match (st.drop np)[0]? with|some v=>v::(st.take np).reverse|none=>[])
def Ay (dk:DC)(cl:Instr→Option (Nat×Nat×Nat×Nat))(ml:Nat)(RR:Nat×Nat×Nat×Nat)(nD cells slots:Nat)(ds:List AD)(E:Sc)(pc:Nat)(L:Array Slot)(st:List Value):Option (Nat×List Value×List AD×List Op) :=
 match dk pc with
 | .ok (op,3)=>match cl op with
  | some (kd,mn,np,rc) =>
   let cn:=E.1;let π:=E.2.1;let δ:=E.2.2.1;let ω:=E.2.2.2
   let nc:=cn.1.2.2.1.length;let mD:=cn.1.2.2.2;let n:=ds.length;let nc':=cn.2.1.2.1.length;let mD':=fH cn.2.1.2.2 mD
   let f:=sb π δ ω n nc nD mD;let rest:=qm kd np st
   let al:=th kd np st
   if (mn=cn.1.1∧kd≤2∧np≤st.length∧(kd=0∨NP kd rc ds (st.drop np)[0]? = true)) then
   if (cn.1.2.1.map f=al∧L.size=ml∧cn.2.2.1+1≤RR.1∧(rest.map fun v=>v.category).sum+(ic mn+11)+cn.2.2.2.2.2≤RR.2.2.2∧cells+cn.2.2.2.1≤RR.2.1∧slots+cn.2.2.2.2.1≤RR.2.2.1) then
   if (π.length=nc∧π.all (fun i=>decide (i<n))=true∧π.Nodup∧(List.range nc).all (fun i=>decide (ds[π.getD i 0]? = (cn.1.2.2.1[i]?).map (sbD π δ ω n nc nD mD)))=true∧δ.length=mD∧δ[0]? = some 0∧δ.all (fun j=>decide (j<nD)||(decide (4096≤j)&&decide (j<18446744073709551616)))=true) then
   if (fq n nD L rest ds=true∧rest.all kn=true∧ω.all (okV n nD)=true∧0<nD∧nD+(mD'-mD)≤4096∧mD'≤4096∧nc≤nc'∧cn.1.2.2.1.all (okE nc mD)=true∧cn.1.2.1.all (okC nc mD)=true∧cn.2.1.2.1.all (okE nc' mD')=true∧(cn.2.1.1.toList).all (okC nc' mD')=true∧okO cn.2.1.2.2 mD=true) then
    some (pc+3,(cn.2.1.1.map f).toList++rest,f6 ds π (cn.2.1.2.1.map (sbD π δ ω n nc nD mD))++(cn.2.1.2.1.drop nc).map (sbD π δ ω n nc nD mD),cn.2.1.2.2.map (sbO δ nD mD))
   else none else none else none else none
  | none=>none
 | _=>none
theorem HdF.congr {A A':Nat→Addr}{D D':Nat→UInt64}{W W':Nat→Value}{a:Addr}{k:ClassId}{d d':AD}(h1:d'.1=d.1)(h2:d'.2.1=d.2.1)(hv:d'.2.2.map (den A' D' W')=d.2.2.map (den A D W))(H:HdF Z h a k A D W d):HdF Z h a k A' D' W' d':=by
 unfold HdF at H ⊢
 rw[h1,h2,hv]
 split at H
 ·rename_i q
  rw[if_pos q]
  refine⟨H.1,fun j v f hj hf=>?_⟩
  have e1:(d'.2.2.map (den A' D' W'))[j]? = some (den A' D' W' v):=by rw[List.getElem?_map,hj];rfl
  rw[hv,List.getElem?_map] at e1
  cases e2:d.2.2[j]? with
  | none=>rw[e2] at e1;cases e1
  | some u =>
   rw[e2] at e1
   have e3:den A D W u=den A' D' W' v:=Option.some.inj e1
   rw[←e3]
   exact H.2 j u f e2 hf
 ·rename_i q
  rw[if_neg q]
  exact H
section
variable {δ:List Nat}{nD mD:Nat}
theorem mz {D Dc:Nat→UInt64}{mc i:Nat}(hr:∀j,j<mc→Dc j=dX D (pD δ nD mD j))(hm:mc≤4096)(hi:i<mc∨4096≤i):dX Dc i=dX D (pD δ nD mD i):=by
 rcases hi with q|q
 ·rw[←hr i q];exact if_pos (by omega)
 ·have e1:pD δ nD mD i=i:=if_neg (by omega)
  rw[e1]
  unfold dX
  rw[if_neg (by omega),if_neg (by omega)]
theorem PS {D Dc:Nat→UInt64}{mc:Nat}{o:Op}(hr:∀j,j<mc→Dc j=dX D (pD δ nD mD j))(hm:mc≤4096)(h1:o.2.1<mc∨4096≤o.2.1)(h2:o.2.2.1<mc∨4096≤o.2.2.1)(h:vc1 (sbO δ nD mD o) D):vc1 o Dc:=by
 unfold vc1 sbO at *
 rw[mz hr hm h1,mz hr hm h2]
 exact h
theorem NR {D Dc:Nat→UInt64}{mc:Nat}{o:Op}(hδ:∀j,j<mD→δ.getD j 0<nD∨4096≤δ.getD j 0)(hr:∀j,j<mc→Dc j=dX D (pD δ nD mD j))(hm:mD≤mc)(h0:nxN o mc≤4096)(h0':nD+(nxN o mc-mD)≤4096)(h1:o.2.1<mc∨4096≤o.2.1)(h2:o.2.2.1<mc∨4096≤o.2.2.1):∀j,j<nxN o mc→nxD o mc Dc j=dX (nxD (sbO δ nD mD o) (nD+(mc-mD)) D) (pD δ nD mD j):=by
 intro j hj
 have hle:=mv o mc
 unfold nxD
 have es:(sbO δ nD mD o).1=o.1:=rfl
 rw[es]
 by_cases q:o.1≤7∨20≤o.1
 ·rw[if_pos q,if_pos q]
  have eN:nxN o mc=mc+1:=if_pos q
  by_cases qj:j=mc
  ·subst qj
   have ep:pD δ nD mD j=nD+(j-mD):=by unfold pD;rw[if_pos (by omega),if_neg (by omega)]
   have e2:∀V:UInt64,dX (fun i=>if i=nD+(j-mD) then V else D i) (nD+(j-mD))=V:=fun V=>by
    unfold dX
    rw[if_pos (by omega)]
    exact if_pos rfl
   rw[ep,e2,if_pos rfl]
   show mt o.1 (dX Dc o.2.1) (dX Dc o.2.2.1)=mt o.1 (dX D (pD δ nD mD o.2.1)) (dX D (pD δ nD mD o.2.2.1))
   rw[mz hr (by omega) h1,mz hr (by omega) h2]
  ·rw[if_neg qj,hr j (by omega)]
   have ep:pD δ nD mD j<nD+(mc-mD)∨4096≤pD δ nD mD j:=by
    unfold pD
    rw[if_pos (by omega)]
    split
    ·rename_i q2
     rcases hδ j q2 with y|y
     ·left;omega
     ·right;exact y
    ·left;omega
   have e3:∀(V:UInt64) (x:Nat),(x<nD+(mc-mD)∨4096≤x)→dX (fun i=>if i=nD+(mc-mD) then V else D i) x=dX D x:=fun V x hx=>by
    unfold dX
    split
    ·rcases hx with y|y
     ·exact if_neg (by omega)
     ·omega
    ·rfl
   rw[e3 _ _ ep]
 ·rw[if_neg q,if_neg q]
  have eN:nxN o mc=mc:=if_neg q
  exact hr j (by omega)
theorem Az (hδ:∀j,j<mD→δ.getD j 0<nD∨4096≤δ.getD j 0):∀(t:List Op)(mc:Nat)(Dc D:Nat→UInt64),mD≤mc→fH t mc≤4096→nD+(fH t mc-mD)≤4096→okO t mc=true→(∀j,j<mc→Dc j=dX D (pD δ nD mD j))→okv (t.map (sbO δ nD mD)) (nD+(mc-mD)) D →
  okv t mc Dc∧(∀j,j<fH t mc→ca t mc Dc j=dX (ca (t.map (sbO δ nD mD)) (nD+(mc-mD)) D) (pD δ nD mD j))∧fH (t.map (sbO δ nD mD)) (nD+(mc-mD))=nD+(fH t mc-mD)
 | [],mc,Dc,D,hm,h1,h2,ho,hr,hv=>⟨trivial,hr,rfl⟩
 | o::t,mc,Dc,D,hm,h1,h2,ho,hr,hv=>by
  simp only[okO,Bool.and_eq_true,Bool.or_eq_true,decide_eq_true_eq] at ho
  have hf:fH (o::t) mc=fH t (nxN o mc):=rfl
  rw[hf] at h1 h2
  have hle:=jo t (nxN o mc)
  have hl2:=mv o mc
  have eN:nxN (sbO δ nD mD o) (nD+(mc-mD))=nD+(nxN o mc-mD):=by
   unfold nxN
   show (if o.1≤7∨20≤o.1 then _ else _)=_
   split<;>omega
  have hv2:vc1 (sbO δ nD mD o) D∧okv (t.map (sbO δ nD mD)) (nxN (sbO δ nD mD o) (nD+(mc-mD))) (nxD (sbO δ nD mD o) (nD+(mc-mD)) D):=hv
  rw[eN] at hv2
  obtain⟨i1,i2,i3⟩:=Az hδ t (nxN o mc) (nxD o mc Dc) (nxD (sbO δ nD mD o) (nD+(mc-mD)) D) (by omega) h1 h2 ho.2.2 (NR hδ hr hm (by omega) (by omega) ho.1 ho.2.1) hv2.2
  refine⟨⟨PS hr (by omega) ho.1 ho.2.1 hv2.1,i1⟩,fun j hj=>?_,?_⟩
  ·show ca t (nxN o mc) (nxD o mc Dc) j=dX (ca (t.map (sbO δ nD mD)) (nxN (sbO δ nD mD o) (nD+(mc-mD))) (nxD (sbO δ nD mD o) (nD+(mc-mD)) D)) (pD δ nD mD j)
   rw[eN]
   exact i2 j hj
  ·show fH (t.map (sbO δ nD mD)) (nxN (sbO δ nD mD o) (nD+(mc-mD)))=_
   rw[eN]
   exact i3
end
theorem uP {A Ac:Nat→Addr}{D Dc:Nat→UInt64}{W Wc:Nat→Value} {π δ:List Nat} {ω:List Value}{n nc nD mD nA mX:Nat}(hA:∀i,i<nA→Ac i=A (pA π n nc i))(hD:∀j,j<mX→Dc j=dX D (pD δ nD mD j))(hmX:mX≤4096)(hW:∀k,Wc k=den A D W (ω.getD k .null))(hb:∀j,j<mX→pD δ nD mD j<18446744073709551616){v:Value}(hv0:okC nA mX v=true):den A D W (sb π δ ω n nc nD mD v)=den Ac Dc Wc v:=by
 have hv:okV nA mX v=true:=hv0
 cases v with
 | float j =>
  simp only[okV,Bool.or_eq_true,decide_eq_true_eq] at hv
  have q:j.toNat<mX∨4096≤j.toNat:=hv
  simp only[sb]
  split
  ·rename_i q2
   simp only[den]
   rw[UInt32.toNat_ofNat_of_lt' (by show pD δ nD mD j.toNat<4294967296;omega),mz hD hmX q]
  ·rename_i q2
   simp only[den]
   rw[mz hD hmX q,show dX D (pD δ nD mD j.toNat)=UInt64.ofNat (pD δ nD mD j.toNat) from if_neg q2]
 | ref i=>simp only[okV,decide_eq_true_eq] at hv;simp only[sb,den,hA i hv]
 | double j =>
  simp only[okV,Bool.or_eq_true,decide_eq_true_eq] at hv
  simp only[sb,den]
  have q:j.toNat<mX∨4096≤j.toNat:=hv
  have hb':pD δ nD mD j.toNat<18446744073709551616:=by
   rcases q with q|q
   ·exact hb _ q
   ·rw[show pD δ nD mD j.toNat=j.toNat from if_neg (by omega)]
    exact j.toNat_lt
  rw[I2 hb',mz hD hmX q]
 | retAddr k=>simp only[sb,den,hW]
 | _=>rfl
theorem f7 (ds:List AD) (π:List Nat)(xs:List AD):(f6 ds π xs).length=ds.length:=by simp [f6]
theorem AA (ds:List AD) (π:List Nat)(xs:List AD)(k:Nat):(f6 ds π xs)[k]? = (ds[k]?).map fun d=>match π.findIdx? (·==k) with
  | some i=>xs.getD i d
  | none=>d:=by
 unfold f6
 rw[List.getElem?_map,List.getElem?_zipIdx]
 cases ds[k]? with
 | none=>rfl
 | some d=>simp
theorem AB {π:List Nat}{k i:Nat}(h:π.findIdx? (·==k)=some i):i<π.length∧π.getD i 0=k:=by
 obtain⟨h1,h2,-⟩:=List.findIdx?_eq_some_iff_getElem.mp h
 refine⟨h1,?_⟩
 rw[List.getD_eq_getElem?_getD,List.getElem?_eq_getElem h1]
 simpa using h2
theorem yb {π:List Nat}{k i:Nat}(h:π.findIdx? (·==k)=none)(hi:i<π.length):π.getD i 0≠k:=by
 have:=List.findIdx?_eq_none_iff.mp h (π[i]) (List.getElem_mem hi)
 rw[List.getD_eq_getElem?_getD,List.getElem?_eq_getElem hi]
 simpa using this
theorem cY {A:Nat→Addr}{D:Nat→UInt64}{W:Nat→Value}:∀(r:List Value),r.all kn=true→((r.map (den A D W)).map fun v=>v.category).sum=(r.map fun v=>v.category).sum
 | [],_=>rfl
 | v::r,h=>by
  simp only[List.all_cons,Bool.and_eq_true] at h
  simp only[List.map_cons,List.sum_cons,dq h.1,cY r h.2]
theorem Ic {A:Nat→Addr}{K:Nat→ClassId}{D:Nat→UInt64}{W:Nat→Value}{code:ByteArray}{own:String}{cl:Instr→Option (Nat×Nat×Nat×Nat)}{ml:Nat}{RR:Nat×Nat×Nat×Nat}{n0 nB nD:Nat}{hB:Heap}{ds ds':List AD}{E:Sc}{ops:List Op}(hw:HW a0 Z)(hx:p.tables.exec=Jvm.exec)(hby:c.code=code)(hml:c.maxLocals=ml)(hR:R=jc RR)(hZ:Z.Warmed39 s.vm)(hown:s.vm.findClass own=some m.cls)(hC:fo Z own cl)(hE:CtH E.1)(hD0:D 0=0)(S:Sit p l e R s m args below meth c Z n0 nB hB T A K D W ds cells slots){pc pc':Nat}{L:Array Slot}{st st':List Value}(hs:Ay (decode code) cl ml RR nD cells slots ds E pc L st=some (pc',st',ds',ops))(hv:okv ops nD D)
  (K_:∀T' A' K',(∀i,i<ds.length→A' i=A i∧K' i=K i)→Sit p l e R s m args below meth c Z n0 nB hB T' A' K' (ca ops nD D) W ds' (cells+E.1.2.2.2.1) (slots+E.1.2.2.2.2.1)→Go p e below Ev T' (mkF m pc' (L.map (aZ A' (ca ops nD D) W)) (st'.map (den A' (ca ops nD D) W)))):Go p e below Ev T (mkF m pc (L.map (aZ A D W)) (st.map (den A D W))):=by
 subst hby hR hml
 obtain⟨h,locs,X,eT,Y,Kp,hsz,N,hn,hnB⟩:=S
 obtain⟨⟨⟨mn',args',dsc,mD⟩,⟨res,dsc',ops'⟩,rm⟩,π,δ,ω⟩:=E
 unfold Ay at hs
 split at hs
 case h_2=>cases hs
 next op hd =>
 split at hs
 case h_2=>cases hs
 next kd mn np rc hcl =>
 dsimp only at hs
 split at hs
 case isFalse=>cases hs
 next c1 =>
 split at hs
 case isFalse=>cases hs
 next c2 =>
 split at hs
 case isFalse=>cases hs
 next c3 =>
 split at hs
 case isFalse=>cases hs
 next c4 =>
 cases hs
 obtain⟨rfl,hkd,hnp,hrec⟩:=c1
 obtain⟨hargs,hLs,hrf,hrl,hrc,hrs⟩:=c2
 obtain⟨hπl,hπn,hπd,hπm,hδl,hδ0,hδa⟩:=c3
 obtain⟨hok,hkn,hω,hnD,hnD',hmD',hnc,hwd,hwa,hwd',hwr,hwo⟩:=c4
 generalize hnn:ds.length=n at *
 generalize hcc:dsc.length=nc at *
 have hm0:0<mD:=by
  have:=(List.getElem?_eq_some_iff.mp hδ0).1
  omega
 have hmm:mD≤fH ops' mD:=jo ops' mD
 have hδ:∀j,j<mD→(δ.getD j 0<nD∨4096≤δ.getD j 0)∧δ.getD j 0<18446744073709551616:=fun j hj=>by
  have hl:j<δ.length:=by omega
  have:=List.all_eq_true.mp hδa _ (List.getElem_mem hl)
  rw[List.getD_eq_getElem?_getD,List.getElem?_eq_getElem hl]
  simp only[Bool.or_eq_true,Bool.and_eq_true,decide_eq_true_eq] at this
  show (δ[j]<nD∨4096≤δ[j])∧δ[j]<18446744073709551616
  omega
 have hπ:∀i,i<nc→π.getD i 0<n:=fun i hi=>by
  have hl:i<π.length:=by omega
  have:=List.all_eq_true.mp hπn _ (List.getElem_mem hl)
  rw[List.getD_eq_getElem?_getD,List.getElem?_eq_getElem hl]
  simpa using this
 have hpA:∀i,i<nc→pA π n nc i=π.getD i 0:=fun i hi=>if_pos hi
 have hpb:∀j,j<fH ops' mD→pD δ nD mD j<18446744073709551616:=fun j hj=>by
  unfold pD
  rw[if_pos (by omega)]
  split
  ·rename_i q;exact (hδ j q).2
  ·omega
 -- the callee's view
 have hD0c:(fun j=>dX D (pD δ nD mD j)) 0=0:=by
  show dX D (pD δ nD mD 0)=0
  have:pD δ nD mD 0=0:=by
   unfold pD
   rw[if_pos (by decide),if_pos hm0,List.getD_eq_getElem?_getD,hδ0]
   rfl
  rw[this]
  exact hD0
 have dsb:∀v,okC nc mD v=true→den A D W (sb π δ ω n nc nD mD v)=den (fun i=>A (pA π n nc i)) (fun j=>dX D (pD δ nD mD j)) (fun k=>den A D W (ω.getD k .null)) v:=fun v hv=>uP (nA:=nc) (mX:=mD) (fun _ _=>rfl) (fun _ _=>rfl) (by omega) (fun _=>rfl) (fun j hj=>hpb j (by omega)) hv
 have Yc:YgF Z n0 h (fun i=>A (pA π n nc i)) (fun i=>K (pA π n nc i)) (fun j=>dX D (pD δ nD mD j)) (fun k=>den A D W (ω.getD k .null)) dsc:=by
  refine⟨fun i d hi=>?_,fun i j hi hj q=>?_⟩
  ·have hl:i<nc:=by have:=(List.getElem?_eq_some_iff.mp hi).1;omega
   have e1:=List.all_eq_true.mp hπm i (List.mem_range.mpr hl)
   rw[decide_eq_true_eq,hi] at e1
   have y:=Y.1 _ _ e1
   dsimp only
   rw[hpA i hl]
   refine⟨y.1,HdF.congr (d:=sbD π δ ω n nc nD mD d) rfl rfl ?_ y.2⟩
   show d.2.2.map _=(d.2.2.map _).map _
   rw[List.map_map]
   exact List.map_congr_left fun v hv=>(dsb v (List.all_eq_true.mp (List.all_eq_true.mp hwd d (List.mem_of_getElem? hi)) v hv)).symm
  ·have hi':i<nc:=by omega
   have hj':j<nc:=by omega
   dsimp only at q
   rw[hpA i hi',hpA j hj'] at q
   have e1:=Y.2 _ _ (by rw[hnn];exact hπ i hi') (by rw[hnn];exact hπ j hj') q
   have li:i<π.length:=by omega
   have lj:j<π.length:=by omega
   rw[List.getD_eq_getElem?_getD,List.getElem?_eq_getElem li,List.getD_eq_getElem?_getD,List.getElem?_eq_getElem lj] at e1
   exact (List.getElem_inj hπd).mp e1
 obtain⟨ov1,ov2,ov3⟩:=Az (δ:=δ) (nD:=nD) (mD:=mD) (fun j hj=>(hδ j hj).1) ops' mD (fun j=>dX D (pD δ nD mD j)) D (Nat.le_refl _) hmD' (by omega) hwo (fun _ _=>rfl) (by rw[Nat.sub_self,Nat.add_zero];exact hv)
 rw[Nat.sub_self,Nat.add_zero] at ov2 ov3
 have hM:=hE l Z a0 hw (fun i=>A (pA π n nc i)) (fun i=>K (pA π n nc i)) (fun j=>dX D (pD δ nD mD j)) (fun k=>den A D W (ω.getD k .null)) h n0 hD0c hn Yc ov1
 -- what comes behind the call
 have back:∀(rest:List Value),fq n nD L rest ds=true→∀(v:Option Value) (T':State) (L':List Loc),Stand p l e (jc RR) s m args below meth c T' (locs++L') (cells+(jc rm).cells) (slots+(jc rm).slots)→QF Z n0 h (fun i=>A (pA π n nc i)) (fun i=>K (pA π n nc i)) (fun j=>dX D (pD δ nD mD j)) (fun k=>den A D W (ω.getD k .null)) ((mn,args',dsc,mD),(res,dsc',ops'),rm) v T'.heap L' →
   (∀T' A' K',(∀i,i<n→A' i=A i∧K' i=K i)→Sit p l e (jc RR) s m args below meth c Z n0 nB hB T' A' K' (ca (ops'.map (sbO δ nD mD)) nD D) W (f6 ds π (dsc'.map (sbD π δ ω n nc nD mD))++(dsc'.drop nc).map (sbD π δ ω n nc nD mD)) (cells+rm.2.1) (slots+rm.2.2.1)→Go p e below Ev T' (mkF m (pc+3) (L.map (aZ A' (ca (ops'.map (sbO δ nD mD)) nD D) W)) (((res.map (sb π δ ω n nc nD mD)).toList++rest).map (den A' (ca (ops'.map (sbO δ nD mD)) nD D) W)))) →
   Go p e below Ev T' (mkF m (pc+3) (L.map (aZ A D W)) (v.toList++rest.map (den A D W))):=by
  intro rest hokr v T' L' X' Q' KK
  obtain⟨A1,K1,hAK,hfr,hvv,N',Kp',Y',hl'⟩:=Q'
  dsimp only at hAK hfr hvv Kp' Y' hl'
  rw[hcc] at hAK hfr Kp' hl'
  simp only[fq,Bool.and_eq_true] at hokr
  generalize hD2:ca (ops'.map (sbO δ nD mD)) nD D=D2 at *
  have hDlt:∀j,j<nD→D2 j=D j:=fun j hj=>by rw[←hD2];exact fk _ _ _ hj
  have hA2:∀i,i<n→(fun i=>if i<n then A i else A1 (nc+(i-n))) i=A i:=fun i hi=>if_pos hi
  have hr:∀i,i<dsc'.length→A1 i=(fun i=>if i<n then A i else A1 (nc+(i-n))) (pA π n nc i):=fun i hi=>by
   dsimp only
   unfold pA
   split
   ·rename_i q
    rw[if_pos (hπ i q),(hAK i q).1,hpA i q]
   ·rename_i q
    rw[if_neg (by omega),show nc+(n+(i-nc)-n)=i by omega]
  have hrK:∀i,i<dsc'.length→K1 i=(fun i=>if i<n then K i else K1 (nc+(i-n))) (pA π n nc i):=fun i hi=>by
   dsimp only
   unfold pA
   split
   ·rename_i q
    rw[if_pos (hπ i q),(hAK i q).2,hpA i q]
   ·rename_i q
    rw[if_neg (by omega),show nc+(n+(i-nc)-n)=i by omega]
  have hWe:∀k,den A D W (ω.getD k .null)=den (fun i=>if i<n then A i else A1 (nc+(i-n))) D2 W (ω.getD k .null):=fun k=>by
   by_cases q:k<ω.length
   ·refine (pl (nA:=n) (nD:=nD) hA2 hDlt ?_).symm
    rw[List.getD_eq_getElem?_getD,List.getElem?_eq_getElem q]
    exact List.all_eq_true.mp hω _ (List.getElem_mem q)
   ·rw[List.getD_eq_getElem?_getD,List.getElem?_eq_none (by omega)]
    rfl
  have dsb2:∀v,okC dsc'.length (fH ops' mD) v=true→den (fun i=>if i<n then A i else A1 (nc+(i-n))) D2 W (sb π δ ω n nc nD mD v)=den A1 (ca ops' mD (fun j=>dX D (pD δ nD mD j))) (fun k=>den A D W (ω.getD k .null)) v:=fun v hv=>uP (nA:=dsc'.length) (mX:=fH ops' mD) hr ov2 hmD' hWe hpb hv
  have hdc:∀(i:Nat) (d:AD),dsc'[i]? = some d→HdF Z T'.heap (A1 i) (K1 i) (fun i=>if i<n then A i else A1 (nc+(i-n))) D2 W (sbD π δ ω n nc nD mD d):=fun i d hi=>by
   refine HdF.congr (d:=d) rfl rfl ?_ (Y'.1 i d hi).2
   show (d.2.2.map _).map _=d.2.2.map _
   rw[List.map_map]
   exact List.map_congr_left fun v hv=>dsb2 v (List.all_eq_true.mp (List.all_eq_true.mp hwd' d (List.mem_of_getElem? hi)) v hv)
  have hlt1:∀i,i<n→A i<h.size:=fun i hi=>(Y.1 i _ (List.getElem?_eq_getElem (by omega))).2.lt
  have Y2:YgF Z n0 T'.heap (fun i=>if i<n then A i else A1 (nc+(i-n))) (fun i=>if i<n then K i else K1 (nc+(i-n))) D2 W (f6 ds π (dsc'.map (sbD π δ ω n nc nD mD))++(dsc'.drop nc).map (sbD π δ ω n nc nD mD)):=by
   refine⟨fun k d hk=>?_,fun i j hi hj q=>?_⟩
   ·by_cases q:k<n
    ·rw[List.getElem?_append_left (by rw[f7,hnn];exact q),AA] at hk
     have hkl:k<ds.length:=by omega
     rw[List.getElem?_eq_getElem hkl] at hk
     dsimp only[Option.map] at hk
     dsimp only
     rw[if_pos q,if_pos q]
     cases e1:π.findIdx? (·==k) with
     | some i =>
      obtain⟨hi,hik⟩:=AB e1
      rw[e1] at hk
      have hi':i<nc:=by omega
      have hi2:i<dsc'.length:=by omega
      simp only[List.getD_eq_getElem?_getD,List.getElem?_map,List.getElem?_eq_getElem hi2,Option.map_some,Option.getD_some,Option.some.injEq] at hk
      have H:=hdc i _ (List.getElem?_eq_getElem hi2)
      rw[(hAK i hi').1,(hAK i hi').2,hpA i hi',hik] at H
      subst hk
      exact⟨(Y.1 k _ (List.getElem?_eq_getElem hkl)).1,H⟩
     | none =>
      rw[e1] at hk
      simp only[Option.some.injEq] at hk
      subst hk
      have y:=Y.1 k _ (List.getElem?_eq_getElem hkl)
      refine⟨y.1,HdF.env (nA:=n) (nD:=nD) hA2 hDlt (List.all_eq_true.mp hokr.2.2 _ (List.getElem_mem hkl)) (y.2.keep Kp' fun z=>?_)⟩
      obtain⟨i,hi,ei⟩:=List.mem_map.mp z
      have hi':=List.mem_range.mp hi
      try dsimp only at ei
      rw[hpA i hi'] at ei
      exact yb e1 (by omega) (Y.2 _ _ (by rw[hnn];exact hπ i hi') hkl ei)
    ·rw[List.getElem?_append_right (by rw[f7,hnn];omega),f7,hnn,List.getElem?_map,List.getElem?_drop] at hk
     dsimp only
     rw[if_neg q,if_neg q]
     cases e1:dsc'[nc+(k-n)]? with
     | none=>rw[e1] at hk;cases hk
     | some x =>
      rw[e1] at hk
      cases hk
      exact⟨(Y'.1 _ _ e1).1,hdc _ _ e1⟩
   ·rw[List.length_append,f7,hnn,List.length_map,List.length_drop] at hi hj
    dsimp only at q
    by_cases q1:i<n<;>by_cases q2:j<n
    ·rw[if_pos q1,if_pos q2] at q
     exact Y.2 i j (by omega) (by omega) q
    ·rw[if_pos q1,if_neg q2] at q
     exact absurd q (Nat.ne_of_lt (Nat.lt_of_lt_of_le (hlt1 i q1) (hfr (nc+(j-n)) (by omega) (by omega))))
    ·rw[if_neg q1,if_pos q2] at q
     exact absurd q (Nat.ne_of_gt (Nat.lt_of_lt_of_le (hlt1 j q2) (hfr (nc+(i-n)) (by omega) (by omega))))
    ·rw[if_neg q1,if_neg q2] at q
     have:=Y'.2 (nc+(i-n)) (nc+(j-n)) (by omega) (by omega) q
     omega
  have G:=KK T' (fun i=>if i<n then A i else A1 (nc+(i-n))) (fun i=>if i<n then K i else K1 (nc+(i-n))) (fun i hi=>⟨if_pos hi,if_pos hi⟩) ⟨T'.heap,locs++L',X',rfl,Y2,?_,?_,Fr.app N N',Nat.le_trans hn Kp'.1,by rw[List.length_append,f7];omega⟩
  ·rw[gW (nA:=n) (nD:=nD) hA2 hDlt hokr.1,List.map_append,eH (nA:=n) (nD:=nD) hA2 hDlt hokr.2.1] at G
   have e1:((res.map (sb π δ ω n nc nD mD)).toList).map (den (fun i=>if i<n then A i else A1 (nc+(i-n))) D2 W)=v.toList:=by
    rw[hvv]
    cases res with
    | none=>rfl
    | some r =>
     show [den _ D2 W (sb π δ ω n nc nD mD r)]=[_]
     rw[dsb2 r (List.all_eq_true.mp hwr r (by simp))]
   rw[e1] at G
   exact G
  ·have e1:(List.range nB).map (fun i=>if i<n then A i else A1 (nc+(i-n)))=(List.range nB).map A:=List.map_congr_left fun i hi=>if_pos (by have:=List.mem_range.mp hi;omega)
   rw[e1]
   refine Kp.trans Kp' fun x hx=>?_
   obtain⟨i,hi,rfl⟩:=List.mem_map.mp hx
   rw[show pA π n nc i=π.getD i 0 from hpA i (List.mem_range.mp hi)]
   exact ie (n:=n) hsz (hπ i (List.mem_range.mp hi))
  ·intro i hi hil
   rw[List.length_append,f7,hnn,List.length_map,List.length_drop] at hil
   dsimp only
   by_cases q:i<n
   ·rw[if_pos q];exact hsz i hi (by omega)
   ·rw[if_neg q];exact Nat.le_trans Kp.1 (hfr _ (by omega) (by omega))
 have hsz2:(L.map (aZ A D W)).size=c.maxLocals:=by rw[Array.size_map];exact hLs
 have hda:∀al:List Value,args'.map (sb π δ ω n nc nD mD)=al→(args'.map (den (fun i=>A (pA π n nc i)) (fun j=>dX D (pD δ nD mD j)) (fun k=>den A D W (ω.getD k .null)))).toArray=(al.map (den A D W)).toArray:=by
  intro al e1
  rw[←e1,List.map_map]
  exact congrArg List.toArray (List.map_congr_left fun v hv=>(dsb v (List.all_eq_true.mp hwa v hv)).symm)
 have htk:(st.take np).length=np:=by rw[List.length_take];omega
 by_cases hk0:kd=0
 ·subst hk0
  simp only[if_true] at hargs hrl hok hkn K_
  have G:=hC op 0 mn np rc hcl X hx hZ hown (argsL:=((st.take np).reverse).map (den A D W)) (rest:=(st.drop np).map (den A D W)) (b:=0) hM eT (fun q=>absurd q (by decide)) (by rw[hda _ hargs];rfl) hsz2 (by rw[List.length_map,List.length_reverse,htk]) hrf (by rw[cY (st.drop np) hkn];exact hrl) hrc hrs hd (fun v T' L' X' Q'=>back (st.drop np) hok v T' L' X' Q' K_)
  simp only[if_true] at G
  rw[←List.map_reverse,List.reverse_reverse,←List.map_append,List.take_append_drop] at G
  exact G
 ·rcases hrec with q|hrv
  ·exact absurd q hk0
  ·obtain⟨b,hb,hb1⟩:=NQ hrv
   have er:qm kd np st=(st.drop np).drop 1:=if_neg hk0
   have ea:th kd np st = .ref b::(st.take np).reverse:=by unfold th;rw[if_neg hk0,hb]
   rw[ea] at hargs
   rw[er] at hrl hok hkn K_
   have hdr:st.drop np = .ref b::(st.drop np).drop 1:=by
    cases e1:st.drop np with
    | nil=>rw[e1] at hb;cases hb
    | cons x r=>rw[e1] at hb;cases hb;rfl
   have G:=hC op kd mn np rc hcl X hx hZ hown (argsL:=((st.take np).reverse).map (den A D W)) (rest:=((st.drop np).drop 1).map (den A D W)) (b:=A b) hM eT (fun q=>by
     obtain⟨hlt,d,ed,ec⟩:=hb1 q
     have H:=(Y.1 _ _ ed).2
     unfold HdF at H
     rw[if_pos (by omega)] at H
     rw[←ec]
     exact H.1) (by rw[if_neg hk0,hda _ hargs];rfl) hsz2 (by rw[List.length_map,List.length_reverse,htk]) hrf (by rw[cY _ hkn];exact hrl) hrc hrs hd (fun v T' L' X' Q'=>back ((st.drop np).drop 1) hok v T' L' X' Q' K_)
   rw[if_neg hk0,←List.map_reverse,List.reverse_reverse] at G
   have e2:st.map (den A D W)=(st.take np).map (den A D W)++(Value.ref (A b)::((st.drop np).drop 1).map (den A D W)):=by
    conv=>lhs;rw[←List.take_append_drop np st,hdr]
    rw[List.map_append]
    rfl
   rw[e2]
   exact G
end OwnExecK
section OwnExecR
variable {p:Program}{l:Launch}{e:Env}{R:Room}{s:State}{m:MethodId}{args:Array Value}{below:List Frame}{meth:Method}{c:Code}{T:State}{locs:List Loc}{cells slots:Nat}{Z:State}{a0:Array Value}{h h':Heap}{Ev:State→Outcome→Prop}
abbrev clN (ad:String):MethodName:=⟨ad,"clone","()Ljava/lang/Object;"⟩
def iR (Z:State)(a0:Array Value)(own:String)(nt:Instr→Option (Nat×Nat)):Prop:=∀op k cd,nt op=some (k,cd) →
 (k=1∧64≤cd∧cd≤66∧∃i,op = .invokevirtual i∧(Jvm.Cond.methodLink own i (clN (fZ cd))).before a0 Z=true∧(Jvm.Cond.sameMethod (fZ cd) "java/lang/Object" "clone" "()Ljava/lang/Object;").before a0 Z=true∧(Jvm.Cond.native (clN "java/lang/Object")).before a0 Z=true∧(Jvm.Cond.instanceMethod (clN "java/lang/Object")).before a0 Z=true∧(Jvm.Cond.selects (fZ cd) (clN (fZ cd)) (clN "java/lang/Object")).before a0 Z=true∧(Jvm.Cond.castable (fZ cd) "java/lang/Cloneable").before a0 Z=true) ∨
 (k=2∧∃i,op = .invokestatic i∧(Jvm.Cond.methodLink own i Jvm.Stand.acN).before a0 Z=true∧(Jvm.Cond.native Jvm.Stand.acN).before a0 Z=true∧(Jvm.Cond.static Jvm.Stand.acN).before a0 Z=true∧(Jvm.Cond.initialized "java/lang/System").before a0 Z=true) ∨
 (k=3∧∃i,op = .invokestatic i∧(Jvm.Cond.methodLink own i ⟨"java/lang/Math","abs","(D)D"⟩).before a0 Z=true∧(Jvm.Cond.static ⟨"java/lang/Math","abs","(D)D"⟩).before a0 Z=true∧(Jvm.Cond.initialized "java/lang/Math").before a0 Z=true∧(Jvm.Cond.code ⟨"java/lang/Math","abs","(D)D"⟩ Jvm.Free.Fl.Abs.absDCode 2 (some .double)).before a0 Z=true) ∨
 (k=4∧∃i,op = .invokestatic i∧(Jvm.Cond.methodLink own i ⟨"java/lang/Math","max","(DD)D"⟩).before a0 Z=true∧(Jvm.Cond.static ⟨"java/lang/Math","max","(DD)D"⟩).before a0 Z=true∧(Jvm.Cond.initialized "java/lang/Math").before a0 Z=true∧(Jvm.Cond.code ⟨"java/lang/Math","max","(DD)D"⟩ Jvm.Free.Fl.Abs.maxDCode 4 (some .double)).before a0 Z=true) ∨
 (k=5∧∃i,op = .invokespecial i∧(Jvm.Cond.methodLink own i ⟨"java/lang/Object","<init>","()V"⟩).before a0 Z=true∧(Jvm.Cond.instanceMethod ⟨"java/lang/Object","<init>","()V"⟩).before a0 Z=true∧(Jvm.Cond.code ⟨"java/lang/Object","<init>","()V"⟩ object_method_1_code 1 none).before a0 Z=true)
def mA (r:List Value):Nat:=(r.map fun v=>v.category).sum
def AC (dk:DC)(nt:Instr→Option (Nat×Nat))(ml:Nat)(RR:Nat×Nat×Nat×Nat)(nD cells slots:Nat)(ds:List AD)(pc:Nat)(L:Array Slot)(st:List Value):Option (Nat×List Value×List AD×List Op×Nat×Nat) :=
 match dk pc with
 | .ok (op,3)=>match nt op with
  | some (1,cd)=>match st with
   | .ref a::r=>match ds[a]? with
    | some d=>if d.1=cd∧fq ds.length nD L r ds=true∧r.all kn=true∧L.size=ml∧1≤RR.1∧mA r+14≤RR.2.2.2∧cells+1≤RR.2.1∧slots+d.2.1≤RR.2.2.1∧d.2.1<2147483648 then some (pc+3,.ref ds.length::r,ds++[d],[],1,d.2.1) else none
    | none=>none
   | _=>none
  | some (2,_)=>match st with
   | .int n :: .int i :: .ref b :: .int j :: .ref a::r=>match ds[a]?,ds[b]? with
    | some da,some db=>if i=0∧j=0∧da.1=db.1∧(da.1=64∨(da.1=65∧n=0))∧r.all kn=true∧L.size=ml∧1≤RR.1∧mA r+40≤RR.2.2.2∧0≤n.toInt∧n.toInt≤1000∧n.toInt≤(da.2.1:Int)∧n.toInt≤(db.2.1:Int)∧da.2.1<2147483648∧db.2.1<2147483648∧n.toNatClampNeg≤da.2.2.length then some (pc+3,r,if n=0 then ds else ds.set b (db.1,db.2.1,da.2.2.take n.toNatClampNeg++db.2.2.drop n.toNatClampNeg),[],0,0) else none
    | _,_=>none
   | _=>none
  | some (3,_)=>match st with
   | .double x::r=>if fq ds.length nD L r ds=true∧nD<4096∧r.all kn=true∧L.size=ml∧1≤RR.1∧mA r+15≤RR.2.2.2∧cells≤RR.2.1∧slots≤RR.2.2.1 then some (pc+3,.double (UInt64.ofNat nD)::r,ds,[(4,x.toNat,0,0)],0,0) else none
   | _=>none
  | some (4,_)=>match st with
   | .double y :: .double x::r=>if fq ds.length nD L r ds=true∧nD<4096∧r.all kn=true∧L.size=ml∧1≤RR.1∧mA r+15≤RR.2.2.2∧cells≤RR.2.1∧slots≤RR.2.2.1 then some (pc+3,.double (UInt64.ofNat nD)::r,ds,[(5,x.toNat,y.toNat,0)],0,0) else none
   | _=>none
  | some (5,_)=>match st with
   | .ref a::r=>if r.all kn=true∧L.size=ml∧1≤RR.1∧mA r+12≤RR.2.2.2 then some (pc+3,r,ds,[],0,0) else none
   | _=>none
  | _=>none
 | _=>none
theorem AE {A:Nat→Addr}{K:Nat→ClassId}{D:Nat→UInt64}{W:Nat→Value}{n0 nB nD:Nat}{hB:Heap}{ds:List AD}{d:AD}{L:Array Slot}{st1:List Value}{pc':Nat}{a:Addr}{k:ClassId}{T':State}{cells' slots':Nat}(Y:YgF Z n0 h A K D W ds)(Kp:Keep hB h ((List.range nB).map A))(hsz:∀i,nB≤i→i<ds.length→hB.size≤A i)(N:Fr n0 locs)(hn:n0≤h.size)(hnB:nB≤ds.length)(g:a=h.size)(X':Stand p l e R s m args below meth c T' locs cells' slots')(e':T'.heap=h')(E:Ext h h')(ok:fq ds.length nD L st1 ds=true)(H:HdF Z h' a k (fun i=>if i=ds.length then a else A i) D W d)
  (K_:∀A' K',(∀i,i<ds.length→A' i=A i∧K' i=K i)→Sit p l e R s m args below meth c Z n0 nB hB T' A' K' D W (ds++[d]) cells' slots'→Go p e below Ev T' (mkF m pc' (L.map (aZ A' D W)) ((.ref ds.length::st1).map (den A' D W)))):Go p e below Ev T' (mkF m pc' (L.map (aZ A D W)) (.ref a::st1.map (den A D W))):=by
 simp only[fq,Bool.and_eq_true] at ok
 have hA:∀i,i<ds.length→(if i=ds.length then a else A i)=A i:=fun i hi=>if_neg (by omega)
 have G:=K_ (fun i=>if i=ds.length then a else A i) (fun i=>if i=ds.length then k else K i) (fun i hi=>⟨hA i hi,if_neg (by omega)⟩) ⟨h',locs,X',e',Y.push ok.2.2 g hn E H,?_,?_,N,Nat.le_trans hn E.1,by rw[List.length_append];omega⟩
 ·rw[gW (nD:=nD) hA (fun _ _=>rfl) ok.1,List.map_cons,eH (nD:=nD) hA (fun _ _=>rfl) ok.2.1] at G
  simpa [den] using G
 ·have e1:(List.range nB).map (fun i=>if i=ds.length then a else A i)=(List.range nB).map A:=List.map_congr_left fun i hi=>hA i (by have:=List.mem_range.mp hi;omega)
  rw[e1]
  exact Kp.ext E
 ·intro i hi hil
  rw[List.length_append,List.length_singleton] at hil
  by_cases q:i=ds.length
  ·simp only[q,if_true,g]
   exact Kp.1
  ·simp only[if_neg q]
   exact hsz i hi (by omega)
theorem YgF.kp {A:Nat→Addr}{K:Nat→ClassId}{D:Nat→UInt64}{W:Nat→Value}{n0:Nat}{ds:List AD}{b:Nat}{d d':AD}(Y:YgF Z n0 h A K D W ds)(e:ds[b]? = some d)(Kp:Keep h h' [A b])(H:HdF Z h' (A b) (K b) A D W d'):YgF Z n0 h' A K D W (ds.set b d'):=by
 have hi:b<ds.length:=(List.getElem?_eq_some_iff.mp e).1
 refine⟨fun j x hj=>?_,fun x y hx hy q=>Y.2 x y (by simpa using hx) (by simpa using hy) q⟩
 rw[List.getElem?_set] at hj
 split at hj
 ·rename_i q
  subst q
  first
  | cases hj
  | (rw[if_pos hi] at hj;cases hj)
  exact⟨(Y.1 _ _ e).1,H⟩
 ·rename_i q
  have hjl:j<ds.length:=(List.getElem?_eq_some_iff.mp hj).1
  refine⟨(Y.1 _ _ hj).1,(Y.1 _ _ hj).2.keep Kp fun z=>q (Y.2 _ _ hi hjl ?_)⟩
  have z':A j=A b:=by simpa using z
  exact z'.symm
theorem Id {A:Nat→Addr}{K:Nat→ClassId}{D:Nat→UInt64}{W:Nat→Value}{code:ByteArray}{own:String}{nt:Instr→Option (Nat×Nat)}{ml:Nat}{RR:Nat×Nat×Nat×Nat}{n0 nB nD dc dsl:Nat}{hB:Heap}{ds ds':List AD}{ops:List Op}(hx:p.tables.exec=Jvm.exec)(hby:c.code=code)(hml:c.maxLocals=ml)(hR:R=jc RR)(hZ:Z.Warmed39 s.vm)(hown:s.vm.findClass own=some m.cls)(hC:iR Z a0 own nt)(S:Sit p l e R s m args below meth c Z n0 nB hB T A K D W ds cells slots){pc pc':Nat}{L:Array Slot}{st st':List Value}(hs:AC (decode code) nt ml RR nD cells slots ds pc L st=some (pc',st',ds',ops,dc,dsl))(hv:okv ops nD D)
  (K_:∀T' A' K',(∀i,i<ds.length→A' i=A i∧K' i=K i)→Sit p l e R s m args below meth c Z n0 nB hB T' A' K' (ca ops nD D) W ds' (cells+dc) (slots+dsl)→Go p e below Ev T' (mkF m pc' (L.map (aZ A' (ca ops nD D) W)) (st'.map (den A' (ca ops nD D) W)))):Go p e below Ev T (mkF m pc (L.map (aZ A D W)) (st.map (den A D W))):=by
 subst hby hR hml
 have S0:=S
 obtain⟨h,locs,X,eT,Y,Kp,hsz,N,hn,hnB⟩:=S
 unfold AC at hs
 split at hs
 case h_2=>cases hs
 next op hd =>
 split at hs
 ·next cd hnt =>
  split at hs
  ·next a r =>
   split at hs
   ·next d e2 =>
    split at hs
    ·next hc =>
     cases hs
     obtain⟨hcd,ok,hkn,hLs,hf,hl,hcc,hss,hz⟩:=hc
     rcases hC op 1 cd hnt with ⟨-,q1,q2,i,rfl,w1,w2,w3,w4,w5,w6⟩|⟨q,-⟩|⟨q,-⟩|⟨q,-⟩|⟨q,-⟩
     ·have H:=(Y.1 _ _ e2).2.arr (by omega)
      have V:=H.2.1
      have E0:=H.1
      rw[hcd] at V E0
      refine HQ X hx hZ hown w1 w2 w3 w4 w5 w6 eT V E0 (mA r) d.2.1 _ hd rfl (by rw[Array.size_map];exact hLs) hf (by rw[cY _ hkn];exact Nat.le_refl _) hl (by rw[Int32.toInt_ofNat_small hz];exact Int.le_refl _) hcc hss ?_
      intro T' h' b g X' e' E V' E'
      have okk:=ok
      simp only[fq,Bool.and_eq_true] at okk
      refine AE (d:=d) (k:=K a) Y Kp hsz N hn hnB g X' e' E ok ?_ (fun A' K' hAK S'=>K_ T' A' K' hAK S')
      have hA:∀i,i<ds.length→(if i=ds.length then b else A i)=A i:=fun i hi=>if_neg (by omega)
      refine HdF.env (A:=A) (D:=D) (nA:=ds.length) (nD:=nD) hA (fun _ _=>rfl) (List.all_eq_true.mp okk.2.2 d (List.mem_of_getElem? e2)) ?_
      unfold HdF
      rw[if_neg (by omega),hcd]
      exact⟨E',V',fun q=>by omega,fun q=>by omega⟩
     all_goals cases q
    ·cases hs
   ·cases hs
  ·cases hs
 ·next cd hnt =>
  split at hs
  ·next n i b j a r =>
   split at hs
   ·next da db e2 e3 =>
    split at hs
    ·next hc =>
     cases hs
     obtain⟨rfl,rfl,hab,hty,hkn,hLs,hf,hl,hn0,hn1,hna,hnb,hza,hzb,hle⟩:=hc
     rcases hC op 2 cd hnt with ⟨q,-⟩|⟨-,i,rfl,w1,w2,w3,w4⟩|⟨q,-⟩|⟨q,-⟩|⟨q,-⟩
     ·cases q
     ·have HA:=((Y.1 _ _ e2).2.arr (by omega)).2.1
      have HB:=((Y.1 _ _ e3).2.arr (by omega))
      have HV:=HB.2.1
      have hbl:b<ds.length:=(List.getElem?_eq_some_iff.mp e3).1
      have hfw:nativeFrameWords "java/lang/System" "arraycopy" 5+11≤40:=by decide
      by_cases q0:n=0
      ·subst q0
       rw[←hab] at HV
       have hty2:((refKind (eF da.1) != refKind (eF da.1))||(!refKind (eF da.1)&&eF da.1 != eF da.1))=false:=by
        rcases hty with q|⟨q,-⟩<;>rw[q]<;>decide
       refine H5 X hx hZ hown w1 w2 w3 w4 eT hty2 HA HV (mA st') _ hd rfl (by rw[Array.size_map];exact hLs) hf (by rw[cY _ hkn];exact Nat.le_refl _) (by show _≤RR.2.2.2;omega) ?_
       intro T' X' e'
       have G:=K_ T' A K (fun _ _=>⟨rfl,rfl⟩) (by rw[if_pos rfl];exact⟨h,locs,X',e',Y,Kp,hsz,N,hn,hnB⟩)
       exact G
      ·rcases hty with q|⟨-,q⟩
       ·have q':db.1=64:=hab▸q
        rw[q] at HA
        rw[q'] at HV
        refine H6 X hx hZ hown w1 w2 w3 w4 eT HA HV n.toNatClampNeg (l5 hn0).symm (by simp only[Int32.toNatClampNeg];omega) (by rw[Int32.toInt_ofNat_small hza,←gB hn0];exact hna) (by rw[Int32.toInt_ofNat_small hzb,←gB hn0];exact hnb) (by rw[List.length_map];exact hle) (mA st') _ hd rfl (by rw[Array.size_map];exact hLs) hf (by rw[cY _ hkn];exact Nat.le_refl _) (by show _≤RR.2.2.2;omega) ?_
        intro T' h' X' e' K1 V'
        have G:=K_ T' A K (fun _ _=>⟨rfl,rfl⟩) (by
         rw[if_neg q0]
         refine⟨h',_,X',e',Y.kp e3 K1 ?_,Kp.trans K1 (allS (ie hsz hbl) all0),fun i hi hl=>hsz i hi (by simpa using hl),Fr.app N (tg (Y.1 _ _ e3).1),Nat.le_trans hn K1.1,by simpa using hnB⟩
         unfold HdF
         show if db.1<64 then _ else _
         rw[if_neg (by omega)]
         refine⟨?_,?_,fun z=>by omega,fun z=>by omega⟩
         ·exact HB.1.keep K1
         ·show Arv Z h' (A b) (K b) (eF db.1) (Int32.ofNat db.2.1) ((da.2.2.take n.toNatClampNeg++db.2.2.drop n.toNatClampNeg).map (den A D W)) (eG db.1)
          rw[q',List.map_append,List.map_take,List.map_drop]
          exact V')
        exact G
       ·exact absurd q q0
     all_goals cases q
    ·cases hs
   ·cases hs
  ·cases hs
 ·next cd hnt =>
  split at hs
  ·next x r =>
   split at hs
   ·next hc =>
    cases hs
    obtain⟨ok,hnD,hkn,hLs,hf,hl,hcc,hss⟩:=hc
    rcases hC op 3 cd hnt with ⟨q,-⟩|⟨q,-⟩|⟨-,i,rfl,w1,w2,w3,w4⟩|⟨q,-⟩|⟨q,-⟩
    ·cases q
    ·cases q
    ·refine NI X hx hZ hown w1 w2 w3 w4 rfl eT hv.1 (mA r) _ hd rfl (by rw[Array.size_map];exact hLs) (by rw[cY _ hkn];exact Nat.le_refl _) hf (by show _≤RR.2.2.2;omega) hcc hss (by decide +kernel) ?_
     intro T' X' e'
     have okk:=ok
     simp only[fq,Bool.and_eq_true] at okk
     have hD:∀j,j<nD→ca [(4,x.toNat,0,0)] nD D j=D j:=fun j hj=>fk _ _ _ hj
     have G:=K_ T' A K (fun _ _=>⟨rfl,rfl⟩) (Sit.dbl (D:=D) (nD:=nD) ⟨h,locs,X',e',Y,Kp,hsz,N,hn,hnB⟩ hD okk.2.2)
     rw[gW (nA:=ds.length) (fun _ _=>rfl) hD okk.1,List.map_cons,eH (nA:=ds.length) (fun _ _=>rfl) hD okk.2.1] at G
     have hf2:ca [(4,x.toNat,0,0)] nD D=fun i=>if i=nD then (dX D x.toNat&&&0x7fffffffffffffff) else D i:=rfl
     rw[hf2,my hnD] at G
     exact G
    ·cases q
    ·cases q
   ·cases hs
  ·cases hs
 ·next cd hnt =>
  split at hs
  ·next y x r =>
   split at hs
   ·next hc =>
    cases hs
    obtain⟨ok,hnD,hkn,hLs,hf,hl,hcc,hss⟩:=hc
    rcases hC op 4 cd hnt with ⟨q,-⟩|⟨q,-⟩|⟨q,-⟩|⟨-,i,rfl,w1,w2,w3,w4⟩|⟨q,-⟩
    ·cases q
    ·cases q
    ·cases q
    ·have hv1:Jvm.Free.Fl.NoNaN64 (dX D x.toNat)∧Jvm.Free.Fl.NoNaN64 (dX D y.toNat):=hv.1
     refine NH X hx hZ hown w1 w2 w3 w4 rfl eT hv1.1 hv1.2 (r:=Jvm.Native.java_lang_Math.nans.pick64 true (dX D x.toNat) (dX D y.toNat)) rfl (mA r) _ hd rfl (by rw[Array.size_map];exact hLs) (by rw[cY _ hkn];exact Nat.le_refl _) hf (by show _≤RR.2.2.2;omega) hcc hss (by decide +kernel) ?_
     intro T' X' e'
     have okk:=ok
     simp only[fq,Bool.and_eq_true] at okk
     have hD:∀j,j<nD→ca [(5,x.toNat,y.toNat,0)] nD D j=D j:=fun j hj=>fk _ _ _ hj
     have G:=K_ T' A K (fun _ _=>⟨rfl,rfl⟩) (Sit.dbl (D:=D) (nD:=nD) ⟨h,locs,X',e',Y,Kp,hsz,N,hn,hnB⟩ hD okk.2.2)
     rw[gW (nA:=ds.length) (fun _ _=>rfl) hD okk.1,List.map_cons,eH (nA:=ds.length) (fun _ _=>rfl) hD okk.2.1] at G
     have hf2:ca [(5,x.toNat,y.toNat,0)] nD D=fun i=>if i=nD then Jvm.Native.java_lang_Math.nans.pick64 true (dX D x.toNat) (dX D y.toNat) else D i:=rfl
     rw[hf2,my hnD] at G
     exact G
    ·cases q
   ·cases hs
  ·cases hs
 ·next cd hnt =>
  split at hs
  ·next a r =>
   split at hs
   ·next hc =>
    cases hs
    obtain⟨hkn,hLs,hf,hl⟩:=hc
    rcases hC op 5 cd hnt with ⟨q,-⟩|⟨q,-⟩|⟨q,-⟩|⟨q,-⟩|⟨-,i,rfl,w1,w2,w3⟩
    ·cases q
    ·cases q
    ·cases q
    ·cases q
    ·refine x4 X hx hZ hown w1 w2 w3 eT (mA st') _ hd rfl (by rw[Array.size_map];exact hLs) hf (by rw[cY _ hkn];exact Nat.le_refl _) (by show _≤RR.2.2.2;omega) ?_
     intro T' X' e'
     exact K_ T' A K (fun _ _=>⟨rfl,rfl⟩) ⟨h,locs,X',e',Y,Kp,hsz,N,hn,hnB⟩
   ·cases hs
  ·cases hs
 ·cases hs
end OwnExecR
section OwnExecZ
variable {p:Program}{l:Launch}{e:Env}{R:Room}{s:State}{m:MethodId}{args:Array Value}{below:List Frame}{meth:Method}{c:Code}{T:State}{locs:List Loc}{cells slots:Nat}{Z:State}{a0:Array Value}{h h':Heap}{Ev:State→Outcome→Prop}
abbrev Md:=eS×(Nat→Option FieldType)×(Nat→Option (Nat×Nat))×(Instr→Option (Nat×Nat×Nat×Nat))×(Instr→Option (Nat×Nat))
def je (Z:State)(a0:Array Value)(own mn:String)(M:Md):Prop:=cL Z a0 own M.1∧gk Z a0 own mn M.2.1 M.1∧iQ Z a0 own M.2.2.1∧fo Z own M.2.2.2.1∧iR Z a0 own M.2.2.2.2
def PT (dk:DC)(pc:Nat):Bool :=
 match dk pc with
 | .ok (.ireturn,1)=>true
 | .ok (.lreturn,1)=>true
 | .ok (.dreturn,1)=>true
 | .ok (.areturn,1)=>true
 | .ok (.return_,1)=>true
 | _=>false
abbrev MS:=Nat×Array Slot×List Value×List AD×Nat×Nat×Nat
def run (dk:DC)(M:Md)(ml:Nat)(RR:Nat×Nat×Nat×Nat)(to:Nat):Nat→List Sc→List Int32→MS→Option (MS×List Op)
 | 0,_,_,_=>none
 | f+1,sc,orc,(pc,L,st,ds,nD,ce,sl) =>
  if PT dk pc=true∨pc=to then some ((pc,L,st,ds,nD,ce,sl),[])
  else match NK dk M.1 ds pc L st with
  | some (pc',L',st')=>run dk M ml RR to f sc orc (pc',L',st',ds,nD,ce,sl)
  | none=>match Ax dk M.1 M.2.1 ds pc L st with
   | some (pc',L',st',ds')=>run dk M ml RR to f sc orc (pc',L',st',ds',nD,ce,sl)
   | none=>match NL dk M.1 M.2.2.1 nD ds pc L st with
    | some (pc',st',d,w)=>if ce+1≤RR.2.1∧sl+w≤RR.2.2.1 then run dk M ml RR to f sc orc (pc',L,st',ds++[d],nD,ce+1,sl+w) else none
    | none=>match NN dk nD ds orc pc L st with
     | some (pc',st',o,orc')=>(run dk M ml RR to f sc orc' (pc',L,st',ds,nxN o nD,ce,sl)).map fun r=>(r.1,o::r.2)
     | none=>match AC dk M.2.2.2.2 ml RR nD ce sl ds pc L st with
      | some (pc',st',ds',ops,dc,dsl)=>(run dk M ml RR to f sc orc (pc',L,st',ds',fH ops nD,ce+dc,sl+dsl)).map fun r=>(r.1,ops++r.2)
      | none=>match sc with
       | E::sc'=>match Ay dk M.2.2.2.1 ml RR nD ce sl ds E pc L st with
        | some (pc',st',ds',ops)=>(run dk M ml RR to f sc' orc (pc',L,st',ds',fH ops nD,ce+E.1.2.2.2.1,sl+E.1.2.2.2.2.1)).map fun r=>(r.1,ops++r.2)
        | none=>none
       | []=>none
theorem AF {code:ByteArray}{P:eS}{pw:Nat→Option FieldType}{ds ds':List AD}{pc pc':Nat}{L L':Array Slot}{st st':List Value}(hs:Ax (decode code) P pw ds pc L st=some (pc',L',st',ds')):ds'.length=ds.length:=by
 unfold Ax at hs
 repeat' split at hs
 all_goals first|(cases hs;done)|(cases hs;simp)
theorem AG {code:ByteArray}{nt:Instr→Option (Nat×Nat)}{ml:Nat}{RR:Nat×Nat×Nat×Nat}{nD ce sl dc dsl:Nat}{ds ds':List AD}{ops:List Op}{pc pc':Nat}{L:Array Slot}{st st':List Value}(hs:AC (decode code) nt ml RR nD ce sl ds pc L st=some (pc',st',ds',ops,dc,dsl)):ds.length≤ds'.length:=by
 unfold AC at hs
 repeat' split at hs
 all_goals first|(cases hs;done)|(cases hs;simp;done)|(cases hs;split<;>simp)
theorem AH {code:ByteArray}{cl:Instr→Option (Nat×Nat×Nat×Nat)}{ml:Nat}{RR:Nat×Nat×Nat×Nat}{nD ce sl:Nat}{ds ds':List AD}{E:Sc}{ops:List Op}{pc pc':Nat}{L:Array Slot}{st st':List Value}(hs:Ay (decode code) cl ml RR nD ce sl ds E pc L st=some (pc',st',ds',ops)):ds.length≤ds'.length:=by
 unfold Ay at hs
 split at hs
 ·split at hs
  ·dsimp only at hs
   split at hs
   ·split at hs
    ·split at hs
     ·split at hs
      ·cases hs
       rw[List.length_append,f7]
       omega
      ·cases hs
     ·cases hs
    ·cases hs
   ·cases hs
  ·cases hs
 ·cases hs
theorem AI {W:Nat→Value}{code:ByteArray}{own:String}{M:Md}{ml:Nat}{RR:Nat×Nat×Nat×Nat}{to n0 nB:Nat}{hB:Heap}(hw:HW a0 Z)(hx:p.tables.exec=Jvm.exec)(hby:c.code=code)(hml:c.maxLocals=ml)(hR:R=jc RR)(hZ:Z.Warmed39 s.vm)(hown:s.vm.findClass own=some m.cls)(hM:je Z a0 own meth.name M)(CL:eU Z a0)(hA:fr Z a0) :
  ∀(f:Nat) (sc:List Sc) (orc:List Int32) (pc:Nat) (L:Array Slot) (st:List Value) (ds:List AD) (nD ce sl pc':Nat) (L':Array Slot) (st':List Value) (ds':List AD) (nD' ce' sl':Nat) (ops:List Op) (T:State) (A:Nat→Addr) (K:Nat→ClassId) (D:Nat→UInt64),run (decode code) M ml RR to f sc orc (pc,L,st,ds,nD,ce,sl)=some ((pc',L',st',ds',nD',ce',sl'),ops)→(∀E∈sc,CtH E.1)→D 0=0→0<nD→Sit p l e R s m args below meth c Z n0 nB hB T A K D W ds ce sl→okv ops nD D →
   (∀T' A' K',(∀i,i<ds.length→A' i=A i∧K' i=K i)→ds.length≤ds'.length→Sit p l e R s m args below meth c Z n0 nB hB T' A' K' (ca ops nD D) W ds' ce' sl'→Go p e below Ev T' (mkF m pc' (L'.map (aZ A' (ca ops nD D) W)) (st'.map (den A' (ca ops nD D) W)))) →
   Go p e below Ev T (mkF m pc (L.map (aZ A D W)) (st.map (den A D W))):=by
 obtain⟨m1,m2,m3,m4,m5⟩:=hM
 intro f
 induction f with
 | zero=>intro sc orc pc L st ds nD ce sl pc' L' st' ds' nD' ce' sl' ops T A K D hr;cases hr
 | succ f ih =>
  intro sc orc pc L st ds nD ce sl pc' L' st' ds' nD' ce' sl' ops T A K D hr hsc hD0 hnD S hv K_
  unfold run at hr
  split at hr
  ·cases hr
   exact K_ T A K (fun _ _=>⟨rfl,rfl⟩) (Nat.le_refl _) S
  ·split at hr
   ·next pc1 L1 st1 e1 =>
    obtain⟨h,locs,X,eT,Y,r⟩:=S
    refine H7 X hx hby hZ hown m1 eT Y hD0 e1 ?_
    intro T' X' e'
    exact ih sc orc pc1 L1 st1 ds nD ce sl pc' L' st' ds' nD' ce' sl' ops T' A K D hr hsc hD0 hnD ⟨h,locs,X',e',Y,r⟩ hv K_
   ·split at hr
    ·next pc1 L1 st1 ds1 e1 =>
     refine H8 hx hby hZ hown m1 m2 CL S e1 ?_
     intro T' S'
     have hl:=AF e1
     exact ih sc orc pc1 L1 st1 ds1 nD ce sl pc' L' st' ds' nD' ce' sl' ops T' A K D hr hsc hD0 hnD S' hv (fun T2 A2 K2 ha hle=>K_ T2 A2 K2 (fun i hi=>ha i (by omega)) (by omega))
    ·split at hr
     ·next pc1 st1 d w e1 =>
      split at hr
      ·next hc =>
       refine Ia hx hby hZ hown m1 m3 hA hD0 S (by rw[hR];exact hc.1) (by rw[hR];exact hc.2) e1 ?_
       intro T' A1 K1 hAK S'
       refine ih sc orc pc1 L st1 (ds++[d]) nD (ce+1) (sl+w) pc' L' st' ds' nD' ce' sl' ops T' A1 K1 D hr hsc hD0 hnD S' hv (fun T2 A2 K2 ha hle S2=>K_ T2 A2 K2 (fun i hi=>?_) (by rw[List.length_append] at hle;omega) S2)
       have:=ha i (by rw[List.length_append];omega)
       exact⟨this.1.trans (hAK i hi).1,this.2.trans (hAK i hi).2⟩
      ·cases hr
     ·split at hr
      ·next pc1 st1 o orc1 e1 =>
       cases e2:run (decode code) M ml RR to f sc orc1 (pc1,L,st1,ds,nxN o nD,ce,sl) with
       | none=>rw[e2] at hr;cases hr
       | some r =>
        rw[e2] at hr
        obtain⟨⟨a1,a2,a3,a4,a5,a6,a7⟩,ops1⟩:=r
        cases hr
        have hv':vc1 o D∧okv ops1 (nxN o nD) (nxD o nD D):=hv
        refine Ib hx hby S e1 hv'.1 ?_
        intro S'
        exact ih sc orc1 pc1 L st1 ds (nxN o nD) ce sl _ _ _ _ _ _ _ ops1 T A K (nxD o nD D) e2 hsc (by rw[po o nD D hnD];exact hD0) (Nat.lt_of_lt_of_le hnD (mv o nD)) S' hv'.2 K_
      ·split at hr
       ·next pc1 st1 ds1 ops0 dc dsl e1 =>
        cases e2:run (decode code) M ml RR to f sc orc (pc1,L,st1,ds1,fH ops0 nD,ce+dc,sl+dsl) with
        | none=>rw[e2] at hr;cases hr
        | some r =>
         rw[e2] at hr
         obtain⟨⟨a1,a2,a3,a4,a5,a6,a7⟩,ops1⟩:=r
         cases hr
         obtain⟨v1,v2⟩:=(pn ops0 ops1 nD D).mp hv
         have hl:=AG e1
         refine Id hx hby hml hR hZ hown m5 S e1 v1 ?_
         intro T' A1 K1 hAK S'
         refine ih sc orc pc1 L st1 ds1 (fH ops0 nD) (ce+dc) (sl+dsl) _ _ _ _ _ _ _ ops1 T' A1 K1 (ca ops0 nD D) e2 hsc (by rw[fk ops0 nD D hnD];exact hD0) (Nat.lt_of_lt_of_le hnD (jo ops0 nD)) S' v2 (fun T2 A2 K2 ha hle S2=>?_)
         have G:=K_ T2 A2 K2 (fun i hi=>⟨(ha i (by omega)).1.trans (hAK i hi).1,(ha i (by omega)).2.trans (hAK i hi).2⟩) (by omega)
         rw[mu] at G
         exact G S2
       ·split at hr
        ·next E sc1 =>
         split at hr
         ·next pc1 st1 ds1 ops0 e1 =>
          cases e2:run (decode code) M ml RR to f sc1 orc (pc1,L,st1,ds1,fH ops0 nD,ce+E.1.2.2.2.1,sl+E.1.2.2.2.2.1) with
          | none=>rw[e2] at hr;cases hr
          | some r =>
           rw[e2] at hr
           obtain⟨⟨a1,a2,a3,a4,a5,a6,a7⟩,ops1⟩:=r
           cases hr
           obtain⟨v1,v2⟩:=(pn ops0 ops1 nD D).mp hv
           have hl:=AH e1
           refine Ic hw hx hby hml hR hZ hown m4 (hsc E (List.mem_cons_self ..)) hD0 S e1 v1 ?_
           intro T' A1 K1 hAK S'
           refine ih sc1 orc pc1 L st1 ds1 (fH ops0 nD) (ce+E.1.2.2.2.1) (sl+E.1.2.2.2.2.1) _ _ _ _ _ _ _ ops1 T' A1 K1 (ca ops0 nD D) e2 (fun x hx'=>hsc x (List.mem_cons_of_mem _ hx')) (by rw[fk ops0 nD D hnD];exact hD0) (Nat.lt_of_lt_of_le hnD (jo ops0 nD)) S' v2 (fun T2 A2 K2 ha hle S2=>?_)
           have G:=K_ T2 A2 K2 (fun i hi=>⟨(ha i (by omega)).1.trans (hAK i hi).1,(ha i (by omega)).2.trans (hAK i hi).2⟩) (by omega)
           rw[mu] at G
           exact G S2
         ·cases hr
        ·cases hr
def I3 (dk:DC)(rt:Option FieldType)(pc:Nat)(st:List Value)(res:Option Value):Bool :=
 match rt,dk pc,st,res with
 | none,.ok (.return_,1),[],none=>true
 | some .int,.ok (.ireturn,1),.int x::_,some (.int y)=>x==y
 | some .int,.ok (.ireturn,1),.float x::_,some (.float y)=>x==y
 | some .boolean,.ok (.ireturn,1),.int x::_,some (.int y)=>x==y&&(nar .boolean x==x)
 | some .long,.ok (.lreturn,1),.long x::_,some (.long y)=>x==y
 | some .double,.ok (.dreturn,1),.double x::_,some (.double y)=>x==y
 | some (.array _),.ok (.areturn,1),.ref x::_,some (.ref y)=>x==y
 | some (.object _),.ok (.areturn,1),.ref x::_,some (.ref y)=>x==y
 | _,_,_,_=>false
def dL (A:Nat→Addr)(D:Nat→UInt64)(W:Nat→Value)(L:Array Slot):Array Slot:=(L.toList.map (aZ A D W)).toArray
theorem AJ (A:Nat→Addr)(D:Nat→UInt64)(W:Nat→Value)(L:Array Slot):dL A D W L=L.map (aZ A D W):=by
 unfold dL
 apply Array.ext'
 simp
def ai (r:Option (MS×List Op)) (σ:MS)(ops:List Op):Bool :=
 match r with
 | some (τ,o)=>decide (o=ops)&&(decide (τ.1=σ.1)&&(decide (τ.2.1.toList=σ.2.1.toList)&&(decide (τ.2.2.1=σ.2.2.1)&&(decide (τ.2.2.2.1=σ.2.2.2.1)&&(decide (τ.2.2.2.2.1=σ.2.2.2.2.1)&&(decide (τ.2.2.2.2.2.1=σ.2.2.2.2.2.1)&&decide (τ.2.2.2.2.2.2=σ.2.2.2.2.2.2)))))))
 | none=>false
theorem uQ {r:Option (MS×List Op)} {σ:MS}{ops:List Op}(h:ai r σ ops=true):r=some (σ,ops):=by
 unfold ai at h
 split at h
 ·next τ o =>
  simp only[Bool.and_eq_true,decide_eq_true_eq] at h
  obtain⟨rfl,h1,h2,h3,h4,h5,h6,h7⟩:=h
  obtain⟨a1,a2,a3,a4,a5,a6,a7⟩:=τ
  obtain⟨b1,b2,b3,b4,b5,b6,b7⟩:=σ
  dsimp only at h1 h2 h3 h4 h5 h6 h7
  have h2':a2=b2:=Array.ext' h2
  subst h1 h2' h3 h4 h5 h6 h7
  rfl
 ·cases h
theorem seg {W:Nat→Value}{code:ByteArray}{own:String}{M:Md}{ml:Nat}{RR:Nat×Nat×Nat×Nat}{to n0 f nD pc pc' nD' cells' slots':Nat}{sc:List Sc}{orc:List Int32}{L L':Array Slot}{st st':List Value}{ds ds':List AD}{ops:List Op}{A:Nat→Addr}{K:Nat→ClassId}{D:Nat→UInt64}(hr:run (decode code) M ml RR to f sc orc (pc,L,st,ds,nD,cells,slots)=some ((pc',L',st',ds',nD',cells',slots'),ops))(hsc:∀E∈sc,CtH E.1)(hw:HW a0 Z)(hx:p.tables.exec=Jvm.exec)(hby:c.code=code)(hml:c.maxLocals=ml)(hR:R=jc RR)(hZ:Z.Warmed39 s.vm)(hown:s.vm.findClass own=some m.cls)(hM:je Z a0 own meth.name M∧eU Z a0∧fr Z a0)(hD0:D 0=0)(hnD:0<nD)(X:Stand p l e R s m args below meth c T locs cells slots)(eT:T.heap=h)(Y:YgF Z n0 h A K D W ds)(N:Fr n0 locs)(hn:n0≤h.size)(hv:okv ops nD D)
  (K_:∀T' h' locs' A' K',(∀i,i<ds.length→A' i=A i∧K' i=K i)→Stand p l e R s m args below meth c T' locs' cells' slots'→T'.heap=h'→YgF Z n0 h' A' K' (ca ops nD D) W ds'→Fr n0 locs'→Keep h h' ((List.range ds.length).map A)→(∀i,ds.length≤i→i<ds'.length→h.size≤A' i)→n0≤h'.size→Go p e below Ev T' (mkF m pc' (dL A' (ca ops nD D) W L') (st'.map (den A' (ca ops nD D) W)))):Go p e below Ev T (mkF m pc (dL A D W L) (st.map (den A D W))):=by
 rw[AJ]
 refine AI (nB:=ds.length) (hB:=h) (n0:=n0) hw hx hby hml hR hZ hown hM.1 hM.2.1 hM.2.2 f sc orc pc L st ds nD cells slots pc' L' st' ds' nD' cells' slots' ops T A K D hr hsc hD0 hnD ⟨h,locs,X,eT,Y,Keep.refl _ _,fun i h1 h2=>by omega,N,hn,Nat.le_refl _⟩ hv ?_
 intro T' A' K' hAK hle S'
 obtain⟨h',locs',X',e',Y',Kp,hsz,N',hn',hnB⟩:=S'
 have hkr:(List.range ds.length).map A'=(List.range ds.length).map A:=List.map_congr_left fun i hi=>(hAK i (List.mem_range.mp hi)).1
 rw[hkr] at Kp
 have G:=K_ T' h' locs' A' K' hAK X' e' Y' N' Kp hsz hn'
 rw[AJ] at G
 exact G
def cP:List Value→List Slot
 | []=>[]
 | v::r=>if v.category=2 then .val v :: .second::cP r else .val v::cP r
theorem qn:∀(as:List Value)(acc:Array Slot),as.foldl (fun acc v=>if v.category=2 then (acc.push (.val v)).push .second else acc.push (.val v)) acc=acc++(cP as).toArray
 | [],acc=>by simp [cP]
 | v::r,acc=>by
  rw[List.foldl_cons,qn r]
  show (if v.category=2 then (acc.push (.val v)).push .second else acc.push (.val v))++(cP r).toArray=acc++(if v.category=2 then .val v :: .second::cP r else .val v::cP r).toArray
  by_cases hc:v.category=2
  ·rw[if_pos hc,if_pos hc]
   apply Array.ext'
   simp
  ·rw[if_neg hc,if_neg hc]
   apply Array.ext'
   simp
theorem qo {A:Nat→Addr}{D:Nat→UInt64}{W:Nat→Value}:∀(as:List Value),as.all kn=true→cP (as.map (den A D W))=(cP as).map (aZ A D W)
 | [],_=>rfl
 | v::r,h=>by
  rw[List.all_cons,Bool.and_eq_true] at h
  show (if (den A D W v).category=2 then .val (den A D W v) :: .second::cP (r.map (den A D W)) else .val (den A D W v)::cP (r.map (den A D W)))=(if v.category=2 then .val v :: .second::cP r else .val v::cP r).map (aZ A D W)
  rw[dq h.1,qo r h.2]
  by_cases hc:v.category=2
  ·rw[if_pos hc,if_pos hc]
   rfl
  ·rw[if_neg hc,if_neg hc]
   rfl
def mB (as:List Value)(ml:Nat):List Slot:=cP as++List.replicate (ml-(cP as).length) .unset
theorem AK {as:List Value}{ml:Nat}(h:as.all kn=true)(A:Nat→Addr)(D:Nat→UInt64)(W:Nat→Value)(m:MethodId):entryFrame m (as.map (den A D W)).toArray ml=mkF m 0 (dL A D W (mB as ml).toArray) []:=by
 have e3:(as.map (den A D W)).toArray.foldl (init:=#[]) (fun acc v=>if v.category=2 then (acc.push (.val v)).push .second else acc.push (.val v))=((cP as).map (aZ A D W)).toArray:=by
  rw[List.foldl_toArray,qn,qo as h]
  simp
 have e2:argsToLocals (as.map (den A D W)).toArray ml=dL A D W (mB as ml).toArray:=by
  unfold dL argsToLocals mB
  dsimp only
  rw[e3]
  apply Array.ext'
  simp [aZ]
 show mkF m 0 (argsToLocals (as.map (den A D W)).toArray ml) []=_
 rw[e2]
def chk (mn nD f:Nat)(ds ds':List AD)(res:Option Value)(ops:List Op)(RR:Nat×Nat×Nat×Nat)(M:Md)(L0:Array Slot)(sc:List Sc)(orc:List Int32):Bool :=
 match run (tb mn) M (ic mn) RR 1000000 f sc orc (0,L0,[],ds,nD,0,0) with
 | some (σ,o)=>decide (o=ops)&&(decide (σ.2.2.2.1=ds')&&(decide (0<nD)&&(decide (σ.2.2.2.2.2.1≤RR.2.1)&&(decide (σ.2.2.2.2.2.2≤RR.2.2.1)&&I3 (tb mn) (pj mn) σ.1 σ.2.2.1 res))))
 | none=>false
theorem uR {mn:Nat}{own:String}(hcls:(cJ mn).cls=own)(h:plainName own=true∨plainFor (cJ mn)=true):plainFor (cJ mn)=true:=h.elim (fun q=>plainFor_of_name (by rw[hcls];exact q)) id
theorem sc0:∀E∈([]:List Sc),CtH E.1:=fun _ q=>by cases q
theorem scS {E:Sc}{t:List Sc}(h:CtH E.1)(r:∀x∈t,CtH x.1):∀x∈E::t,CtH x.1:=fun x hx=>by
 rcases List.mem_cons.mp hx with rfl|hx
 ·exact h
 ·exact r x hx
theorem ctR {mn nD:Nat}{as:List Value}{ds ds':List AD}{res:Option Value}{ops:List Op}{RR:Nat×Nat×Nat×Nat}{own:String}{M:Md}(f:Nat)(hpn:plainName own=true∨plainFor (cJ mn)=true)(hcls:(cJ mn).cls=own)(hM:∀(Z:State)(a0:Array Value),(∀d∈tables_1,d.before a0 Z=true)→je Z a0 own (cJ mn).name M∧eU Z a0∧fr Z a0)(sc:List Sc)(orc:List Int32)(hsc:∀E∈sc,CtH E.1)(hc:(as.all kn&&chk mn nD f ds ds' res ops RR M (mB as (ic mn)).toArray sc orc)=true):CtH ((mn,as,ds,nD),(res,ds',ops),RR):=by
 rw[Bool.and_eq_true] at hc
 obtain⟨hkn,hc⟩:=hc
 generalize hL0:(mB as (ic mn)).toArray=L0 at hc
 unfold chk at hc
 rw[z9 mn] at hc
 split at hc
 case h_2=>cases hc
 next σ o hr =>
 simp only[Bool.and_eq_true,decide_eq_true_eq] at hc
 obtain⟨rfl,hds,hnD,hce,hsl,hret⟩:=hc
 obtain⟨pc',L',st',ds1,nD',ce',sl'⟩:=σ
 dsimp only at hds hce hsl hret
 subst hds
 intro l Z a0 hw A K D W h0 n0 hD0 hn Y hv
 obtain⟨hMd,CL,hAr⟩:=hM Z a0 hw
 refine o9 (uR hcls hpn) (fun m=>(AK hkn A D W m).trans (by rw[hL0,AJ])) ?_
 intro p e s m below meth c T X0 hx hby hml hretT hlk hnm hown hZ e0
 rw[hcls] at hown
 rw[←hnm] at hMd
 refine AI (nB:=ds.length) (hB:=h0) (n0:=n0) hw hx hby hml rfl hZ hown hMd CL hAr f sc orc 0 L0 [] ds nD 0 0 pc' L' st' ds1 nD' ce' sl' o T A K D hr hsc hD0 hnD ⟨h0,[],X0,e0,Y,Keep.refl _ _,fun i h1 h2=>by omega,Fr.nil n0,hn,Nat.le_refl _⟩ hv ?_
 intro T' A' K' hAK hle S'
 obtain⟨h',locs',X',e',Y',Kp,hsz,N,hn',hnB⟩:=S'
 have hkr:(List.range ds.length).map A'=(List.range ds.length).map A:=List.map_congr_left fun i hi=>(hAK i (List.mem_range.mp hi)).1
 rw[hkr] at Kp
 have Q:∀r,r=res.map (den A' (ca o nD D) W)→QF Z n0 h0 A K D W ((mn,as,ds,nD),(res,ds1,o),RR) r h' locs':=fun r hr=>⟨A',K',hAK,hsz,hr,N,Kp,Y',hle⟩
 unfold I3 at hret
 split at hret
 ·next e1 e2=>exact Nr X' hx hlk (hretT.trans e1) (by rw[hby];exact e2) hce hsl e' (Q _ rfl)
 ·next x r y e1 e2 =>
  have q:x=y:=by simpa using hret
  subst q
  exact zv X' hx hlk (hretT.trans e1) (by rw[hby];exact e2) hce hsl e' (Q _ rfl)
 ·next x r y e1 e2 =>
  have q:x=y:=by simpa using hret
  subst q
  exact zv X' hx hlk (hretT.trans e1) (by rw[hby];exact e2) hce hsl e' (Q _ rfl)
 ·next x r y e1 e2 =>
  simp only[Bool.and_eq_true,beq_iff_eq] at hret
  obtain⟨rfl,q⟩:=hret
  exact ia X' hx hlk (hretT.trans e1) (by rw[hby];exact e2) hce hsl e' (Q _ (by rw[q];rfl))
 ·next x r y e1 e2 =>
  have q:x=y:=by simpa using hret
  subst q
  exact Nq X' hx hlk (hretT.trans e1) (by rw[hby];exact e2) hce hsl e' (Q _ rfl)
 ·next x r y e1 e2 =>
  have q:x=y:=by simpa using hret
  subst q
  exact Np X' hx hlk (hretT.trans e1) (by rw[hby];exact e2) hce hsl e' (Q _ rfl)
 ·next t x r y e1 e2 =>
  have q:x=y:=by simpa using hret
  subst q
  exact mi X' hx hlk (hretT.trans e1) rfl rfl rfl (by rw[hby];exact e2) hce hsl e' (Q _ rfl)
 ·next t x r y e1 e2 =>
  have q:x=y:=by simpa using hret
  subst q
  exact mi X' hx hlk (hretT.trans e1) rfl rfl rfl (by rw[hby];exact e2) hce hsl e' (Q _ rfl)
 ·cases hret
end OwnExecZ
abbrev vU (n:Nat):Value := .retAddr n
abbrev vR (n:Nat):Value := .ref n
abbrev vI (n:Int32):Value := .int n
abbrev vD (n:UInt64):Value := .double n
abbrev sR (n:Nat):Slot := .val (.ref n)
abbrev sI (n:Int32):Slot := .val (.int n)
abbrev sD (n:UInt64):Slot := .val (.double n)
abbrev sF (n:UInt32):Slot := .val (.float n)
abbrev sU:Slot := .unset
abbrev s2:Slot := .second
def uS (a n:Nat):List Value:=(List.range n).map fun i => .retAddr (a+i)
def rS (a n:Nat):List Value:=(List.range n).map fun i => .ref (a+i)
abbrev aI (l:List Int32):AD:=(64,l.length,l.map .int)
abbrev aD (l:List UInt64):AD:=(65,l.length,l.map .double)
abbrev aR (c:Nat)(l:List Nat):AD:=(c,l.length,l.map .ref)
abbrev aU (c a n:Nat):AD:=(c,n,uS a n)
def am:List AD→List (Nat×AD)→List AD
 | ds,[]=>ds
 | ds,(i,d)::t=>am (ds.set i d) t
theorem AL {Z:State}{a0:Array Value}(hw:HW a0 Z):Lds Z a0 (cI 0) (a_ 0):=by
 intro f hf
 simp only[a_,List.mem_cons,List.not_mem_nil,or_false] at hf
 rcases hf with rfl|rfl|rfl|rfl|rfl|rfl|rfl|rfl|rfl|rfl|rfl|rfl|rfl|rfl|rfl|rfl|rfl|rfl|rfl|rfl|rfl|rfl|rfl|rfl|rfl|rfl|rfl|rfl|rfl
 ·exact⟨(Or.inl (tw hw 29 rfl)),(.array .int),by decide⟩
 ·exact⟨(Or.inl (tw hw 31 rfl)),(.array .double),by decide⟩
 ·exact⟨(Or.inl (tw hw 33 rfl)),(.array .int),by decide⟩
 ·exact⟨(Or.inl (tw hw 35 rfl)),(.array .double),by decide⟩
 ·exact⟨(Or.inl (tw hw 37 rfl)),(.array .int),by decide⟩
 ·exact⟨(Or.inl (tw hw 39 rfl)),(.array .double),by decide⟩
 ·exact⟨(Or.inl (tw hw 41 rfl)),(.array .int),by decide⟩
 ·exact⟨(Or.inl (tw hw 43 rfl)),(.array .double),by decide⟩
 ·exact⟨(Or.inl (tw hw 45 rfl)),(.array .int),by decide⟩
 ·exact⟨(Or.inl (tw hw 47 rfl)),(.array .double),by decide⟩
 ·exact⟨(Or.inl (tw hw 49 rfl)),(.array .int),by decide⟩
 ·exact⟨(Or.inl (tw hw 51 rfl)),(.array .int),by decide⟩
 ·exact⟨(Or.inl (tw hw 53 rfl)),(.array .double),by decide⟩
 ·exact⟨(Or.inr (tw hw 55 rfl)),.int,by decide⟩
 ·exact⟨(Or.inr (tw hw 57 rfl)),(.array .int),by decide⟩
 ·exact⟨(Or.inr (tw hw 59 rfl)),(.array .int),by decide⟩
 ·exact⟨(Or.inr (tw hw 61 rfl)),(.array .double),by decide⟩
 ·exact⟨(Or.inr (tw hw 63 rfl)),(.array .int),by decide⟩
 ·exact⟨(Or.inr (tw hw 65 rfl)),(.array .int),by decide⟩
 ·exact⟨(Or.inr (tw hw 67 rfl)),(.array .int),by decide⟩
 ·exact⟨(Or.inr (tw hw 69 rfl)),(.array .int),by decide⟩
 ·exact⟨(Or.inr (tw hw 71 rfl)),(.array .int),by decide⟩
 ·exact⟨(Or.inr (tw hw 73 rfl)),(.array .int),by decide⟩
 ·exact⟨(Or.inr (tw hw 89 rfl)),(.object "com/example/tracefold/tracefold/mining/SparseVector"),by decide⟩
 ·exact⟨(Or.inr (tw hw 91 rfl)),(.object "com/example/tracefold/tracefold/mining/SparseVector"),by decide⟩
 ·exact⟨(Or.inr (tw hw 93 rfl)),(.object "com/example/tracefold/tracefold/mining/SparseVector"),by decide⟩
 ·exact⟨(Or.inr (tw hw 95 rfl)),(.object "com/example/tracefold/tracefold/mining/SparseVector"),by decide⟩
 ·exact⟨(Or.inr (tw hw 112 rfl)),(.object "com/example/tracefold/tracefold/mining/FactoredInverse$StepQueue"),by decide⟩
 ·exact⟨(Or.inl (tw hw 121 rfl)),.int,by decide⟩
theorem AM:((a_ 0).map (·.2.1)).Pairwise (·≠·):=by decide +kernel
theorem AN {Z:State}{a0:Array Value}(hw:HW a0 Z):∀(j:Nat)(v:Value)(f:String×String×String),(gV 0)[j]? = some v→(a_ 0)[j]? = some f→Laid Z a0 (cI 0) f.1 f.2.1 f.2.2∧∃t,parseFieldDescriptor f.2.2=some t∧∀(A:Nat→Addr)(D:Nat→UInt64)(W:Nat→Value),D 0=0→den A D W v=defaultValue t:=by
 intro j v f h1 h2
 obtain⟨hl,-⟩:=List.getElem?_eq_some_iff.mp h1
 have hj:j<29:=hl
 match j,hj,h1,h2 with
 | 0,_,h1,h2=>cases h1;cases h2;exact⟨(Or.inl (tw hw 29 rfl)),(.array .int),by decide,fun A D W q=>rfl⟩
 | 1,_,h1,h2=>cases h1;cases h2;exact⟨(Or.inl (tw hw 31 rfl)),(.array .double),by decide,fun A D W q=>rfl⟩
 | 2,_,h1,h2=>cases h1;cases h2;exact⟨(Or.inl (tw hw 33 rfl)),(.array .int),by decide,fun A D W q=>rfl⟩
 | 3,_,h1,h2=>cases h1;cases h2;exact⟨(Or.inl (tw hw 35 rfl)),(.array .double),by decide,fun A D W q=>rfl⟩
 | 4,_,h1,h2=>cases h1;cases h2;exact⟨(Or.inl (tw hw 37 rfl)),(.array .int),by decide,fun A D W q=>rfl⟩
 | 5,_,h1,h2=>cases h1;cases h2;exact⟨(Or.inl (tw hw 39 rfl)),(.array .double),by decide,fun A D W q=>rfl⟩
 | 6,_,h1,h2=>cases h1;cases h2;exact⟨(Or.inl (tw hw 41 rfl)),(.array .int),by decide,fun A D W q=>rfl⟩
 | 7,_,h1,h2=>cases h1;cases h2;exact⟨(Or.inl (tw hw 43 rfl)),(.array .double),by decide,fun A D W q=>rfl⟩
 | 8,_,h1,h2=>cases h1;cases h2;exact⟨(Or.inl (tw hw 45 rfl)),(.array .int),by decide,fun A D W q=>rfl⟩
 | 9,_,h1,h2=>cases h1;cases h2;exact⟨(Or.inl (tw hw 47 rfl)),(.array .double),by decide,fun A D W q=>rfl⟩
 | 10,_,h1,h2=>cases h1;cases h2;exact⟨(Or.inl (tw hw 49 rfl)),(.array .int),by decide,fun A D W q=>rfl⟩
 | 11,_,h1,h2=>cases h1;cases h2;exact⟨(Or.inl (tw hw 51 rfl)),(.array .int),by decide,fun A D W q=>rfl⟩
 | 12,_,h1,h2=>cases h1;cases h2;exact⟨(Or.inl (tw hw 53 rfl)),(.array .double),by decide,fun A D W q=>rfl⟩
 | 13,_,h1,h2=>cases h1;cases h2;exact⟨(Or.inr (tw hw 55 rfl)),.int,by decide,fun A D W q=>rfl⟩
 | 14,_,h1,h2=>cases h1;cases h2;exact⟨(Or.inr (tw hw 57 rfl)),(.array .int),by decide,fun A D W q=>rfl⟩
 | 15,_,h1,h2=>cases h1;cases h2;exact⟨(Or.inr (tw hw 59 rfl)),(.array .int),by decide,fun A D W q=>rfl⟩
 | 16,_,h1,h2=>cases h1;cases h2;exact⟨(Or.inr (tw hw 61 rfl)),(.array .double),by decide,fun A D W q=>rfl⟩
 | 17,_,h1,h2=>cases h1;cases h2;exact⟨(Or.inr (tw hw 63 rfl)),(.array .int),by decide,fun A D W q=>rfl⟩
 | 18,_,h1,h2=>cases h1;cases h2;exact⟨(Or.inr (tw hw 65 rfl)),(.array .int),by decide,fun A D W q=>rfl⟩
 | 19,_,h1,h2=>cases h1;cases h2;exact⟨(Or.inr (tw hw 67 rfl)),(.array .int),by decide,fun A D W q=>rfl⟩
 | 20,_,h1,h2=>cases h1;cases h2;exact⟨(Or.inr (tw hw 69 rfl)),(.array .int),by decide,fun A D W q=>rfl⟩
 | 21,_,h1,h2=>cases h1;cases h2;exact⟨(Or.inr (tw hw 71 rfl)),(.array .int),by decide,fun A D W q=>rfl⟩
 | 22,_,h1,h2=>cases h1;cases h2;exact⟨(Or.inr (tw hw 73 rfl)),(.array .int),by decide,fun A D W q=>rfl⟩
 | 23,_,h1,h2=>cases h1;cases h2;exact⟨(Or.inr (tw hw 89 rfl)),(.object "com/example/tracefold/tracefold/mining/SparseVector"),by decide,fun A D W q=>rfl⟩
 | 24,_,h1,h2=>cases h1;cases h2;exact⟨(Or.inr (tw hw 91 rfl)),(.object "com/example/tracefold/tracefold/mining/SparseVector"),by decide,fun A D W q=>rfl⟩
 | 25,_,h1,h2=>cases h1;cases h2;exact⟨(Or.inr (tw hw 93 rfl)),(.object "com/example/tracefold/tracefold/mining/SparseVector"),by decide,fun A D W q=>rfl⟩
 | 26,_,h1,h2=>cases h1;cases h2;exact⟨(Or.inr (tw hw 95 rfl)),(.object "com/example/tracefold/tracefold/mining/SparseVector"),by decide,fun A D W q=>rfl⟩
 | 27,_,h1,h2=>cases h1;cases h2;exact⟨(Or.inr (tw hw 112 rfl)),(.object "com/example/tracefold/tracefold/mining/FactoredInverse$StepQueue"),by decide,fun A D W q=>rfl⟩
 | 28,_,h1,h2=>cases h1;cases h2;exact⟨(Or.inl (tw hw 121 rfl)),.int,by decide,fun A D W q=>rfl⟩
theorem AO {Z:State}{a0:Array Value}(hw:HW a0 Z):Lds Z a0 (cI 1) (a_ 1):=by
 intro f hf
 simp only[a_,List.mem_cons,List.not_mem_nil,or_false] at hf
 rcases hf with rfl|rfl|rfl|rfl
 ·exact⟨(Or.inr (tw hw 82 rfl)),(.array .double),by decide⟩
 ·exact⟨(Or.inr (tw hw 85 rfl)),(.array .boolean),by decide⟩
 ·exact⟨(Or.inl (tw hw 87 rfl)),(.array .int),by decide⟩
 ·exact⟨(Or.inl (tw hw 306 rfl)),.int,by decide⟩
theorem AP:((a_ 1).map (·.2.1)).Pairwise (·≠·):=by decide +kernel
theorem qp {Z:State}{a0:Array Value}(hw:HW a0 Z):∀(j:Nat)(v:Value)(f:String×String×String),(gV 1)[j]? = some v→(a_ 1)[j]? = some f→Laid Z a0 (cI 1) f.1 f.2.1 f.2.2∧∃t,parseFieldDescriptor f.2.2=some t∧∀(A:Nat→Addr)(D:Nat→UInt64)(W:Nat→Value),D 0=0→den A D W v=defaultValue t:=by
 intro j v f h1 h2
 obtain⟨hl,-⟩:=List.getElem?_eq_some_iff.mp h1
 have hj:j<4:=hl
 match j,hj,h1,h2 with
 | 0,_,h1,h2=>cases h1;cases h2;exact⟨(Or.inr (tw hw 82 rfl)),(.array .double),by decide,fun A D W q=>rfl⟩
 | 1,_,h1,h2=>cases h1;cases h2;exact⟨(Or.inr (tw hw 85 rfl)),(.array .boolean),by decide,fun A D W q=>rfl⟩
 | 2,_,h1,h2=>cases h1;cases h2;exact⟨(Or.inl (tw hw 87 rfl)),(.array .int),by decide,fun A D W q=>rfl⟩
 | 3,_,h1,h2=>cases h1;cases h2;exact⟨(Or.inl (tw hw 306 rfl)),.int,by decide,fun A D W q=>rfl⟩
theorem AQ {Z:State}{a0:Array Value}(hw:HW a0 Z):Lds Z a0 (cI 2) (a_ 2):=by
 intro f hf
 simp only[a_,List.mem_cons,List.not_mem_nil,or_false] at hf
 rcases hf with rfl|rfl|rfl|rfl
 ·exact⟨(Or.inl (tw hw 104 rfl)),.int,by decide⟩
 ·exact⟨(Or.inr (tw hw 106 rfl)),.int,by decide⟩
 ·exact⟨(Or.inr (tw hw 108 rfl)),(.array .int),by decide⟩
 ·exact⟨(Or.inr (tw hw 110 rfl)),(.array .boolean),by decide⟩
theorem AR:((a_ 2).map (·.2.1)).Pairwise (·≠·):=by decide +kernel
theorem AS {Z:State}{a0:Array Value}(hw:HW a0 Z):∀(j:Nat)(v:Value)(f:String×String×String),(gV 2)[j]? = some v→(a_ 2)[j]? = some f→Laid Z a0 (cI 2) f.1 f.2.1 f.2.2∧∃t,parseFieldDescriptor f.2.2=some t∧∀(A:Nat→Addr)(D:Nat→UInt64)(W:Nat→Value),D 0=0→den A D W v=defaultValue t:=by
 intro j v f h1 h2
 obtain⟨hl,-⟩:=List.getElem?_eq_some_iff.mp h1
 have hj:j<4:=hl
 match j,hj,h1,h2 with
 | 0,_,h1,h2=>cases h1;cases h2;exact⟨(Or.inl (tw hw 104 rfl)),.int,by decide,fun A D W q=>rfl⟩
 | 1,_,h1,h2=>cases h1;cases h2;exact⟨(Or.inr (tw hw 106 rfl)),.int,by decide,fun A D W q=>rfl⟩
 | 2,_,h1,h2=>cases h1;cases h2;exact⟨(Or.inr (tw hw 108 rfl)),(.array .int),by decide,fun A D W q=>rfl⟩
 | 3,_,h1,h2=>cases h1;cases h2;exact⟨(Or.inr (tw hw 110 rfl)),(.array .boolean),by decide,fun A D W q=>rfl⟩
theorem AT {Z:State}{a0:Array Value}(hw:HW a0 Z):Lds Z a0 (cI 3) (a_ 3):=by
 intro f hf
 simp only[a_,List.mem_cons,List.not_mem_nil,or_false] at hf
 rcases hf with rfl|rfl|rfl|rfl|rfl|rfl|rfl|rfl|rfl|rfl|rfl
 ·exact⟨(Or.inr (tw hw 129 rfl)),(.object "com/example/tracefold/tracefold/mining/FactoredInverse"),by decide⟩
 ·exact⟨(Or.inr (tw hw 134 rfl)),(.array (.array .int)),by decide⟩
 ·exact⟨(Or.inr (tw hw 137 rfl)),(.array (.array .double)),by decide⟩
 ·exact⟨(Or.inr (tw hw 139 rfl)),(.array .int),by decide⟩
 ·exact⟨(Or.inr (tw hw 141 rfl)),(.array .int),by decide⟩
 ·exact⟨(Or.inr (tw hw 166 rfl)),(.array (.array .int)),by decide⟩
 ·exact⟨(Or.inr (tw hw 191 rfl)),(.object "com/example/tracefold/tracefold/mining/FactoredInverse$Lists"),by decide⟩
 ·exact⟨(Or.inr (tw hw 193 rfl)),(.object "com/example/tracefold/tracefold/mining/FactoredInverse$Lists"),by decide⟩
 ·exact⟨(Or.inr (tw hw 195 rfl)),(.array .int),by decide⟩
 ·exact⟨(Or.inl (tw hw 246 rfl)),.int,by decide⟩
 ·exact⟨(Or.inl (tw hw 275 rfl)),.int,by decide⟩
theorem AU:((a_ 3).map (·.2.1)).Pairwise (·≠·):=by decide +kernel
theorem AV {Z:State}{a0:Array Value}(hw:HW a0 Z):∀(j:Nat)(v:Value)(f:String×String×String),(gV 3)[j]? = some v→(a_ 3)[j]? = some f→Laid Z a0 (cI 3) f.1 f.2.1 f.2.2∧∃t,parseFieldDescriptor f.2.2=some t∧∀(A:Nat→Addr)(D:Nat→UInt64)(W:Nat→Value),D 0=0→den A D W v=defaultValue t:=by
 intro j v f h1 h2
 obtain⟨hl,-⟩:=List.getElem?_eq_some_iff.mp h1
 have hj:j<11:=hl
 match j,hj,h1,h2 with
 | 0,_,h1,h2=>cases h1;cases h2;exact⟨(Or.inr (tw hw 129 rfl)),(.object "com/example/tracefold/tracefold/mining/FactoredInverse"),by decide,fun A D W q=>rfl⟩
 | 1,_,h1,h2=>cases h1;cases h2;exact⟨(Or.inr (tw hw 134 rfl)),(.array (.array .int)),by decide,fun A D W q=>rfl⟩
 | 2,_,h1,h2=>cases h1;cases h2;exact⟨(Or.inr (tw hw 137 rfl)),(.array (.array .double)),by decide,fun A D W q=>rfl⟩
 | 3,_,h1,h2=>cases h1;cases h2;exact⟨(Or.inr (tw hw 139 rfl)),(.array .int),by decide,fun A D W q=>rfl⟩
 | 4,_,h1,h2=>cases h1;cases h2;exact⟨(Or.inr (tw hw 141 rfl)),(.array .int),by decide,fun A D W q=>rfl⟩
 | 5,_,h1,h2=>cases h1;cases h2;exact⟨(Or.inr (tw hw 166 rfl)),(.array (.array .int)),by decide,fun A D W q=>rfl⟩
 | 6,_,h1,h2=>cases h1;cases h2;exact⟨(Or.inr (tw hw 191 rfl)),(.object "com/example/tracefold/tracefold/mining/FactoredInverse$Lists"),by decide,fun A D W q=>rfl⟩
 | 7,_,h1,h2=>cases h1;cases h2;exact⟨(Or.inr (tw hw 193 rfl)),(.object "com/example/tracefold/tracefold/mining/FactoredInverse$Lists"),by decide,fun A D W q=>rfl⟩
 | 8,_,h1,h2=>cases h1;cases h2;exact⟨(Or.inr (tw hw 195 rfl)),(.array .int),by decide,fun A D W q=>rfl⟩
 | 9,_,h1,h2=>cases h1;cases h2;exact⟨(Or.inl (tw hw 246 rfl)),.int,by decide,fun A D W q=>rfl⟩
 | 10,_,h1,h2=>cases h1;cases h2;exact⟨(Or.inl (tw hw 275 rfl)),.int,by decide,fun A D W q=>rfl⟩
theorem AW {Z:State}{a0:Array Value}(hw:HW a0 Z):Lds Z a0 (cI 4) (a_ 4):=by
 intro f hf
 simp only[a_,List.mem_cons,List.not_mem_nil,or_false] at hf
 rcases hf with rfl|rfl|rfl|rfl
 ·exact⟨(Or.inr (tw hw 176 rfl)),(.array .int),by decide⟩
 ·exact⟨(Or.inr (tw hw 178 rfl)),(.array .int),by decide⟩
 ·exact⟨(Or.inr (tw hw 180 rfl)),(.array .int),by decide⟩
 ·exact⟨(Or.inr (tw hw 182 rfl)),(.array .int),by decide⟩
theorem AX:((a_ 4).map (·.2.1)).Pairwise (·≠·):=by decide +kernel
theorem AY {Z:State}{a0:Array Value}(hw:HW a0 Z):∀(j:Nat)(v:Value)(f:String×String×String),(gV 4)[j]? = some v→(a_ 4)[j]? = some f→Laid Z a0 (cI 4) f.1 f.2.1 f.2.2∧∃t,parseFieldDescriptor f.2.2=some t∧∀(A:Nat→Addr)(D:Nat→UInt64)(W:Nat→Value),D 0=0→den A D W v=defaultValue t:=by
 intro j v f h1 h2
 obtain⟨hl,-⟩:=List.getElem?_eq_some_iff.mp h1
 have hj:j<4:=hl
 match j,hj,h1,h2 with
 | 0,_,h1,h2=>cases h1;cases h2;exact⟨(Or.inr (tw hw 176 rfl)),(.array .int),by decide,fun A D W q=>rfl⟩
 | 1,_,h1,h2=>cases h1;cases h2;exact⟨(Or.inr (tw hw 178 rfl)),(.array .int),by decide,fun A D W q=>rfl⟩
 | 2,_,h1,h2=>cases h1;cases h2;exact⟨(Or.inr (tw hw 180 rfl)),(.array .int),by decide,fun A D W q=>rfl⟩
 | 3,_,h1,h2=>cases h1;cases h2;exact⟨(Or.inr (tw hw 182 rfl)),(.array .int),by decide,fun A D W q=>rfl⟩
theorem eg {Z:State}{a0:Array Value}(hw:HW a0 Z):eU Z a0:=fun c _=>match c with
 | 0=>⟨AL hw,AM⟩
 | 1=>⟨AO hw,AP⟩
 | 2=>⟨AQ hw,AR⟩
 | 3=>⟨AT hw,AU⟩
 | 4=>⟨AW hw,AX⟩
 | _+5=>⟨(fun _ q=>by cases q),List.Pairwise.nil⟩
theorem eh {Z:State}{a0:Array Value}(hw:HW a0 Z):fr Z a0:=⟨(tw hw 10 rfl),(tw hw 17 rfl),(tw hw 83 rfl),(tw hw 5 rfl),(tw hw 13 rfl)⟩
def gG:Nat→Option (Nat×Nat)
 | 7=>some (0,0)
 | 13=>some (0,1)
 | 17=>some (0,2)
 | 20=>some (0,3)
 | 23=>some (0,4)
 | 26=>some (0,5)
 | 29=>some (0,6)
 | 32=>some (0,7)
 | 35=>some (0,8)
 | 38=>some (0,9)
 | 41=>some (0,10)
 | 44=>some (0,11)
 | 47=>some (0,12)
 | 50=>some (0,13)
 | 54=>some (0,14)
 | 57=>some (0,15)
 | 60=>some (0,16)
 | 63=>some (0,17)
 | 66=>some (0,18)
 | 69=>some (0,19)
 | 72=>some (0,20)
 | 75=>some (0,21)
 | 78=>some (0,22)
 | 86=>some (0,23)
 | 90=>some (0,24)
 | 93=>some (0,25)
 | 96=>some (0,26)
 | 102=>some (0,27)
 | 106=>some (0,28)
 | _=>none
def gH:Nat→Option String
 | 136=>some "[D"
 | _=>none
def ii:Nat→Option Value

 | _=>none
def kB:Nat→Option FieldType
 | 7=>some (.array .int)
 | 13=>some (.array .double)
 | 17=>some (.array .int)
 | 20=>some (.array .double)
 | 23=>some (.array .int)
 | 26=>some (.array .double)
 | 29=>some (.array .int)
 | 32=>some (.array .double)
 | 35=>some (.array .int)
 | 38=>some (.array .double)
 | 41=>some (.array .int)
 | 44=>some (.array .int)
 | 47=>some (.array .double)
 | 50=>some .int
 | 54=>some (.array .int)
 | 57=>some (.array .int)
 | 60=>some (.array .double)
 | 63=>some (.array .int)
 | 66=>some (.array .int)
 | 69=>some (.array .int)
 | 72=>some (.array .int)
 | 75=>some (.array .int)
 | 78=>some (.array .int)
 | 86=>some (.object "com/example/tracefold/tracefold/mining/SparseVector")
 | 90=>some (.object "com/example/tracefold/tracefold/mining/SparseVector")
 | 93=>some (.object "com/example/tracefold/tracefold/mining/SparseVector")
 | 96=>some (.object "com/example/tracefold/tracefold/mining/SparseVector")
 | 102=>some (.object "com/example/tracefold/tracefold/mining/FactoredInverse$StepQueue")
 | _=>none
def kC:Nat→Option FieldType
 | 23=>some (.array .int)
 | 26=>some (.array .double)
 | 29=>some (.array .int)
 | 32=>some (.array .double)
 | 106=>some .int
 | _=>none
def jp:Nat→Option (Nat×Nat)
 | 81=>some (1,4)
 | 99=>some (2,6)
 | 109=>some (3,11)
 | _=>none
def jq:Instr→Option (Nat×Nat×Nat×Nat)
 | .invokespecial 83=>some (2,6,1,0)
 | .invokespecial 101=>some (2,7,1,0)
 | .invokespecial 111=>some (2,9,3,0)
 | .invokestatic 125=>some (0,14,2,0)
 | .invokestatic 131=>some (0,11,2,0)
 | .invokevirtual 114=>some (1,16,0,3)
 | .invokevirtual 118=>some (1,23,3,3)
 | .invokevirtual 122=>some (1,31,0,0)
 | .invokevirtual 162=>some (1,37,1,1)
 | .invokevirtual 173=>some (1,35,0,1)
 | .invokevirtual 176=>some (1,36,1,1)
 | _=>none
def jr:Instr→Option (Nat×Nat)
 | .invokespecial 1=>some (5,0)
 | .invokevirtual 135=>some (1,65)
 | _=>none
theorem qq {Z:State}{a0:Array Value}(hw:HW a0 Z):cL Z a0 "com/example/tracefold/tracefold/mining/FactoredInverse" (gG,gH,ii):=by
 refine⟨fun i c j h=>?_,fun i C h=>?_,fun i v h=>?_⟩
 ·dsimp only at h
  unfold gG at h
  split at h
  ·cases h;exact⟨by decide,_,_,"",rfl,Or.inl (tw hw 28 rfl),Via.refl⟩
  ·cases h;exact⟨by decide,_,_,"",rfl,Or.inl (tw hw 30 rfl),Via.refl⟩
  ·cases h;exact⟨by decide,_,_,"",rfl,Or.inl (tw hw 32 rfl),Via.refl⟩
  ·cases h;exact⟨by decide,_,_,"",rfl,Or.inl (tw hw 34 rfl),Via.refl⟩
  ·cases h;exact⟨by decide,_,_,"",rfl,Or.inl (tw hw 36 rfl),Via.refl⟩
  ·cases h;exact⟨by decide,_,_,"",rfl,Or.inl (tw hw 38 rfl),Via.refl⟩
  ·cases h;exact⟨by decide,_,_,"",rfl,Or.inl (tw hw 40 rfl),Via.refl⟩
  ·cases h;exact⟨by decide,_,_,"",rfl,Or.inl (tw hw 42 rfl),Via.refl⟩
  ·cases h;exact⟨by decide,_,_,"",rfl,Or.inl (tw hw 44 rfl),Via.refl⟩
  ·cases h;exact⟨by decide,_,_,"",rfl,Or.inl (tw hw 46 rfl),Via.refl⟩
  ·cases h;exact⟨by decide,_,_,"",rfl,Or.inl (tw hw 48 rfl),Via.refl⟩
  ·cases h;exact⟨by decide,_,_,"",rfl,Or.inl (tw hw 50 rfl),Via.refl⟩
  ·cases h;exact⟨by decide,_,_,"",rfl,Or.inl (tw hw 52 rfl),Via.refl⟩
  ·cases h;exact⟨by decide,_,_,"",rfl,Or.inl (tw hw 54 rfl),Via.refl⟩
  ·cases h;exact⟨by decide,_,_,"",rfl,Or.inl (tw hw 56 rfl),Via.refl⟩
  ·cases h;exact⟨by decide,_,_,"",rfl,Or.inl (tw hw 58 rfl),Via.refl⟩
  ·cases h;exact⟨by decide,_,_,"",rfl,Or.inl (tw hw 60 rfl),Via.refl⟩
  ·cases h;exact⟨by decide,_,_,"",rfl,Or.inl (tw hw 62 rfl),Via.refl⟩
  ·cases h;exact⟨by decide,_,_,"",rfl,Or.inl (tw hw 64 rfl),Via.refl⟩
  ·cases h;exact⟨by decide,_,_,"",rfl,Or.inl (tw hw 66 rfl),Via.refl⟩
  ·cases h;exact⟨by decide,_,_,"",rfl,Or.inl (tw hw 68 rfl),Via.refl⟩
  ·cases h;exact⟨by decide,_,_,"",rfl,Or.inl (tw hw 70 rfl),Via.refl⟩
  ·cases h;exact⟨by decide,_,_,"",rfl,Or.inl (tw hw 72 rfl),Via.refl⟩
  ·cases h;exact⟨by decide,_,_,"",rfl,Or.inl (tw hw 88 rfl),Via.refl⟩
  ·cases h;exact⟨by decide,_,_,"",rfl,Or.inl (tw hw 90 rfl),Via.refl⟩
  ·cases h;exact⟨by decide,_,_,"",rfl,Or.inl (tw hw 92 rfl),Via.refl⟩
  ·cases h;exact⟨by decide,_,_,"",rfl,Or.inl (tw hw 94 rfl),Via.refl⟩
  ·cases h;exact⟨by decide,_,_,"",rfl,Or.inl (tw hw 111 rfl),Via.refl⟩
  ·cases h;exact⟨by decide,_,_,"",rfl,Or.inl (tw hw 120 rfl),Via.refl⟩
  ·cases h
 ·dsimp only at h
  unfold gH at h
  split at h
  ·cases h;exact (tw hw 299 rfl)
  ·cases h
 ·cases h
theorem yc {Z:State}{a0:Array Value}(hw:HW a0 Z):gk Z a0 "com/example/tracefold/tracefold/mining/FactoredInverse" "<init>" kB (gG,gH,ii):=by
 intro i ty h
 unfold kB at h
 split at h
 ·cases h;intro cc j hj;cases hj;exact⟨_,_,rfl,Or.inl (tw hw 29 rfl),(tw hw 20 rfl),by decide⟩
 ·cases h;intro cc j hj;cases hj;exact⟨_,_,rfl,Or.inl (tw hw 31 rfl),(tw hw 20 rfl),by decide⟩
 ·cases h;intro cc j hj;cases hj;exact⟨_,_,rfl,Or.inl (tw hw 33 rfl),(tw hw 20 rfl),by decide⟩
 ·cases h;intro cc j hj;cases hj;exact⟨_,_,rfl,Or.inl (tw hw 35 rfl),(tw hw 20 rfl),by decide⟩
 ·cases h;intro cc j hj;cases hj;exact⟨_,_,rfl,Or.inl (tw hw 37 rfl),(tw hw 20 rfl),by decide⟩
 ·cases h;intro cc j hj;cases hj;exact⟨_,_,rfl,Or.inl (tw hw 39 rfl),(tw hw 20 rfl),by decide⟩
 ·cases h;intro cc j hj;cases hj;exact⟨_,_,rfl,Or.inl (tw hw 41 rfl),(tw hw 20 rfl),by decide⟩
 ·cases h;intro cc j hj;cases hj;exact⟨_,_,rfl,Or.inl (tw hw 43 rfl),(tw hw 20 rfl),by decide⟩
 ·cases h;intro cc j hj;cases hj;exact⟨_,_,rfl,Or.inl (tw hw 45 rfl),(tw hw 20 rfl),by decide⟩
 ·cases h;intro cc j hj;cases hj;exact⟨_,_,rfl,Or.inl (tw hw 47 rfl),(tw hw 20 rfl),by decide⟩
 ·cases h;intro cc j hj;cases hj;exact⟨_,_,rfl,Or.inl (tw hw 49 rfl),(tw hw 20 rfl),by decide⟩
 ·cases h;intro cc j hj;cases hj;exact⟨_,_,rfl,Or.inl (tw hw 51 rfl),(tw hw 20 rfl),by decide⟩
 ·cases h;intro cc j hj;cases hj;exact⟨_,_,rfl,Or.inl (tw hw 53 rfl),(tw hw 20 rfl),by decide⟩
 ·cases h;intro cc j hj;cases hj;exact⟨_,_,rfl,Or.inr ⟨(tw hw 55 rfl),rfl,rfl⟩,(tw hw 20 rfl),by decide⟩
 ·cases h;intro cc j hj;cases hj;exact⟨_,_,rfl,Or.inr ⟨(tw hw 57 rfl),rfl,rfl⟩,(tw hw 20 rfl),by decide⟩
 ·cases h;intro cc j hj;cases hj;exact⟨_,_,rfl,Or.inr ⟨(tw hw 59 rfl),rfl,rfl⟩,(tw hw 20 rfl),by decide⟩
 ·cases h;intro cc j hj;cases hj;exact⟨_,_,rfl,Or.inr ⟨(tw hw 61 rfl),rfl,rfl⟩,(tw hw 20 rfl),by decide⟩
 ·cases h;intro cc j hj;cases hj;exact⟨_,_,rfl,Or.inr ⟨(tw hw 63 rfl),rfl,rfl⟩,(tw hw 20 rfl),by decide⟩
 ·cases h;intro cc j hj;cases hj;exact⟨_,_,rfl,Or.inr ⟨(tw hw 65 rfl),rfl,rfl⟩,(tw hw 20 rfl),by decide⟩
 ·cases h;intro cc j hj;cases hj;exact⟨_,_,rfl,Or.inr ⟨(tw hw 67 rfl),rfl,rfl⟩,(tw hw 20 rfl),by decide⟩
 ·cases h;intro cc j hj;cases hj;exact⟨_,_,rfl,Or.inr ⟨(tw hw 69 rfl),rfl,rfl⟩,(tw hw 20 rfl),by decide⟩
 ·cases h;intro cc j hj;cases hj;exact⟨_,_,rfl,Or.inr ⟨(tw hw 71 rfl),rfl,rfl⟩,(tw hw 20 rfl),by decide⟩
 ·cases h;intro cc j hj;cases hj;exact⟨_,_,rfl,Or.inr ⟨(tw hw 73 rfl),rfl,rfl⟩,(tw hw 20 rfl),by decide⟩
 ·cases h;intro cc j hj;cases hj;exact⟨_,_,rfl,Or.inr ⟨(tw hw 89 rfl),rfl,rfl⟩,(tw hw 20 rfl),by decide⟩
 ·cases h;intro cc j hj;cases hj;exact⟨_,_,rfl,Or.inr ⟨(tw hw 91 rfl),rfl,rfl⟩,(tw hw 20 rfl),by decide⟩
 ·cases h;intro cc j hj;cases hj;exact⟨_,_,rfl,Or.inr ⟨(tw hw 93 rfl),rfl,rfl⟩,(tw hw 20 rfl),by decide⟩
 ·cases h;intro cc j hj;cases hj;exact⟨_,_,rfl,Or.inr ⟨(tw hw 95 rfl),rfl,rfl⟩,(tw hw 20 rfl),by decide⟩
 ·cases h;intro cc j hj;cases hj;exact⟨_,_,rfl,Or.inr ⟨(tw hw 112 rfl),rfl,rfl⟩,(tw hw 20 rfl),by decide⟩
 ·cases h
theorem yd {Z:State}{a0:Array Value}(hw:HW a0 Z)(mn:String):gk Z a0 "com/example/tracefold/tracefold/mining/FactoredInverse" mn kC (gG,gH,ii):=by
 intro i ty h
 unfold kC at h
 split at h
 ·cases h;intro cc j hj;cases hj;exact⟨_,_,rfl,Or.inl (tw hw 37 rfl),(tw hw 20 rfl),by decide⟩
 ·cases h;intro cc j hj;cases hj;exact⟨_,_,rfl,Or.inl (tw hw 39 rfl),(tw hw 20 rfl),by decide⟩
 ·cases h;intro cc j hj;cases hj;exact⟨_,_,rfl,Or.inl (tw hw 41 rfl),(tw hw 20 rfl),by decide⟩
 ·cases h;intro cc j hj;cases hj;exact⟨_,_,rfl,Or.inl (tw hw 43 rfl),(tw hw 20 rfl),by decide⟩
 ·cases h;intro cc j hj;cases hj;exact⟨_,_,rfl,Or.inl (tw hw 121 rfl),(tw hw 20 rfl),by decide⟩
 ·cases h
theorem qr {Z:State}{a0:Array Value}(hw:HW a0 Z):iQ Z a0 "com/example/tracefold/tracefold/mining/FactoredInverse" jp:=by
 intro i cc n h
 unfold jp at h
 split at h
 ·cases h;exact⟨by decide,(tw hw 74 rfl),(tw hw 75 rfl),(tw hw 76 rfl),qp hw⟩
 ·cases h;exact⟨by decide,(tw hw 96 rfl),(tw hw 97 rfl),(tw hw 98 rfl),AS hw⟩
 ·cases h;exact⟨by decide,(tw hw 122 rfl),(tw hw 123 rfl),(tw hw 124 rfl),AV hw⟩
 ·cases h
theorem qs {Z:State}{a0:Array Value}(hw:HW a0 Z):fo Z "com/example/tracefold/tracefold/mining/FactoredInverse" jq:=by
 intro op kd mn np rc h
 unfold jq at h
 split at h
 ·cases h;intro p l e R s m args below meth c T locs cells slots h Ev rm as' Q argsL rest b pc Ls X hx hZ hown hM eT hE has hsz hnp hf hl hc hs hd K;exact kA X hx hZ rfl hown (tw hw 77 rfl) (tw hw 78 rfl) (tw hw 76 rfl) (tw hw 79 rfl) (by decide) hM eT (a:=b) rfl has _ _ rfl hsz (lenOf iE hnp) (Nat.le_refl _) hf hl hc hs hd K
 ·cases h;intro p l e R s m args below meth c T locs cells slots h Ev rm as' Q argsL rest b pc Ls X hx hZ hown hM eT hE has hsz hnp hf hl hc hs hd K;exact kA X hx hZ rfl hown (tw hw 99 rfl) (tw hw 100 rfl) (tw hw 98 rfl) (tw hw 101 rfl) (by decide) hM eT (a:=b) rfl has _ _ rfl hsz (lenOf iE hnp) (Nat.le_refl _) hf hl hc hs hd K
 ·cases h;intro p l e R s m args below meth c T locs cells slots h Ev rm as' Q argsL rest b pc Ls X hx hZ hown hM eT hE has hsz hnp hf hl hc hs hd K;exact kA X hx hZ rfl hown (tw hw 125 rfl) (tw hw 126 rfl) (tw hw 124 rfl) (tw hw 127 rfl) (by decide) hM eT (a:=b) rfl has _ _ rfl hsz (lenOf H0 hnp) (Nat.le_refl _) hf hl hc hs hd K
 ·cases h;intro p l e R s m args below meth c T locs cells slots h Ev rm as' Q argsL rest b pc Ls X hx hZ hown hM eT hE has hsz hnp hf hl hc hs hd K;exact dz X hx hZ hown (tw hw 291 rfl) (tw hw 184 rfl) (tw hw 147 rfl) (tw hw 185 rfl) (by decide) hM eT rfl has _ _ rfl hsz (lenOf mj hnp) (Nat.le_refl _) hf hl hc hs hd K
 ·cases h;intro p l e R s m args below meth c T locs cells slots h Ev rm as' Q argsL rest b pc Ls X hx hZ hown hM eT hE has hsz hnp hf hl hc hs hd K;exact dz X hx hZ hown (tw hw 292 rfl) (tw hw 146 rfl) (tw hw 147 rfl) (tw hw 148 rfl) (by decide) hM eT rfl has _ _ rfl hsz (lenOf uM hnp) (Nat.le_refl _) hf hl hc hs hd K
 ·cases h;intro p l e R s m args below meth c T locs cells slots h Ev rm as' Q argsL rest b pc Ls X hx hZ hown hM eT hE has hsz hnp hf hl hc hs hd K;exact eC X hx hZ (C := "com/example/tracefold/tracefold/mining/FactoredInverse$Elimination") hown (tw hw 197 rfl) (tw hw 198 rfl) (tw hw 200 rfl) (tw hw 200 rfl) (tw hw 199 rfl) (tw hw 124 rfl) (tw hw 201 rfl) (by decide) hM eT (b:=b) (hE rfl) rfl has _ _ rfl hsz (lenOf zR hnp) (Nat.le_refl _) hf hl hc hs hd K
 ·cases h;intro p l e R s m args below meth c T locs cells slots h Ev rm as' Q argsL rest b pc Ls X hx hZ hown hM eT hE has hsz hnp hf hl hc hs hd K;exact eC X hx hZ (C := "com/example/tracefold/tracefold/mining/FactoredInverse$Elimination") hown (tw hw 230 rfl) (tw hw 231 rfl) (tw hw 233 rfl) (tw hw 233 rfl) (tw hw 232 rfl) (tw hw 124 rfl) (tw hw 234 rfl) (by decide) hM eT (b:=b) (hE rfl) rfl has _ _ rfl hsz (lenOf zT hnp) (Nat.le_refl _) hf hl hc hs hd K
 ·cases h;intro p l e R s m args below meth c T locs cells slots h Ev rm as' Q argsL rest b pc Ls X hx hZ hown hM eT hE has hsz hnp hf hl hc hs hd K;exact gU X hx hZ (C := "com/example/tracefold/tracefold/mining/FactoredInverse") (z:=({ cls := "com/example/tracefold/tracefold/mining/FactoredInverse",name := "invert",desc := "([[I[[D)Z" }:Jvm.MethodName)) hown (tw hw 287 rfl) (tw hw 289 rfl) (tw hw 118 rfl) rfl (tw hw 288 rfl) (tw hw 21 rfl) (tw hw 290 rfl) (by decide) hM eT (b:=b) (hE rfl) rfl has _ _ rfl hsz (lenOf HY hnp) (Nat.le_refl _) hf hl hc hs hd K
 ·cases h;intro p l e R s m args below meth c T locs cells slots h Ev rm as' Q argsL rest b pc Ls X hx hZ hown hM eT hE has hsz hnp hf hl hc hs hd K;exact eC X hx hZ (C := "com/example/tracefold/tracefold/mining/SparseVector") hown (tw hw 322 rfl) (tw hw 323 rfl) (tw hw 325 rfl) (tw hw 325 rfl) (tw hw 324 rfl) (tw hw 76 rfl) (tw hw 326 rfl) (by decide) hM eT (b:=b) (hE rfl) rfl has _ _ rfl hsz (lenOf zY hnp) (Nat.le_refl _) hf hl hc hs hd K
 ·cases h;intro p l e R s m args below meth c T locs cells slots h Ev rm as' Q argsL rest b pc Ls X hx hZ hown hM eT hE has hsz hnp hf hl hc hs hd K;exact eC X hx hZ (C := "com/example/tracefold/tracefold/mining/SparseVector") hown (tw hw 312 rfl) (tw hw 313 rfl) (tw hw 315 rfl) (tw hw 315 rfl) (tw hw 314 rfl) (tw hw 76 rfl) (tw hw 316 rfl) (by decide) hM eT (b:=b) (hE rfl) rfl has _ _ rfl hsz (lenOf zX hnp) (Nat.le_refl _) hf hl hc hs hd K
 ·cases h;intro p l e R s m args below meth c T locs cells slots h Ev rm as' Q argsL rest b pc Ls X hx hZ hown hM eT hE has hsz hnp hf hl hc hs hd K;exact eC X hx hZ (C := "com/example/tracefold/tracefold/mining/SparseVector") hown (tw hw 317 rfl) (tw hw 318 rfl) (tw hw 320 rfl) (tw hw 320 rfl) (tw hw 319 rfl) (tw hw 76 rfl) (tw hw 321 rfl) (by decide) hM eT (b:=b) (hE rfl) rfl has _ _ rfl hsz (lenOf mo hnp) (Nat.le_refl _) hf hl hc hs hd K
 ·cases h
theorem qt {Z:State}{a0:Array Value}(hw:HW a0 Z):iR Z a0 "com/example/tracefold/tracefold/mining/FactoredInverse" jr:=by
 intro op k cd h
 unfold jr at h
 split at h
 ·cases h;exact Or.inr (Or.inr (Or.inr (Or.inr ⟨rfl,_,rfl,(tw hw 25 rfl),(tw hw 26 rfl),(tw hw 27 rfl)⟩)))
 ·cases h;exact Or.inl ⟨rfl,by decide,by decide,_,rfl,(tw hw 298 rfl),(tw hw 161 rfl),(tw hw 154 rfl),(tw hw 152 rfl),(tw hw 162 rfl),(tw hw 163 rfl)⟩
 ·cases h
def AZ:Md:=((gG,gH,ii),kB,jp,jq,jr)
def ae:Md:=((gG,gH,ii),kC,jp,jq,jr)
theorem ye (Z:State)(a0:Array Value)(hw:HW a0 Z):je Z a0 "com/example/tracefold/tracefold/mining/FactoredInverse" "<init>" AZ∧eU Z a0∧fr Z a0:=⟨⟨qq hw,yc hw,qr hw,qs hw,qt hw⟩,eg hw,eh hw⟩
theorem az (mn:String)(Z:State)(a0:Array Value)(hw:HW a0 Z):je Z a0 "com/example/tracefold/tracefold/mining/FactoredInverse" mn ae∧eU Z a0∧fr Z a0:=⟨⟨qq hw,yd hw mn,qr hw,qs hw,qt hw⟩,eg hw,eh hw⟩
def gI:Nat→Option (Nat×Nat)
 | 3=>some (3,0)
 | 15=>some (0,13)
 | 21=>some (3,1)
 | 27=>some (3,2)
 | 31=>some (3,3)
 | 34=>some (3,4)
 | 52=>some (3,5)
 | 60=>some (3,6)
 | 64=>some (3,7)
 | 67=>some (3,8)
 | 109=>some (0,14)
 | 112=>some (0,15)
 | 115=>some (0,21)
 | 118=>some (0,22)
 | 121=>some (0,16)
 | 124=>some (0,17)
 | 127=>some (3,9)
 | 144=>some (0,18)
 | 147=>some (3,10)
 | 165=>some (0,0)
 | 168=>some (0,1)
 | 171=>some (0,2)
 | 174=>some (0,3)
 | _=>none
def gJ:Nat→Option String
 | 19=>some "[I"
 | 25=>some "[D"
 | _=>none
def gK:Nat→Option Value
 | 74=>some (.long (-1))
 | 78=>some (.long 9223372036854775807)
 | 98=>some (.double 4472406533629990549)
 | 103=>some (.double 4591870180066957722)
 | 163=>some (.double 4397347889687374747)
 | _=>none
def kD:Nat→Option FieldType
 | 3=>some (.object "com/example/tracefold/tracefold/mining/FactoredInverse")
 | 21=>some (.array (.array .int))
 | 27=>some (.array (.array .double))
 | 31=>some (.array .int)
 | 34=>some (.array .int)
 | 52=>some (.array (.array .int))
 | 60=>some (.object "com/example/tracefold/tracefold/mining/FactoredInverse$Lists")
 | 64=>some (.object "com/example/tracefold/tracefold/mining/FactoredInverse$Lists")
 | 67=>some (.array .int)
 | _=>none
def kE:Nat→Option FieldType
 | 127=>some .int
 | 147=>some .int
 | 165=>some (.array .int)
 | 168=>some (.array .double)
 | 171=>some (.array .int)
 | 174=>some (.array .double)
 | _=>none
def js:Nat→Option (Nat×Nat)
 | 55=>some (4,4)
 | _=>none
def jt:Instr→Option (Nat×Nat×Nat×Nat)
 | .invokespecial 57=>some (2,13,2,0)
 | .invokestatic 37=>some (0,10,2,0)
 | .invokestatic 43=>some (0,11,2,0)
 | .invokestatic 49=>some (0,12,2,0)
 | .invokestatic 70=>some (0,14,2,0)
 | .invokevirtual 80=>some (1,17,1,4)
 | .invokevirtual 84=>some (1,18,2,3)
 | .invokevirtual 87=>some (1,19,2,3)
 | .invokevirtual 91=>some (1,22,1,4)
 | .invokevirtual 105=>some (1,24,2,3)
 | .invokevirtual 130=>some (1,25,2,3)
 | .invokevirtual 134=>some (1,26,1,4)
 | .invokevirtual 138=>some (1,27,2,3)
 | .invokevirtual 141=>some (1,28,2,4)
 | .invokevirtual 150=>some (1,29,2,3)
 | .invokevirtual 153=>some (1,30,3,3)
 | _=>none
def ju:Instr→Option (Nat×Nat)
 | .invokespecial 9=>some (5,0)
 | .invokestatic 94=>some (3,0)
 | .invokestatic 100=>some (4,0)
 | _=>none
theorem qu {Z:State}{a0:Array Value}(hw:HW a0 Z):cL Z a0 "com/example/tracefold/tracefold/mining/FactoredInverse$Elimination" (gI,gJ,gK):=by
 refine⟨fun i c j h=>?_,fun i C h=>?_,fun i v h=>?_⟩
 ·dsimp only at h
  unfold gI at h
  split at h
  ·cases h;exact⟨by decide,_,_,"",rfl,Or.inl (tw hw 128 rfl),Via.refl⟩
  ·cases h;exact⟨by decide,_,_,_,rfl,Or.inr (tw hw 131 rfl),Via.refl⟩
  ·cases h;exact⟨by decide,_,_,"",rfl,Or.inl (tw hw 133 rfl),Via.refl⟩
  ·cases h;exact⟨by decide,_,_,"",rfl,Or.inl (tw hw 136 rfl),Via.refl⟩
  ·cases h;exact⟨by decide,_,_,"",rfl,Or.inl (tw hw 138 rfl),Via.refl⟩
  ·cases h;exact⟨by decide,_,_,"",rfl,Or.inl (tw hw 140 rfl),Via.refl⟩
  ·cases h;exact⟨by decide,_,_,"",rfl,Or.inl (tw hw 165 rfl),Via.refl⟩
  ·cases h;exact⟨by decide,_,_,"",rfl,Or.inl (tw hw 190 rfl),Via.refl⟩
  ·cases h;exact⟨by decide,_,_,"",rfl,Or.inl (tw hw 192 rfl),Via.refl⟩
  ·cases h;exact⟨by decide,_,_,"",rfl,Or.inl (tw hw 194 rfl),Via.refl⟩
  ·cases h;exact⟨by decide,_,_,_,rfl,Or.inr (tw hw 239 rfl),Via.refl⟩
  ·cases h;exact⟨by decide,_,_,_,rfl,Or.inr (tw hw 240 rfl),Via.refl⟩
  ·cases h;exact⟨by decide,_,_,_,rfl,Or.inr (tw hw 241 rfl),Via.refl⟩
  ·cases h;exact⟨by decide,_,_,_,rfl,Or.inr (tw hw 242 rfl),Via.refl⟩
  ·cases h;exact⟨by decide,_,_,_,rfl,Or.inr (tw hw 243 rfl),Via.refl⟩
  ·cases h;exact⟨by decide,_,_,_,rfl,Or.inr (tw hw 244 rfl),Via.refl⟩
  ·cases h;exact⟨by decide,_,_,"",rfl,Or.inl (tw hw 245 rfl),Via.refl⟩
  ·cases h;exact⟨by decide,_,_,_,rfl,Or.inr (tw hw 273 rfl),Via.refl⟩
  ·cases h;exact⟨by decide,_,_,"",rfl,Or.inl (tw hw 274 rfl),Via.refl⟩
  ·cases h;exact⟨by decide,_,_,_,rfl,Or.inr (tw hw 251 rfl),Via.refl⟩
  ·cases h;exact⟨by decide,_,_,_,rfl,Or.inr (tw hw 257 rfl),Via.refl⟩
  ·cases h;exact⟨by decide,_,_,_,rfl,Or.inr (tw hw 280 rfl),Via.refl⟩
  ·cases h;exact⟨by decide,_,_,_,rfl,Or.inr (tw hw 281 rfl),Via.refl⟩
  ·cases h
 ·dsimp only at h
  unfold gJ at h
  split at h
  ·cases h;exact (tw hw 132 rfl)
  ·cases h;exact (tw hw 135 rfl)
  ·cases h
 ·dsimp only at h
  unfold gK at h
  split at h
  ·cases h;exact Or.inl ⟨_,rfl,(tw hw 202 rfl)⟩
  ·cases h;exact Or.inl ⟨_,rfl,(tw hw 203 rfl)⟩
  ·cases h;exact Or.inr ⟨_,rfl,by decide,(tw hw 220 rfl)⟩
  ·cases h;exact Or.inr ⟨_,rfl,by decide,(tw hw 224 rfl)⟩
  ·cases h;exact Or.inr ⟨_,rfl,by decide,(tw hw 286 rfl)⟩
  ·cases h
theorem yf {Z:State}{a0:Array Value}(hw:HW a0 Z):gk Z a0 "com/example/tracefold/tracefold/mining/FactoredInverse$Elimination" "<init>" kD (gI,gJ,gK):=by
 intro i ty h
 unfold kD at h
 split at h
 ·cases h;intro cc j hj;cases hj;exact⟨_,_,rfl,Or.inr ⟨(tw hw 129 rfl),rfl,rfl⟩,(tw hw 123 rfl),by decide⟩
 ·cases h;intro cc j hj;cases hj;exact⟨_,_,rfl,Or.inr ⟨(tw hw 134 rfl),rfl,rfl⟩,(tw hw 123 rfl),by decide⟩
 ·cases h;intro cc j hj;cases hj;exact⟨_,_,rfl,Or.inr ⟨(tw hw 137 rfl),rfl,rfl⟩,(tw hw 123 rfl),by decide⟩
 ·cases h;intro cc j hj;cases hj;exact⟨_,_,rfl,Or.inr ⟨(tw hw 139 rfl),rfl,rfl⟩,(tw hw 123 rfl),by decide⟩
 ·cases h;intro cc j hj;cases hj;exact⟨_,_,rfl,Or.inr ⟨(tw hw 141 rfl),rfl,rfl⟩,(tw hw 123 rfl),by decide⟩
 ·cases h;intro cc j hj;cases hj;exact⟨_,_,rfl,Or.inr ⟨(tw hw 166 rfl),rfl,rfl⟩,(tw hw 123 rfl),by decide⟩
 ·cases h;intro cc j hj;cases hj;exact⟨_,_,rfl,Or.inr ⟨(tw hw 191 rfl),rfl,rfl⟩,(tw hw 123 rfl),by decide⟩
 ·cases h;intro cc j hj;cases hj;exact⟨_,_,rfl,Or.inr ⟨(tw hw 193 rfl),rfl,rfl⟩,(tw hw 123 rfl),by decide⟩
 ·cases h;intro cc j hj;cases hj;exact⟨_,_,rfl,Or.inr ⟨(tw hw 195 rfl),rfl,rfl⟩,(tw hw 123 rfl),by decide⟩
 ·cases h
theorem yg {Z:State}{a0:Array Value}(hw:HW a0 Z)(mn:String):gk Z a0 "com/example/tracefold/tracefold/mining/FactoredInverse$Elimination" mn kE (gI,gJ,gK):=by
 intro i ty h
 unfold kE at h
 split at h
 ·cases h;intro cc j hj;cases hj;exact⟨_,_,rfl,Or.inl (tw hw 246 rfl),(tw hw 123 rfl),by decide⟩
 ·cases h;intro cc j hj;cases hj;exact⟨_,_,rfl,Or.inl (tw hw 275 rfl),(tw hw 123 rfl),by decide⟩
 ·cases h;intro cc j hj;cases hj;exact⟨_,_,rfl,Or.inl (tw hw 29 rfl),(tw hw 20 rfl),by decide⟩
 ·cases h;intro cc j hj;cases hj;exact⟨_,_,rfl,Or.inl (tw hw 31 rfl),(tw hw 20 rfl),by decide⟩
 ·cases h;intro cc j hj;cases hj;exact⟨_,_,rfl,Or.inl (tw hw 33 rfl),(tw hw 20 rfl),by decide⟩
 ·cases h;intro cc j hj;cases hj;exact⟨_,_,rfl,Or.inl (tw hw 35 rfl),(tw hw 20 rfl),by decide⟩
 ·cases h
theorem qv {Z:State}{a0:Array Value}(hw:HW a0 Z):iQ Z a0 "com/example/tracefold/tracefold/mining/FactoredInverse$Elimination" js:=by
 intro i cc n h
 unfold js at h
 split at h
 ·cases h;exact⟨by decide,(tw hw 167 rfl),(tw hw 168 rfl),(tw hw 169 rfl),AY hw⟩
 ·cases h
theorem qw {Z:State}{a0:Array Value}(hw:HW a0 Z):fo Z "com/example/tracefold/tracefold/mining/FactoredInverse$Elimination" jt:=by
 intro op kd mn np rc h
 unfold jt at h
 split at h
 ·cases h;intro p l e R s m args below meth c T locs cells slots h Ev rm as' Q argsL rest b pc Ls X hx hZ hown hM eT hE has hsz hnp hf hl hc hs hd K;exact kA X hx hZ rfl hown (tw hw 170 rfl) (tw hw 171 rfl) (tw hw 169 rfl) (tw hw 172 rfl) (by decide) hM eT (a:=b) rfl has _ _ rfl hsz (lenOf zQ hnp) (Nat.le_refl _) hf hl hc hs hd K
 ·cases h;intro p l e R s m args below meth c T locs cells slots h Ev rm as' Q argsL rest b pc Ls X hx hZ hown hM eT hE has hsz hnp hf hl hc hs hd K;exact dz X hx hZ hown (tw hw 142 rfl) (tw hw 143 rfl) (tw hw 2 rfl) (tw hw 144 rfl) (by decide) hM eT rfl has _ _ rfl hsz (lenOf l4 hnp) (Nat.le_refl _) hf hl hc hs hd K
 ·cases h;intro p l e R s m args below meth c T locs cells slots h Ev rm as' Q argsL rest b pc Ls X hx hZ hown hM eT hE has hsz hnp hf hl hc hs hd K;exact dz X hx hZ hown (tw hw 145 rfl) (tw hw 146 rfl) (tw hw 147 rfl) (tw hw 148 rfl) (by decide) hM eT rfl has _ _ rfl hsz (lenOf uM hnp) (Nat.le_refl _) hf hl hc hs hd K
 ·cases h;intro p l e R s m args below meth c T locs cells slots h Ev rm as' Q argsL rest b pc Ls X hx hZ hown hM eT hE has hsz hnp hf hl hc hs hd K;exact dz X hx hZ hown (tw hw 157 rfl) (tw hw 158 rfl) (tw hw 147 rfl) (tw hw 159 rfl) (by decide) hM eT rfl has _ _ rfl hsz (lenOf H3 hnp) (Nat.le_refl _) hf hl hc hs hd K
 ·cases h;intro p l e R s m args below meth c T locs cells slots h Ev rm as' Q argsL rest b pc Ls X hx hZ hown hM eT hE has hsz hnp hf hl hc hs hd K;exact dz X hx hZ hown (tw hw 196 rfl) (tw hw 184 rfl) (tw hw 147 rfl) (tw hw 185 rfl) (by decide) hM eT rfl has _ _ rfl hsz (lenOf mj hnp) (Nat.le_refl _) hf hl hc hs hd K
 ·cases h;intro p l e R s m args below meth c T locs cells slots h Ev rm as' Q argsL rest b pc Ls X hx hZ hown hM eT hE has hsz hnp hf hl hc hs hd K;exact eC X hx hZ (C := "com/example/tracefold/tracefold/mining/FactoredInverse$Lists") hown (tw hw 204 rfl) (tw hw 205 rfl) (tw hw 207 rfl) (tw hw 207 rfl) (tw hw 206 rfl) (tw hw 169 rfl) (tw hw 208 rfl) (by decide) hM eT (b:=b) (hE rfl) rfl has _ _ rfl hsz (lenOf mo hnp) (Nat.le_refl _) hf hl hc hs hd K
 ·cases h;intro p l e R s m args below meth c T locs cells slots h Ev rm as' Q argsL rest b pc Ls X hx hZ hown hM eT hE has hsz hnp hf hl hc hs hd K;exact gU X hx hZ (C := "com/example/tracefold/tracefold/mining/FactoredInverse$Elimination") (z:=({ cls := "com/example/tracefold/tracefold/mining/FactoredInverse$Elimination",name := "pivot",desc := "()J" }:Jvm.MethodName)) hown (tw hw 209 rfl) (tw hw 211 rfl) (tw hw 200 rfl) rfl (tw hw 210 rfl) (tw hw 124 rfl) (tw hw 212 rfl) (by decide) hM eT (b:=b) (hE rfl) rfl has _ _ rfl hsz (lenOf l4 hnp) (Nat.le_refl _) hf hl hc hs hd K
 ·cases h;intro p l e R s m args below meth c T locs cells slots h Ev rm as' Q argsL rest b pc Ls X hx hZ hown hM eT hE has hsz hnp hf hl hc hs hd K;exact gU X hx hZ (C := "com/example/tracefold/tracefold/mining/FactoredInverse$Elimination") (z:=({ cls := "com/example/tracefold/tracefold/mining/FactoredInverse$Elimination",name := "pivot",desc := "()J" }:Jvm.MethodName)) hown (tw hw 213 rfl) (tw hw 215 rfl) (tw hw 200 rfl) rfl (tw hw 214 rfl) (tw hw 124 rfl) (tw hw 216 rfl) (by decide) hM eT (b:=b) (hE rfl) rfl has _ _ rfl hsz (lenOf zS hnp) (Nat.le_refl _) hf hl hc hs hd K
 ·cases h;intro p l e R s m args below meth c T locs cells slots h Ev rm as' Q argsL rest b pc Ls X hx hZ hown hM eT hE has hsz hnp hf hl hc hs hd K;exact eC X hx hZ (C := "com/example/tracefold/tracefold/mining/FactoredInverse$Lists") hown (tw hw 225 rfl) (tw hw 226 rfl) (tw hw 228 rfl) (tw hw 228 rfl) (tw hw 227 rfl) (tw hw 169 rfl) (tw hw 229 rfl) (by decide) hM eT (b:=b) (hE rfl) rfl has _ _ rfl hsz (lenOf mo hnp) (Nat.le_refl _) hf hl hc hs hd K
 ·cases h;intro p l e R s m args below meth c T locs cells slots h Ev rm as' Q argsL rest b pc Ls X hx hZ hown hM eT hE has hsz hnp hf hl hc hs hd K;exact gU X hx hZ (C := "com/example/tracefold/tracefold/mining/FactoredInverse$Elimination") (z:=({ cls := "com/example/tracefold/tracefold/mining/FactoredInverse$Elimination",name := "pivot",desc := "()J" }:Jvm.MethodName)) hown (tw hw 235 rfl) (tw hw 237 rfl) (tw hw 200 rfl) rfl (tw hw 236 rfl) (tw hw 124 rfl) (tw hw 238 rfl) (by decide) hM eT (b:=b) (hE rfl) rfl has _ _ rfl hsz (lenOf jm hnp) (Nat.le_refl _) hf hl hc hs hd K
 ·cases h;intro p l e R s m args below meth c T locs cells slots h Ev rm as' Q argsL rest b pc Ls X hx hZ hown hM eT hE has hsz hnp hf hl hc hs hd K;exact gU X hx hZ (C := "com/example/tracefold/tracefold/mining/FactoredInverse$Elimination") (z:=({ cls := "com/example/tracefold/tracefold/mining/FactoredInverse$Elimination",name := "pivot",desc := "()J" }:Jvm.MethodName)) hown (tw hw 247 rfl) (tw hw 249 rfl) (tw hw 200 rfl) rfl (tw hw 248 rfl) (tw hw 124 rfl) (tw hw 250 rfl) (by decide) hM eT (b:=b) (hE rfl) rfl has _ _ rfl hsz (lenOf mq hnp) (Nat.le_refl _) hf hl hc hs hd K
 ·cases h;intro p l e R s m args below meth c T locs cells slots h Ev rm as' Q argsL rest b pc Ls X hx hZ hown hM eT hE has hsz hnp hf hl hc hs hd K;exact eC X hx hZ (C := "com/example/tracefold/tracefold/mining/FactoredInverse$Lists") hown (tw hw 258 rfl) (tw hw 259 rfl) (tw hw 261 rfl) (tw hw 261 rfl) (tw hw 260 rfl) (tw hw 169 rfl) (tw hw 262 rfl) (by decide) hM eT (b:=b) (hE rfl) rfl has _ _ rfl hsz (lenOf iE hnp) (Nat.le_refl _) hf hl hc hs hd K
 ·cases h;intro p l e R s m args below meth c T locs cells slots h Ev rm as' Q argsL rest b pc Ls X hx hZ hown hM eT hE has hsz hnp hf hl hc hs hd K;exact gU X hx hZ (C := "com/example/tracefold/tracefold/mining/FactoredInverse$Elimination") (z:=({ cls := "com/example/tracefold/tracefold/mining/FactoredInverse$Elimination",name := "pivot",desc := "()J" }:Jvm.MethodName)) hown (tw hw 263 rfl) (tw hw 265 rfl) (tw hw 200 rfl) rfl (tw hw 264 rfl) (tw hw 124 rfl) (tw hw 266 rfl) (by decide) hM eT (b:=b) (hE rfl) rfl has _ _ rfl hsz (lenOf jm hnp) (Nat.le_refl _) hf hl hc hs hd K
 ·cases h;intro p l e R s m args below meth c T locs cells slots h Ev rm as' Q argsL rest b pc Ls X hx hZ hown hM eT hE has hsz hnp hf hl hc hs hd K;exact eC X hx hZ (C := "com/example/tracefold/tracefold/mining/FactoredInverse$Lists") hown (tw hw 267 rfl) (tw hw 268 rfl) (tw hw 270 rfl) (tw hw 270 rfl) (tw hw 269 rfl) (tw hw 169 rfl) (tw hw 271 rfl) (by decide) hM eT (b:=b) (hE rfl) rfl has _ _ rfl hsz (lenOf jm hnp) (Nat.le_refl _) hf hl hc hs hd K
 ·cases h;intro p l e R s m args below meth c T locs cells slots h Ev rm as' Q argsL rest b pc Ls X hx hZ hown hM eT hE has hsz hnp hf hl hc hs hd K;exact gU X hx hZ (C := "com/example/tracefold/tracefold/mining/FactoredInverse$Elimination") (z:=({ cls := "com/example/tracefold/tracefold/mining/FactoredInverse$Elimination",name := "pivot",desc := "()J" }:Jvm.MethodName)) hown (tw hw 276 rfl) (tw hw 278 rfl) (tw hw 200 rfl) rfl (tw hw 277 rfl) (tw hw 124 rfl) (tw hw 279 rfl) (by decide) hM eT (b:=b) (hE rfl) rfl has _ _ rfl hsz (lenOf mq hnp) (Nat.le_refl _) hf hl hc hs hd K
 ·cases h;intro p l e R s m args below meth c T locs cells slots h Ev rm as' Q argsL rest b pc Ls X hx hZ hown hM eT hE has hsz hnp hf hl hc hs hd K;exact gU X hx hZ (C := "com/example/tracefold/tracefold/mining/FactoredInverse$Elimination") (z:=({ cls := "com/example/tracefold/tracefold/mining/FactoredInverse$Elimination",name := "pivot",desc := "()J" }:Jvm.MethodName)) hown (tw hw 282 rfl) (tw hw 284 rfl) (tw hw 200 rfl) rfl (tw hw 283 rfl) (tw hw 124 rfl) (tw hw 285 rfl) (by decide) hM eT (b:=b) (hE rfl) rfl has _ _ rfl hsz (lenOf zU hnp) (Nat.le_refl _) hf hl hc hs hd K
 ·cases h
theorem qx {Z:State}{a0:Array Value}(hw:HW a0 Z):iR Z a0 "com/example/tracefold/tracefold/mining/FactoredInverse$Elimination" ju:=by
 intro op k cd h
 unfold ju at h
 split at h
 ·cases h;exact Or.inr (Or.inr (Or.inr (Or.inr ⟨rfl,_,rfl,(tw hw 130 rfl),(tw hw 26 rfl),(tw hw 27 rfl)⟩)))
 ·cases h;exact Or.inr (Or.inr (Or.inl ⟨rfl,_,rfl,(tw hw 217 rfl),(tw hw 218 rfl),(tw hw 2 rfl),(tw hw 219 rfl)⟩))
 ·cases h;exact Or.inr (Or.inr (Or.inr (Or.inl ⟨rfl,_,rfl,(tw hw 221 rfl),(tw hw 222 rfl),(tw hw 2 rfl),(tw hw 223 rfl)⟩)))
 ·cases h
def A4:Md:=((gI,gJ,gK),kD,js,jt,ju)
def A5:Md:=((gI,gJ,gK),kE,js,jt,ju)
theorem cw (Z:State)(a0:Array Value)(hw:HW a0 Z):je Z a0 "com/example/tracefold/tracefold/mining/FactoredInverse$Elimination" "<init>" A4∧eU Z a0∧fr Z a0:=⟨⟨qu hw,yf hw,qv hw,qw hw,qx hw⟩,eg hw,eh hw⟩
theorem af (mn:String)(Z:State)(a0:Array Value)(hw:HW a0 Z):je Z a0 "com/example/tracefold/tracefold/mining/FactoredInverse$Elimination" mn A5∧eU Z a0∧fr Z a0:=⟨⟨qu hw,yg hw mn,qv hw,qw hw,qx hw⟩,eg hw,eh hw⟩
def gL:Nat→Option (Nat×Nat)
 | 7=>some (0,13)
 | 13=>some (4,0)
 | 19=>some (4,1)
 | 22=>some (4,2)
 | 25=>some (4,3)
 | _=>none
def ij:Nat→Option String

 | _=>none
def ik:Nat→Option Value

 | _=>none
def kF:Nat→Option FieldType
 | 13=>some (.array .int)
 | 19=>some (.array .int)
 | 22=>some (.array .int)
 | 25=>some (.array .int)
 | _=>none
def nQ:Nat→Option FieldType

 | _=>none
def mC:Nat→Option (Nat×Nat)

 | _=>none
def jv:Instr→Option (Nat×Nat×Nat×Nat)
 | .invokestatic 28=>some (0,14,2,0)
 | .invokevirtual 34=>some (1,15,2,4)
 | .invokevirtual 38=>some (1,26,1,4)
 | _=>none
def jw:Instr→Option (Nat×Nat)
 | .invokespecial 1=>some (5,0)
 | _=>none
theorem qy {Z:State}{a0:Array Value}(hw:HW a0 Z):cL Z a0 "com/example/tracefold/tracefold/mining/FactoredInverse$Lists" (gL,ij,ik):=by
 refine⟨fun i c j h=>?_,fun i C h=>?_,fun i v h=>?_⟩
 ·dsimp only at h
  unfold gL at h
  split at h
  ·cases h;exact⟨by decide,_,_,_,rfl,Or.inr (tw hw 174 rfl),Via.refl⟩
  ·cases h;exact⟨by decide,_,_,"",rfl,Or.inl (tw hw 175 rfl),Via.refl⟩
  ·cases h;exact⟨by decide,_,_,"",rfl,Or.inl (tw hw 177 rfl),Via.refl⟩
  ·cases h;exact⟨by decide,_,_,"",rfl,Or.inl (tw hw 179 rfl),Via.refl⟩
  ·cases h;exact⟨by decide,_,_,"",rfl,Or.inl (tw hw 181 rfl),Via.refl⟩
  ·cases h
 ·cases h
 ·cases h
theorem yh {Z:State}{a0:Array Value}(hw:HW a0 Z):gk Z a0 "com/example/tracefold/tracefold/mining/FactoredInverse$Lists" "<init>" kF (gL,ij,ik):=by
 intro i ty h
 unfold kF at h
 split at h
 ·cases h;intro cc j hj;cases hj;exact⟨_,_,rfl,Or.inr ⟨(tw hw 176 rfl),rfl,rfl⟩,(tw hw 168 rfl),by decide⟩
 ·cases h;intro cc j hj;cases hj;exact⟨_,_,rfl,Or.inr ⟨(tw hw 178 rfl),rfl,rfl⟩,(tw hw 168 rfl),by decide⟩
 ·cases h;intro cc j hj;cases hj;exact⟨_,_,rfl,Or.inr ⟨(tw hw 180 rfl),rfl,rfl⟩,(tw hw 168 rfl),by decide⟩
 ·cases h;intro cc j hj;cases hj;exact⟨_,_,rfl,Or.inr ⟨(tw hw 182 rfl),rfl,rfl⟩,(tw hw 168 rfl),by decide⟩
 ·cases h
theorem yi {Z:State}{a0:Array Value}(hw:HW a0 Z)(mn:String):gk Z a0 "com/example/tracefold/tracefold/mining/FactoredInverse$Lists" mn nQ (gL,ij,ik):=by
 intro i ty h
 cases h
theorem qz {Z:State}{a0:Array Value}(hw:HW a0 Z):iQ Z a0 "com/example/tracefold/tracefold/mining/FactoredInverse$Lists" mC:=by
 intro i cc n h
 cases h
theorem qA {Z:State}{a0:Array Value}(hw:HW a0 Z):fo Z "com/example/tracefold/tracefold/mining/FactoredInverse$Lists" jv:=by
 intro op kd mn np rc h
 unfold jv at h
 split at h
 ·cases h;intro p l e R s m args below meth c T locs cells slots h Ev rm as' Q argsL rest b pc Ls X hx hZ hown hM eT hE has hsz hnp hf hl hc hs hd K;exact dz X hx hZ hown (tw hw 183 rfl) (tw hw 184 rfl) (tw hw 147 rfl) (tw hw 185 rfl) (by decide) hM eT rfl has _ _ rfl hsz (lenOf mj hnp) (Nat.le_refl _) hf hl hc hs hd K
 ·cases h;intro p l e R s m args below meth c T locs cells slots h Ev rm as' Q argsL rest b pc Ls X hx hZ hown hM eT hE has hsz hnp hf hl hc hs hd K;exact gU X hx hZ (C := "com/example/tracefold/tracefold/mining/FactoredInverse$Lists") (z:=({ cls := "com/example/tracefold/tracefold/mining/FactoredInverse$Lists",name := "first",desc := "(I)I" }:Jvm.MethodName)) hown (tw hw 186 rfl) (tw hw 188 rfl) (tw hw 207 rfl) rfl (tw hw 187 rfl) (tw hw 169 rfl) (tw hw 189 rfl) (by decide) hM eT (b:=b) (hE rfl) rfl has _ _ rfl hsz (lenOf jm hnp) (Nat.le_refl _) hf hl hc hs hd K
 ·cases h;intro p l e R s m args below meth c T locs cells slots h Ev rm as' Q argsL rest b pc Ls X hx hZ hown hM eT hE has hsz hnp hf hl hc hs hd K;exact eC X hx hZ (C := "com/example/tracefold/tracefold/mining/FactoredInverse$Lists") hown (tw hw 272 rfl) (tw hw 259 rfl) (tw hw 261 rfl) (tw hw 261 rfl) (tw hw 260 rfl) (tw hw 169 rfl) (tw hw 262 rfl) (by decide) hM eT (b:=b) (hE rfl) rfl has _ _ rfl hsz (lenOf iE hnp) (Nat.le_refl _) hf hl hc hs hd K
 ·cases h
theorem qB {Z:State}{a0:Array Value}(hw:HW a0 Z):iR Z a0 "com/example/tracefold/tracefold/mining/FactoredInverse$Lists" jw:=by
 intro op k cd h
 unfold jw at h
 split at h
 ·cases h;exact Or.inr (Or.inr (Or.inr (Or.inr ⟨rfl,_,rfl,(tw hw 173 rfl),(tw hw 26 rfl),(tw hw 27 rfl)⟩)))
 ·cases h
def A6:Md:=((gL,ij,ik),kF,mC,jv,jw)
def A7:Md:=((gL,ij,ik),nQ,mC,jv,jw)
theorem iF (Z:State)(a0:Array Value)(hw:HW a0 Z):je Z a0 "com/example/tracefold/tracefold/mining/FactoredInverse$Lists" "<init>" A6∧eU Z a0∧fr Z a0:=⟨⟨qy hw,yh hw,qz hw,qA hw,qB hw⟩,eg hw,eh hw⟩
theorem aM (mn:String)(Z:State)(a0:Array Value)(hw:HW a0 Z):je Z a0 "com/example/tracefold/tracefold/mining/FactoredInverse$Lists" mn A7∧eU Z a0∧fr Z a0:=⟨⟨qy hw,yi hw mn,qz hw,qA hw,qB hw⟩,eg hw,eh hw⟩
def jx:Nat→Option (Nat×Nat)
 | 7=>some (2,0)
 | 13=>some (2,1)
 | 16=>some (2,2)
 | 20=>some (2,3)
 | _=>none
def mE:Nat→Option String

 | _=>none
def mF:Nat→Option Value

 | _=>none
def kG:Nat→Option FieldType
 | 7=>some .int
 | 13=>some .int
 | 16=>some (.array .int)
 | 20=>some (.array .boolean)
 | _=>none
def qC:Nat→Option (Nat×Nat)

 | _=>none
def qD:Instr→Option (Nat×Nat×Nat×Nat)

 | _=>none
def mG:Instr→Option (Nat×Nat)
 | .invokespecial 1=>some (5,0)
 | _=>none
theorem A8 {Z:State}{a0:Array Value}(hw:HW a0 Z):cL Z a0 "com/example/tracefold/tracefold/mining/FactoredInverse$StepQueue" (jx,mE,mF):=by
 refine⟨fun i c j h=>?_,fun i C h=>?_,fun i v h=>?_⟩
 ·dsimp only at h
  unfold jx at h
  split at h
  ·cases h;exact⟨by decide,_,_,"",rfl,Or.inl (tw hw 103 rfl),Via.refl⟩
  ·cases h;exact⟨by decide,_,_,"",rfl,Or.inl (tw hw 105 rfl),Via.refl⟩
  ·cases h;exact⟨by decide,_,_,"",rfl,Or.inl (tw hw 107 rfl),Via.refl⟩
  ·cases h;exact⟨by decide,_,_,"",rfl,Or.inl (tw hw 109 rfl),Via.refl⟩
  ·cases h
 ·cases h
 ·cases h
theorem yj {Z:State}{a0:Array Value}(hw:HW a0 Z):gk Z a0 "com/example/tracefold/tracefold/mining/FactoredInverse$StepQueue" "<init>" kG (jx,mE,mF):=by
 intro i ty h
 unfold kG at h
 split at h
 ·cases h;intro cc j hj;cases hj;exact⟨_,_,rfl,Or.inl (tw hw 104 rfl),(tw hw 97 rfl),by decide⟩
 ·cases h;intro cc j hj;cases hj;exact⟨_,_,rfl,Or.inr ⟨(tw hw 106 rfl),rfl,rfl⟩,(tw hw 97 rfl),by decide⟩
 ·cases h;intro cc j hj;cases hj;exact⟨_,_,rfl,Or.inr ⟨(tw hw 108 rfl),rfl,rfl⟩,(tw hw 97 rfl),by decide⟩
 ·cases h;intro cc j hj;cases hj;exact⟨_,_,rfl,Or.inr ⟨(tw hw 110 rfl),rfl,rfl⟩,(tw hw 97 rfl),by decide⟩
 ·cases h
theorem A9 {Z:State}{a0:Array Value}(hw:HW a0 Z):iQ Z a0 "com/example/tracefold/tracefold/mining/FactoredInverse$StepQueue" qC:=by
 intro i cc n h
 cases h
theorem A_ {Z:State}{a0:Array Value}(hw:HW a0 Z):fo Z "com/example/tracefold/tracefold/mining/FactoredInverse$StepQueue" qD:=by
 intro op kd mn np rc h
 cases h
theorem Ba {Z:State}{a0:Array Value}(hw:HW a0 Z):iR Z a0 "com/example/tracefold/tracefold/mining/FactoredInverse$StepQueue" mG:=by
 intro op k cd h
 unfold mG at h
 split at h
 ·cases h;exact Or.inr (Or.inr (Or.inr (Or.inr ⟨rfl,_,rfl,(tw hw 102 rfl),(tw hw 26 rfl),(tw hw 27 rfl)⟩)))
 ·cases h
def Bb:Md:=((jx,mE,mF),kG,qC,qD,mG)
theorem yk (Z:State)(a0:Array Value)(hw:HW a0 Z):je Z a0 "com/example/tracefold/tracefold/mining/FactoredInverse$StepQueue" "<init>" Bb∧eU Z a0∧fr Z a0:=⟨⟨A8 hw,yj hw,A9 hw,A_ hw,Ba hw⟩,eg hw,eh hw⟩
def mH:Nat→Option (Nat×Nat)

 | _=>none
def jy:Nat→Option String
 | 13=>some "[I"
 | 21=>some "[D"
 | _=>none
def mI:Nat→Option Value

 | _=>none
def nR:Nat→Option FieldType

 | _=>none
def mJ:Nat→Option (Nat×Nat)
 | 27=>some (0,29)
 | 32=>some (1,4)
 | _=>none
def mK:Instr→Option (Nat×Nat×Nat×Nat)
 | .invokespecial 29=>some (2,4,1,0)
 | .invokespecial 34=>some (2,6,1,0)
 | .invokestatic 7=>some (0,1,2,0)
 | .invokestatic 15=>some (0,2,3,0)
 | .invokestatic 23=>some (0,3,3,0)
 | .invokevirtual 35=>some (1,8,2,0)
 | .invokevirtual 39=>some (1,33,2,1)
 | .invokevirtual 43=>some (1,34,2,0)
 | .invokevirtual 47=>some (1,32,1,0)
 | _=>none
def qE:Instr→Option (Nat×Nat)

 | _=>none
theorem Bc {Z:State}{a0:Array Value}(hw:HW a0 Z):cL Z a0 "com/example/tracefold/tracefold/mining/FactoredInverseTransposeTimesPinLaw" (mH,jy,mI):=by
 refine⟨fun i c j h=>?_,fun i C h=>?_,fun i v h=>?_⟩
 ·cases h
 ·dsimp only at h
  unfold jy at h
  split at h
  ·cases h;exact (tw hw 4 rfl)
  ·cases h;exact (tw hw 12 rfl)
  ·cases h
 ·cases h
theorem yl {Z:State}{a0:Array Value}(hw:HW a0 Z)(mn:String):gk Z a0 "com/example/tracefold/tracefold/mining/FactoredInverseTransposeTimesPinLaw" mn nR (mH,jy,mI):=by
 intro i ty h
 cases h
theorem Be {Z:State}{a0:Array Value}(hw:HW a0 Z):iQ Z a0 "com/example/tracefold/tracefold/mining/FactoredInverseTransposeTimesPinLaw" mJ:=by
 intro i cc n h
 unfold mJ at h
 split at h
 ·cases h;exact⟨by decide,(tw hw 19 rfl),(tw hw 20 rfl),(tw hw 21 rfl),AN hw⟩
 ·cases h;exact⟨by decide,(tw hw 113 rfl),(tw hw 75 rfl),(tw hw 76 rfl),qp hw⟩
 ·cases h
theorem qF {Z:State}{a0:Array Value}(hw:HW a0 Z):fo Z "com/example/tracefold/tracefold/mining/FactoredInverseTransposeTimesPinLaw" mK:=by
 intro op kd mn np rc h
 unfold mK at h
 split at h
 ·cases h;intro p l e R s m args below meth c T locs cells slots h Ev rm as' Q argsL rest b pc Ls X hx hZ hown hM eT hE has hsz hnp hf hl hc hs hd K;exact kA X hx hZ rfl hown (tw hw 22 rfl) (tw hw 23 rfl) (tw hw 21 rfl) (tw hw 24 rfl) (by decide) hM eT (a:=b) rfl has _ _ rfl hsz (lenOf iE hnp) (Nat.le_refl _) hf hl hc hs hd K
 ·cases h;intro p l e R s m args below meth c T locs cells slots h Ev rm as' Q argsL rest b pc Ls X hx hZ hown hM eT hE has hsz hnp hf hl hc hs hd K;exact kA X hx hZ rfl hown (tw hw 114 rfl) (tw hw 78 rfl) (tw hw 76 rfl) (tw hw 79 rfl) (by decide) hM eT (a:=b) rfl has _ _ rfl hsz (lenOf iE hnp) (Nat.le_refl _) hf hl hc hs hd K
 ·cases h;intro p l e R s m args below meth c T locs cells slots h Ev rm as' Q argsL rest b pc Ls X hx hZ hown hM eT hE has hsz hnp hf hl hc hs hd K;exact dz X hx hZ hown (tw hw 0 rfl) (tw hw 1 rfl) (tw hw 2 rfl) (tw hw 3 rfl) (by decide) hM eT rfl has _ _ rfl hsz (lenOf l4 hnp) (Nat.le_refl _) hf hl hc hs hd K
 ·cases h;intro p l e R s m args below meth c T locs cells slots h Ev rm as' Q argsL rest b pc Ls X hx hZ hown hM eT hE has hsz hnp hf hl hc hs hd K;exact dz X hx hZ hown (tw hw 6 rfl) (tw hw 7 rfl) (tw hw 8 rfl) (tw hw 9 rfl) (by decide) hM eT rfl has _ _ rfl hsz (lenOf HS hnp) (Nat.le_refl _) hf hl hc hs hd K
 ·cases h;intro p l e R s m args below meth c T locs cells slots h Ev rm as' Q argsL rest b pc Ls X hx hZ hown hM eT hE has hsz hnp hf hl hc hs hd K;exact dz X hx hZ hown (tw hw 14 rfl) (tw hw 15 rfl) (tw hw 8 rfl) (tw hw 16 rfl) (by decide) hM eT rfl has _ _ rfl hsz (lenOf HU hnp) (Nat.le_refl _) hf hl hc hs hd K
 ·cases h;intro p l e R s m args below meth c T locs cells slots h Ev rm as' Q argsL rest b pc Ls X hx hZ hown hM eT hE has hsz hnp hf hl hc hs hd K;exact eC X hx hZ (C := "com/example/tracefold/tracefold/mining/FactoredInverse") hown (tw hw 115 rfl) (tw hw 116 rfl) (tw hw 118 rfl) (tw hw 118 rfl) (tw hw 117 rfl) (tw hw 21 rfl) (tw hw 119 rfl) (by decide) hM eT (b:=b) (hE rfl) rfl has _ _ rfl hsz (lenOf HZ hnp) (Nat.le_refl _) hf hl hc hs hd K
 ·cases h;intro p l e R s m args below meth c T locs cells slots h Ev rm as' Q argsL rest b pc Ls X hx hZ hown hM eT hE has hsz hnp hf hl hc hs hd K;exact eC X hx hZ (C := "com/example/tracefold/tracefold/mining/SparseVector") hown (tw hw 300 rfl) (tw hw 301 rfl) (tw hw 303 rfl) (tw hw 303 rfl) (tw hw 302 rfl) (tw hw 76 rfl) (tw hw 304 rfl) (by decide) hM eT (b:=b) (hE rfl) rfl has _ _ rfl hsz (lenOf mq hnp) (Nat.le_refl _) hf hl hc hs hd K
 ·cases h;intro p l e R s m args below meth c T locs cells slots h Ev rm as' Q argsL rest b pc Ls X hx hZ hown hM eT hE has hsz hnp hf hl hc hs hd K;exact eC X hx hZ (C := "com/example/tracefold/tracefold/mining/FactoredInverse") hown (tw hw 307 rfl) (tw hw 308 rfl) (tw hw 310 rfl) (tw hw 310 rfl) (tw hw 309 rfl) (tw hw 21 rfl) (tw hw 311 rfl) (by decide) hM eT (b:=b) (hE rfl) rfl has _ _ rfl hsz (lenOf zW hnp) (Nat.le_refl _) hf hl hc hs hd K
 ·cases h;intro p l e R s m args below meth c T locs cells slots h Ev rm as' Q argsL rest b pc Ls X hx hZ hown hM eT hE has hsz hnp hf hl hc hs hd K;exact eC X hx hZ (C := "com/example/tracefold/tracefold/mining/FactoredInverse") hown (tw hw 293 rfl) (tw hw 294 rfl) (tw hw 296 rfl) (tw hw 296 rfl) (tw hw 295 rfl) (tw hw 21 rfl) (tw hw 297 rfl) (by decide) hM eT (b:=b) (hE rfl) rfl has _ _ rfl hsz (lenOf zV hnp) (Nat.le_refl _) hf hl hc hs hd K
 ·cases h
theorem Bf {Z:State}{a0:Array Value}(hw:HW a0 Z):iR Z a0 "com/example/tracefold/tracefold/mining/FactoredInverseTransposeTimesPinLaw" qE:=by
 intro op k cd h
 cases h
def ap:Md:=((mH,jy,mI),nR,mJ,mK,qE)
theorem bq (mn:String)(Z:State)(a0:Array Value)(hw:HW a0 Z):je Z a0 "com/example/tracefold/tracefold/mining/FactoredInverseTransposeTimesPinLaw" mn ap∧eU Z a0∧fr Z a0:=⟨⟨Bc hw,yl hw mn,Be hw,qF hw,Bf hw⟩,eg hw,eh hw⟩
def gM:Nat→Option (Nat×Nat)
 | 7=>some (1,0)
 | 13=>some (1,1)
 | 17=>some (1,2)
 | 30=>some (1,3)
 | _=>none
def il:Nat→Option String

 | _=>none
def im:Nat→Option Value

 | _=>none
def kH:Nat→Option FieldType
 | 7=>some (.array .double)
 | 13=>some (.array .boolean)
 | 17=>some (.array .int)
 | _=>none
def kI:Nat→Option FieldType
 | 30=>some .int
 | _=>none
def mL:Nat→Option (Nat×Nat)

 | _=>none
def mM:Instr→Option (Nat×Nat×Nat×Nat)

 | _=>none
def jz:Instr→Option (Nat×Nat)
 | .invokespecial 1=>some (5,0)
 | _=>none
theorem qG {Z:State}{a0:Array Value}(hw:HW a0 Z):cL Z a0 "com/example/tracefold/tracefold/mining/SparseVector" (gM,il,im):=by
 refine⟨fun i c j h=>?_,fun i C h=>?_,fun i v h=>?_⟩
 ·dsimp only at h
  unfold gM at h
  split at h
  ·cases h;exact⟨by decide,_,_,"",rfl,Or.inl (tw hw 81 rfl),Via.refl⟩
  ·cases h;exact⟨by decide,_,_,"",rfl,Or.inl (tw hw 84 rfl),Via.refl⟩
  ·cases h;exact⟨by decide,_,_,"",rfl,Or.inl (tw hw 86 rfl),Via.refl⟩
  ·cases h;exact⟨by decide,_,_,"",rfl,Or.inl (tw hw 305 rfl),Via.refl⟩
  ·cases h
 ·cases h
 ·cases h
theorem ym {Z:State}{a0:Array Value}(hw:HW a0 Z):gk Z a0 "com/example/tracefold/tracefold/mining/SparseVector" "<init>" kH (gM,il,im):=by
 intro i ty h
 unfold kH at h
 split at h
 ·cases h;intro cc j hj;cases hj;exact⟨_,_,rfl,Or.inr ⟨(tw hw 82 rfl),rfl,rfl⟩,(tw hw 75 rfl),by decide⟩
 ·cases h;intro cc j hj;cases hj;exact⟨_,_,rfl,Or.inr ⟨(tw hw 85 rfl),rfl,rfl⟩,(tw hw 75 rfl),by decide⟩
 ·cases h;intro cc j hj;cases hj;exact⟨_,_,rfl,Or.inl (tw hw 87 rfl),(tw hw 75 rfl),by decide⟩
 ·cases h
theorem yn {Z:State}{a0:Array Value}(hw:HW a0 Z)(mn:String):gk Z a0 "com/example/tracefold/tracefold/mining/SparseVector" mn kI (gM,il,im):=by
 intro i ty h
 unfold kI at h
 split at h
 ·cases h;intro cc j hj;cases hj;exact⟨_,_,rfl,Or.inl (tw hw 306 rfl),(tw hw 75 rfl),by decide⟩
 ·cases h
theorem qH {Z:State}{a0:Array Value}(hw:HW a0 Z):iQ Z a0 "com/example/tracefold/tracefold/mining/SparseVector" mL:=by
 intro i cc n h
 cases h
theorem qI {Z:State}{a0:Array Value}(hw:HW a0 Z):fo Z "com/example/tracefold/tracefold/mining/SparseVector" mM:=by
 intro op kd mn np rc h
 cases h
theorem qJ {Z:State}{a0:Array Value}(hw:HW a0 Z):iR Z a0 "com/example/tracefold/tracefold/mining/SparseVector" jz:=by
 intro op k cd h
 unfold jz at h
 split at h
 ·cases h;exact Or.inr (Or.inr (Or.inr (Or.inr ⟨rfl,_,rfl,(tw hw 80 rfl),(tw hw 26 rfl),(tw hw 27 rfl)⟩)))
 ·cases h
def Bg:Md:=((gM,il,im),kH,mL,mM,jz)
def Bh:Md:=((gM,il,im),kI,mL,mM,jz)
theorem yo (Z:State)(a0:Array Value)(hw:HW a0 Z):je Z a0 "com/example/tracefold/tracefold/mining/SparseVector" "<init>" Bg∧eU Z a0∧fr Z a0:=⟨⟨qG hw,ym hw,qH hw,qI hw,qJ hw⟩,eg hw,eh hw⟩
theorem dJ (mn:String)(Z:State)(a0:Array Value)(hw:HW a0 Z):je Z a0 "com/example/tracefold/tracefold/mining/SparseVector" mn Bh∧eU Z a0∧fr Z a0:=⟨⟨qG hw,yn hw mn,qH hw,qI hw,qJ hw⟩,eg hw,eh hw⟩
def mN:Nat→Option (Nat×Nat)

 | _=>none
def mO:Nat→Option String

 | _=>none
def mP:Nat→Option Value

 | _=>none
def nS:Nat→Option FieldType

 | _=>none
def qK:Nat→Option (Nat×Nat)

 | _=>none
def qL:Instr→Option (Nat×Nat×Nat×Nat)

 | _=>none
def qM:Instr→Option (Nat×Nat)

 | _=>none
theorem Bi {Z:State}{a0:Array Value}(hw:HW a0 Z):cL Z a0 "java/lang/Math" (mN,mO,mP):=by
 refine⟨fun i c j h=>?_,fun i C h=>?_,fun i v h=>?_⟩
 ·cases h
 ·cases h
 ·cases h
theorem yp {Z:State}{a0:Array Value}(hw:HW a0 Z)(mn:String):gk Z a0 "java/lang/Math" mn nS (mN,mO,mP):=by
 intro i ty h
 cases h
theorem Bj {Z:State}{a0:Array Value}(hw:HW a0 Z):iQ Z a0 "java/lang/Math" qK:=by
 intro i cc n h
 cases h
theorem Bk {Z:State}{a0:Array Value}(hw:HW a0 Z):fo Z "java/lang/Math" qL:=by
 intro op kd mn np rc h
 cases h
theorem Bl {Z:State}{a0:Array Value}(hw:HW a0 Z):iR Z a0 "java/lang/Math" qM:=by
 intro op k cd h
 cases h
def Bm:Md:=((mN,mO,mP),nS,qK,qL,qM)
theorem dK (mn:String)(Z:State)(a0:Array Value)(hw:HW a0 Z):je Z a0 "java/lang/Math" mn Bm∧eU Z a0∧fr Z a0:=⟨⟨Bi hw,yp hw mn,Bj hw,Bk hw,Bl hw⟩,eg hw,eh hw⟩
def mQ:Nat→Option (Nat×Nat)

 | _=>none
def jA:Nat→Option String
 | 317=>some "[I"
 | 329=>some "[D"
 | _=>none
def mR:Nat→Option Value

 | _=>none
def nT:Nat→Option FieldType

 | _=>none
def qN:Nat→Option (Nat×Nat)

 | _=>none
def mS:Instr→Option (Nat×Nat×Nat×Nat)
 | .invokestatic 304=>some (0,1,2,0)
 | _=>none
def mT:Instr→Option (Nat×Nat)
 | .invokestatic 150=>some (2,0)
 | .invokevirtual 316=>some (1,64)
 | .invokevirtual 328=>some (1,65)
 | _=>none
theorem Bn {Z:State}{a0:Array Value}(hw:HW a0 Z):cL Z a0 "java/util/Arrays" (mQ,jA,mR):=by
 refine⟨fun i c j h=>?_,fun i C h=>?_,fun i v h=>?_⟩
 ·cases h
 ·dsimp only at h
  unfold jA at h
  split at h
  ·cases h;exact (tw hw 156 rfl)
  ·cases h;exact (tw hw 164 rfl)
  ·cases h
 ·cases h
theorem yq {Z:State}{a0:Array Value}(hw:HW a0 Z)(mn:String):gk Z a0 "java/util/Arrays" mn nT (mQ,jA,mR):=by
 intro i ty h
 cases h
theorem Bo {Z:State}{a0:Array Value}(hw:HW a0 Z):iQ Z a0 "java/util/Arrays" qN:=by
 intro i cc n h
 cases h
theorem Bp {Z:State}{a0:Array Value}(hw:HW a0 Z):fo Z "java/util/Arrays" mS:=by
 intro op kd mn np rc h
 unfold mS at h
 split at h
 ·cases h;intro p l e R s m args below meth c T locs cells slots h Ev rm as' Q argsL rest b pc Ls X hx hZ hown hM eT hE has hsz hnp hf hl hc hs hd K;exact dz X hx hZ hown (tw hw 252 rfl) (tw hw 1 rfl) (tw hw 2 rfl) (tw hw 3 rfl) (by decide) hM eT rfl has _ _ rfl hsz (lenOf l4 hnp) (Nat.le_refl _) hf hl hc hs hd K
 ·cases h
theorem Bq {Z:State}{a0:Array Value}(hw:HW a0 Z):iR Z a0 "java/util/Arrays" mT:=by
 intro op k cd h
 unfold mT at h
 split at h
 ·cases h;exact Or.inr (Or.inl ⟨rfl,_,rfl,(tw hw 253 rfl),(tw hw 256 rfl),(tw hw 254 rfl),(tw hw 255 rfl)⟩)
 ·cases h;exact Or.inl ⟨rfl,by decide,by decide,_,rfl,(tw hw 149 rfl),(tw hw 150 rfl),(tw hw 154 rfl),(tw hw 152 rfl),(tw hw 153 rfl),(tw hw 155 rfl)⟩
 ·cases h;exact Or.inl ⟨rfl,by decide,by decide,_,rfl,(tw hw 160 rfl),(tw hw 161 rfl),(tw hw 154 rfl),(tw hw 152 rfl),(tw hw 162 rfl),(tw hw 163 rfl)⟩
 ·cases h
def Br:Md:=((mQ,jA,mR),nT,qN,mS,mT)
theorem cm (mn:String)(Z:State)(a0:Array Value)(hw:HW a0 Z):je Z a0 "java/util/Arrays" mn Br∧eU Z a0∧fr Z a0:=⟨⟨Bn hw,yq hw mn,Bo hw,Bp hw,Bq hw⟩,eg hw,eh hw⟩
theorem aB {n:Nat}:plainName "com/example/tracefold/tracefold/mining/FactoredInverse" = true∨plainFor (cJ n)=true:=Or.inl (by first|(simp [plainName,overriddenIn];done)|decide +kernel)
theorem ag {n:Nat}:plainName "com/example/tracefold/tracefold/mining/FactoredInverse$Elimination" = true∨plainFor (cJ n)=true:=Or.inl (by first|(simp [plainName,overriddenIn];done)|decide +kernel)
theorem aN {n:Nat}:plainName "com/example/tracefold/tracefold/mining/FactoredInverse$Lists" = true∨plainFor (cJ n)=true:=Or.inl (by first|(simp [plainName,overriddenIn];done)|decide +kernel)
theorem Bs {n:Nat}:plainName "com/example/tracefold/tracefold/mining/FactoredInverse$StepQueue" = true∨plainFor (cJ n)=true:=Or.inl (by first|(simp [plainName,overriddenIn];done)|decide +kernel)
theorem cb {n:Nat}:plainName "com/example/tracefold/tracefold/mining/FactoredInverseTransposeTimesPinLaw" = true∨plainFor (cJ n)=true:=Or.inl (by first|(simp [plainName,overriddenIn];done)|decide +kernel)
theorem d3 {n:Nat}:plainName "com/example/tracefold/tracefold/mining/SparseVector" = true∨plainFor (cJ n)=true:=Or.inl (by first|(simp [plainName,overriddenIn];done)|decide +kernel)
theorem fj:plainName "java/lang/Math" = true∨plainFor (cJ 1)=true:=Or.inr (Jvm.Free.JP.mathPlain rfl (by decide))
theorem ip:plainName "java/lang/Math" = true∨plainFor (cJ 10)=true:=Or.inr (Jvm.Free.JP.mathPlain rfl (by decide))
theorem cR {n:Nat}:plainName "java/util/Arrays" = true∨plainFor (cJ n)=true:=Or.inl (by first|(simp [plainName,overriddenIn];done)|decide +kernel)
def PU:List AD:=[]
def au:Value:=vR 0
def aE:AD:=aI [1]
def dr:Op:=(13,1,0,0)
def NS:Cn:=((2,[.float 1,.float 2,.float 3],PU,4),(some au,(PU++[aE]),[dr,dr]),(0,1,1,0))
theorem PV:CtH NS:=ctR 12 cb rfl (bq _) [] [0,0] sc0 (by decide +kernel)
def PW:List AD:=[]
def aF:AD:=aI [0]
def cE:Op:=(13,1,0,1)
def g8:Op:=(13,2,0,0)
def NT:Cn:=((2,[.float 1,.float 2,.float 3],PW,4),(some au,(PW++[aF]),[cE,g8,cE]),(0,1,1,0))
theorem PX:CtH NT:=ctR 14 cb rfl (bq _) [] [1,0,1] sc0 (by decide +kernel)
def PY:List AD:=[]
def fK:Op:=(7,2,0,0)
def NU:Cn:=((3,[.float 1,.float 2,.float 3],PY,4),(some au,(PY++[aD [4]]),[dr,dr,fK]),(0,1,1,0))
theorem PZ:CtH NU:=ctR 13 cb rfl (bq _) [] [0,0] sc0 (by decide +kernel)
def P3:List AD:=[]
def fL:Op:=(7,1,0,0)
def NV:Cn:=((3,[.float 1,.float 2,.float 3],P3,4),(some au,(P3++[aD [4]]),[cE,g8,cE,fL]),(0,1,1,0))
theorem P4:CtH NV:=ctR 15 cb rfl (bq _) [] [1,0,1] sc0 (by decide +kernel)
def P5:List AD:=[(1,0,uS 0 4)]
def zq0:Value:=vI 0
def gN:AD:=(64,16,rp 16 zq0)
def jf:AD:=(66,2,[zq0,zq0])
def ax:Value:=vI 2
def jB:AD:=aD [0,0]
def ct:Value:=vU 3
def iq:List Value:=[au,ax]
def yr:Cn:=((6,iq,P5,1),(none,(am P5 [(0,1,0,rS 1 3++[ct])]++[jB,jf,gN]),[]),(1,3,20,12))
theorem h_:CtH yr:=ctR 16 d3 rfl (yo) [] [] sc0 (by decide +kernel)
def P6:List AD:=[(2,0,uS 0 4)]
def zq1:Value:=vI (-1)
def ay:AD:=aI [0,0]
def aK:Value:=vR 1
def P7:Cn:=((7,iq,P6,1),(none,(am P6 [(0,2,0,[zq1,ax,aK,vR 2])]++[ay,jf]),[]),(1,2,4,12))
theorem RN:CtH P7:=ctR 18 Bs rfl (yk) [] [] sc0 (by decide +kernel)
def P8:List AD:=[(0,0,uS 0 29)]
def za8:AD:=(64,0,[])
def eI:AD:=(65,0,[])
def bv:AD:=aI [0,0,0]
def aw:Value:=vD 0
def qO:AD:=(65,256,[aw,aw,aw,aw])
def jC:AD:=(64,256,[zq0,zq0,zq0,zq0])
def qP:AD:=(64,17,rp 17 zq0)
def P9:AD:=(65,16,rp 16 aw)
def ft:Value:=vR 31
def fM:Value:=vR 27
def f8:List AD:=[za8,eI,za8,eI,za8,eI,za8,eI,gN,P9,qP,jC,qO]
def P_:Cn:=((4,iq,P8,1),(none,(am P8 [(0,0,0,rS 1 13++[ax]++rS 14 10++[fM,ft,vR 35,vR 39,vU 28])]++(f8++[ay,ay,jB,bv,bv,bv,bv,ay,ay,(1,0,rS 24 3++[zq0]),jB,jf,gN,(1,0,rS 28 3++[zq0]),jB,jf,gN,(1,0,rS 32 3++[zq0]),jB,jf,gN,(1,0,rS 36 3++[zq0]),jB,jf,gN,(2,0,[zq1,ax,vR 40,vR 41]),ay,jf])),[]),(2,41,689,27))
def qQ:List Value:=[.null,.null,.null,zq0]
theorem jD:CtH P_:=ctR 133 aB rfl (ye) [(yr,[23],[0],qQ),(yr,[27],[0],qQ),(yr,[31],[0],qQ),(yr,[35],[0],qQ),(P7,[39],[0],[zq0,zq0,.null,.null])] [] (scS h_ (scS h_ (scS h_ (scS h_ (scS RN sc0))))) (by decide +kernel)
def Qa:List AD:=[]
def zq3:Value:=vI 1
def Qb:Cn:=((10,[zq3,zq3],Qa,1),(some zq3,(Qa),[]),(0,0,0,0))
theorem f5:CtH Qb:=ctR 7 ip rfl (dK _) [] [] sc0 (by decide +kernel)
def Qc:List AD:=[aE]
def g9:List Value:=[au,zq3]
def ti:Cn:=((11,g9,Qc,1),(some aK,(Qc++[aE]),[]),(1,1,1,14))
theorem ys:CtH ti:=ctR 9 cR rfl (cm _) [] [] sc0 (by decide +kernel)
def br:AD:=aD [1]
def Qd:List AD:=[br]
def Ie:Cn:=((12,g9,Qd,2),(some aK,(Qd++[br]),[]),(1,1,1,14))
theorem lS:CtH Ie:=ctR 9 cR rfl (cm _) [] [] sc0 (by decide +kernel)
def I4:List AD:=[aF]
def mU:Cn:=((11,g9,I4,1),(some aK,(I4++[aF]),[]),(1,1,1,14))
theorem nU:CtH mU:=ctR 9 cR rfl (cm _) [] [] sc0 (by decide +kernel)
def kO:AD:=aU 64 0 3
def I5:List AD:=[kO]
def qR:Cn:=((14,[au,zq1],I5,1),(none,(am I5 [(0,aI [(-1),(-1),(-1)])]),[]),(0,0,0,0))
theorem uT:CtH qR:=ctR 37 cR rfl (cm _) [] [] sc0 (by decide +kernel)
def I6:List AD:=[aU 64 0 2]
def Bt:Cn:=((14,[au,zq1],I6,1),(none,(am I6 [(0,aI [(-1),(-1)])]),[]),(0,0,0,0))
theorem fN:CtH Bt:=ctR 28 cR rfl (cm _) [] [] sc0 (by decide +kernel)
def g_:AD:=(4,0,rS 1 4)
def aO:Value:=vU 0
def bi:Value:=vU 1
def uU:List AD:=[aU 64 2 2,aU 64 4 2,aU 64 6 2]
def uV:List AD:=[g_,(64,3,[aO,zq1,bi])]++uU
def jE:List Value:=[au,zq3,zq3]
def uW:Cn:=((15,jE,uV,1),(none,(am uV [(1,64,3,[aO,zq3,bi]),(2,64,2,[vU 2,zq1]),(3,64,2,[vU 4,zq1]),(4,64,2,[vU 6,zq3])]),[]),(0,0,0,0))
theorem Bu:CtH uW:=ctR 30 aN rfl (aM _) [] [] sc0 (by decide +kernel)
def I7:List AD:=[g_,(64,3,[aO,zq3,bi])]++uU
def jF:List Value:=[au,zq0,zq3]
def I8:Cn:=((15,jF,I7,1),(none,(am I7 [(1,64,3,[aO,zq0,bi]),(2,64,2,[zq3,ct]),(3,aI [(-1),0]),(4,64,2,[zq3,vU 7])]),[]),(0,0,0,0))
theorem Qe:CtH I8:=ctR 38 aN rfl (aM _) [] [] sc0 (by decide +kernel)
def za5:AD:=(0,0,uS 0 13++[ax]++uS 13 15)
def bM:AD:=aI [1,1]
def uX:AD:=(4,0,[.null,.null,.null,.null])
def I9:List AD:=[za5,bM,uX]
def fy:AD:=aI [1,(-1)]
def fC:AD:=aI [(-1),0]
def qS:AD:=aI [(-1),0,(-1)]
def Bv:Cn:=((13,[vR 2,au,aK],I9,1),(none,(am I9 [(2,4,0,rS 3 4)]++[qS,fy,fC,bM]),[]),(1,4,9,15))
def hG:List Value:=[zq0,zq0,zq0]
def uY:List Value:=[zq1,zq1,zq0,zq0,zq0,zq0,zq1,zq1]
def uZ:Sc:=(Bt,[6],[0],[zq0,zq0])
theorem u7:CtH Bv:=ctR 61 aN rfl (iF) [(qR,[3],[0],hG),uZ,(uW,[2,3,4,5,6],[0],uY),(I8,[2,3,4,5,6],[0],[zq1,zq1,zq0,zq1,zq0,zq1,zq1,zq3])] [] (scS uT (scS fN (scS Bu (scS Qe sc0)))) (by decide +kernel)
def cV:Value:=vU 32
def eA:Value:=vU 31
def lT:AD:=(3,0,[vU 28]++rp 5 (.null)++[vU 29,vU 30,.null,eA,cV])
def bN:AD:=aR 68 [4,5]
def bE:AD:=aR 67 [1,2]
def I_:List AD:=[bE,aE,aF,bN,br,aD [2],za5,lT]
def za2:AD:=aI [(-1),(-1)]
def co:Value:=vR 20
def cZ:Value:=vR 16
def eV:Value:=vR 25
def dB:Value:=vR 6
def lU:List Value:=[dB]++rS 8 4++[cZ,co,eV,vR 30,eA,cV]
def jG:AD:=(4,0,rS 26 4)
def jH:AD:=(4,0,rS 21 4)
def hH:List Value:=[vR 7,dB,au,vR 3]
def hI:AD:=aR 68 [13,15]
def mV:AD:=aR 67 [17,18]
def hO:AD:=aR 67 [12,14]
def Ja:Cn:=((9,hH,I_,3),(none,(am I_ [(7,3,0,lU)]++[hO,hI,bM,bM,aE,br,aF,aD [2],mV,aE,aF,bM,jH,qS,fy,fC,bM,jG,qS,fy,fC,bM,za2]),[]),(2,23,46,32))
def gi:Sc:=(Qb,[],[0],[])
def iS:Sc:=(Bt,[30],[0],[zq0,zq0])
def nV:Sc:=(Ie,[4],[0,1],[])
def Jb:List Sc:=[(Ie,[5],[0,2],[]),gi,gi,(Bv,[6,10,20],[0],uS 0 28),(Bv,[6,11,25],[0],uS 0 28),iS]
theorem Qf:CtH Ja:=ctR 335 ag rfl (cw) ([gi,(ti,[1],[0],[]),nV,gi,(mU,[2],[0],[])]++Jb) [] (scS f5 (scS ys (scS lS (scS f5 (scS nU (scS lS (scS f5 (scS f5 (scS u7 (scS u7 (scS fN sc0))))))))))) (by decide +kernel)
def u8:AD:=(4,0,[aK]++uS 0 3)
def Jc:List AD:=[u8,(64,3,[ct,zq0,vU 4])]
def nW:Cn:=((17,g9,Jc,1),(some zq0,(Jc),[]),(0,0,0,0))
theorem eW:CtH nW:=ctR 6 aN rfl (aM _) [] [] sc0 (by decide +kernel)
def lV:AD:=(3,0,[aO,aK]++uS 1 9)
def cu:Value:=vU 10
def nX:AD:=(67,2,[cu,vR 2])
def Jd:List AD:=[lV,nX,aF]
def jI:List Value:=[au,zq3,zq0]
def qT:Cn:=((18,jI,Jd,1),(some zq0,(Jd),[]),(0,0,0,0))
theorem u_:CtH qT:=ctR 13 ag rfl (af _) [] [] sc0 (by decide +kernel)
def qU:AD:=(3,0,[aO,bi,aK,vR 2]++uS 2 7)
def va:AD:=(68,2,[vU 9,vR 3])
def qV:AD:=(64,2,[cu,zq3])
def Je:List AD:=[qU,va,qV,br]
def dC:Op:=(4,1,0,0)
def RO:Op:=(11,2,4472406533629990549,1)
def RP:Op:=(2,4591870180066957722,4,0)
def aA:Value:=vD 1
def Qg:Op:=(10,2,5,1)
def Qh:Op:=(5,0,3,0)
def gl:List Op:=[dC,RO,dC,Qh,RP,Qg]
def Jf:Cn:=((19,[au,zq3,aA],Je,2),(some zq3,(Je),gl),(1,0,0,17))
theorem vb:CtH Jf:=ctR 45 ag rfl (af _) [] [1,1] sc0 (by decide +kernel)
def Jg:List AD:=[(4,0,[aO,aK,bi,vU 2]),(64,2,[zq3,ct])]
def mW:Cn:=((22,[au,zq0],Jg,1),(some zq3,(Jg),[]),(0,0,0,0))
theorem iT:CtH mW:=ctR 6 aN rfl (aM _) [] [] sc0 (by decide +kernel)
def dt:Value:=vR 10
def d4:Value:=vR 12
def cW:Value:=vR 8
def jg:List Value:=[cW,dt,d4]
def lW:AD:=(3,0,[au]++rS 2 4++jg++uS 28 3)
def d5:Value:=vR 13
def cM:Value:=vU 35
def bH:Value:=vU 45
def ck:Value:=vU 33
def dD:Value:=vR 14
def c8:Value:=vU 42
def dw:Value:=vU 41
def kQ:AD:=(4,0,[d5,dD,dw,c8])
def kR:AD:=(4,0,[vR 11]++uS 36 3)
def cN:Value:=vU 44
def nY:AD:=(67,2,[eA,dB])
def ir:Value:=vU 40
def fD:Value:=vU 43
def eX:Value:=vU 39
def nZ:AD:=(68,2,[cV,vR 7])
def dR:Value:=vU 34
def bO:Value:=vR 9
def kS:AD:=(64,2,[zq3,dR])
def n5:AD:=(67,2,[bO,cM])
def qW:AD:=(64,3,[eX,zq0,ir])
def qX:AD:=(64,2,[ck,zq3])
def vc:AD:=(64,3,[fD,zq0,cN])
def Jh:List AD:=[za5,lW,nY,nZ,qX,kS,aF,br,n5,aE,kR,qW,kQ,vc,(64,2,[zq3,bH])]
def Ji:Cn:=((16,[aK],Jh,2),(some (.long 4294967296),(Jh),gl),(2,0,0,37))
def qY:List Value:=[au,vR 2,vR 5,cW,dt,d4]
def ve:Sc:=(Jf,[1,3,4,7],[0,1],qY++uS 28 3++[cV,ck])
def qZ:Sc:=(nW,[10,11],[0],uS 36 5)
def vf:Sc:=(nW,[12,13],[0],[dD]++uS 41 4)
theorem Qi:CtH Ji:=ctR 146 ag rfl (af _) [vf,(qT,[1,2,6],[0],[au]++rS 3 3++jg++uS 28 4),ve,(mW,[12,14],[0],[d5,dw,c8,bH]),qZ] [] (scS eW (scS u_ (scS vb (scS iT (scS eW sc0))))) (by decide +kernel)
def nO:AD:=(3,0,[aO]++rS 1 3++uS 1 7)
def q5:AD:=(68,2,[vU 9,vR 5])
def q6:AD:=(67,2,[vU 8,vR 4])
def Jj:List AD:=[nO,q6,q5,qV,aF,br]
def Bw:Cn:=((24,jI,Jj,2),(none,(am Jj [(3,64,2,[cu,zq0])]),[]),(0,0,0,0))
theorem Jk:CtH Bw:=ctR 36 ag rfl (af _) [] [] sc0 (by decide +kernel)
def Jl:List AD:=[(4,0,[aO]++rS 1 3),(64,2,[bi,zq1]),(64,2,[vU 2,zq0]),aU 64 3 2]
def Bx:Cn:=((26,g9,Jl,1),(none,(am Jl [(1,aI [(-1),(-1)]),(3,64,2,[ct,zq1])]),[]),(0,0,0,0))
theorem By:CtH Bx:=ctR 29 aN rfl (aM _) [] [] sc0 (by decide +kernel)
def vg:AD:=(64,2,[zq1,vU 4])
def Jm:List AD:=[g_,kO,(64,2,[zq3,ct]),vg,(64,2,[zq3,vU 5])]
def vh:Cn:=((26,[au,zq0],Jm,1),(none,(am Jm [(1,64,3,[aO,zq3,vU 2]),(3,aI [(-1),(-1)]),(4,64,2,[zq1,vU 5])]),[]),(0,0,0,0))
theorem Bz:CtH vh:=ctR 39 aN rfl (aM _) [] [] sc0 (by decide +kernel)
def RQ:AD:=(0,0,uS 0 14++rS 1 5++[vU 14,vU 15,dB,vR 7]++uS 16 6)
def bQ:Value:=vR 17
def cg:Value:=vR 15
def bS:Value:=vU 38
def eY:Value:=vU 46
def BA:AD:=aU 64 28 3
def Jn:AD:=aU 64 22 2
def bx:Value:=vR 21
def Qj:AD:=aU 65 26 2
def Qk:AD:=aU 64 36 2
def Ql:AD:=aU 64 34 2
def Qm:AD:=aU 64 31 3
def Qn:AD:=aU 64 24 2
def q7:AD:=(68,2,[ir,dD])
def q8:AD:=(67,2,[eX,d5])
def q9:AD:=(64,2,[dw,zq3])
def q_:AD:=(64,2,[bH,zq1])
def iU:List AD:=[RQ,Jn,Qn,Qj,BA,Qm,Ql,Qk]
def vi:List AD:=[(64,2,[zq3,c8]),aF,br,(67,2,[cZ,fD])]
def Jo:List AD:=iU++([(3,0,[au]++rS 9 4++[cg,bQ,bx,bS,zq0,zq0]),q8,q7,q9]++vi++[aE,(4,0,[cN]++rS 18 3),q_,(64,2,[eY,zq0]),aU 64 47 2,(4,0,rS 22 4),aU 64 49 3,(64,2,[zq3,vU 52]),(64,2,[zq1,vU 53]),(64,2,[zq3,vU 54])])
def iV:List Value:=[zq0,zq0,vU 30]
def gm:Value:=vU 37
def Jp:Cn:=((23,[cW,zq0,zq3,zq0],Jo,2),(none,(am Jo [(1,64,2,[zq3,vU 23]),(2,64,2,[zq0,vU 25]),(3,65,2,[aA,vU 27]),(4,64,3,iV),(5,64,3,[zq0,zq0,ck]),(6,64,2,[dR,zq0]),(7,64,2,[zq0,gm]),(11,64,2,[dw,zq0]),(12,64,2,[zq0,c8]),(18,aI [(-1),(-1)]),(20,64,2,[vU 47,zq1]),(22,64,3,[vU 49,zq3,vU 51]),(24,aI [(-1),(-1)]),(25,64,2,[zq1,vU 54])]),[]),(1,0,0,15))
theorem Qo:CtH Jp:=ctR 136 ag rfl (af _) [(qT,[8,9,13],[0],[au]++rS 10 3++[cg,bQ,bx,bS,zq0,zq0,eX]),(Bw,[8,9,10,11,13,14],[0,1],[au,d4,cg,bQ,bx,bS,zq0,zq0]++uS 39 3),(Bx,[17,18,19,20],[0],uS 44 5),(vh,[21,22,23,24,25],[0],uS 49 6)] [] (scS u_ (scS Jk (scS By (scS Bz sc0)))) (by decide +kernel)
def Jq:List AD:=[u8,(64,3,[ct,zq3,vU 4])]
def kT:Cn:=((17,g9,Jq,1),(some zq3,(Jq),[]),(0,0,0,0))
theorem eZ:CtH kT:=ctR 6 aN rfl (aM _) [] [] sc0 (by decide +kernel)
def n6:AD:=(67,2,[vR 2,cu])
def Jr:List AD:=[lV,n6,aE]
def rd:Cn:=((18,jF,Jr,1),(some zq0,(Jr),[]),(0,0,0,0))
theorem vj:CtH rd:=ctR 13 ag rfl (af _) [] [] sc0 (by decide +kernel)
def vk:AD:=(68,2,[vR 3,vU 9])
def rf:AD:=(64,2,[zq3,cu])
def Js:List AD:=[qU,vk,rf,br]
def kU:List Value:=[au,zq0,aA]
def Jt:Cn:=((19,kU,Js,2),(some zq3,(Js),gl),(1,0,0,17))
theorem vl:CtH Jt:=ctR 45 ag rfl (af _) [] [1,1] sc0 (by decide +kernel)
def Ju:List AD:=[(4,0,[aO,aK,bi,vU 2]),(64,2,[ct,zq1])]
def jJ:Cn:=((22,g9,Ju,1),(some zq1,(Ju),[]),(0,0,0,0))
theorem e6:CtH jJ:=ctR 6 aN rfl (aM _) [] [] sc0 (by decide +kernel)
def n7:AD:=(67,2,[dB,eA])
def iX:AD:=(64,2,[dR,zq3])
def n8:AD:=(68,2,[vR 7,cV])
def n9:AD:=(67,2,[cM,bO])
def rg:AD:=(64,2,[zq3,ck])
def vn:AD:=(64,3,[fD,zq3,cN])
def Jv:List AD:=[za5,lW,n7,n8,rg,iX,aE,br,n9,aF,kR,qW,kQ,vn,q_]
def Jw:Cn:=((16,[aK],Jv,2),(some (.long 1),(Jv),gl),(2,0,0,37))
def vo:Sc:=(Jt,[1,3,4,7],[0,1],qY++uS 28 3++[cV,ck])
def vp:Sc:=(jJ,[12,14],[0],[d5,dw,c8,bH])
def vq:Sc:=(kT,[12,13],[0],[dD]++uS 41 4)
theorem Qp:CtH Jw:=ctR 139 ag rfl (af _) [vq,(rd,[1,2,6],[0],[au]++rS 3 3++jg++uS 28 4),vo,vp,qZ] [] (scS eZ (scS vj (scS vl (scS e6 (scS eW sc0))))) (by decide +kernel)
def rh:AD:=(68,2,[vR 5,vU 9])
def ri:AD:=(67,2,[vR 4,vU 8])
def Jx:List AD:=[nO,ri,rh,rf,aE,br]
def jK:List Value:=[au,zq0,zq0]
def BB:Cn:=((24,jK,Jx,2),(none,(am Jx [(3,64,2,[zq0,cu])]),[]),(0,0,0,0))
theorem Jy:CtH BB:=ctR 36 ag rfl (af _) [] [] sc0 (by decide +kernel)
def Jz:List AD:=[g_,kO,(64,2,[zq1,ct]),vg,(64,2,[zq3,vU 5])]
def kV:Cn:=((26,[au,zq0],Jz,1),(none,(am Jz [(1,64,3,[aO,zq1,vU 2]),(4,64,2,[zq1,vU 5])]),[]),(0,0,0,0))
theorem iY:CtH kV:=ctR 28 aN rfl (aM _) [] [] sc0 (by decide +kernel)
def JA:List AD:=[g_,kO,(64,2,[ct,zq1]),(64,2,[vU 4,zq1]),(64,2,[vU 5,zq3])]
def hS:Cn:=((26,g9,JA,1),(none,(am JA [(1,64,3,[aO,zq1,vU 2]),(4,64,2,[vU 5,zq1])]),[]),(0,0,0,0))
theorem gn:CtH hS:=ctR 28 aN rfl (aM _) [] [] sc0 (by decide +kernel)
def dS:Value:=vR 22
def rj:AD:=(4,0,rS 23 4)
def mY:AD:=(4,0,rS 18 4)
def BC:AD:=(3,0,[au]++rS 9 4++[cg,bQ,dS,bS,zq0,zq0])
def BD:AD:=(64,2,[c8,zq3])
def f9:Value:=vU 55
def rk:AD:=(68,2,[dD,ir])
def rl:AD:=(67,2,[d5,eX])
def rn:AD:=(64,2,[zq3,dw])
def BE:AD:=(64,2,[zq1,vU 48])
def JB:AD:=(64,2,[vU 54,zq1])
def JC:List AD:=[rj,aU 64 50 3,(64,2,[vU 53,zq1]),JB,(64,2,[f9,zq3])]
def vr:List AD:=[BD,aE,br,(67,2,[fD,cZ])]
def JD:List AD:=iU++(([BC,rl,rk,rn]++vr++[aF,mY,aU 64 44 3,(64,2,[zq1,vU 47]),BE,(64,2,[zq3,vU 49])])++JC)
def bI:Value:=vU 36
def cX:Value:=vU 22
def e7:Value:=vU 24
def kW:List Value:=[vU 26,aA]
def JE:Cn:=((23,[cW,zq3,zq0,zq3],JD,2),(none,(am JD [(1,64,2,[cX,zq0]),(2,64,2,[e7,zq3]),(3,65,2,kW),(4,64,3,[vU 28,zq0,zq0]),(5,64,3,[eA,zq0,zq0]),(6,64,2,[zq3,cM]),(7,64,2,[bI,zq3]),(11,64,2,[zq0,dw]),(12,64,2,[c8,zq0]),(18,64,3,[cN,zq1,eY]),(21,64,2,[zq1,vU 49]),(23,64,3,[vU 50,zq1,vU 52]),(26,64,2,[f9,zq1])]),[]),(1,0,0,15))
theorem Qq:CtH JE:=ctR 136 ag rfl (af _) [(rd,[8,9,13],[0],[au]++rS 10 3++[cg,bQ,dS,bS,zq0,zq0,eX]),(BB,[8,9,10,11,13,14],[0,1],[au,d4,cg,bQ,dS,bS,zq0,zq0]++uS 39 3),(kV,[17,18,19,20,21],[0],uS 44 6),(hS,[22,23,24,25,26],[0],uS 50 6)] [] (scS vj (scS Jy (scS iY (scS gn sc0)))) (by decide +kernel)
def JF:List AD:=[kO]
def jL:Cn:=((14,[au,zq0],JF,1),(none,(am JF [(0,aI [0,0,0])]),[]),(0,0,0,0))
theorem iZ:CtH jL:=ctR 37 cR rfl (cm _) [] [] sc0 (by decide +kernel)
def JG:List AD:=[]
def BF:Cn:=((1,[vI 3,ax],JG,1),(some ax,(JG),[]),(0,0,0,0))
theorem JI:CtH BF:=ctR 6 fj rfl (dK _) [] [] sc0 (by decide +kernel)
def JJ:List AD:=[(64,3,[zq0,zq0,aO])]
def kX:Cn:=((11,iq,JJ,1),(some aK,(JJ++[ay]),[]),(1,1,2,40))
theorem kY:CtH kX:=ctR 19 cR rfl (cm _) [(BF,[],[0],[])] [] (scS JI sc0) (by decide +kernel)
def JK:List AD:=[(0,0,uS 0 4++[aK,vU 4,vR 2]++uS 5 6++[ax]++uS 11 3++rS 3 4++uS 14 8),za8,za8,bv,bv,bv,bv]
def JL:Cn:=((31,[au],JK,1),(none,(JK++[ay,ay]),[]),(2,2,4,54))
theorem JN:CtH JL:=ctR 194 aB rfl (az _) [(jL,[5],[0],hG),(jL,[6],[0],hG),(kX,[5],[0],[zq0]),(kX,[6],[0],[zq0])] [] (scS iZ (scS iZ (scS kY (scS kY sc0)))) (by decide +kernel)
def gO:List Value:=[vR 7,vU 4,cW]
def ro:AD:=aU 64 19 2
def BG:AD:=aU 64 17 2
def Qr:AD:=(0,0,uS 0 4++gO++uS 5 6++[ax]++rS 9 9++uS 11 6)
def JO:AD:=aU 65 21 2
def JQ:List AD:=[bN,br,aD [2],Qr,za8,za8,BG,ro,JO,bv,bv,bv,bv,aU 64 23 2,aU 64 25 2]
def JR:List AD:=[bE,aE,aF]++JQ
def za7:AD:=aI [(-1),(-1),(-1)]
def tj:Op:=(11,3,4472406533629990549,1)
def eJ:Op:=(4,2,0,0)
def rq:Op:=(2,4591870180066957722,9,0)
def gp:List Value:=[dB,au,vR 3]
def mZ:Op:=(5,0,4,0)
def JS:AD:=(3,0,[dB]++rS 19 4++[fM,ft,vR 36,vR 41,zq0,zq0])
def vt:List AD:=[za7,fy,za2,za2,za2,ay,ay]
def JU:Cn:=((8,gp,JR,3),(some zq3,(am JR [(6,0,0,uS 0 4++gO++uS 5 6++[ax]++rS 9 9++uS 11 5++[zq0]),(9,aI [1,0]),(10,aI [0,1]),(11,aD [2,1]),(16,aI [1,0]),(17,aI [0,1])]++([JS,aR 67 [23,25],aR 68 [24,26],ay,ay,aE,br,aF,aD [2],aR 67 [28,29],aE,aF,bM,(4,0,rS 32 4),za7,za2,fC,za2,(4,0,rS 37 4)]++vt)),[eJ,tj,eJ,mZ,(2,4591870180066957722,5,0),(10,3,6,1),dC,(11,7,4472406533629990549,1),dC,(5,0,8,0),rq,(10,7,10,1)]),(3,26,61,73))
def lX:List Value:=[zq0,.null,.null,.null,zq0,zq0]
def aW:Value:=vR 29
def bT:Value:=vR 24
def dx:Value:=vU 20
def JV:Sc:=(JL,[6,7,8,12,13,14,15],[0],uS 0 11++rS 9 3++[cZ,bQ]++uS 11 5++[zq0])
def bU:Value:=vD 2
def e_:Value:=vR 28
def fb:Value:=vR 26
def fE:Value:=vR 32
theorem Qs:CtH JU:=ctR 65 aB rfl (az _) [(Ja,[0,1,2,3,4,5,6,18],[0,1,2],uS 0 4++gO++uS 5 6++rS 9 9++uS 11 5++lX),(Ji,[6,18,19,20,21,22,25,26,27,28,31,32,36,37,38],[0,2],uS 0 4++gO++uS 5 6++rS 9 9++uS 11 5++[zq0,vR 41,zq0,zq0,vR 23,bT,zq3,zq3,aW]++rS 33 3++[zq1,zq1,vR 39,vR 40,zq1,zq1,zq1]),(Jp,[6,9,10,11,12,13,16,17,18,19,20,21,22,25,26,27,28,31,33,34,35,36,37,38,39,40],[0,2],uS 0 4++gO++uS 5 6++[ax,dD,cg]++uS 11 5++[zq0]++uS 17 6++rp 6 zq0++uS 23 4++[vR 41,vR 23,bT,zq3,zq3,aW,fE,zq3,zq1,zq3,zq3,zq1,zq0,zq1,zq1,zq0,zq3]),(Jw,[6,18,19,20,21,22,23,24,27,29,31,32,36,37,38],[0,1],uS 0 4++gO++uS 5 6++rS 9 9++uS 11 5++[zq0,vR 41,zq0,zq0,eV,fb,zq0,zq0,e_]++rS 33 3++[zq1,zq1,vR 39,vR 40,zq1,zq1,zq3]),(JE,[6,9,10,11,12,13,16,17,18,19,20,21,22,23,24,27,29,31,32,33,34,35,36,37,38,39,40],[0,1],uS 0 4++gO++uS 5 6++[ax,dD,cg]++uS 11 5++[zq0,zq3,vU 18,zq0,dx,bU,cX]++rp 6 zq0++[vU 23,zq0,zq0,vU 26,vR 41,eV,fb,zq0,zq0,e_,zq1,zq0,zq1,zq1,zq0,zq1,zq1,zq3,zq1,zq3,zq1,zq1]),JV] [] (scS Qf (scS Qi (scS Qo (scS Qp (scS Qq (scS JN sc0)))))) (by decide +kernel)
def JW:List AD:=[]
def BH:Cn:=((2,[.float 1,.float 2,zq0],JW,3),(some au,(JW++[aE]),[dr,dr]),(0,1,1,0))
theorem JX:CtH BH:=ctR 12 cb rfl (bq _) [] [0,0] sc0 (by decide +kernel)
def JY:List AD:=[]
def za4:AD:=aI [0,1]
def eB:Op:=(13,2,0,1)
def BI:Cn:=((2,[.float 1,.float 2,zq0],JY,3),(some au,(JY++[za4]),[cE,eB]),(0,1,2,0))
theorem kZ:CtH BI:=ctR 18 cb rfl (bq _) [] [1,1] sc0 (by decide +kernel)
def JZ:List AD:=[]
def fe:AD:=aD [3]
def BJ:Cn:=((3,[.float 1,.float 2,zq0],JZ,3),(some au,(JZ++[fe]),[dr,dr,fK]),(0,1,1,0))
theorem J2:CtH BJ:=ctR 13 cb rfl (bq _) [] [0,0] sc0 (by decide +kernel)
def J3:List AD:=[]
def ff:AD:=aD [3,4]
def BK:Cn:=((3,[.float 1,.float 2,zq0],J3,3),(some au,(J3++[ff]),[cE,eB,fL,fK]),(0,1,2,0))
theorem k_:CtH BK:=ctR 20 cb rfl (bq _) [] [1,1] sc0 (by decide +kernel)
def J4:List AD:=[]
def J5:Cn:=((10,[ax,zq3],J4,1),(some ax,(J4),[]),(0,0,0,0))
theorem dy:CtH J5:=ctR 7 ip rfl (dK _) [] [] sc0 (by decide +kernel)
def J6:List AD:=[za4]
def m0:Cn:=((11,iq,J6,1),(some aK,(J6++[za4]),[]),(1,1,2,14))
theorem n_:CtH m0:=ctR 9 cR rfl (cm _) [] [] sc0 (by decide +kernel)
def aL:AD:=aD [1,2]
def J7:List AD:=[aL]
def vu:Cn:=((12,iq,J7,3),(some aK,(J7++[aL]),[]),(1,1,2,14))
theorem hT:CtH vu:=ctR 9 cR rfl (cm _) [] [] sc0 (by decide +kernel)
def vw:List AD:=[g_,(64,3,[aO,bi,zq1])]++uU
def BL:Cn:=((15,[au,zq3,ax],vw,1),(none,(am vw [(1,64,3,[aO,bi,zq3]),(2,64,2,[vU 2,zq1]),(3,64,2,[vU 4,zq1]),(4,64,2,[vU 6,ax])]),[]),(0,0,0,0))
theorem J8:CtH BL:=ctR 30 aN rfl (aM _) [] [] sc0 (by decide +kernel)
def BM:Cn:=((15,jF,uV,1),(none,(am uV [(1,64,3,[aO,zq0,bi]),(2,64,2,[zq1,ct]),(3,64,2,[zq1,vU 5]),(4,64,2,[zq3,vU 7])]),[]),(0,0,0,0))
theorem J9:CtH BM:=ctR 30 aN rfl (aM _) [] [] sc0 (by decide +kernel)
def d6:AD:=aI [1,2]
def J_:List AD:=[za5,d6,uX]
def ru:AD:=aI [(-1),0,1]
def BN:Cn:=((13,[vR 2,au,aK],J_,1),(none,(am J_ [(2,4,0,rS 3 4)]++[ru,za2,za2,d6]),[]),(1,4,9,15))
theorem lb:CtH BN:=ctR 61 aN rfl (iF) [(qR,[3],[0],hG),uZ,(BL,[2,3,4,5,6],[0],uY),(BM,[2,3,4,5,6],[0],[zq1,zq3,zq0,zq1,zq0,zq1,zq1,ax])] [] (scS uT (scS fN (scS J8 (scS J9 sc0)))) (by decide +kernel)
def hV:AD:=aD [2,3]
def Ka:List AD:=[bE,aE,za4,bN,br,hV,za5,lT]
def Kc:List AD:=[hV,mV,aE,za4,d6,jH,ru,za2,za2,d6,jG,ru,za2,za2,d6,za2]
def Kd:Cn:=((9,hH,Ka,4),(none,(am Ka [(7,3,0,lU)]++([hO,hI,d6,d6,aE,br,za4]++Kc)),[]),(2,23,49,32))
def gj:Sc:=(J5,[],[0],[])
def vx:Sc:=(BN,[6,11,25],[0],uS 0 28)
def vy:Sc:=(BN,[6,10,20],[0],uS 0 28)
def vz:Sc:=(vu,[5],[0,2,3],[])
theorem Qt:CtH Kd:=ctR 375 ag rfl (cw) [gi,(ti,[1],[0],[]),nV,gj,(m0,[2],[0],[]),vz,gi,gj,vy,vx,iS] [] (scS f5 (scS ys (scS lS (scS dy (scS n_ (scS hT (scS f5 (scS dy (scS lb (scS lb (scS fN sc0))))))))))) (by decide +kernel)
def Ke:List AD:=[lV,nX,(64,2,[zq0,vU 11])]
def oa:Cn:=((18,jI,Ke,1),(some zq0,(Ke),[]),(0,0,0,0))
theorem rv:CtH oa:=ctR 13 ag rfl (af _) [] [] sc0 (by decide +kernel)
def Kg:List AD:=[qU,va,(64,2,[cu,ax]),aL]
def BO:Op:=(2,4591870180066957722,7,0)
def rx:Op:=(5,5,6,0)
def BP:Op:=(10,3,8,1)
def hX:List Op:=[tj,dC,mZ,eJ,rx,BO,BP]
def BQ:Cn:=((19,[au,zq3,aA],Kg,3),(some zq3,(Kg),[dC]++hX),(1,0,0,17))
theorem BR:CtH BQ:=ctR 63 ag rfl (af _) [] [1,1] sc0 (by decide +kernel)
def Kh:List AD:=[(4,0,[aO,aK,bi,vU 2]),(64,2,[zq1,ct])]
def vA:Cn:=((22,[au,zq0],Kh,1),(some zq1,(Kh),[]),(0,0,0,0))
theorem ob:CtH vA:=ctR 6 aN rfl (aM _) [] [] sc0 (by decide +kernel)
def Ki:AD:=(4,0,[d5,dD,c8,fD])
def lf:AD:=(4,0,[vR 11]++uS 37 3)
def vB:AD:=(64,3,[ir,zq0,dw])
def Qu:AD:=(64,3,[cN,zq0,bH])
def vC:List AD:=[za5,lW,nY,nZ,(64,2,[ck,ax])]
def vE:List AD:=[Ki,Qu,(64,2,[zq1,eY])]
def Kj:List AD:=vC++([kS,(64,2,[zq0,cM]),aL,(67,2,[bO,bI]),aE,lf,vB]++vE)
def Kk:Cn:=((16,[aK],Kj,3),(some (.long 4294967296),(Kj),[dC]++hX),(2,0,0,37))
def vF:Sc:=(vA,[12,14],[0],[d5,c8,fD,eY])
def vG:Sc:=(nW,[12,13],[0],[dD]++uS 42 4)
def vH:Sc:=(nW,[10,11],[0],uS 37 5)
def Kl:Sc:=(BQ,[1,3,4,7],[0,1,2],qY++uS 28 3++[cV,ck])
theorem Qv:CtH Kk:=ctR 139 ag rfl (af _) [vG,(oa,[1,2,6],[0],[au]++rS 3 3++jg++uS 28 4++[cM]),Kl,vF,vH] [] (scS eW (scS rv (scS BR (scS ob (scS eW sc0))))) (by decide +kernel)
def vJ:AD:=(65,2,[vU 12,aA])
def vK:List AD:=[nO,q6,q5,(64,2,[cu,ax]),(64,2,[vU 11,zq3]),vJ]
def vL:Cn:=((24,jI,vK,2),(none,(am vK [(3,64,2,[cu,zq3]),(4,aI [1,1]),(5,aD [1,1])]),[]),(0,0,0,0))
theorem BS:CtH vL:=ctR 36 ag rfl (af _) [] [] sc0 (by decide +kernel)
def Km:List AD:=[]
def Kn:Cn:=((10,[zq0,ax],Km,1),(some ax,(Km),[]),(0,0,0,0))
theorem vM:CtH Kn:=ctR 6 ip rfl (dK _) [] [] sc0 (by decide +kernel)
def Ko:List AD:=[]
def BT:Cn:=((1,[zq0,ax],Ko,1),(some zq0,(Ko),[]),(0,0,0,0))
theorem Kq:CtH BT:=ctR 7 fj rfl (dK _) [] [] sc0 (by decide +kernel)
def Kr:List AD:=[za8]
def Ks:Cn:=((11,iq,Kr,1),(some aK,(Kr++[ay]),[]),(1,1,2,40))
theorem vN:CtH Ks:=ctR 19 cR rfl (cm _) [(BT,[],[0],[])] [] (scS Kq sc0) (by decide +kernel)
def Ku:List AD:=[eI]
def Kv:Cn:=((12,iq,Ku,1),(some aK,(Ku++[jB]),[]),(1,1,2,40))
theorem vO:CtH Kv:=ctR 19 cR rfl (cm _) [(BT,[],[0],[])] [] (scS Kq sc0) (by decide +kernel)
def vP:List AD:=[(0,0,[aK,vR 2]++uS 0 11++[ax]++uS 11 15),za8,eI,(3,0,[au]++uS 26 8++[zq0,dR])]
def za9:AD:=aI [1,0]
def eK:AD:=aD [1,0]
def m6:Cn:=((25,[vR 3,zq3,aA],vP,2),(none,(am vP [(0,0,0,[vR 4,vR 5]++uS 0 11++[ax]++uS 11 15),(3,3,0,[au]++uS 26 8++[zq3,dR])]++[za9,eK]),[]),(2,2,4,55))
def vQ:List Sc:=[(Kn,[],[0],[]),(Ks,[1],[0],[]),(Kv,[2],[0],[])]
theorem lg:CtH m6:=ctR 54 ag rfl (af _) vQ [] (scS vM (scS vN (scS vO sc0))) (by decide +kernel)
def Kw:List AD:=[g_,kO,(64,2,[ct,zq1]),(64,2,[vU 4,zq1]),(64,2,[vU 5,ax])]
def BU:Cn:=((26,g9,Kw,1),(none,(am Kw [(1,64,3,[aO,bi,zq1]),(4,64,2,[vU 5,zq1])]),[]),(0,0,0,0))
theorem ry:CtH BU:=ctR 28 aN rfl (aM _) [] [] sc0 (by decide +kernel)
def vS:List AD:=[(3,0,uS 0 4++[aK,vR 2]++uS 4 5),(64,2,[vU 9,ax]),(67,2,[cu,vR 3]),za4]
def BV:Cn:=((27,jE,vS,1),(none,(am vS [(1,64,2,[vU 9,zq3])]),[]),(0,0,0,0))
theorem vT:CtH BV:=ctR 42 ag rfl (af _) [] [] sc0 (by decide +kernel)
def Kx:List AD:=[g_,(64,3,[aO,zq1,bi]),(64,2,[vU 2,zq1]),(64,2,[ct,zq1]),(64,2,[vU 4,ax])]
def m7:Cn:=((28,jE,Kx,1),(none,(am Kx [(1,64,3,[aO,zq3,zq1]),(4,64,2,[vU 4,zq3])]),[]),(1,0,0,14))
theorem i6:CtH m7:=ctR 20 aN rfl (aM _) [(BU,[0,1,2,3,4],[0],[aO,zq1]++uS 1 4),(uW,[0,1,2,3,4],[0],[aO,zq1,vU 2,zq1,ct,zq1,vU 4,zq1])] [] (scS ry (scS Bu sc0)) (by decide +kernel)
def oe:List Value:=[vU 11,vU 12,cW,bO]
def Qw:AD:=(0,0,[aK,vR 2]++uS 0 11++[ax]++rS 3 5++oe++uS 13 6)
def Qx:AD:=(3,0,[au]++rS 11 4++[bQ,co,eV,cM,zq0,zq0])
def BW:AD:=aU 64 31 2
def lh:AD:=aR 67 [18,19]
def Ky:AD:=aU 65 23 2
def Kz:AD:=aU 64 39 3
def KA:AD:=aU 64 33 2
def KB:AD:=aU 64 25 3
def KC:AD:=aU 64 21 2
def vV:AD:=(64,3,[bH,zq0,eY])
def vW:List AD:=[Qw,za8,eI,ro,KC,Ky,KB,BA,BW,KA,Qx,(67,2,[bI,cg]),(68,2,[gm,cZ]),(64,2,[bS,ax])]
def vX:List AD:=[jH,Kz,(64,2,[c8,zq1]),(64,2,[fD,zq1]),(64,2,[cN,ax]),jG]
def KD:List AD:=vW++([d6,za4,aL,lh,aE,za4]++vX++[vV,za2,za2,d6])
def rz:List Value:=[vR 30,ft]++uS 0 11++[ax]++rS 3 5++oe++uS 13 6
def rA:List Value:=[au]++rS 11 4++[bQ,co,eV,cM,zq3,zq0]
def fF:AD:=aD [2,0]
def lk:List Value:=[zq0,zq3,vU 27]
def ll:List Value:=[eX,ir,zq1]
def KE:Cn:=((23,[dt,zq0,zq3,zq0],KD,3),(none,(am KD [(0,0,0,rz),(3,64,2,[zq3,dx]),(4,64,2,[zq0,cX]),(5,65,2,[aA,e7]),(6,64,3,lk),(7,64,3,iV),(8,64,2,[eA,zq0]),(9,64,2,[zq0,dR]),(10,3,0,rA),(13,64,2,[bS,zq3]),(14,aI [0,1]),(15,aI [1,1]),(16,aD [2,2]),(21,64,3,ll),(24,64,2,[cN,zq1]),(26,64,3,[bH,zq3,zq1]),(29,aI [(-1),1])]++[za9,fF]),[]),(3,2,4,70))
def lm:List Value:=[au,dD,bQ,co,eV,cM,zq0,zq0]
def vY:Sc:=(kV,[25,26,27,28,29],[0],[bH,zq0,eY,zq1,zq1,ax])
def vZ:Sc:=(m7,[25,26,27,28,29],[0],[bH,eY,zq1,zq1,zq1])
def v3:List Value:=[bQ,co,eV,cM,zq0]
def BX:Sc:=(BU,[20,21,22,23,24],[0],uS 39 6)
def fg:Value:=vR 18
def KF:Sc:=(m6,[0,1,2,10],[0,2],uS 0 11++rS 3 5++oe++uS 13 6++rS 11 4++v3)
def KG:Sc:=(BV,[10,14,17,19],[0],[au]++rS 11 3++[co,eV,cM,zq3,zq0,zq3,fg])
theorem Qy:CtH KE:=ctR 185 ag rfl (af _) [(oa,[10,11,15],[0],[au]++rS 12 3++[bQ,co,eV,cM,zq0,zq0,bI,zq3]),(vL,[10,11,12,13,15,16],[0,2],lm++uS 36 3++[zq0,aA]),KF,BX,vY,KG,vZ] [] (scS rv (scS BS (scS lg (scS ry (scS iY (scS vT (scS i6 sc0))))))) (by decide +kernel)
def Qz:AD:=(64,3,[cN,zq3,bH])
def v4:List AD:=[Ki,Qz,(64,2,[eY,zq1])]
def KH:List AD:=[za5,lW,n7,n8,rg,iX,aE,br,n9,(64,2,[zq0,bI]),lf,vB]++v4
def KI:Cn:=((16,[aK],KH,2),(some (.long 1),(KH),gl),(2,0,0,37))
def v5:Sc:=(jJ,[12,14],[0],[d5,c8,fD,eY])
def v6:Sc:=(kT,[12,13],[0],[dD]++uS 42 4)
theorem KJ:CtH KI:=ctR 139 ag rfl (af _) [v6,(rd,[1,2,6],[0],[au]++rS 3 3++jg++uS 28 4),vo,v5,vH] [] (scS eZ (scS vj (scS vl (scS e6 (scS eW sc0))))) (by decide +kernel)
def v7:AD:=(3,0,[au]++rS 9 4++[cg,bQ,dS,bS,zq3,zq0])
def KL:List AD:=[rj,aU 64 51 3,JB,(64,2,[f9,zq1]),(64,2,[vU 56,zq3])]
def KN:List AD:=[(64,2,[zq0,cN]),mY,aU 64 45 3,BE,(64,2,[zq1,vU 49]),(64,2,[zq3,vU 50])]
def KO:List AD:=iU++((([v7,rl,rk,rn]++vr)++KN)++KL)
def og:List Value:=[vU 28,zq3,zq3]
def BZ:Cn:=((23,[cW,zq3,zq0,zq3],KO,2),(none,(am KO [(1,64,2,[cX,zq0]),(2,64,2,[e7,zq3]),(3,65,2,kW),(4,64,3,og),(5,64,3,[eA,zq0,zq0]),(6,64,2,[zq3,cM]),(7,64,2,[bI,zq3]),(11,64,2,[zq0,dw]),(12,64,2,[c8,zq0]),(18,64,3,[bH,zq1,vU 47]),(21,64,2,[zq1,vU 50]),(23,64,3,[vU 51,zq1,vU 53]),(26,64,2,[vU 56,zq1])]),[]),(1,0,0,15))
def v8:List Value:=[au,d4,cg,bQ,dS,bS,zq3,zq0]
def v9:List Value:=[cg,bQ,dS,bS,zq3,zq0,eX]
theorem KP:CtH BZ:=ctR 136 ag rfl (af _) [(rd,[8,9,13],[0],[au]++rS 10 3++v9),(BB,[8,9,10,11,13,14],[0,1],v8++uS 39 3),(kV,[17,18,19,20,21],[0],uS 45 6),(hS,[22,23,24,25,26],[0],uS 51 6)] [] (scS vj (scS Jy (scS iY (scS gn sc0)))) (by decide +kernel)
def dV:AD:=aI [0,1,1]
def KQ:AD:=(0,0,[cW,bO,aO,bi]++rS 1 3++uS 2 6++[ax]++uS 8 3++rS 4 4++uS 11 8)
def KR:List AD:=[KQ,za8,eI,za8,dV,bv,bv,bv,(64,2,[zq3,vU 19]),(65,2,[aA,dx])]
def KS:List Value:=[cW,bO,aO,bi,dt,vR 11,vR 3]++uS 2 6++[ax]++uS 8 3++rS 4 4++uS 11 8
def v_:Cn:=((31,[au],KR,2),(none,(am KR [(0,0,0,KS),(6,aI [0,0,1])]++[ay,eK,za4,ay]),[]),(2,4,8,54))
theorem wa:CtH v_:=ctR 259 aB rfl (az _) [(jL,[6],[0],hG),(jL,[7],[0],hG),(kX,[6],[0],[zq3]),(kX,[7],[0],[zq0])] [] (scS iZ (scS iZ (scS kY (scS kY sc0)))) (by decide +kernel)
def it:List Value:=[vR 7,cW,aO,bi]
def RS:AD:=(0,0,it++rS 9 3++uS 2 6++[ax]++rS 12 9++uS 8 6)
def QA:AD:=aU 65 18 2
def QB:AD:=aU 64 20 2
def QC:AD:=aU 64 16 2
def QD:AD:=aU 64 14 2
def lo:List AD:=[RS,za8,eI,za8,eI,za8,QD,QC,QA,bv,bv,bv,bv,QB,Jn]
def KT:List AD:=[bE,aE,za4,bN,br,hV]++lo
def rB:List Value:=[vR 45,vR 46,aO,bi,vR 47,vR 48,vR 11]++uS 2 6++[ax]++rS 12 9++uS 8 5++[zq0]
def bF:Value:=vR 34
def cF:Value:=vR 44
def rC:AD:=(3,0,[dB]++rS 22 4++[vR 30,bF,vR 39,cF,zq3,zq0])
def KU:Op:=(11,10,4472406533629990549,1)
def KV:Op:=(2,4591870180066957722,12,0)
def KW:Op:=(11,4,4472406533629990549,1)
def KX:Op:=(2,4591870180066957722,8,0)
def iu:Op:=(4,3,0,0)
def lp:AD:=aR 68 [27,29]
def lq:AD:=aR 67 [31,32]
def lr:AD:=aR 67 [26,28]
def QE:AD:=(4,0,rS 40 4)
def QG:AD:=(4,0,rS 35 4)
def KY:Op:=(10,10,13,1)
def KZ:Op:=(5,0,11,0)
def K0:Op:=(10,4,9,1)
def K4:Op:=(5,6,7,0)
def K5:Op:=(5,0,5,0)
def ls:List AD:=[QG,za7,za2,za2,za2,QE,za7,za2,za2,za2,za2]
def wb:List Op:=[KW,eJ,K5,iu,K4,KX,K0,dC,KU,dC,KZ,KV,KY]
def K6:Cn:=((8,gp,KT,4),(some zq3,(am KT [(6,0,0,rB),(12,aI [1,0]),(13,aI [0,1]),(14,aD [2,1]),(15,aI [0,1,1]),(17,aI [0,0,1]),(19,aI [1,0]),(20,aI [0,1])]++([rC,lr,lp,za4,ay,aE,br,bM,aD [3,3],lq,aE,za4,d6]++ls++[za9,aD [3,0],ay,aD [3,0],za4,ay])),[eJ]++wb),(4,30,72,93))
def lY:List Value:=[vR 45,vR 46,aO,bi]
def wc:List Value:=[zq1,zq1,vR 42,vR 43,zq1,zq1,zq1]
def K7:Sc:=(KI,[6,21,22,23,24,25,26,27,30,32,34,35,39,40,41],[0,1],lY++rS 9 3++uS 2 6++rS 12 9++uS 8 5++[zq0,cF,zq3,zq0,e_,aW,zq3,zq0,ft,zq3]++rS 36 3++wc)
def lw:List Value:=[ax,bQ,fg]
theorem QH:CtH K6:=ctR 65 aB rfl (az _) [(Kd,[0,1,2,3,4,5,6,21],[0,1,2,3],it++rS 9 3++uS 2 6++rS 12 9++uS 8 5++lX),(Kk,[6,21,22,23,24,25,28,29,30,31,34,35,39,40,41],[0,2,3],it++rS 9 3++uS 2 6++rS 12 9++uS 8 5++[zq0,cF,zq0,zq0,fb,fM,zq3,ax,zq3,fE]++rS 36 3++[zq1,zq3,vR 42,vR 43,zq1,zq3,zq1]),(KE,[6,7,8,12,13,14,15,16,19,20,21,22,23,24,25,28,29,30,31,32,34,35,36,37,38,39,40,41,42,43],[0,2,3],[aO,bi]++rS 9 3++uS 2 6++[bQ,fg]++uS 8 5++[zq0]++uS 14 6++rp 6 zq0++uS 20 4++[cF,fb,fM,zq3,zq1,zq0,zq3,zq1,zq1,zq3,zq1,zq3]),K7,(BZ,[6,12,13,14,15,16,19,20,21,22,23,24,25,26,27,30,32,34,35,36,37,38,39,40,41,42,43],[0,1],lY++rS 9 3++uS 2 6++lw++uS 8 5++[zq0,zq3,vU 15,zq0,vU 17,bU,vU 19,zq0,zq3,zq0,zq0,zq0,zq0,dx,zq0,zq0,vU 23,cF,e_,aW,zq3,zq0,ft,zq3,zq1,zq0]++rp 5 zq1++[zq3,zq1,zq1,zq1,zq1]),(v_,[6,9,10,11,15,16,17,18,45,46],[0,3],uS 0 8++rS 12 3++[vR 19,co]++uS 8 5++[zq0,zq0,aw])] [] (scS Qt (scS Qv (scS Qy (scS KJ (scS KP (scS wa sc0)))))) (by decide +kernel)
def K8:List AD:=[]
def B4:Cn:=((2,[.float 1,.float 2,zq3],K8,3),(some au,(K8++[aE]),[dr,dr]),(0,1,1,0))
theorem K9:CtH B4:=ctR 12 cb rfl (bq _) [] [0,0] sc0 (by decide +kernel)
def La:List AD:=[]
def B5:Cn:=((2,[.float 1,.float 2,zq3],La,3),(some au,(La++[za9]),[cE,eB]),(0,1,2,0))
theorem lx:CtH B5:=ctR 19 cb rfl (bq _) [] [1,1] sc0 (by decide +kernel)
def Lb:List AD:=[]
def B6:Cn:=((3,[.float 1,.float 2,zq3],Lb,3),(some au,(Lb++[fe]),[dr,dr,fK]),(0,1,1,0))
theorem Lc:CtH B6:=ctR 13 cb rfl (bq _) [] [0,0] sc0 (by decide +kernel)
def Ld:List AD:=[]
def B7:Cn:=((3,[.float 1,.float 2,zq3],Ld,3),(some au,(Ld++[ff]),[cE,eB,fK,fL]),(0,1,2,0))
theorem ly:CtH B7:=ctR 21 cb rfl (bq _) [] [1,1] sc0 (by decide +kernel)
def Le:List AD:=[za9]
def m8:Cn:=((11,iq,Le,1),(some aK,(Le++[za9]),[]),(1,1,2,14))
theorem oh:CtH m8:=ctR 9 cR rfl (cm _) [] [] sc0 (by decide +kernel)
def Lf:List AD:=[bE,aE,za9,bN,br,hV,za5,lT]
def Lg:Cn:=((9,hH,Lf,4),(none,(am Lf [(7,3,0,lU)]++([hO,hI,d6,d6,aE,br,za9]++Kc)),[]),(2,23,49,32))
theorem QI:CtH Lg:=ctR 375 ag rfl (cw) [gi,(ti,[1],[0],[]),nV,gj,(m8,[2],[0],[]),vz,gi,gj,vy,vx,iS] [] (scS f5 (scS ys (scS lS (scS dy (scS oh (scS hT (scS f5 (scS dy (scS lb (scS lb (scS fN sc0))))))))))) (by decide +kernel)
def Lh:List AD:=[lV,nX,za9]
def oi:Cn:=((18,jI,Lh,1),(some zq3,(Lh),[]),(0,0,0,0))
theorem rD:CtH oi:=ctR 23 ag rfl (af _) [] [] sc0 (by decide +kernel)
def Li:List AD:=[qU,va,(64,2,[cu,ax]),aD [2,1]]
def B9:Cn:=((19,[au,zq3,aA],Li,3),(some zq3,(Li),[dC,tj,eJ,mZ,dC,rx,BO,BP]),(1,0,0,17))
theorem B_:CtH B9:=ctR 63 ag rfl (af _) [] [1,1] sc0 (by decide +kernel)
def Lj:List AD:=vC++[kS,za9,aL,n5,aE,kR,qW,kQ,vc,(64,2,[zq1,bH])]
def Lk:Cn:=((16,[aK],Lj,3),(some (.long 4294967296),(Lj),[eJ]++hX),(2,0,0,37))
def Ll:Sc:=(B9,[1,3,4,7],[0,2,1],qY++uS 28 3++[cV,ck])
theorem QJ:CtH Lk:=ctR 139 ag rfl (af _) [vf,(oi,[1,2,6],[0],[au]++rS 3 3++jg++uS 28 4),Ll,(vA,[12,14],[0],[d5,dw,c8,bH]),qZ] [] (scS eW (scS rD (scS B_ (scS ob (scS eW sc0))))) (by decide +kernel)
def wd:List AD:=[nO,q6,q5,(64,2,[cu,ax]),(64,2,[vU 11,zq0]),vJ]
def we:Cn:=((24,jE,wd,2),(none,(am wd [(3,64,2,[cu,zq3])]),[]),(0,0,0,0))
theorem Ca:CtH we:=ctR 36 ag rfl (af _) [] [] sc0 (by decide +kernel)
def Lm:List AD:=vW++([d6,za9,aL,lh,aE,za4]++vX++[vV,za2,za2,d6])
def Ln:Cn:=((23,[dt,zq0,zq3,zq0],Lm,3),(none,(am Lm [(0,0,0,rz),(3,64,2,[zq3,dx]),(4,64,2,[zq0,cX]),(5,65,2,[bU,e7]),(6,64,3,lk),(7,64,3,iV),(8,64,2,[eA,zq0]),(9,64,2,[zq0,dR]),(10,3,0,rA),(13,64,2,[bS,zq3]),(14,aI [0,1]),(21,64,3,ll),(24,64,2,[cN,zq1]),(26,64,3,[bH,zq3,zq1]),(29,aI [(-1),1])]++[za9,eK]),[]),(3,2,4,70))
def Lo:Sc:=(m6,[0,1,2,10],[0,1],uS 0 11++rS 3 5++oe++uS 13 6++rS 11 4++v3)
def wf:List Value:=[bQ,co,eV,cM,zq0,zq0,bI]
theorem QK:CtH Ln:=ctR 185 ag rfl (af _) [(oi,[10,11,15],[0],[au]++rS 12 3++wf),(we,[10,11,12,13,15,16],[0,2],lm++uS 36 3++[zq3,aA]),Lo,BX,vY,KG,vZ] [] (scS rD (scS Ca (scS lg (scS ry (scS iY (scS vT (scS i6 sc0))))))) (by decide +kernel)
def Lp:List AD:=[bE,aE,za9,bN,br,hV]++lo
def Lr:Cn:=((8,gp,Lp,4),(some zq3,(am Lp [(6,0,0,rB),(12,aI [1,0]),(13,aI [0,1]),(14,aD [3,1]),(15,aI [0,1,1]),(17,aI [0,0,1]),(19,aI [1,0]),(20,aI [0,1])]++([rC,lr,lp,za4,ay,aE,br,za9,hV,lq,aE,za4,d6]++ls++[za9,fF,ay,fF,za4,ay])),[iu]++wb),(4,30,72,93))
def Lt:Sc:=(v_,[6,9,10,11,15,16,17,18,45,46],[0,2],uS 0 8++rS 12 3++[vR 19,co]++uS 8 5++[zq0,zq0,aw])
theorem QL:CtH Lr:=ctR 65 aB rfl (az _) [(Lg,[0,1,2,3,4,5,6,21],[0,1,2,3],it++rS 9 3++uS 2 6++rS 12 9++uS 8 5++lX),(Lk,[6,21,22,23,24,25,28,29,30,31,34,35,39,40,41],[0,2,3],it++rS 9 3++uS 2 6++rS 12 9++uS 8 5++[zq0,cF,zq0,zq0,fb,fM,zq3,ax,fE]++rS 36 3++[zq1,zq3,vR 42,vR 43,zq1,zq3,zq1]),(Ln,[6,7,8,12,13,14,15,16,19,20,21,22,23,24,25,28,29,30,31,32,34,35,36,37,38,39,40,41,42,43],[0,2,3],[aO,bi]++rS 9 3++uS 2 6++[bQ,fg]++uS 8 5++[zq0]++uS 14 6++rp 6 zq0++uS 20 4++[cF,fb,fM,zq3,zq1,zq0,zq3,zq1,zq1,zq3,zq1,zq3]),K7,(BZ,[6,12,13,14,15,16,19,20,21,22,23,24,25,26,27,30,32,34,35,36,37,38,39,40,41,42,43],[0,1],lY++rS 9 3++uS 2 6++lw++uS 8 5++[zq0,zq3,vU 15,zq0,vU 17,vD 3,vU 19,zq0,zq3,zq0,zq0,zq0,zq0,dx,zq0,zq0,vU 23,cF,e_,aW,zq3,zq0,ft,zq3,zq1,zq0]++rp 5 zq1++[zq3,zq1,zq1,zq1,zq1]),Lt] [] (scS QI (scS QJ (scS QK (scS KJ (scS KP (scS wa sc0)))))) (by decide +kernel)
def Lu:List AD:=[bE,aF,aE,bN,br,aD [2],za5,lT]
def Lv:Cn:=((9,hH,Lu,3),(none,(am Lu [(7,3,0,lU)]++[hO,hI,bM,bM,aF,br,aE,aD [2],mV,aF,aE,bM,jH,qS,fy,fC,bM,jG,qS,fy,fC,bM,za2]),[]),(2,23,46,32))
theorem QN:CtH Lv:=ctR 335 ag rfl (cw) ([gi,(mU,[1],[0],[]),nV,gi,(ti,[2],[0],[])]++Jb) [] (scS f5 (scS nU (scS lS (scS f5 (scS ys (scS lS (scS f5 (scS f5 (scS u7 (scS u7 (scS fN sc0))))))))))) (by decide +kernel)
def Lw:List AD:=[lV,n6,aF]
def wg:Cn:=((18,jK,Lw,1),(some zq0,(Lw),[]),(0,0,0,0))
theorem wh:CtH wg:=ctR 13 ag rfl (af _) [] [] sc0 (by decide +kernel)
def Lx:List AD:=[za5,lW,n7,n8,rg,kS,aF,br,n5,aF,kR,qW,kQ,vc,(64,2,[zq3,bH])]
def Ly:Cn:=((16,[aK],Lx,2),(some (.long 0),(Lx),gl),(2,0,0,37))
def Lz:Sc:=(wg,[1,2,6],[0],[au]++rS 3 3++jg++uS 28 4)
theorem QO:CtH Ly:=ctR 146 ag rfl (af _) [vf,Lz,vo,(mW,[12,14],[0],[d5,dw,c8,bH]),qZ] [] (scS eW (scS wh (scS vl (scS iT (scS eW sc0))))) (by decide +kernel)
def LA:List AD:=[nO,ri,rh,rf,aF,br]
def Cb:Cn:=((24,jK,LA,2),(none,(am LA [(3,64,2,[zq0,cu])]),[]),(0,0,0,0))
theorem LB:CtH Cb:=ctR 36 ag rfl (af _) [] [] sc0 (by decide +kernel)
def LC:List AD:=iU++([BC,rl,rk,rn]++vi++[aF,mY,aU 64 44 3,(64,2,[zq3,vU 47]),BE,(64,2,[zq3,vU 49]),rj,aU 64 50 3,(64,2,[zq3,vU 53]),(64,2,[zq1,vU 54]),(64,2,[zq3,f9])])
def LD:Cn:=((23,[cW,zq0,zq0,zq0],LC,2),(none,(am LC [(1,64,2,[zq0,vU 23]),(2,64,2,[zq0,vU 25]),(3,65,2,[aA,vU 27]),(4,64,3,iV),(5,64,3,[zq0,zq0,ck]),(6,64,2,[zq0,cM]),(7,64,2,[zq0,gm]),(11,64,2,[zq0,dw]),(12,64,2,[zq0,c8]),(18,64,3,[cN,zq3,eY]),(20,aI [(-1),(-1)]),(21,64,2,[zq1,vU 49]),(23,64,3,[vU 50,zq3,vU 52]),(25,aI [(-1),(-1)]),(26,64,2,[zq1,f9])]),[]),(1,0,0,15))
theorem QP:CtH LD:=ctR 136 ag rfl (af _) [(wg,[8,9,13],[0],[au]++rS 10 3++[cg,bQ,dS,bS,zq0,zq0,eX]),(Cb,[8,9,10,11,13,14],[0,1],[au,d4,cg,bQ,dS,bS,zq0,zq0]++uS 39 3),(vh,[17,18,19,20,21],[0],uS 44 6),(vh,[22,23,24,25,26],[0],uS 50 6)] [] (scS wh (scS LB (scS Bz (scS Bz sc0)))) (by decide +kernel)
def LE:List AD:=[lV,nX,aE]
def wj:Cn:=((18,jE,LE,1),(some zq0,(LE),[]),(0,0,0,0))
theorem wk:CtH wj:=ctR 13 ag rfl (af _) [] [] sc0 (by decide +kernel)
def LF:List AD:=[za5,lW,nY,nZ,qX,iX,aE,br,n9,aE,kR,(64,3,[eX,zq3,ir]),kQ,vn,q_]
def LG:Cn:=((16,[aK],LF,2),(some (.long 4294967297),(LF),gl),(2,0,0,37))
def Cc:Sc:=(kT,[10,11],[0],uS 36 5)
def LH:Sc:=(wj,[1,2,6],[0],[au]++rS 3 3++jg++uS 28 4)
theorem QQ:CtH LG:=ctR 139 ag rfl (af _) [vq,LH,ve,vp,Cc] [] (scS eZ (scS wk (scS vb (scS e6 (scS eZ sc0))))) (by decide +kernel)
def LI:List AD:=[nO,q6,q5,qV,aE,br]
def Cd:Cn:=((24,jI,LI,2),(none,(am LI [(3,64,2,[cu,zq0])]),[]),(0,0,0,0))
theorem LJ:CtH Cd:=ctR 36 ag rfl (af _) [] [] sc0 (by decide +kernel)
def wm:AD:=(64,2,[vU 48,zq1])
def LK:List AD:=iU++(([BC,q8,q7,q9]++vr++[aE,mY,aU 64 44 3,(64,2,[vU 47,zq1]),wm,(64,2,[vU 49,zq3])])++JC)
def LL:Cn:=((23,[cW,zq3,zq3,zq3],LK,2),(none,(am LK [(1,64,2,[cX,zq3]),(2,64,2,[e7,zq3]),(3,65,2,kW),(4,64,3,[vU 28,zq0,zq0]),(5,64,3,[eA,zq0,zq0]),(6,64,2,[dR,zq3]),(7,64,2,[bI,zq3]),(11,64,2,[dw,zq0]),(12,64,2,[c8,zq0]),(18,64,3,[cN,zq1,eY]),(21,64,2,[vU 49,zq1]),(23,64,3,[vU 50,zq1,vU 52]),(26,64,2,[f9,zq1])]),[]),(1,0,0,15))
theorem QR:CtH LL:=ctR 136 ag rfl (af _) [(wj,[8,9,13],[0],[au]++rS 10 3++[cg,bQ,dS,bS,zq0,zq0,eX]),(Cd,[8,9,10,11,13,14],[0,1],[au,d4,cg,bQ,dS,bS,zq0,zq0]++uS 39 3),(hS,[17,18,19,20,21],[0],uS 44 6),(hS,[22,23,24,25,26],[0],uS 50 6)] [] (scS wk (scS LJ (scS gn (scS gn sc0)))) (by decide +kernel)
def LM:List AD:=[bE,aF,aE]++JQ
def LN:Cn:=((8,gp,LM,3),(some zq3,(am LM [(6,0,0,uS 0 4++gO++uS 5 6++[ax]++rS 9 9++uS 11 5++[zq0]),(9,aI [0,1]),(10,aI [0,1]),(11,aD [1,2]),(16,aI [0,1]),(17,aI [0,1])]++([JS,aR 67 [23,25],aR 68 [24,26],ay,ay,aF,br,aE,aD [2],aR 67 [28,29],aF,aE,bM,(4,0,rS 32 4),za7,fy,za2,za2,(4,0,rS 37 4)]++vt)),[dC,tj,dC,mZ,(2,4591870180066957722,5,0),(10,3,6,1),eJ,(11,7,4472406533629990549,1),eJ,(5,0,8,0),rq,(10,7,10,1)]),(3,26,61,73))
theorem QS:CtH LN:=ctR 65 aB rfl (az _) [(Lv,[0,1,2,3,4,5,6,18],[0,1,2],uS 0 4++gO++uS 5 6++rS 9 9++uS 11 5++lX),(Ly,[6,18,19,20,21,22,23,24,27,28,31,32,36,37,38],[0,1],uS 0 4++gO++uS 5 6++rS 9 9++uS 11 5++[zq0,vR 41,zq0,zq0,eV,fb,zq3,zq3,aW]++rS 33 3++[zq1,zq1,vR 39,vR 40,zq1,zq1,zq1]),(LD,[6,9,10,11,12,13,16,17,18,19,20,21,22,23,24,27,28,31,32,33,34,35,36,37,38,39,40],[0,1],uS 0 4++gO++uS 5 6++[ax,dD,cg]++uS 11 5++[zq0]++uS 17 6++rp 6 zq0++uS 23 4++[vR 41,eV,fb,zq3,zq3,aW,zq1,zq0,zq1,zq1,zq0,zq3,zq1,zq0,zq1,zq1,zq0,zq3]),(LG,[6,18,19,20,21,22,25,26,27,29,31,32,36,37,38],[0,2],uS 0 4++gO++uS 5 6++rS 9 9++uS 11 5++[zq0,vR 41,zq0,zq0,vR 23,bT,zq0,zq0,e_]++rS 33 3++[zq1,zq1,vR 39,vR 40,zq1,zq1,zq3]),(LL,[6,9,10,11,12,13,16,17,18,19,20,21,22,25,26,27,29,31,32,33,34,35,36,37,38,39,40],[0,2],uS 0 4++gO++uS 5 6++[ax,dD,cg]++uS 11 5++[zq0,zq0,vU 18,zq0,dx,aA,cX]++rp 7 zq0++[e7,zq0,vU 26,vR 41,vR 23,bT,zq0,zq0,e_,zq1,zq3,zq1,zq3,zq1,zq1,zq1,zq3,zq1,zq3,zq1,zq1]),JV] [] (scS QN (scS QO (scS QP (scS QQ (scS QR (scS JN sc0)))))) (by decide +kernel)
def LO:List AD:=[]
def Ce:Cn:=((2,[.float 1,.float 2,zq0],LO,3),(some au,(LO++[aF]),[cE,g8,cE]),(0,1,1,0))
theorem LP:CtH Ce:=ctR 14 cb rfl (bq _) [] [1,0,1] sc0 (by decide +kernel)
def LQ:List AD:=[]
def Cf:Cn:=((3,[.float 1,.float 2,zq0],LQ,3),(some au,(LQ++[fe]),[cE,g8,cE,fL]),(0,1,1,0))
theorem LR:CtH Cf:=ctR 15 cb rfl (bq _) [] [1,0,1] sc0 (by decide +kernel)
def LS:Cn:=((15,[au,zq0,ax],vw,1),(none,(am vw [(1,64,3,[aO,bi,zq0]),(2,64,2,[zq1,ct]),(3,64,2,[zq1,vU 5]),(4,64,2,[ax,vU 7])]),[]),(0,0,0,0))
theorem QT:CtH LS:=ctR 30 aN rfl (aM _) [] [] sc0 (by decide +kernel)
def d7:AD:=aI [2,1]
def LT:List AD:=[za5,d7,uX]
def rE:AD:=aI [(-1),1,0]
def Cg:Cn:=((13,[vR 2,au,aK],LT,1),(none,(am LT [(2,4,0,rS 3 4)]++[rE,za2,za2,d7]),[]),(1,4,9,15))
theorem lz:CtH Cg:=ctR 61 aN rfl (iF) [(qR,[3],[0],hG),uZ,(uW,[2,3,4,5,6],[0],uY),(LS,[2,3,4,5,6],[0],[zq1,zq3,zq0,zq1,zq0,zq1,zq1,zq3])] [] (scS uT (scS fN (scS Bu (scS QT sc0)))) (by decide +kernel)
def LU:List AD:=[bE,aF,za4,bN,br,hV,za5,lT]
def LV:List AD:=[hV,mV,za4,aE,d7,jH,ru,za2,za2,d6,jG,rE,za2,za2,d7,za2]
def LW:Cn:=((9,hH,LU,4),(none,(am LU [(7,3,0,lU)]++([hO,hI,d6,d7,aF,br,za4]++LV)),[]),(2,23,49,32))
def wn:Sc:=(Cg,[6,11,25],[0],uS 0 28)
theorem QU:CtH LW:=ctR 375 ag rfl (cw) [gi,(mU,[1],[0],[]),nV,gj,(m0,[2],[0],[]),vz,gj,gi,vy,wn,iS] [] (scS f5 (scS nU (scS lS (scS dy (scS n_ (scS hT (scS dy (scS f5 (scS lb (scS lz (scS fN sc0))))))))))) (by decide +kernel)
def LX:List AD:=[lV,nX,za4]
def Ch:Cn:=((18,jE,LX,1),(some zq3,(LX),[]),(0,0,0,0))
theorem LY:CtH Ch:=ctR 23 ag rfl (af _) [] [] sc0 (by decide +kernel)
def LZ:List AD:=vC++[iX,za4,aL,n9,aE,kR,qW,kQ,vn,q_]
def L4:Cn:=((16,[aK],LZ,3),(some (.long 4294967297),(LZ),[eJ]++hX),(2,0,0,37))
theorem QV:CtH L4:=ctR 139 ag rfl (af _) [vq,(Ch,[1,2,6],[0],[au]++rS 3 3++jg++uS 28 4),Ll,vp,qZ] [] (scS eZ (scS LY (scS B_ (scS e6 (scS eW sc0))))) (by decide +kernel)
def L5:Cn:=((24,jE,vK,2),(none,(am vK [(3,64,2,[cu,zq3])]),[]),(0,0,0,0))
theorem QW:CtH L5:=ctR 36 ag rfl (af _) [] [] sc0 (by decide +kernel)
def Ci:Cn:=((25,[vR 3,zq0,aA],vP,2),(none,(am vP [(0,0,0,[vR 4,vR 5]++uS 0 11++[ax]++uS 11 15),(3,3,0,[au]++uS 26 8++[zq3,dR])]++[ay,eK]),[]),(2,2,4,55))
theorem wo:CtH Ci:=ctR 54 ag rfl (af _) vQ [] (scS vM (scS vN (scS vO sc0))) (by decide +kernel)
def pq:List AD:=[(3,0,uS 0 4++[aK,vR 2]++uS 4 5),(64,2,[ax,vU 9]),(67,2,[vR 3,cu]),za4]
def Cj:Cn:=((27,jF,pq,1),(none,(am pq [(1,64,2,[zq3,vU 9])]),[]),(0,0,0,0))
theorem Ck:CtH Cj:=ctR 42 ag rfl (af _) [] [] sc0 (by decide +kernel)
def Cl:List AD:=[g_,kO,(64,2,[zq1,ct]),vg,(64,2,[ax,vU 5])]
def tm:Cn:=((26,[au,zq0],Cl,1),(none,(am Cl [(1,64,3,[aO,bi,zq1]),(4,64,2,[zq1,vU 5])]),[]),(0,0,0,0))
theorem m9:CtH tm:=ctR 28 aN rfl (aM _) [] [] sc0 (by decide +kernel)
def Cm:List AD:=[g_,(64,3,[aO,zq1,bi]),(64,2,[zq1,vU 2]),(64,2,[zq1,ct]),(64,2,[ax,vU 4])]
def ps:Cn:=((28,jF,Cm,1),(none,(am Cm [(1,64,3,[aO,zq0,zq1]),(4,64,2,[zq3,vU 4])]),[]),(1,0,0,14))
theorem kJ:CtH ps:=ctR 20 aN rfl (aM _) [(tm,[0,1,2,3,4],[0],[aO,zq1]++uS 1 4),(BM,[0,1,2,3,4],[0],[aO,zq1,zq1,vU 2,zq1,ct,zq1,vU 4])] [] (scS m9 (scS J9 sc0)) (by decide +kernel)
def wp:AD:=(64,3,[bH,zq3,eY])
def Co:List AD:=vW++([d7,za4,aL,lh,za4,aE]++vX++[wp,za2,za2,d7])
def Cp:Cn:=((23,[dt,zq0,zq3,zq3],Co,3),(none,(am Co [(0,0,0,rz),(3,64,2,[zq3,dx]),(4,64,2,[zq3,cX]),(5,65,2,[bU,e7]),(6,64,3,lk),(7,64,3,iV),(8,64,2,[eA,zq0]),(9,64,2,[ck,zq0]),(10,3,0,rA),(13,64,2,[bS,zq3]),(14,aI [1,0]),(21,64,3,ll),(24,64,2,[cN,zq1]),(26,64,3,[bH,zq0,zq1]),(29,aI [1,(-1)])]++[ay,eK]),[]),(3,2,4,70))
def L6:Sc:=(hS,[25,26,27,28,29],[0],[bH,zq3,eY,zq1,zq1,ax])
def L7:Sc:=(ps,[25,26,27,28,29],[0],[bH,eY,zq1,zq1,zq1])
def L8:List Value:=[co,eV,cM,zq3,zq0,zq3,vR 19]
def L9:Sc:=(Ci,[0,1,2,10],[0,1],uS 0 11++rS 3 5++oe++uS 13 6++rS 11 4++v3)
def L_:List Sc:=[BX,L6,(Cj,[10,14,17,18],[0],[au]++rS 11 3++L8),L7]
theorem NW:CtH Cp:=ctR 185 ag rfl (af _) ([(Ch,[10,11,15],[0],[au]++rS 12 3++wf),(L5,[10,11,12,13,15,16],[0,2],lm++uS 36 3++[zq0,aA]),L9]++L_) [] (scS LY (scS QW (scS wo (scS ry (scS gn (scS Ck (scS kJ sc0))))))) (by decide +kernel)
def Cq:List AD:=[za5,lW,n7,n8,rg,kS,aF,br,n5,(64,2,[zq0,bI]),lf,vB]++vE
def Cr:Cn:=((16,[aK],Cq,2),(some (.long 0),(Cq),gl),(2,0,0,37))
theorem Cs:CtH Cr:=ctR 139 ag rfl (af _) [vG,Lz,vo,vF,vH] [] (scS eW (scS wh (scS vl (scS ob (scS eW sc0))))) (by decide +kernel)
def Ma:List AD:=[rj,aU 64 51 3,(64,2,[zq1,vU 54]),(64,2,[zq1,f9]),(64,2,[zq3,vU 56])]
def Ct:List AD:=iU++([v7,rl,rk,rn]++vi++(KN++Ma))
def tn:Cn:=((23,[cW,zq3,zq0,zq0],Ct,2),(none,(am Ct [(1,64,2,[cX,zq0]),(2,64,2,[e7,zq0]),(3,65,2,kW),(4,64,3,og),(5,64,3,[eA,zq0,zq0]),(6,64,2,[zq3,cM]),(7,64,2,[zq3,gm]),(11,64,2,[zq0,dw]),(12,64,2,[zq0,c8]),(18,64,3,[bH,zq1,vU 47]),(21,64,2,[zq1,vU 50]),(23,64,3,[vU 51,zq1,vU 53]),(26,64,2,[zq1,vU 56])]),[]),(1,0,0,15))
theorem Cu:CtH tn:=ctR 136 ag rfl (af _) [(wg,[8,9,13],[0],[au]++rS 10 3++v9),(Cb,[8,9,10,11,13,14],[0,1],v8++uS 39 3),(kV,[17,18,19,20,21],[0],uS 45 6),(kV,[22,23,24,25,26],[0],uS 51 6)] [] (scS wh (scS LB (scS iY (scS iY sc0)))) (by decide +kernel)
def Cv:List AD:=[(64,3,[zq0,zq3,aO])]
def tp:Cn:=((11,iq,Cv,1),(some aK,(Cv++[za4]),[]),(1,1,2,40))
theorem Cw:CtH tp:=ctR 19 cR rfl (cm _) [(BF,[],[0],[])] [] (scS JI sc0) (by decide +kernel)
def Cx:List AD:=[KQ,za8,eI,za8,dV,bv,bv,bv,(64,2,[zq0,vU 19]),(65,2,[aA,dx])]
def pt:Cn:=((31,[au],Cx,2),(none,(am Cx [(0,0,0,KS),(6,aI [0,1,1])]++[ay,eK,bM,ay]),[]),(2,4,8,54))
theorem pu:CtH pt:=ctR 259 aB rfl (az _) [(jL,[6],[0],hG),(jL,[7],[0],hG),(tp,[6],[0],[zq3]),(kX,[7],[0],[zq0])] [] (scS iZ (scS iZ (scS Cw (scS kY sc0)))) (by decide +kernel)
def Cy:List AD:=[bE,aF,za4,bN,br,hV]++lo
def Cz:Cn:=((8,gp,Cy,4),(some zq3,(am Cy [(6,0,0,rB),(12,aI [1,0]),(13,aI [1,0]),(14,aD [3,1]),(15,aI [0,1,1]),(17,aI [0,1,1]),(19,aI [1,0]),(20,aI [1,0])]++([rC,lr,lp,za4,ay,aF,br,za4,hV,lq,za4,aE,d7]++ls++[ay,fF,ay,fF,bM,ay])),[iu]++wb),(4,30,72,93))
def Mb:Sc:=(Cr,[6,21,22,23,24,25,26,27,30,31,34,35,39,40,41],[0,1],lY++rS 9 3++uS 2 6++rS 12 9++uS 8 5++[zq0,cF,zq3,zq0,e_,aW,zq3,zq0,fE,zq3]++rS 36 3++wc)
def Mc:Sc:=(pt,[6,9,10,11,15,16,17,18,45,46],[0,2],uS 0 8++rS 12 3++[vR 19,co]++uS 8 5++[zq0,zq0,aw])
theorem NX:CtH Cz:=ctR 65 aB rfl (az _) [(LW,[0,1,2,3,4,5,6,21],[0,1,2,3],it++rS 9 3++uS 2 6++rS 12 9++uS 8 5++lX),(L4,[6,21,22,23,24,25,28,29,30,32,34,35,39,40,41],[0,2,3],it++rS 9 3++uS 2 6++rS 12 9++uS 8 5++[zq0,cF,zq0,zq0,fb,fM,zq3,ax,ft]++rS 36 3++[zq1,zq3,vR 42,vR 43,zq1,zq0,zq1]),(Cp,[6,7,8,12,13,14,15,16,19,20,21,22,23,24,25,28,29,30,31,32,34,35,36,37,38,39,40,41,42,43],[0,2,3],[aO,bi]++rS 9 3++uS 2 6++[bQ,fg]++uS 8 5++[zq0]++uS 14 6++rp 6 zq0++uS 20 4++[cF,fb,fM,zq3,zq1,zq0,zq3,zq1,zq1,zq3,zq1,zq0]),Mb,(tn,[6,12,13,14,15,16,19,20,21,22,23,24,25,26,27,30,31,34,35,36,37,38,39,40,41,42,43],[0,1],lY++rS 9 3++uS 2 6++lw++uS 8 5++[zq0,zq3,vU 15,zq3,vU 17,vD 3,vU 19,zq0,zq3,zq0,zq0,zq0,zq0,dx,zq0,cX,zq0,cF,e_,aW,zq3,zq0,fE,zq3,zq1,zq0]++rp 5 zq1++[zq0,zq1,zq1,zq1,zq1]),Mc] [] (scS QU (scS QV (scS NW (scS Cs (scS Cu (scS pu sc0)))))) (by decide +kernel)
def CA:List AD:=[]
def tq:Cn:=((2,[.float 1,.float 2,zq3],CA,3),(some au,(CA++[aF]),[cE,g8,cE]),(0,1,1,0))
theorem CB:CtH tq:=ctR 14 cb rfl (bq _) [] [1,0,1] sc0 (by decide +kernel)
def CC:List AD:=[]
def tr:Cn:=((3,[.float 1,.float 2,zq3],CC,3),(some au,(CC++[fe]),[cE,g8,cE,fL]),(0,1,1,0))
theorem CD:CtH tr:=ctR 15 cb rfl (bq _) [] [1,0,1] sc0 (by decide +kernel)
def CE:List AD:=[bE,aF,za9,bN,br,hV,za5,lT]
def CF:Cn:=((9,hH,CE,4),(none,(am CE [(7,3,0,lU)]++([hO,hI,d6,d7,aF,br,za9]++LV)),[]),(2,23,49,32))
theorem NY:CtH CF:=ctR 375 ag rfl (cw) [gi,(mU,[1],[0],[]),nV,gj,(m8,[2],[0],[]),vz,gj,gi,vy,wn,iS] [] (scS f5 (scS nU (scS lS (scS dy (scS oh (scS hT (scS dy (scS f5 (scS lb (scS lz (scS fN sc0))))))))))) (by decide +kernel)
def wq:AD:=(64,2,[zq3,vU 11])
def CG:List AD:=[lV,nX,wq]
def pv:Cn:=((18,jE,CG,1),(some zq0,(CG),[]),(0,0,0,0))
theorem px:CtH pv:=ctR 13 ag rfl (af _) [] [] sc0 (by decide +kernel)
def CH:List AD:=vC++([iX,(64,2,[zq3,cM]),aL,(67,2,[bI,bO]),aE,lf,vB]++v4)
def CI:Cn:=((16,[aK],CH,3),(some (.long 4294967297),(CH),[dC]++hX),(2,0,0,37))
def Me:Sc:=(pv,[1,2,6],[0],[au]++rS 3 3++jg++uS 28 4++[cM])
theorem NZ:CtH CI:=ctR 139 ag rfl (af _) [v6,Me,Kl,v5,vH] [] (scS eZ (scS px (scS BR (scS e6 (scS eW sc0))))) (by decide +kernel)
def CJ:Cn:=((24,jI,wd,2),(none,(am wd [(3,64,2,[cu,zq3]),(4,aI [0,0]),(5,aD [1,1])]),[]),(0,0,0,0))
theorem N3:CtH CJ:=ctR 36 ag rfl (af _) [] [] sc0 (by decide +kernel)
def CM:List AD:=vW++([d7,za9,aL,lh,za4,aE]++vX++[wp,za2,za2,d7])
def CN:Cn:=((23,[dt,zq0,zq3,zq3],CM,3),(none,(am CM [(0,0,0,rz),(3,64,2,[zq3,dx]),(4,64,2,[zq3,cX]),(5,65,2,[aA,e7]),(6,64,3,lk),(7,64,3,iV),(8,64,2,[eA,zq0]),(9,64,2,[ck,zq0]),(10,3,0,rA),(13,64,2,[bS,zq3]),(14,aI [1,0]),(15,aI [0,0]),(16,aD [2,2]),(21,64,3,ll),(24,64,2,[cN,zq1]),(26,64,3,[bH,zq0,zq1]),(29,aI [1,(-1)])]++[ay,fF]),[]),(3,2,4,70))
def Mf:Sc:=(Ci,[0,1,2,10],[0,2],uS 0 11++rS 3 5++oe++uS 13 6++rS 11 4++v3)
theorem N4:CtH CN:=ctR 185 ag rfl (af _) ([(pv,[10,11,15],[0],[au]++rS 12 3++[bQ,co,eV,cM,zq0,zq0,bI,zq0]),(CJ,[10,11,12,13,15,16],[0,2],lm++uS 36 3++[zq3,aA]),Mf]++L_) [] (scS px (scS N3 (scS wo (scS ry (scS gn (scS Ck (scS kJ sc0))))))) (by decide +kernel)
def CO:List AD:=[bE,aF,za9,bN,br,hV]++lo
def CP:Cn:=((8,gp,CO,4),(some zq3,(am CO [(6,0,0,rB),(12,aI [1,0]),(13,aI [1,0]),(14,aD [2,1]),(15,aI [0,1,1]),(17,aI [0,1,1]),(19,aI [1,0]),(20,aI [1,0])]++([rC,lr,lp,za4,ay,aF,br,ay,aD [3,3],lq,za4,aE,d7]++ls++[ay,aD [3,0],ay,aD [3,0],bM,ay])),[eJ]++wb),(4,30,72,93))
theorem N5:CtH CP:=ctR 65 aB rfl (az _) [(CF,[0,1,2,3,4,5,6,21],[0,1,2,3],it++rS 9 3++uS 2 6++rS 12 9++uS 8 5++lX),(CI,[6,21,22,23,24,25,28,29,30,32,34,35,39,40,41],[0,2,3],it++rS 9 3++uS 2 6++rS 12 9++uS 8 5++[zq0,cF,zq0,zq0,fb,fM,zq3,ax,zq0,ft]++rS 36 3++[zq1,zq3,vR 42,vR 43,zq1,zq0,zq1]),(CN,[6,7,8,12,13,14,15,16,19,20,21,22,23,24,25,28,29,30,31,32,34,35,36,37,38,39,40,41,42,43],[0,2,3],[aO,bi]++rS 9 3++uS 2 6++[bQ,fg]++uS 8 5++[zq0]++uS 14 6++rp 6 zq0++uS 20 4++[cF,fb,fM,zq3,zq1,zq0,zq3,zq1,zq1,zq3,zq1,zq0]),Mb,(tn,[6,12,13,14,15,16,19,20,21,22,23,24,25,26,27,30,31,34,35,36,37,38,39,40,41,42,43],[0,1],lY++rS 9 3++uS 2 6++lw++uS 8 5++[zq0,zq3,vU 15,zq3,vU 17,bU,vU 19,zq0,zq3,zq0,zq0,zq0,zq0,dx,zq0,cX,zq0,cF,e_,aW,zq3,zq0,fE,zq3,zq1,zq0]++rp 5 zq1++[zq0,zq1,zq1,zq1,zq1]),(pt,[6,9,10,11,15,16,17,18,45,46],[0,3],uS 0 8++rS 12 3++[vR 19,co]++uS 8 5++[zq0,zq0,aw])] [] (scS NY (scS NZ (scS N4 (scS Cs (scS Cu (scS pu sc0)))))) (by decide +kernel)
def CQ:List AD:=[bE,za4,aE,bN,aL,fe,za5,lT]
def Mg:List AD:=[aL,aE,fe,mV,aF,za4,d6,jH,rE,za2,za2,d7,jG,ru,za2,za2,d6,za2]
def CR:Cn:=((9,hH,CQ,4),(none,(am CQ [(7,3,0,lU)]++([hO,hI,d7,d6,za4]++Mg)),[]),(2,23,49,32))
def oj:Sc:=(vu,[4],[0,1,2],[])
def wt:Sc:=(Cg,[6,10,20],[0],uS 0 28)
def wu:Sc:=(Ie,[5],[0,3],[])
theorem N6:CtH CR:=ctR 375 ag rfl (cw) [gj,(m0,[1],[0],[]),oj,gi,(ti,[2],[0],[]),wu,gi,gj,wt,vx,iS] [] (scS dy (scS n_ (scS hT (scS f5 (scS ys (scS lS (scS f5 (scS dy (scS lz (scS lb (scS fN sc0))))))))))) (by decide +kernel)
def CS:List AD:=[lV,n6,(64,2,[zq0,vU 11])]
def jh:Cn:=((18,jK,CS,1),(some zq0,(CS),[]),(0,0,0,0))
theorem kK:CtH jh:=ctR 13 ag rfl (af _) [] [] sc0 (by decide +kernel)
def pz:List AD:=[qU,vk,(64,2,[ax,cu]),aL]
def tt:Cn:=((19,kU,pz,3),(some zq3,(pz),[dC]++hX),(1,0,0,17))
theorem tu:CtH tt:=ctR 63 ag rfl (af _) [] [1,1] sc0 (by decide +kernel)
def wv:AD:=(64,3,[ir,zq3,dw])
def ww:List AD:=[za5,lW,n7,n8,(64,2,[ax,ck])]
def CT:List AD:=ww++([kS,(64,2,[zq0,cM]),aL,(67,2,[bO,bI]),aF,lf,wv]++vE)
def CU:Cn:=((16,[aK],CT,3),(some (.long 0),(CT),[dC]++hX),(2,0,0,37))
def wx:Sc:=(kT,[10,11],[0],uS 37 5)
def Mh:Sc:=(tt,[1,3,4,7],[0,1,2],qY++uS 28 3++[cV,ck])
theorem N7:CtH CU:=ctR 139 ag rfl (af _) [vG,(jh,[1,2,6],[0],[au]++rS 3 3++jg++uS 28 4++[cM]),Mh,vF,wx] [] (scS eW (scS kK (scS tu (scS ob (scS eZ sc0))))) (by decide +kernel)
def pB:List AD:=[nO,ri,rh,(64,2,[ax,cu]),(64,2,[vU 11,zq3]),vJ]
def pC:Cn:=((24,jK,pB,2),(none,(am pB [(3,64,2,[zq3,cu]),(4,aI [1,1]),(5,aD [1,1])]),[]),(0,0,0,0))
theorem tv:CtH pC:=ctR 36 ag rfl (af _) [] [] sc0 (by decide +kernel)
def tx:Cn:=((27,jI,vS,1),(none,(am vS [(1,64,2,[vU 9,zq3]),(3,aI [1,1])]),[]),(0,0,0,0))
theorem pE:CtH tx:=ctR 32 ag rfl (af _) [] [] sc0 (by decide +kernel)
def wy:List AD:=[Qw,za8,eI,ro,KC,Ky,KB,BA,BW,KA,Qx,(67,2,[cg,bI]),(68,2,[cZ,gm]),(64,2,[ax,bS])]
def wA:List AD:=[jH,Kz,(64,2,[zq1,c8]),(64,2,[zq1,fD]),(64,2,[ax,cN]),jG]
def CV:List AD:=wy++([d6,za4,aL,lh,aF,za4]++wA++[vV,za2,za2,d6])
def CW:Cn:=((23,[dt,zq0,zq0,zq0],CV,3),(none,(am CV [(0,0,0,rz),(3,64,2,[zq0,dx]),(4,64,2,[zq0,cX]),(5,65,2,[aA,e7]),(6,64,3,lk),(7,64,3,iV),(8,64,2,[zq0,cV]),(9,64,2,[zq0,dR]),(10,3,0,rA),(13,64,2,[zq3,bS]),(14,aI [0,1]),(15,aI [1,1]),(16,aD [2,2]),(19,aI [1,1]),(21,64,3,ll),(24,64,2,[zq1,cN]),(26,64,3,[bH,zq3,zq1]),(29,aI [(-1),1])]++[za9,fF]),[]),(3,2,4,70))
def CX:Sc:=(tm,[20,21,22,23,24],[0],uS 39 6)
def Mi:Sc:=(tx,[10,14,17,19],[0],[au]++rS 11 3++[co,eV,cM,zq3,zq0,zq3,fg])
theorem N8:CtH CW:=ctR 185 ag rfl (af _) [(jh,[10,11,15],[0],[au]++rS 12 3++[bQ,co,eV,cM,zq0,zq0,bI,zq3]),(pC,[10,11,12,13,15,16],[0,2],lm++uS 36 3++[zq0,aA]),KF,CX,vY,Mi,vZ] [] (scS kK (scS tv (scS lg (scS m9 (scS iY (scS pE (scS i6 sc0))))))) (by decide +kernel)
def CY:List AD:=[za5,lW,nY,nZ,qX,iX,aE,br,n9,(64,2,[zq3,bI]),lf,wv]++v4
def CZ:Cn:=((16,[aK],CY,2),(some (.long 4294967297),(CY),gl),(2,0,0,37))
theorem C2:CtH CZ:=ctR 139 ag rfl (af _) [v6,LH,ve,v5,wx] [] (scS eZ (scS wk (scS vb (scS e6 (scS eZ sc0))))) (by decide +kernel)
def Mj:List AD:=[(64,2,[zq3,cN]),mY,aU 64 45 3,wm,(64,2,[vU 49,zq1]),(64,2,[vU 50,zq3])]
def C3:List AD:=iU++((([v7,q8,q7,q9]++vr)++Mj)++KL)
def tz:Cn:=((23,[cW,zq3,zq3,zq3],C3,2),(none,(am C3 [(1,64,2,[cX,zq3]),(2,64,2,[e7,zq3]),(3,65,2,kW),(4,64,3,og),(5,64,3,[eA,zq0,zq0]),(6,64,2,[dR,zq3]),(7,64,2,[bI,zq3]),(11,64,2,[dw,zq0]),(12,64,2,[c8,zq0]),(18,64,3,[bH,zq1,vU 47]),(21,64,2,[vU 50,zq1]),(23,64,3,[vU 51,zq1,vU 53]),(26,64,2,[vU 56,zq1])]),[]),(1,0,0,15))
theorem C4:CtH tz:=ctR 136 ag rfl (af _) [(wj,[8,9,13],[0],[au]++rS 10 3++v9),(Cd,[8,9,10,11,13,14],[0,1],v8++uS 39 3),(hS,[17,18,19,20,21],[0],uS 45 6),(hS,[22,23,24,25,26],[0],uS 51 6)] [] (scS wk (scS LJ (scS gn (scS gn sc0)))) (by decide +kernel)
def C5:List AD:=[bE,za4,aE,bN,aL,fe]++lo
def wB:List Op:=[KW,dC,K5,eJ,K4,KX,K0,iu,KU,iu,KZ,KV,KY]
def C6:Cn:=((8,gp,C5,4),(some zq3,(am C5 [(6,0,0,rB),(12,aI [0,1]),(13,aI [0,1]),(14,aD [1,3]),(15,aI [0,1,1]),(17,aI [0,0,1]),(19,aI [0,1]),(20,aI [0,1])]++([rC,lr,lp,za9,ay,bM,aD [2,2],aE,fe,lq,aF,bM,d6]++ls++[za9,fF,ay,fF,za4,ay])),[dC]++wB),(4,30,72,93))
def Mk:Sc:=(CZ,[6,21,22,23,24,25,28,29,30,32,34,35,39,40,41],[0,3],lY++rS 9 3++uS 2 6++rS 12 9++uS 8 5++[zq0,cF,zq3,zq0,fb,fM,zq3,zq0,ft,zq3]++rS 36 3++wc)
theorem N9:CtH C6:=ctR 65 aB rfl (az _) [(CR,[0,1,2,3,4,5,6,21],[0,1,2,3],it++rS 9 3++uS 2 6++rS 12 9++uS 8 5++lX),(CU,[6,21,22,23,24,25,26,27,30,31,34,35,39,40,41],[0,1,2],it++rS 9 3++uS 2 6++rS 12 9++uS 8 5++[zq0,cF,zq0,zq0,e_,aW,zq3,ax,zq3,fE]++rS 36 3++[zq1,zq0,vR 42,vR 43,zq1,zq3,zq1]),(CW,[6,7,8,12,13,14,15,16,19,20,21,22,23,24,25,26,27,30,31,32,34,35,36,37,38,39,40,41,42,43],[0,1,2],[aO,bi]++rS 9 3++uS 2 6++[bQ,fg]++uS 8 5++[zq0]++uS 14 6++rp 6 zq0++uS 20 4++[cF,e_,aW,zq3,zq1,zq3,zq0,zq1,zq1,zq3,zq1,zq3]),Mk,(tz,[6,12,13,14,15,16,19,20,21,22,23,24,25,28,29,30,32,34,35,36,37,38,39,40,41,42,43],[0,3],lY++rS 9 3++uS 2 6++lw++uS 8 5++[zq0,zq0,vU 15,zq0,vU 17,aA,vU 19,zq0,zq3]++rp 5 zq0++[vU 21,zq0,vU 23,cF,fb,fM,zq3,zq0,ft,zq3,zq1,zq3]++rp 5 zq1++[zq3,zq1,zq1,zq1,zq1]),Lt] [] (scS N6 (scS N7 (scS N8 (scS C2 (scS C4 (scS wa sc0)))))) (by decide +kernel)
def C7:List AD:=[bE,za9,aE,bN,aL,fe,za5,lT]
def C8:Cn:=((9,hH,C7,4),(none,(am C7 [(7,3,0,lU)]++([hO,hI,d7,d6,za9]++Mg)),[]),(2,23,49,32))
theorem N_:CtH C8:=ctR 375 ag rfl (cw) [gj,(m8,[1],[0],[]),oj,gi,(ti,[2],[0],[]),wu,gi,gj,wt,vx,iS] [] (scS dy (scS oh (scS hT (scS f5 (scS ys (scS lS (scS f5 (scS dy (scS lz (scS lb (scS fN sc0))))))))))) (by decide +kernel)
def C9:List AD:=[lV,n6,za9]
def ji:Cn:=((18,jK,C9,1),(some zq3,(C9),[]),(0,0,0,0))
theorem kL:CtH ji:=ctR 23 ag rfl (af _) [] [] sc0 (by decide +kernel)
def pF:List AD:=[qU,vk,(64,2,[ax,cu]),aD [2,1]]
def tA:Cn:=((19,kU,pF,3),(some zq3,(pF),[dC,tj,eJ,mZ,dC,rx,BO,BP]),(1,0,0,17))
theorem tB:CtH tA:=ctR 63 ag rfl (af _) [] [1,1] sc0 (by decide +kernel)
def C_:List AD:=ww++[kS,za9,aL,n5,aF,kR,(64,3,[eX,zq3,ir]),kQ,vc,(64,2,[zq1,bH])]
def Da:Cn:=((16,[aK],C_,3),(some (.long 0),(C_),[eJ]++hX),(2,0,0,37))
def Ml:Sc:=(tA,[1,3,4,7],[0,2,1],qY++uS 28 3++[cV,ck])
theorem Oa:CtH Da:=ctR 139 ag rfl (af _) [vf,(ji,[1,2,6],[0],[au]++rS 3 3++jg++uS 28 4),Ml,(vA,[12,14],[0],[d5,dw,c8,bH]),Cc] [] (scS eW (scS kL (scS tB (scS ob (scS eZ sc0))))) (by decide +kernel)
def pG:List AD:=[nO,ri,rh,(64,2,[ax,cu]),(64,2,[vU 11,zq0]),vJ]
def pH:Cn:=((24,jF,pG,2),(none,(am pG [(3,64,2,[zq3,cu])]),[]),(0,0,0,0))
theorem tC:CtH pH:=ctR 36 ag rfl (af _) [] [] sc0 (by decide +kernel)
def Db:List AD:=wy++([d6,za9,aL,lh,aF,za4]++wA++[vV,za2,za2,d6])
def De:Cn:=((23,[dt,zq0,zq0,zq0],Db,3),(none,(am Db [(0,0,0,rz),(3,64,2,[zq0,dx]),(4,64,2,[zq0,cX]),(5,65,2,[bU,e7]),(6,64,3,lk),(7,64,3,iV),(8,64,2,[zq0,cV]),(9,64,2,[zq0,dR]),(10,3,0,rA),(13,64,2,[zq3,bS]),(14,aI [0,1]),(19,aI [1,1]),(21,64,3,ll),(24,64,2,[zq1,cN]),(26,64,3,[bH,zq3,zq1]),(29,aI [(-1),1])]++[za9,eK]),[]),(3,2,4,70))
theorem Ob:CtH De:=ctR 185 ag rfl (af _) [(ji,[10,11,15],[0],[au]++rS 12 3++wf),(pH,[10,11,12,13,15,16],[0,2],lm++uS 36 3++[zq3,aA]),Lo,CX,vY,Mi,vZ] [] (scS kL (scS tC (scS lg (scS m9 (scS iY (scS pE (scS i6 sc0))))))) (by decide +kernel)
def Df:List AD:=[bE,za9,aE,bN,aL,fe]++lo
def Dg:Cn:=((8,gp,Df,4),(some zq3,(am Df [(6,0,0,rB),(12,aI [0,1]),(13,aI [0,1]),(14,aD [2,3]),(15,aI [0,1,1]),(17,aI [0,0,1]),(19,aI [0,1]),(20,aI [0,1])]++([rC,lr,lp,za9,ay,za9,aL,aE,fe,lq,aF,bM,d6]++ls++[za9,eK,ay,eK,za4,ay])),[eJ]++wB),(4,30,72,93))
theorem Oc:CtH Dg:=ctR 65 aB rfl (az _) [(C8,[0,1,2,3,4,5,6,21],[0,1,2,3],it++rS 9 3++uS 2 6++rS 12 9++uS 8 5++lX),(Da,[6,21,22,23,24,25,26,27,30,31,34,35,39,40,41],[0,1,2],it++rS 9 3++uS 2 6++rS 12 9++uS 8 5++[zq0,cF,zq0,zq0,e_,aW,zq3,ax,fE]++rS 36 3++[zq1,zq0,vR 42,vR 43,zq1,zq3,zq1]),(De,[6,7,8,12,13,14,15,16,19,20,21,22,23,24,25,26,27,30,31,32,34,35,36,37,38,39,40,41,42,43],[0,1,2],[aO,bi]++rS 9 3++uS 2 6++[bQ,fg]++uS 8 5++[zq0]++uS 14 6++rp 6 zq0++uS 20 4++[cF,e_,aW,zq3,zq1,zq3,zq0,zq1,zq1,zq3,zq1,zq3]),Mk,(tz,[6,12,13,14,15,16,19,20,21,22,23,24,25,28,29,30,32,34,35,36,37,38,39,40,41,42,43],[0,3],lY++rS 9 3++uS 2 6++lw++uS 8 5++[zq0,zq0,vU 15,zq0,vU 17,bU,vU 19,zq0,zq3]++rp 5 zq0++[vU 21,zq0,vU 23,cF,fb,fM,zq3,zq0,ft,zq3,zq1,zq3]++rp 5 zq1++[zq3,zq1,zq1,zq1,zq1]),(v_,[6,9,10,11,15,16,17,18,45,46],[0,1],uS 0 8++rS 12 3++[vR 19,co]++uS 8 5++[zq0,zq0,aw])] [] (scS N_ (scS Oa (scS Ob (scS C2 (scS C4 (scS wa sc0)))))) (by decide +kernel)
def Dh:List AD:=[bE,za4,aF,bN,aL,fe,za5,lT]
def Mm:List AD:=[aL,aF,fe,mV,za4,aF,d7,jH,rE,za2,za2,d7,jG,rE,za2,za2,d7,za2]
def Di:Cn:=((9,hH,Dh,4),(none,(am Dh [(7,3,0,lU)]++([hO,hI,d7,d7,za4]++Mm)),[]),(2,23,49,32))
theorem Od:CtH Di:=ctR 375 ag rfl (cw) [gj,(m0,[1],[0],[]),oj,gi,(mU,[2],[0],[]),wu,gj,gi,wt,wn,iS] [] (scS dy (scS n_ (scS hT (scS f5 (scS nU (scS lS (scS dy (scS f5 (scS lz (scS lz (scS fN sc0))))))))))) (by decide +kernel)
def Dj:List AD:=[lV,n6,za4]
def tD:Cn:=((18,jF,Dj,1),(some zq3,(Dj),[]),(0,0,0,0))
theorem Dk:CtH tD:=ctR 23 ag rfl (af _) [] [] sc0 (by decide +kernel)
def Dm:List AD:=ww++[iX,za4,aL,n9,aF,kR,(64,3,[eX,zq3,ir]),kQ,vn,q_]
def Dn:Cn:=((16,[aK],Dm,3),(some (.long 1),(Dm),[eJ]++hX),(2,0,0,37))
theorem Oe:CtH Dn:=ctR 139 ag rfl (af _) [vq,(tD,[1,2,6],[0],[au]++rS 3 3++jg++uS 28 4),Ml,vp,Cc] [] (scS eZ (scS Dk (scS tB (scS e6 (scS eZ sc0))))) (by decide +kernel)
def Do:Cn:=((24,jF,pB,2),(none,(am pB [(3,64,2,[zq3,cu])]),[]),(0,0,0,0))
theorem Of:CtH Do:=ctR 36 ag rfl (af _) [] [] sc0 (by decide +kernel)
def Dp:Cn:=((27,jK,pq,1),(none,(am pq [(1,64,2,[zq3,vU 9]),(3,aI [1,1])]),[]),(0,0,0,0))
theorem Dq:CtH Dp:=ctR 32 ag rfl (af _) [] [] sc0 (by decide +kernel)
def Dr:List AD:=wy++([d7,za4,aL,lh,za4,aF]++wA++[wp,za2,za2,d7])
def Ds:Cn:=((23,[dt,zq0,zq0,zq3],Dr,3),(none,(am Dr [(0,0,0,rz),(3,64,2,[zq0,dx]),(4,64,2,[zq3,cX]),(5,65,2,[bU,e7]),(6,64,3,lk),(7,64,3,iV),(8,64,2,[zq0,cV]),(9,64,2,[ck,zq0]),(10,3,0,rA),(13,64,2,[zq3,bS]),(14,aI [1,0]),(18,aI [1,1]),(21,64,3,ll),(24,64,2,[zq1,cN]),(26,64,3,[bH,zq0,zq1]),(29,aI [1,(-1)])]++[ay,eK]),[]),(3,2,4,70))
def Mn:List Sc:=[CX,L6,(Dp,[10,14,17,18],[0],[au]++rS 11 3++L8),L7]
theorem Og:CtH Ds:=ctR 185 ag rfl (af _) ([(tD,[10,11,15],[0],[au]++rS 12 3++wf),(Do,[10,11,12,13,15,16],[0,2],lm++uS 36 3++[zq0,aA]),L9]++Mn) [] (scS Dk (scS Of (scS wo (scS m9 (scS gn (scS Dq (scS kJ sc0))))))) (by decide +kernel)
def Dt:List AD:=[za5,lW,nY,nZ,qX,kS,aF,br,n5,(64,2,[zq3,bI]),lf,wv]++vE
def Dw:Cn:=((16,[aK],Dt,2),(some (.long 4294967296),(Dt),gl),(2,0,0,37))
theorem Dx:CtH Dw:=ctR 139 ag rfl (af _) [vG,(qT,[1,2,6],[0],[au]++rS 3 3++jg++uS 28 4),ve,vF,wx] [] (scS eW (scS u_ (scS vb (scS ob (scS eZ sc0))))) (by decide +kernel)
def Dy:List AD:=iU++([v7,q8,q7,q9]++vi++(Mj++Ma))
def tE:Cn:=((23,[cW,zq3,zq3,zq0],Dy,2),(none,(am Dy [(1,64,2,[cX,zq3]),(2,64,2,[e7,zq0]),(3,65,2,kW),(4,64,3,og),(5,64,3,[eA,zq0,zq0]),(6,64,2,[dR,zq3]),(7,64,2,[zq3,gm]),(11,64,2,[dw,zq0]),(12,64,2,[zq0,c8]),(18,64,3,[bH,zq1,vU 47]),(21,64,2,[vU 50,zq1]),(23,64,3,[vU 51,zq1,vU 53]),(26,64,2,[zq1,vU 56])]),[]),(1,0,0,15))
theorem Dz:CtH tE:=ctR 136 ag rfl (af _) [(qT,[8,9,13],[0],[au]++rS 10 3++v9),(Bw,[8,9,10,11,13,14],[0,1],v8++uS 39 3),(hS,[17,18,19,20,21],[0],uS 45 6),(kV,[22,23,24,25,26],[0],uS 51 6)] [] (scS u_ (scS Jk (scS gn (scS iY sc0)))) (by decide +kernel)
def DA:List AD:=[bE,za4,aF,bN,aL,fe]++lo
def DB:Cn:=((8,gp,DA,4),(some zq3,(am DA [(6,0,0,rB),(12,aI [0,1]),(13,aI [1,0]),(14,aD [2,3]),(15,aI [0,1,1]),(17,aI [0,1,1]),(19,aI [0,1]),(20,aI [1,0])]++([rC,lr,lp,za9,ay,za4,aL,aF,fe,lq,bM,aF,d7]++ls++[ay,eK,ay,eK,bM,ay])),[eJ]++wB),(4,30,72,93))
def Mo:Sc:=(Dw,[6,21,22,23,24,25,28,29,30,31,34,35,39,40,41],[0,3],lY++rS 9 3++uS 2 6++rS 12 9++uS 8 5++[zq0,cF,zq3,zq0,fb,fM,zq3,zq0,fE,zq3]++rS 36 3++wc)
theorem Oh:CtH DB:=ctR 65 aB rfl (az _) [(Di,[0,1,2,3,4,5,6,21],[0,1,2,3],it++rS 9 3++uS 2 6++rS 12 9++uS 8 5++lX),(Dn,[6,21,22,23,24,25,26,27,30,32,34,35,39,40,41],[0,1,2],it++rS 9 3++uS 2 6++rS 12 9++uS 8 5++[zq0,cF,zq0,zq0,e_,aW,zq3,ax,ft]++rS 36 3++[zq1,zq0,vR 42,vR 43,zq1,zq0,zq1]),(Ds,[6,7,8,12,13,14,15,16,19,20,21,22,23,24,25,26,27,30,31,32,34,35,36,37,38,39,40,41,42,43],[0,1,2],[aO,bi]++rS 9 3++uS 2 6++[bQ,fg]++uS 8 5++[zq0]++uS 14 6++rp 6 zq0++uS 20 4++[cF,e_,aW,zq3,zq1,zq3,zq0,zq1,zq1,zq3,zq1,zq0]),Mo,(tE,[6,12,13,14,15,16,19,20,21,22,23,24,25,28,29,30,31,34,35,36,37,38,39,40,41,42,43],[0,3],lY++rS 9 3++uS 2 6++lw++uS 8 5++[zq0,zq0,vU 15,zq3,vU 17,bU,vU 19,zq0,zq3]++rp 5 zq0++[vU 21,cX,zq0,cF,fb,fM,zq3,zq0,fE,zq3,zq1,zq3]++rp 5 zq1++[zq0,zq1,zq1,zq1,zq1]),(pt,[6,9,10,11,15,16,17,18,45,46],[0,1],uS 0 8++rS 12 3++[vR 19,co]++uS 8 5++[zq0,zq0,aw])] [] (scS Od (scS Oe (scS Og (scS Dx (scS Dz (scS pu sc0)))))) (by decide +kernel)
def DE:List AD:=[bE,za9,aF,bN,aL,fe,za5,lT]
def DF:Cn:=((9,hH,DE,4),(none,(am DE [(7,3,0,lU)]++([hO,hI,d7,d7,za9]++Mm)),[]),(2,23,49,32))
theorem Oi:CtH DF:=ctR 375 ag rfl (cw) [gj,(m8,[1],[0],[]),oj,gi,(mU,[2],[0],[]),wu,gj,gi,wt,wn,iS] [] (scS dy (scS oh (scS hT (scS f5 (scS nU (scS lS (scS dy (scS f5 (scS lz (scS lz (scS fN sc0))))))))))) (by decide +kernel)
def DG:List AD:=[lV,n6,wq]
def pI:Cn:=((18,jF,DG,1),(some zq0,(DG),[]),(0,0,0,0))
theorem pJ:CtH pI:=ctR 13 ag rfl (af _) [] [] sc0 (by decide +kernel)
def DH:List AD:=ww++([iX,(64,2,[zq3,cM]),aL,(67,2,[bI,bO]),aF,lf,wv]++v4)
def DJ:Cn:=((16,[aK],DH,3),(some (.long 1),(DH),[dC]++hX),(2,0,0,37))
def Mp:Sc:=(pI,[1,2,6],[0],[au]++rS 3 3++jg++uS 28 4++[cM])
theorem Oj:CtH DJ:=ctR 139 ag rfl (af _) [v6,Mp,Mh,v5,wx] [] (scS eZ (scS pJ (scS tu (scS e6 (scS eZ sc0))))) (by decide +kernel)
def DK:Cn:=((24,jK,pG,2),(none,(am pG [(3,64,2,[zq3,cu]),(4,aI [0,0]),(5,aD [1,1])]),[]),(0,0,0,0))
theorem Ok:CtH DK:=ctR 36 ag rfl (af _) [] [] sc0 (by decide +kernel)
def DL:List AD:=wy++([d7,za9,aL,lh,za4,aF]++wA++[wp,za2,za2,d7])
def DM:Cn:=((23,[dt,zq0,zq0,zq3],DL,3),(none,(am DL [(0,0,0,rz),(3,64,2,[zq0,dx]),(4,64,2,[zq3,cX]),(5,65,2,[aA,e7]),(6,64,3,lk),(7,64,3,iV),(8,64,2,[zq0,cV]),(9,64,2,[ck,zq0]),(10,3,0,rA),(13,64,2,[zq3,bS]),(14,aI [1,0]),(15,aI [0,0]),(16,aD [2,2]),(18,aI [1,1]),(21,64,3,ll),(24,64,2,[zq1,cN]),(26,64,3,[bH,zq0,zq1]),(29,aI [1,(-1)])]++[ay,fF]),[]),(3,2,4,70))
theorem Ol:CtH DM:=ctR 185 ag rfl (af _) ([(pI,[10,11,15],[0],[au]++rS 12 3++[bQ,co,eV,cM,zq0,zq0,bI,zq0]),(DK,[10,11,12,13,15,16],[0,2],lm++uS 36 3++[zq3,aA]),Mf]++Mn) [] (scS pJ (scS Ok (scS wo (scS m9 (scS gn (scS Dq (scS kJ sc0))))))) (by decide +kernel)
def DN:List AD:=[bE,za9,aF,bN,aL,fe]++lo
def DO:Cn:=((8,gp,DN,4),(some zq3,(am DN [(6,0,0,rB),(12,aI [0,1]),(13,aI [1,0]),(14,aD [1,3]),(15,aI [0,1,1]),(17,aI [0,1,1]),(19,aI [0,1]),(20,aI [1,0])]++([rC,lr,lp,za9,ay,ay,aD [2,2],aF,fe,lq,bM,aF,d7]++ls++[ay,fF,ay,fF,bM,ay])),[dC]++wB),(4,30,72,93))
theorem Om:CtH DO:=ctR 65 aB rfl (az _) [(DF,[0,1,2,3,4,5,6,21],[0,1,2,3],it++rS 9 3++uS 2 6++rS 12 9++uS 8 5++lX),(DJ,[6,21,22,23,24,25,26,27,30,32,34,35,39,40,41],[0,1,2],it++rS 9 3++uS 2 6++rS 12 9++uS 8 5++[zq0,cF,zq0,zq0,e_,aW,zq3,ax,zq0,ft]++rS 36 3++[zq1,zq0,vR 42,vR 43,zq1,zq0,zq1]),(DM,[6,7,8,12,13,14,15,16,19,20,21,22,23,24,25,26,27,30,31,32,34,35,36,37,38,39,40,41,42,43],[0,1,2],[aO,bi]++rS 9 3++uS 2 6++[bQ,fg]++uS 8 5++[zq0]++uS 14 6++rp 6 zq0++uS 20 4++[cF,e_,aW,zq3,zq1,zq3,zq0,zq1,zq1,zq3,zq1,zq0]),Mo,(tE,[6,12,13,14,15,16,19,20,21,22,23,24,25,28,29,30,31,34,35,36,37,38,39,40,41,42,43],[0,3],lY++rS 9 3++uS 2 6++lw++uS 8 5++[zq0,zq0,vU 15,zq3,vU 17,aA,vU 19,zq0,zq3]++rp 5 zq0++[vU 21,cX,zq0,cF,fb,fM,zq3,zq0,fE,zq3,zq1,zq3]++rp 5 zq1++[zq0,zq1,zq1,zq1,zq1]),Mc] [] (scS Oi (scS Oj (scS Ol (scS Dx (scS Dz (scS pu sc0)))))) (by decide +kernel)
def DP:List AD:=[g_,(64,3,[aO,bi,zq3])]++uU
def DQ:Cn:=((15,[au,zq0,ax],DP,1),(none,(am DP [(1,64,3,[aO,bi,zq0]),(2,64,2,[zq3,ct]),(3,aI [(-1),0]),(4,64,2,[ax,vU 7])]),[]),(0,0,0,0))
theorem On:CtH DQ:=ctR 38 aN rfl (aM _) [] [] sc0 (by decide +kernel)
def f_:AD:=aI [2,2]
def DR:List AD:=[za5,f_,uX]
def DS:AD:=aI [(-1),(-1),0]
def tF:Cn:=((13,[vR 2,au,aK],DR,1),(none,(am DR [(2,4,0,rS 3 4)]++[DS,fy,fC,f_]),[]),(1,4,9,15))
theorem pK:CtH tF:=ctR 61 aN rfl (iF) [(qR,[3],[0],hG),uZ,(BL,[2,3,4,5,6],[0],uY),(DQ,[2,3,4,5,6],[0],[zq1,zq1,zq0,zq1,zq0,zq1,zq1,ax])] [] (scS uT (scS fN (scS J8 (scS On sc0)))) (by decide +kernel)
def DT:List AD:=[bE,za4,za4,bN,aL,ff,za5,lT]
def Mq:List AD:=[ff,mV,za4,za4,f_,jH,DS,fy,fC,f_,jG,DS,fy,fC,f_,za2]
def DU:Cn:=((9,hH,DT,5),(none,(am DT [(7,3,0,lU)]++([hO,hI,f_,f_,za4,aL,za4]++Mq)),[]),(2,23,52,32))
def Mr:List Sc:=[(vu,[5],[0,3,4],[]),gj,gj,(tF,[6,10,20],[0],uS 0 28),(tF,[6,11,25],[0],uS 0 28),iS]
theorem DV:CtH DU:=ctR 415 ag rfl (cw) ([gj,(m0,[1],[0],[]),oj,gj,(m0,[2],[0],[])]++Mr) [] (scS dy (scS n_ (scS hT (scS dy (scS n_ (scS hT (scS dy (scS dy (scS pK (scS pK (scS fN sc0))))))))))) (by decide +kernel)
def DW:List AD:=[u8,(64,3,[ct,zq1,vU 4])]
def m_:Cn:=((17,g9,DW,1),(some zq1,(DW),[]),(0,0,0,0))
theorem iv:CtH m_:=ctR 6 aN rfl (aM _) [] [] sc0 (by decide +kernel)
def DX:List AD:=[u8,(64,3,[ct,vU 4,zq0])]
def na:Cn:=((17,iq,DX,1),(some zq0,(DX),[]),(0,0,0,0))
theorem iw:CtH na:=ctR 6 aN rfl (aM _) [] [] sc0 (by decide +kernel)
def Ms:List AD:=[aR 67 [10,11],za4,za4,(4,0,[d5,dD,cV,ck]),(64,3,[dR,zq1,zq0]),fy,(4,0,[cZ,bQ,cM,bI]),(64,3,[gm,zq1,zq0]),fy]
def Mt:List AD:=[za5,(3,0,[au]++rS 2 4++[bO,d4,cg]++uS 28 3),aR 67 [6,8],(68,2,[vR 7,eA]),f_,f_]
def DY:List AD:=Mt++[za4,aL,za4]++Ms
def DZ:Cn:=((16,[aK],DY,3),(some (.long 0),(DY),[dC]++hX),(2,0,0,37))
def Mu:List Sc:=[(mW,[15,17],[0],[cZ,cM,bI,zq1]),(jJ,[15,17],[0],[cZ,cM,bI,zq3]),(na,[12,13],[0],[dD]++uS 32 3++[zq1]),(mW,[12,14],[0],[d5,cV,ck,zq1]),(jJ,[12,14],[0],[d5,cV,ck,zq3])]
def Mv:List Sc:=[(m_,[15,16],[0],[bQ]++uS 35 3++[zq0]),(m_,[12,13],[0],[dD]++uS 32 3++[zq0]),(na,[15,16],[0],[bQ]++uS 35 3++[zq1])]
theorem Oo:CtH DZ:=ctR 455 ag rfl (af _) ((Mv++[(jh,[1,2,6],[0],[au]++rS 3 3++[bO,d4,cg]++uS 28 3++[cW,zq3]),(tt,[1,3,4,7],[0,1,2],[au,vR 2,vR 5,bO,d4,cg]++uS 28 4++[ax])])++Mu) [] (scS iv (scS iv (scS iw (scS kK (scS tu (scS iT (scS e6 (scS iw (scS iT (scS e6 sc0)))))))))) (by decide +kernel)
def D3:List AD:=[g_,kO,(64,2,[zq3,ct]),vg,(64,2,[ax,vU 5])]
def pL:Cn:=((26,[au,zq0],D3,1),(none,(am D3 [(1,64,3,[aO,bi,zq3]),(3,aI [(-1),(-1)]),(4,64,2,[zq1,vU 5])]),[]),(0,0,0,0))
theorem kM:CtH pL:=ctR 39 aN rfl (aM _) [] [] sc0 (by decide +kernel)
def pM:List AD:=[(0,0,[aO,bi,aK,vR 2]++uS 2 9++[ax]++uS 11 15),za8,eI,(3,0,[au]++uS 26 9++[zq0])]
def D4:Cn:=((29,[vR 3,zq3,aA],pM,2),(none,(am pM [(0,0,0,[aO,bi,vR 4,vR 5]++uS 2 9++[ax]++uS 11 15),(3,3,0,[au]++uS 26 9++[zq3])]++[za9,eK]),[]),(2,2,4,55))
theorem D5:CtH D4:=ctR 54 ag rfl (af _) vQ [] (scS vM (scS vN (scS vO sc0))) (by decide +kernel)
def D6:List AD:=[(4,0,uS 0 3++[aK]),(64,2,[ct,zq3])]
def tG:Cn:=((28,jE,D6,1),(none,(D6),[]),(0,0,0,0))
theorem D7:CtH tG:=ctR 13 aN rfl (aM _) [] [] sc0 (by decide +kernel)
def pN:List AD:=[(3,0,[aO]++rS 1 4++[bi,vU 2,bO,vR 11,ct,vU 4]),aR 67 [5,7],aR 68 [6,8],bM,(64,2,[vU 5,zq3]),(64,2,[zq3,vU 6]),(65,2,[bU,vU 7]),(64,2,[zq3,vU 8]),(65,2,[vD 3,vU 9]),(4,0,uS 10 3++[dt]),(64,2,[vU 13,zq3]),(64,2,[vU 14,zq1])]
def nb:Op:=(4,4,0,0)
def rF:Op:=(5,7,8,0)
def tH:Cn:=((30,[au,zq3,zq0,aA],pN,4),(none,(am pN [(8,65,2,[vD 5,vU 9])]),[(2,1,2,0),(1,3,4,0),(4,5,0,0),iu,nb,rF,(2,4397347889687374747,9,0),(11,6,10,1)]),(1,0,0,21))
theorem D8:CtH tH:=ctR 130 ag rfl (af _) [(tG,[9,10],[0],uS 10 4)] [1] (scS D7 sc0) (by decide +kernel)
def nd:List Value:=[vU 9,cu,dt,vR 11]
def QX:AD:=(0,0,rS 1 4++uS 0 9++[ax]++rS 5 5++nd++uS 11 6)
def QY:AD:=(3,0,[au]++rS 13 4++[bx,bT,aW,bF,zq0,zq0])
def Mw:AD:=(64,3,[ck,zq1,dR])
def wC:List AD:=[QX,za8,eI,za8,eI,BG,ro,JO,aU 64 23 3,aU 64 26 3,aU 64 29 2,BW,QY,aR 67 [17,19],aR 68 [18,20],f_,f_]
def Mx:List AD:=[ff,aR 67 [22,23],za4,za4,(4,0,rS 25 4),Mw,fy,fC,f_,(4,0,rS 30 4),(64,3,[cM,zq1,bI]),fy,fC,f_,(64,2,[gm,zq1])]
def D9:List AD:=wC++([za4,aL,za4]++Mx)
def wD:List Value:=[au]++rS 13 4++[bx,bT,aW,bF,zq3,zq3]
def QZ:Op:=(2,4397347889687374747,11,0)
def wE:List Op:=[(4,6,0,0),(5,9,10,0),QZ,(11,8,12,1)]
def D_:Cn:=((23,[d4,zq0,zq0,zq0],D9,5),(none,(am D9 [(0,0,0,rS 35 4++uS 0 9++[ax]++rS 5 5++nd++uS 11 6),(5,64,2,[zq0,vU 18]),(6,64,2,[zq0,dx]),(7,65,2,[aA,cX]),(8,64,3,[zq0,zq3,vU 25]),(9,64,3,[zq0,zq3,vU 28]),(10,64,2,[zq0,vU 30]),(11,64,2,[zq0,cV]),(12,3,0,wD),(15,aI [1,1]),(16,aI [0,1]),(17,aI [1,1]),(18,aD [2,2]),(19,aI [1,1]),(20,aD [7,4]),(23,aI [1,1]),(25,64,3,[ck,zq3,zq1]),(27,aI [(-1),(-1)]),(28,aI [(-1),1]),(30,64,3,[cM,zq3,zq1]),(32,aI [(-1),(-1)]),(33,aI [(-1),1])]++[za9,fF,za9,aD [5,0]]),[(3,3,1,0),(2,5,2,0),(1,4,6,0),(4,7,0,0),nb]++wE),(3,4,8,70))
def My:Sc:=(D4,[0,3,4,12],[0,5],[vR 35,vR 36]++uS 0 9++rS 5 5++nd++uS 11 6++rS 13 4++[bx,bT,aW,bF,zq3])
def Mz:Sc:=(tx,[12,16,21,23],[0],[au]++rS 13 3++[bT,aW,bF,zq3,zq0,ax,dS])
def MA:Sc:=(pL,[29,30,31,32,33],[0],[cM,zq1,bI,zq1,zq0,ax])
def MB:Sc:=(pL,[24,25,26,27,28],[0],[ck,zq1,dR,zq1,zq0,ax])
theorem Oq:CtH D_:=ctR 238 ag rfl (af _) [(jh,[12,13,17],[0],[au]++rS 14 3++[bx,bT,aW,bF,zq0,zq0,vR 19,zq3]),(pC,[12,13,14,15,17,18],[0,2],[au,cZ,bx,bT,aW,bF,zq0,zq0,vR 19,co,ax,zq0,aA]),(m6,[0,1,2,12],[0,2],[vR 3,vR 4]++uS 0 9++rS 5 5++nd++uS 11 6++rS 13 4++[bx,bT,aW,bF,zq0]),MB,MA,Mz,(m7,[29,30,31,32,33],[0],[cM,zq3,zq3,zq1,zq1]),(oa,[12,13,19],[0],[au]++rS 14 3++[bx,bT,aW,bF,zq3,zq0,bQ,zq3]),(vL,[12,13,14,15,19,20],[0,4],[au,cZ,bx,bT,aW,bF,zq3,zq0,bQ,fg,zq3,zq0,vD 3]),My,(tH,[12,13,14,15,16,17,18,19,20,29,33,34],[0,5,2,4],[au,bx,bT,zq3,zq3,ax,zq3,bU,zq3,vD 4]++rS 30 3++[zq1,gm]),(m7,[24,25,26,27,28],[0],[ck,zq3,zq3,zq1,zq1])] [] (scS kK (scS tv (scS lg (scS kM (scS kM (scS pE (scS i6 (scS rv (scS BS (scS D5 (scS D8 (scS i6 sc0)))))))))))) (by decide +kernel)
def Eb:List AD:=[qU,va,qV,(65,2,[aA,vU 11])]
def Ec:Cn:=((19,[au,zq3,aA],Eb,2),(some zq3,(Eb),gl),(1,0,0,17))
theorem Os:CtH Ec:=ctR 45 ag rfl (af _) [] [1,1] sc0 (by decide +kernel)
def Ed:List AD:=[za5,lW,nY,nZ,qX,iX,(64,2,[zq3,cM]),(65,2,[aA,bI]),(67,2,[gm,bO]),(64,2,[zq3,bS]),(4,0,[vR 11]++uS 39 3),(64,3,[c8,zq3,fD]),(4,0,[d5,dD,cN,bH]),(64,3,[eY,zq3,vU 47]),wm]
def tI:Cn:=((16,[aK],Ed,2),(some (.long 4294967297),(Ed),gl),(2,0,0,37))
theorem Ee:CtH tI:=ctR 139 ag rfl (af _) [(kT,[12,13],[0],[dD]++uS 44 4),Me,(Ec,[1,3,4,7],[0,1],qY++uS 28 3++[cV,ck,bI]),(jJ,[12,14],[0],[d5,cN,bH,vU 48]),(kT,[10,11],[0],uS 39 5)] [] (scS eZ (scS px (scS Os (scS e6 (scS eZ sc0))))) (by decide +kernel)
def Ef:List AD:=[nO,q6,q5,qV,wq,(65,2,[aA,vU 12])]
def Eg:Cn:=((24,jI,Ef,2),(none,(am Ef [(3,64,2,[cu,zq0])]),[]),(0,0,0,0))
theorem Ot:CtH Eg:=ctR 36 ag rfl (af _) [] [] sc0 (by decide +kernel)
def MC:List AD:=[rj,aU 64 53 3,(64,2,[vU 56,zq1]),(64,2,[vU 57,zq1]),(64,2,[vU 58,zq3])]
def Eh:List AD:=iU++([(3,0,[au]++rS 9 4++[cg,bQ,dS,bS,zq3,zq3]),q8,q7,q9,BD,(64,2,[zq3,fD]),(65,2,[aA,cN]),(67,2,[bH,cZ]),(64,2,[zq3,eY]),mY,aU 64 47 3,(64,2,[vU 50,zq1]),(64,2,[vU 51,zq1]),(64,2,[vU 52,zq3])]++MC)
def tJ:Cn:=((23,[cW,zq3,zq3,zq3],Eh,2),(none,(am Eh [(1,64,2,[cX,zq3]),(2,64,2,[e7,zq3]),(3,65,2,kW),(4,64,3,og),(5,64,3,[eA,zq3,zq3]),(6,64,2,[dR,zq3]),(7,64,2,[bI,zq3]),(11,64,2,[dw,zq0]),(12,64,2,[c8,zq0]),(18,64,3,[vU 47,zq1,vU 49]),(21,64,2,[vU 52,zq1]),(23,64,3,[vU 53,zq1,f9]),(26,64,2,[vU 58,zq1])]),[]),(1,0,0,15))
theorem Ei:CtH tJ:=ctR 136 ag rfl (af _) [(pv,[8,9,13],[0],[au]++rS 10 3++[cg,bQ,dS,bS,zq3,zq3,eX,fD]),(Eg,[8,9,10,11,13,14],[0,1],[au,d4,cg,bQ,dS,bS,zq3,zq3]++uS 39 3++[fD,cN]),(hS,[17,18,19,20,21],[0],uS 47 6),(hS,[22,23,24,25,26],[0],uS 53 6)] [] (scS px (scS Ot (scS gn (scS gn sc0)))) (by decide +kernel)
def Q0:AD:=(0,0,rS 9 4++rS 1 4++uS 0 5++[ax]++uS 5 3++rS 5 4++uS 8 8)
def MD:List AD:=[Q0,za8,eI,za8,eI,dV,dV,bv,bv,(64,2,[zq3,vU 16]),(65,2,[aA,vU 17])]
def Ej:List AD:=MD++[(64,2,[zq3,vU 18]),(65,2,[bU,vU 19])]
def tK:Cn:=((31,[au],Ej,3),(none,(am Ej [(0,0,0,rS 9 8++uS 0 5++[ax]++uS 5 3++rS 5 4++uS 8 8),(7,aI [0,0,1]),(8,aI [0,0,1])]++[ay,eK,ay,fF,za4,za4]),[]),(2,6,12,54))
def ME:List Sc:=[(jL,[7],[0],hG),(jL,[8],[0],hG),(kX,[7],[0],[zq3])]
theorem Ek:CtH tK:=ctR 324 aB rfl (az _) (ME++[(kX,[8],[0],[zq3])]) [] (scS iZ (scS iZ (scS kY (scS kY sc0)))) (by decide +kernel)
def Q1:AD:=(0,0,rS 7 8++uS 0 5++[ax]++rS 15 9++uS 5 6)
def MF:List AD:=[bN,aL,ff,Q1,za8,eI,za8,eI,za8,eI,za8,eI,aU 64 11 2,aU 64 13 2,aU 65 15 2,bv,bv,bv,bv,BG,ro]
def pO:List AD:=[bE,za4,za4]++MF
def Q3:AD:=(3,0,[dB]++rS 25 4++[vR 33,vR 37,vR 42,vR 47,zq3,zq3])
def El:Op:=(11,5,4472406533629990549,1)
def MG:List Op:=[(4,12,0,0),(5,15,16,0),(2,4397347889687374747,17,0),(11,14,18,1),(4,13,0,0),(11,19,4472406533629990549,1),(4,13,0,0),(5,0,20,0),(2,4591870180066957722,21,0),(10,19,22,1)]
def MH:List AD:=[aD [13,4],aR 67 [34,35],za4,bM,f_,(4,0,rS 38 4),za7,fy,za2,za2,(4,0,rS 43 4),za7,fy,za2,za2,za2,za9]
def wF:List AD:=[Q3,aR 67 [29,31],aR 68 [30,32]]
def Em:Cn:=((8,gp,pO,5),(some zq3,(am pO [(6,0,0,rS 48 8++uS 0 5++[ax]++rS 15 9++uS 5 5++[zq0]),(15,aI [0,1]),(16,aI [0,1]),(17,aD [1,13]),(18,aI [0,1,1]),(19,aI [0,1,1]),(20,aI [0,0,1]),(21,aI [0,0,1]),(22,aI [0,1]),(23,aI [0,1])]++((wF++[za9,ay,bM,aD [2,2],bM])++MH++[fF,za9,aD [11,0],ay,fF,ay,aD [11,0],za4,za4])),[dC,El,dC,(5,0,6,0),eJ,rF,rq,(10,5,10,1),(3,3,1,0),(2,11,2,0),(1,4,12,0),(4,13,0,0),nb]++MG),(4,34,83,93))
def wG:List Value:=[zq1,zq1,vR 45,vR 46,zq1,zq1,zq3]
def MI:Sc:=(DU,[0,1,2,3,4,5,6,24],[0,1,2,3,4],rS 7 8++uS 0 5++rS 15 9++uS 5 5++lX)
theorem Ou:CtH Em:=ctR 65 aB rfl (az _) [MI,(DZ,[6,24,25,26,27,28,29,30,31,33,34,35,37,38,39,42,43,44],[0,1,2],rS 7 8++uS 0 5++rS 15 9++uS 5 5++[zq0,vR 47,zq0,zq0,fE,vR 40,vR 41,zq1,vR 45,vR 46,zq1]),(D_,[6,7,8,9,10,15,16,17,18,19,22,23,24,25,26,27,28,29,30,31,32,33,34,35,37,38,39,40,41,42,43,44,45,46,47],[0,1,2,3,4],rS 11 4++uS 0 5++[co,bx]++uS 5 5++[zq0]++uS 11 6++rp 6 zq0++uS 17 4++[zq1,zq0,zq1,zq0,zq1]),(tI,[6,24,25,26,27,28,31,32,33,35,37,38,42,43,44],[0,13],rS 48 4++rS 11 4++uS 0 5++rS 15 9++uS 5 5++[zq0,vR 47,zq3,zq3,aW,vR 30,zq3,zq0,zq3,vD 4,bF,zq3]++rS 39 3++wG),(tJ,[6,15,16,17,18,19,22,23,24,25,26,27,28,31,32,33,35,37,38,39,40,41,42,43,44,45,46],[0,13],rS 48 4++rS 11 4++uS 0 5++[ax,co,bx]++uS 5 5++[zq0,zq0,vU 12,zq0,vU 14,aA,vU 16,zq0,zq3,zq0,zq0,zq3,zq0,zq0,vU 18,zq0,dx,vR 47,aW,vR 30,zq3,zq0,zq3,vD 4,bF,zq3,zq1,zq3,zq1,zq3,zq1,zq1,zq1,zq3,zq1,zq3,zq1,zq1]),(tK,[6,11,12,13,14,18,19,20,21,48,49,50,51],[0,2,11],uS 0 5++rS 15 3++[dS,vR 23]++uS 5 5++[zq0,zq0,aw,zq0,aw])] [] (scS DV (scS Oo (scS Oq (scS Ee (scS Ei (scS Ek sc0)))))) (by decide +kernel)
def En:List AD:=[bE,za9,za9,bN,aL,ff,za5,lT]
def Eo:Cn:=((9,hH,En,5),(none,(am En [(7,3,0,lU)]++([hO,hI,f_,f_,za9,aL,za9]++Mq)),[]),(2,23,52,32))
theorem Ep:CtH Eo:=ctR 415 ag rfl (cw) ([gj,(m8,[1],[0],[]),oj,gj,(m8,[2],[0],[])]++Mr) [] (scS dy (scS oh (scS hT (scS dy (scS oh (scS hT (scS dy (scS dy (scS pK (scS pK (scS fN sc0))))))))))) (by decide +kernel)
def Er:List AD:=Mt++[za9,aL,za9]++Ms
def Es:Cn:=((16,[aK],Er,3),(some (.long 0),(Er),[eJ]++hX),(2,0,0,37))
theorem Ov:CtH Es:=ctR 455 ag rfl (af _) ((Mv++[(ji,[1,2,6],[0],[au]++rS 3 3++[bO,d4,cg]++uS 28 3++[cW]),(tA,[1,3,4,7],[0,2,1],[au,vR 2,vR 5,bO,d4,cg]++uS 28 4++[ax])])++Mu) [] (scS iv (scS iv (scS iw (scS kL (scS tB (scS iT (scS e6 (scS iw (scS iT (scS e6 sc0)))))))))) (by decide +kernel)
def Eu:List AD:=wC++([za9,aL,za9]++Mx)
def Ew:Cn:=((23,[d4,zq0,zq0,zq0],Eu,5),(none,(am Eu [(0,0,0,rS 35 4++uS 0 9++[ax]++rS 5 5++nd++uS 11 6),(5,64,2,[zq0,vU 18]),(6,64,2,[zq0,dx]),(7,65,2,[bU,cX]),(8,64,3,[zq0,zq3,vU 25]),(9,64,3,[zq0,zq3,vU 28]),(10,64,2,[zq0,vU 30]),(11,64,2,[zq0,cV]),(12,3,0,wD),(15,aI [1,1]),(16,aI [0,1]),(20,aD [7,4]),(23,aI [1,1]),(25,64,3,[ck,zq3,zq1]),(27,aI [(-1),(-1)]),(28,aI [(-1),1]),(30,64,3,[cM,zq3,zq1]),(32,aI [(-1),(-1)]),(33,aI [(-1),1])]++[za9,eK,za9,aD [5,0]]),[(3,4,2,0),(2,5,1,0),(1,3,6,0),(4,7,0,0),iu]++wE),(3,4,8,70))
theorem Ow:CtH Ew:=ctR 238 ag rfl (af _) [(ji,[12,13,17],[0],[au]++rS 14 3++[bx,bT,aW,bF,zq0,zq0,vR 19]),(pH,[12,13,14,15,17,18],[0,2],[au,cZ,bx,bT,aW,bF,zq0,zq0,vR 19,co,ax,zq3,aA]),(m6,[0,1,2,12],[0,1],[vR 3,vR 4]++uS 0 9++rS 5 5++nd++uS 11 6++rS 13 4++[bx,bT,aW,bF,zq0]),MB,MA,Mz,(m7,[29,30,31,32,33],[0],[cM,zq3,zq3,zq1,zq1]),(oi,[12,13,19],[0],[au]++rS 14 3++[bx,bT,aW,bF,zq3,zq0,bQ]),(we,[12,13,14,15,19,20],[0,4],[au,cZ,bx,bT,aW,bF,zq3,zq0,bQ,fg,zq3,zq3,vD 3]),My,(tH,[12,13,14,15,16,17,18,19,20,29,33,34],[0,5,1,3],[au,bx,bT,zq3,zq3,ax,zq0,bU,zq0,vD 4]++rS 30 3++[zq1,gm]),(m7,[24,25,26,27,28],[0],[ck,zq3,zq3,zq1,zq1])] [] (scS kL (scS tC (scS lg (scS kM (scS kM (scS pE (scS i6 (scS rD (scS Ca (scS D5 (scS D8 (scS i6 sc0)))))))))))) (by decide +kernel)
def pP:List AD:=[bE,za9,za9]++MF
def Ey:Cn:=((8,gp,pP,5),(some zq3,(am pP [(6,0,0,rS 48 8++uS 0 5++[ax]++rS 15 9++uS 5 5++[zq0]),(15,aI [0,1]),(16,aI [0,1]),(17,aD [2,13]),(18,aI [0,1,1]),(19,aI [0,1,1]),(20,aI [0,0,1]),(21,aI [0,0,1]),(22,aI [0,1]),(23,aI [0,1])]++((wF++[za9,ay,za9,aL,za9])++MH++[eK,za9,aD [11,0],ay,eK,ay,aD [11,0],za4,za4])),[eJ,El,dC,(5,0,6,0),eJ,rF,rq,(10,5,10,1),(3,4,2,0),(2,11,1,0),(1,3,12,0),(4,13,0,0),iu]++MG),(4,34,83,93))
def MJ:Sc:=(Eo,[0,1,2,3,4,5,6,24],[0,1,2,3,4],rS 7 8++uS 0 5++rS 15 9++uS 5 5++lX)
theorem Ox:CtH Ey:=ctR 65 aB rfl (az _) [MJ,(Es,[6,24,25,26,27,28,29,30,31,33,34,35,37,38,39,42,43,44],[0,1,2],rS 7 8++uS 0 5++rS 15 9++uS 5 5++[zq0,vR 47,zq0,zq0,fE,vR 40,vR 41,zq1,vR 45,vR 46,zq1]),(Ew,[6,7,8,9,10,15,16,17,18,19,22,23,24,25,26,27,28,29,30,31,32,33,34,35,37,38,39,40,41,42,43,44,45,46,47],[0,1,2,3,4],rS 11 4++uS 0 5++[co,bx]++uS 5 5++[zq0]++uS 11 6++rp 6 zq0++uS 17 4++[zq1,zq0,zq1,zq0,zq1]),(tI,[6,24,25,26,27,28,31,32,33,35,37,38,42,43,44],[0,13],rS 48 4++rS 11 4++uS 0 5++rS 15 9++uS 5 5++[zq0,vR 47,zq3,zq3,aW,vR 30,zq3,zq0,zq0,vD 4,bF,zq3]++rS 39 3++wG),(tJ,[6,15,16,17,18,19,22,23,24,25,26,27,28,31,32,33,35,37,38,39,40,41,42,43,44,45,46],[0,13],rS 48 4++rS 11 4++uS 0 5++[ax,co,bx]++uS 5 5++[zq0,zq0,vU 12,zq0,vU 14,bU,vU 16,zq0,zq3,zq0,zq0,zq3,zq0,zq0,vU 18,zq0,dx,vR 47,aW,vR 30,zq3,zq0,zq0,vD 4,bF,zq3,zq1,zq3,zq1,zq3,zq1,zq1,zq1,zq3,zq1,zq3,zq1,zq1]),(tK,[6,11,12,13,14,18,19,20,21,48,49,50,51],[0,1,11],uS 0 5++rS 15 3++[dS,vR 23]++uS 5 5++[zq0,zq0,aw,zq0,aw])] [] (scS Ep (scS Ov (scS Ow (scS Ee (scS Ei (scS Ek sc0)))))) (by decide +kernel)
def Ez:Cn:=((19,kU,pz,3),(some zq0,(pz),[dC,tj,dC,mZ,eJ,rx,BO,(10,3,8,(-1))]),(1,0,0,17))
theorem Oy:CtH Ez:=ctR 62 ag rfl (af _) [] [1,(-1)] sc0 (by decide +kernel)
def MK:List AD:=[ff,aR 67 [11,12],za4,za4,(4,0,[dD,cg,eA,cV]),(64,3,[ck,zq1,zq0]),fy,(4,0,[bQ,fg,dR,cM]),(64,3,[bI,zq1,zq0]),fy]
def ML:List AD:=[za5,(3,0,[au]++rS 2 4++[dt,d5,cZ]++uS 28 3),aR 67 [6,8],aR 68 [7,9],f_,f_]
def EA:List AD:=ML++[za4,aL,za4]++MK
def Q4:Op:=(11,11,4472406533629990549,1)
def Q5:Op:=(2,4591870180066957722,15,0)
def wH:List Op:=[Q4,iu,(5,0,12,0),nb,(5,13,14,0),Q5,(10,11,16,1)]
def wI:List Op:=[El,dC,(5,0,6,0),eJ,rF,rq,(10,5,10,(-1))]
def EB:Cn:=((16,[aK],EA,5),(some (.long 4294967296),(EA),[dC]++wI++[iu]++wH),(2,0,0,37))
def wJ:List Value:=[au,vR 2,vR 5,dt,d5,cZ]
def MM:List Sc:=[(mW,[16,18],[0],[bQ,dR,cM,zq1]),(jJ,[16,18],[0],[bQ,dR,cM,zq3]),(na,[13,14],[0],[cg]++uS 31 3++[zq1]),(mW,[13,15],[0],[dD,eA,cV,zq1]),(jJ,[13,15],[0],[dD,eA,cV,zq3])]
def MN:List Sc:=[(m_,[16,17],[0],[fg]++uS 34 3++[zq0]),(m_,[13,14],[0],[cg]++uS 31 3++[zq0]),(na,[16,17],[0],[fg]++uS 34 3++[zq1])]
theorem Oz:CtH EB:=ctR 468 ag rfl (af _) ((MN++[(jh,[1,2,6],[0],[au]++rS 3 3++[dt,d5,cZ]++uS 28 3++[cW,zq3]),(Ez,[1,3,4,7],[0,1,2],wJ++uS 28 3++[bO,ax]),(oa,[1,2,8],[0],[au]++rS 3 3++[dt,d5,cZ]++uS 28 3++[dB,zq3]),(BQ,[1,3,4,9],[0,3,4],wJ++uS 28 3++[vR 7,ax])])++MM) [] (scS iv (scS iv (scS iw (scS kK (scS Oy (scS rv (scS BR (scS iT (scS e6 (scS iw (scS iT (scS e6 sc0)))))))))))) (by decide +kernel)
def ED:Cn:=((29,[vR 3,zq0,aA],pM,2),(none,(am pM [(0,0,0,[aO,bi,vR 4,vR 5]++uS 2 9++[ax]++uS 11 15),(3,3,0,[au]++uS 26 9++[zq3])]++[ay,eK]),[]),(2,2,4,55))
theorem EE:CtH ED:=ctR 54 ag rfl (af _) vQ [] (scS vM (scS vN (scS vO sc0))) (by decide +kernel)
def tL:Cn:=((30,[au,zq0,zq3,aA],pN,4),(none,(am pN [(6,65,2,[vD 5,vU 7])]),[(2,1,3,0),(1,2,4,0),(4,5,0,0),eJ,nb,rF,(2,4397347889687374747,9,0),(11,6,10,1)]),(1,0,0,21))
theorem EF:CtH tL:=ctR 130 ag rfl (af _) [(tG,[9,10],[0],uS 10 4)] [1] (scS D7 sc0) (by decide +kernel)
def MO:List AD:=[ff,aR 67 [22,23],za4,za4,(4,0,rS 25 4),Mw,fy,fC,(64,2,[ax,cM]),(4,0,rS 30 4),(64,3,[bI,zq1,gm]),fy,fC,f_,(64,2,[bS,zq1])]
def EG:List AD:=wC++([za4,aL,za4]++MO)
def fO:Op:=(3,1,3,0)
def EH:Cn:=((23,[d4,zq0,zq3,zq0],EG,5),(none,(am EG [(0,0,0,rS 35 4++uS 0 9++[ax]++rS 5 5++nd++uS 11 6),(5,64,2,[zq3,vU 18]),(6,64,2,[zq0,dx]),(7,65,2,[vD 3,cX]),(8,64,3,[zq0,zq3,vU 25]),(9,64,3,[zq0,zq3,vU 28]),(10,64,2,[vU 29,zq0]),(11,64,2,[zq0,cV]),(12,3,0,wD),(15,aI [1,1]),(16,aI [0,1]),(17,aI [1,1]),(18,aD [7,2]),(19,aI [1,1]),(20,aD [4,4]),(25,64,3,[ck,zq0,zq1]),(26,aI [(-1),(-1)]),(28,aI [1,(-1)]),(30,64,3,[bI,zq3,zq1]),(32,aI [(-1),(-1)]),(33,aI [(-1),1])]++[za9,aD [4,0],ay,aD [5,0]]),[fO,(2,5,4,0),(1,2,6,0),(4,7,0,0),eJ]++wE),(3,4,8,70))
def MP:Sc:=(ED,[0,3,4,12],[0,5],[vR 35,vR 36]++uS 0 9++rS 5 5++nd++uS 11 6++rS 13 4++[bx,bT,aW,bF,zq3])
def Q6:Sc:=(BV,[12,16,21,23],[0],[au]++rS 13 3++[bT,aW,bF,zq3,zq0,ax,dS])
def Q7:Sc:=(pL,[29,30,31,32,33],[0],[bI,zq1,gm,zq1,zq0,ax])
def MQ:List Sc:=[(Bx,[24,26,27,28],[0],[eV,zq3,zq1,ax,cM]),Q7,Q6,(m7,[29,30,31,32,33],[0],[bI,zq3,zq3,zq1,zq1])]
theorem OA:CtH EH:=ctR 238 ag rfl (af _) ([(oa,[12,13,19],[0],[au]++rS 14 3++[bx,bT,aW,bF,zq0,zq0,bQ,zq3]),(vL,[12,13,14,15,19,20],[0,4],[au,cZ,bx,bT,aW,bF,zq0,zq0,bQ,fg,ax,zq0,vD 3]),(m6,[0,1,2,12],[0,4],[vR 3,vR 4]++uS 0 9++rS 5 5++nd++uS 11 6++rS 13 4++[bx,bT,aW,bF,zq0])]++MQ++[(jh,[12,13,17],[0],[au]++rS 14 3++[bx,bT,aW,bF,zq3,zq0,vR 19,zq3]),(pC,[12,13,14,15,17,18],[0,2],[au,cZ,bx,bT,aW,bF,zq3,zq0,vR 19,co,zq3,zq0,aA]),MP,(tL,[12,13,14,15,16,17,18,19,20,29,33,34],[0,5,2,4],[au,bx,bT,zq3,zq3,ax,zq3,bU,zq3,vD 4]++rS 30 3++[zq1,bS]),(ps,[24,25,26,27,28],[0],[ck,dR,zq1,zq0,zq1])]) [] (scS rv (scS BS (scS lg (scS By (scS kM (scS vT (scS i6 (scS kK (scS tv (scS EE (scS EF (scS kJ sc0)))))))))))) (by decide +kernel)
def EI:List AD:=[qU,vk,rf,(65,2,[aA,vU 11])]
def EJ:Cn:=((19,kU,EI,2),(some zq3,(EI),gl),(1,0,0,17))
theorem OC:CtH EJ:=ctR 45 ag rfl (af _) [] [1,1] sc0 (by decide +kernel)
def EK:List AD:=[za5,lW,n7,n8,rg,iX,(64,2,[zq3,cM]),(65,2,[aA,bI]),(67,2,[gm,bO]),(64,2,[zq0,bS]),(4,0,[vR 11]++uS 39 3),(64,3,[c8,zq0,fD]),(4,0,[d5,dD,cN,bH]),(64,3,[eY,zq3,vU 47]),wm]
def tM:Cn:=((16,[aK],EK,2),(some (.long 1),(EK),gl),(2,0,0,37))
theorem EL:CtH tM:=ctR 139 ag rfl (af _) [(kT,[12,13],[0],[dD]++uS 44 4),Mp,(EJ,[1,3,4,7],[0,1],qY++uS 28 3++[cV,ck,bI]),(jJ,[12,14],[0],[d5,cN,bH,vU 48]),(nW,[10,11],[0],uS 39 5)] [] (scS eZ (scS pJ (scS OC (scS e6 (scS eW sc0))))) (by decide +kernel)
def EM:List AD:=[nO,ri,rh,rf,wq,(65,2,[aA,vU 12])]
def EN:Cn:=((24,jK,EM,2),(none,(am EM [(3,64,2,[zq0,cu])]),[]),(0,0,0,0))
theorem OD:CtH EN:=ctR 36 ag rfl (af _) [] [] sc0 (by decide +kernel)
def EO:List AD:=iU++([(3,0,[au]++rS 9 4++[cg,bQ,dS,bS,zq3,zq3]),rl,rk,rn,BD,(64,2,[zq3,fD]),(65,2,[aA,cN]),(67,2,[bH,cZ]),(64,2,[zq0,eY]),mY,aU 64 47 3,(64,2,[zq1,vU 50]),(64,2,[zq1,vU 51]),(64,2,[zq3,vU 52])]++MC)
def tN:Cn:=((23,[cW,zq3,zq0,zq3],EO,2),(none,(am EO [(1,64,2,[cX,zq0]),(2,64,2,[e7,zq3]),(3,65,2,kW),(4,64,3,og),(5,64,3,[eA,zq3,zq3]),(6,64,2,[zq3,cM]),(7,64,2,[bI,zq3]),(11,64,2,[zq0,dw]),(12,64,2,[c8,zq0]),(18,64,3,[vU 47,zq1,vU 49]),(21,64,2,[zq1,vU 52]),(23,64,3,[vU 53,zq1,f9]),(26,64,2,[vU 58,zq1])]),[]),(1,0,0,15))
theorem EP:CtH tN:=ctR 136 ag rfl (af _) [(pI,[8,9,13],[0],[au]++rS 10 3++[cg,bQ,dS,bS,zq3,zq3,eX,fD]),(EN,[8,9,10,11,13,14],[0,1],[au,d4,cg,bQ,dS,bS,zq3,zq3]++uS 39 3++[fD,cN]),(kV,[17,18,19,20,21],[0],uS 47 6),(hS,[22,23,24,25,26],[0],uS 53 6)] [] (scS pJ (scS OD (scS iY (scS gn sc0)))) (by decide +kernel)
def EQ:List AD:=MD++[(64,2,[zq0,vU 18]),(65,2,[bU,vU 19])]
def tO:Cn:=((31,[au],EQ,3),(none,(am EQ [(0,0,0,rS 9 8++uS 0 5++[ax]++uS 5 3++rS 5 4++uS 8 8),(7,aI [0,0,1]),(8,aI [0,1,1])]++[ay,eK,ay,fF,za4,bM]),[]),(2,6,12,54))
theorem ER:CtH tO:=ctR 324 aB rfl (az _) (ME++[(tp,[8],[0],[zq3])]) [] (scS iZ (scS iZ (scS kY (scS Cw sc0)))) (by decide +kernel)
def MR:List Op:=[(4,18,0,0),(5,21,22,0),(2,4397347889687374747,23,0),(11,20,24,1),(4,19,0,0),(11,25,4472406533629990549,1),(4,19,0,0),(5,0,26,0),(2,4591870180066957722,27,0),(10,25,28,1)]
def MT:List AD:=[aR 67 [34,35],za4,za4,f_,(4,0,rS 38 4),za7,za2,fC,za2,(4,0,rS 43 4),za7,fy,za2,za2,za2,za9]
def ES:Cn:=((8,gp,pO,5),(some zq3,(am pO [(6,0,0,rS 48 8++uS 0 5++[ax]++rS 15 9++uS 5 5++[zq0]),(15,aI [1,0]),(16,aI [0,1]),(17,aD [3,19]),(18,aI [0,1,1]),(19,aI [0,1,1]),(20,aI [0,0,1]),(21,aI [0,1,1]),(22,aI [1,0]),(23,aI [0,1])]++(wF++([za4,ay,bM,aD [19,2],bM,aD [4,4]]++MT++[aD [4,0],ay,aD [17,0],ay,aD [4,0],ay,aD [17,0],za4,bM]))),[dC]++wI++[iu]++wH++[fO,(2,17,4,0),(1,2,18,0),(4,19,0,0),eJ]++MR),(4,34,83,93))
theorem OE:CtH ES:=ctR 65 aB rfl (az _) [MI,(EB,[6,24,25,26,27,28,29,30,31,32,33,34,35,37,38,39,42,43,44],[0,1,2,3,4],rS 7 8++uS 0 5++rS 15 9++uS 5 5++[zq0,vR 47,zq0,zq0,vR 40,vR 41,zq1,vR 45,vR 46,zq1]),(EH,[6,7,8,9,10,15,16,17,18,19,22,23,24,25,26,27,28,29,30,31,32,33,34,35,37,38,39,40,41,42,43,44,45,46,47],[0,1,2,3,4],rS 11 4++uS 0 5++[co,bx]++uS 5 5++[zq0]++uS 11 6++rp 6 zq0++uS 17 4++[zq1,zq0,ax,zq1,zq0,zq1]),(tM,[6,24,25,26,27,28,29,30,33,35,37,38,42,43,44],[0,19],rS 48 4++rS 11 4++uS 0 5++rS 15 9++uS 5 5++[zq0,vR 47,zq3,zq3,ft,fE,zq3,zq0,zq3,bU,bF,zq3]++rS 39 3++wG),(tN,[6,15,16,17,18,19,22,23,24,25,26,27,28,29,30,33,35,37,38,39,40,41,42,43,44,45,46],[0,19],rS 48 4++rS 11 4++uS 0 5++[ax,co,bx]++uS 5 5++[zq0,zq3,vU 12,zq0,vU 14,vD 3,vU 16,zq0,zq3,zq0,zq0,zq3,zq0,vU 17,zq0,zq0,dx,vR 47,ft,fE,zq3,zq0,zq3,bU,bF,zq3,zq1,zq0,zq1,zq1,zq0,zq1,zq1,zq3,zq1,zq3,zq1,zq1]),(tO,[6,11,12,13,14,18,19,20,21,48,49,50,51],[0,4,17],uS 0 5++rS 15 3++[dS,vR 23]++uS 5 5++[zq0,zq0,aw,zq0,aw])] [] (scS DV (scS Oz (scS OA (scS EL (scS EP (scS ER sc0)))))) (by decide +kernel)
def ET:Cn:=((19,kU,pF,3),(some zq0,(pF),[dC,tj,eJ,mZ,dC,rx,BO,(10,3,8,(-1))]),(1,0,0,17))
theorem OF:CtH ET:=ctR 62 ag rfl (af _) [] [1,(-1)] sc0 (by decide +kernel)
def EU:List AD:=ML++[za9,aL,za9]++MK
def EV:Cn:=((16,[aK],EU,5),(some (.long 4294967296),(EU),[eJ]++wI++[nb]++wH),(2,0,0,37))
theorem OG:CtH EV:=ctR 468 ag rfl (af _) ((MN++[(ji,[1,2,6],[0],[au]++rS 3 3++[dt,d5,cZ]++uS 28 3++[cW]),(ET,[1,3,4,7],[0,2,1],wJ++uS 28 3++[bO,ax]),(oi,[1,2,8],[0],[au]++rS 3 3++[dt,d5,cZ]++uS 28 3++[dB]),(B9,[1,3,4,9],[0,4,3],wJ++uS 28 3++[vR 7,ax])])++MM) [] (scS iv (scS iv (scS iw (scS kL (scS OF (scS rD (scS B_ (scS iT (scS e6 (scS iw (scS iT (scS e6 sc0)))))))))))) (by decide +kernel)
def EW:List AD:=wC++([za9,aL,za9]++MO)
def EX:Cn:=((23,[d4,zq0,zq3,zq0],EW,5),(none,(am EW [(0,0,0,rS 35 4++uS 0 9++[ax]++rS 5 5++nd++uS 11 6),(5,64,2,[zq3,vU 18]),(6,64,2,[zq0,dx]),(7,65,2,[vD 4,cX]),(8,64,3,[zq0,zq3,vU 25]),(9,64,3,[zq0,zq3,vU 28]),(10,64,2,[vU 29,zq0]),(11,64,2,[zq0,cV]),(12,3,0,wD),(15,aI [1,1]),(16,aI [0,1]),(18,aD [7,2]),(25,64,3,[ck,zq0,zq1]),(26,aI [(-1),(-1)]),(28,aI [1,(-1)]),(30,64,3,[bI,zq3,zq1]),(32,aI [(-1),(-1)]),(33,aI [(-1),1])]++[za9,aD [3,0],ay,aD [5,0]]),[(3,2,4,0),(2,5,3,0),(1,1,6,0),(4,7,0,0),dC]++wE),(3,4,8,70))
theorem OH:CtH EX:=ctR 238 ag rfl (af _) ([(oi,[12,13,19],[0],[au]++rS 14 3++[bx,bT,aW,bF,zq0,zq0,bQ]),(we,[12,13,14,15,19,20],[0,4],[au,cZ,bx,bT,aW,bF,zq0,zq0,bQ,fg,ax,zq3,vD 3]),(m6,[0,1,2,12],[0,3],[vR 3,vR 4]++uS 0 9++rS 5 5++nd++uS 11 6++rS 13 4++[bx,bT,aW,bF,zq0])]++MQ++[(ji,[12,13,17],[0],[au]++rS 14 3++[bx,bT,aW,bF,zq3,zq0,vR 19]),(pH,[12,13,14,15,17,18],[0,2],[au,cZ,bx,bT,aW,bF,zq3,zq0,vR 19,co,zq3,zq3,aA]),MP,(tL,[12,13,14,15,16,17,18,19,20,29,33,34],[0,5,1,3],[au,bx,bT,zq3,zq3,ax,zq0,bU,zq0,vD 4]++rS 30 3++[zq1,bS]),(ps,[24,25,26,27,28],[0],[ck,dR,zq1,zq0,zq1])]) [] (scS rD (scS Ca (scS lg (scS By (scS kM (scS vT (scS i6 (scS kL (scS tC (scS EE (scS EF (scS kJ sc0)))))))))))) (by decide +kernel)
def EY:Cn:=((8,gp,pP,5),(some zq3,(am pP [(6,0,0,rS 48 8++uS 0 5++[ax]++rS 15 9++uS 5 5++[zq0]),(15,aI [1,0]),(16,aI [0,1]),(17,aD [4,19]),(18,aI [0,1,1]),(19,aI [0,1,1]),(20,aI [0,0,1]),(21,aI [0,1,1]),(22,aI [1,0]),(23,aI [0,1])]++(wF++([za4,ay,za9,aD [19,2],za9,ff]++MT++[aD [3,0],ay,aD [17,0],ay,aD [3,0],ay,aD [17,0],za4,bM]))),[eJ]++wI++[nb]++wH++[(3,2,4,0),(2,17,3,0),(1,1,18,0),(4,19,0,0),dC]++MR),(4,34,83,93))
theorem OI:CtH EY:=ctR 65 aB rfl (az _) [MJ,(EV,[6,24,25,26,27,28,29,30,31,32,33,34,35,37,38,39,42,43,44],[0,1,2,3,4],rS 7 8++uS 0 5++rS 15 9++uS 5 5++[zq0,vR 47,zq0,zq0,vR 40,vR 41,zq1,vR 45,vR 46,zq1]),(EX,[6,7,8,9,10,15,16,17,18,19,22,23,24,25,26,27,28,29,30,31,32,33,34,35,37,38,39,40,41,42,43,44,45,46,47],[0,1,2,3,4],rS 11 4++uS 0 5++[co,bx]++uS 5 5++[zq0]++uS 11 6++rp 6 zq0++uS 17 4++[zq1,zq0,ax,zq1,zq0,zq1]),(tM,[6,24,25,26,27,28,29,30,33,35,37,38,42,43,44],[0,19],rS 48 4++rS 11 4++uS 0 5++rS 15 9++uS 5 5++[zq0,vR 47,zq3,zq3,ft,fE,zq3,zq0,zq0,bU,bF,zq3]++rS 39 3++wG),(tN,[6,15,16,17,18,19,22,23,24,25,26,27,28,29,30,33,35,37,38,39,40,41,42,43,44,45,46],[0,19],rS 48 4++rS 11 4++uS 0 5++[ax,co,bx]++uS 5 5++[zq0,zq3,vU 12,zq0,vU 14,vD 4,vU 16,zq0,zq3,zq0,zq0,zq3,zq0,vU 17,zq0,zq0,dx,vR 47,ft,fE,zq3,zq0,zq0,bU,bF,zq3,zq1,zq0,zq1,zq1,zq0,zq1,zq1,zq3,zq1,zq3,zq1,zq1]),(tO,[6,11,12,13,14,18,19,20,21,48,49,50,51],[0,3,17],uS 0 5++rS 15 3++[dS,vR 23]++uS 5 5++[zq0,zq0,aw,zq0,aw])] [] (scS Ep (scS OG (scS OH (scS EL (scS EP (scS ER sc0)))))) (by decide +kernel)
def EZ:List AD:=[(1,0,rS 1 3++[zq0]),aU 65 0 2,(66,2,[zq0,vU 2]),aU 64 3 16]
def E3:Cn:=((33,kU,EZ,2),(none,(am EZ [(0,1,0,rS 1 3++[zq3]),(1,65,2,[aA,bi]),(2,66,2,[zq3,vU 2]),(3,64,16,[zq0]++uS 4 15)]),[]),(0,0,0,0))
theorem cS:CtH E3:=ctR 34 d3 rfl (dJ _) [] [] sc0 (by decide +kernel)
def E4:List AD:=[(1,0,rS 1 3++[zq3]),aU 65 0 2,(66,2,[vU 2,zq0]),aU 64 3 16]
def E5:Cn:=((33,[au,zq3,aA],E4,2),(none,(am E4 [(0,1,0,rS 1 3++[ax]),(1,65,2,[aO,aA]),(2,66,2,[vU 2,zq3]),(3,64,16,[ct,zq3]++uS 5 14)]),[]),(0,0,0,0))
theorem cT:CtH E5:=ctR 34 d3 rfl (dJ _) [] [] sc0 (by decide +kernel)
def E6:List AD:=[(1,0,uS 0 3++[ax])]
def tP:Cn:=((35,[au],E6,1),(some ax,(E6),[]),(0,0,0,0))
theorem aT:CtH tP:=ctR 4 d3 rfl (dJ _) [] [] sc0 (by decide +kernel)
def E7:List AD:=[(1,0,[aO,bi,aK,vU 2]),(64,16,[zq0]++uS 3 15)]
def tQ:Cn:=((36,[au,zq0],E7,1),(some zq0,(E7),[]),(0,0,0,0))
theorem fI:CtH tQ:=ctR 6 d3 rfl (dJ _) [] [] sc0 (by decide +kernel)
def E8:List AD:=[(1,0,[aO,bi,aK,vU 2]),(64,16,[ct,zq3]++uS 4 14)]
def tR:Cn:=((36,g9,E8,1),(some zq3,(E8),[]),(0,0,0,0))
theorem fJ:CtH tR:=ctR 6 d3 rfl (dJ _) [] [] sc0 (by decide +kernel)
def E9:List AD:=[(1,0,[aK]++uS 0 3),(65,2,[ct,aA])]
def tS:Cn:=((37,g9,E9,2),(some aA,(E9),[]),(0,0,0,0))
theorem em:CtH tS:=ctR 6 d3 rfl (dJ _) [] [] sc0 (by decide +kernel)
def E_:List AD:=[(1,0,[aK]++uS 0 3),(65,2,[aA,ct])]
def tT:Cn:=((37,[au,zq0],E_,2),(some aA,(E_),[]),(0,0,0,0))
theorem en:CtH tT:=ctR 6 d3 rfl (dJ _) [] [] sc0 (by decide +kernel)
def lA:List Value:=[zq0,zq3]
def Q8:AD:=(1,0,[vR 7,vU 79,cW,ax])
def Fa:List AD:=[(64,256,uS 71 4),(65,256,uS 75 4),Q8,aL,(64,16,lA++uS 80 14)]
def pQ:List AD:=[(0,0,uS 0 8++rS 1 5++uS 8 15++[zq0]),aU 64 23 16,aU 65 39 16,(64,17,[zq0]++uS 55 16)]++Fa
def Fb:Cn:=((34,[au,zq0,dB],pQ,3),(none,(am pQ [(0,0,0,uS 0 8++rS 1 5++uS 8 15++[zq3]),(1,64,16,[zq0]++uS 24 15),(2,65,16,[aA]++uS 40 15),(3,64,17,lA++uS 56 15),(4,64,256,[zq3]++uS 72 3),(5,65,256,[bU]++uS 76 3)]),[(12,2,0,1)]),(1,0,0,15))
def yt:Sc:=(tP,[6],[0],[vR 7,vU 79,cW])
def OJ:Sc:=(tT,[6,7],[0,1],[vU 79,cW,ax,bU])
def OK:Sc:=(tS,[6,7],[0,2],[vU 79,cW,ax,aA])
def MU:Sc:=(tR,[6,8],[0],[vR 7,vU 79,ax,zq0]++uS 80 14)
def MV:Sc:=(tQ,[6,8],[0],[vR 7,vU 79,ax,zq3]++uS 80 14)
def Fc:List Sc:=[yt,MV,yt,MU,OK,OK,yt,OJ]
theorem ng:CtH Fb:=ctR 96 aB rfl (az _) Fc [1] (scS aT (scS fI (scS aT (scS fJ (scS em (scS em (scS aT (scS en sc0)))))))) (by decide +kernel)
def Q9:AD:=(1,0,[vR 5,vU 73,dB,ax])
def Fd:List AD:=[Q9,aL,(64,16,lA++uS 74 14)]
def pR:List AD:=[(0,0,uS 0 8++rS 1 3++uS 8 17++[zq0]),aU 64 25 16,aU 65 41 16,(64,17,[zq0]++uS 57 16)]++Fd
def Fe:Cn:=((34,[au,zq0,vR 4],pR,3),(none,(am pR [(0,0,0,uS 0 8++rS 1 3++uS 8 17++[zq3]),(1,64,16,[zq0]++uS 26 15),(2,65,16,[aA]++uS 42 15),(3,64,17,[zq0,zq0]++uS 58 15)]),[(12,2,0,0)]),(1,0,0,15))
def yu:Sc:=(tP,[4],[0],[vR 5,vU 73,dB])
def MW:Sc:=(tR,[4,6],[0],[vR 5,vU 73,ax,zq0]++uS 74 14)
def MX:Sc:=(tQ,[4,6],[0],[vR 5,vU 73,ax,zq3]++uS 74 14)
def MY:Sc:=(tT,[4,5],[0,1],[vU 73,dB,ax,bU])
def MZ:Sc:=(tS,[4,5],[0,2],[vU 73,dB,ax,aA])
def Ff:List Sc:=[yu,MX,yu,MW,MZ,yu,MY]
theorem nh:CtH Fe:=ctR 78 aB rfl (az _) Ff [0] (scS aT (scS fI (scS aT (scS fJ (scS em (scS aT (scS en sc0))))))) (by decide +kernel)
def Fg:Cn:=((34,[au,zq3,dB],pQ,3),(none,(am pQ [(0,0,0,uS 0 8++rS 1 5++uS 8 15++[zq3]),(1,64,16,[zq3]++uS 24 15),(2,65,16,[bU]++uS 40 15),(3,64,17,lA++uS 56 15),(4,64,256,[zq0]++uS 72 3),(5,65,256,[aA]++uS 76 3)]),[(12,1,0,1)]),(1,0,0,15))
def Fh:List Sc:=[yt,MV,OJ,OJ,yt,MU,yt,OK]
theorem ni:CtH Fg:=ctR 96 aB rfl (az _) Fh [1] (scS aT (scS fI (scS en (scS en (scS aT (scS fJ (scS aT (scS em sc0)))))))) (by decide +kernel)
def Fi:Cn:=((34,[au,zq3,vR 4],pR,3),(none,(am pR [(0,0,0,uS 0 8++rS 1 3++uS 8 17++[zq3]),(1,64,16,[zq3]++uS 26 15),(2,65,16,[bU]++uS 42 15),(3,64,17,[zq0,zq0]++uS 58 15)]),[(12,1,0,0)]),(1,0,0,15))
def Fj:List Sc:=[yu,MX,MY,yu,MW,yu,MZ]
theorem nj:CtH Fi:=ctR 78 aB rfl (az _) Fj [0] (scS aT (scS fI (scS en (scS aT (scS fJ (scS aT (scS em sc0))))))) (by decide +kernel)
def Fk:List AD:=[(1,0,[aK,vR 2,aO,bi]),aU 65 2 2,(66,2,[zq3,vU 4])]
def Fm:Cn:=((33,kU,Fk,2),(none,(am Fk [(1,65,2,[aA,ct])]),[]),(0,0,0,0))
theorem dW:CtH Fm:=ctR 12 d3 rfl (dJ _) [] [] sc0 (by decide +kernel)
def Fn:List AD:=[(1,0,[aK,vR 2,aO,bi]),aU 65 2 2,(66,2,[vU 4,zq3])]
def Fo:Cn:=((33,[au,zq3,aA],Fn,2),(none,(am Fn [(1,65,2,[vU 2,aA])]),[]),(0,0,0,0))
theorem dY:CtH Fo:=ctR 12 d3 rfl (dJ _) [] [] sc0 (by decide +kernel)
def M0:List AD:=[(0,0,uS 0 8++rS 1 5++uS 8 15++[zq3]),aU 64 23 16,aU 65 39 16]
def pS:List AD:=M0++[(64,17,[f9,zq3]++uS 56 15)]++Fa
def tU:Cn:=((34,[au,zq0,dB],pS,3),(none,(am pS [(0,0,0,uS 0 8++rS 1 5++uS 8 15++[ax]),(1,64,16,[vU 23,zq0]++uS 25 14),(2,65,16,[eX,aA]++uS 41 14),(3,64,17,[f9,zq3,ax]++uS 57 14),(4,64,256,[vU 71,zq3,vU 73,vU 74]),(5,65,256,[vU 75,bU,vU 77,vU 78])]),[(12,2,0,1)]),(1,0,0,15))
theorem Fp:CtH tU:=ctR 96 aB rfl (az _) Fc [1] (scS aT (scS fI (scS aT (scS fJ (scS em (scS em (scS aT (scS en sc0)))))))) (by decide +kernel)
def M1:List AD:=[(0,0,uS 0 8++rS 1 3++uS 8 17++[zq3]),aU 64 25 16,aU 65 41 16]
def pT:List AD:=M1++([(64,17,[vU 57,zq3]++uS 58 15)]++Fd)
def tV:Cn:=((34,[au,zq0,vR 4],pT,3),(none,(am pT [(0,0,0,uS 0 8++rS 1 3++uS 8 17++[ax]),(1,64,16,[vU 25,zq0]++uS 27 14),(2,65,16,[dw,aA]++uS 43 14),(3,64,17,[vU 57,zq3,zq3]++uS 59 14)]),[(12,2,0,0)]),(1,0,0,15))
theorem Fq:CtH tV:=ctR 78 aB rfl (az _) Ff [0] (scS aT (scS fI (scS aT (scS fJ (scS em (scS aT (scS en sc0))))))) (by decide +kernel)
def tW:Cn:=((34,[au,zq3,dB],pS,3),(none,(am pS [(0,0,0,uS 0 8++rS 1 5++uS 8 15++[ax]),(1,64,16,[vU 23,zq3]++uS 25 14),(2,65,16,[eX,bU]++uS 41 14),(3,64,17,[f9,zq3,ax]++uS 57 14),(4,64,256,[vU 71,zq0,vU 73,vU 74]),(5,65,256,[vU 75,aA,vU 77,vU 78])]),[(12,1,0,1)]),(1,0,0,15))
theorem Ft:CtH tW:=ctR 96 aB rfl (az _) Fh [1] (scS aT (scS fI (scS en (scS en (scS aT (scS fJ (scS aT (scS em sc0)))))))) (by decide +kernel)
def tX:Cn:=((34,[au,zq3,vR 4],pT,3),(none,(am pT [(0,0,0,uS 0 8++rS 1 3++uS 8 17++[ax]),(1,64,16,[vU 25,zq3]++uS 27 14),(2,65,16,[dw,bU]++uS 43 14),(3,64,17,[vU 57,zq3,zq3]++uS 59 14)]),[(12,1,0,0)]),(1,0,0,15))
theorem Fu:CtH tX:=ctR 78 aB rfl (az _) Fj [0] (scS aT (scS fI (scS en (scS aT (scS fJ (scS aT (scS em sc0))))))) (by decide +kernel)
def pU:List AD:=M0++[(64,17,[f9,zq0]++uS 56 15)]++Fa
def tY:Cn:=((34,[au,zq0,dB],pU,3),(none,(am pU [(0,0,0,uS 0 8++rS 1 5++uS 8 15++[ax]),(1,64,16,[vU 23,zq0]++uS 25 14),(2,65,16,[eX,aA]++uS 41 14),(3,64,17,[f9,zq0,zq3]++uS 57 14),(4,64,256,[zq3]++uS 72 3),(5,65,256,[bU]++uS 76 3)]),[(12,2,0,1)]),(1,0,0,15))
theorem Fv:CtH tY:=ctR 96 aB rfl (az _) Fc [1] (scS aT (scS fI (scS aT (scS fJ (scS em (scS em (scS aT (scS en sc0)))))))) (by decide +kernel)
def pV:List AD:=M1++([(64,17,[vU 57,zq0]++uS 58 15)]++Fd)
def tZ:Cn:=((34,[au,zq0,vR 4],pV,3),(none,(am pV [(0,0,0,uS 0 8++rS 1 3++uS 8 17++[ax]),(1,64,16,[vU 25,zq0]++uS 27 14),(2,65,16,[dw,aA]++uS 43 14),(3,64,17,[vU 57,zq0,zq0]++uS 59 14)]),[(12,2,0,0)]),(1,0,0,15))
theorem Fw:CtH tZ:=ctR 78 aB rfl (az _) Ff [0] (scS aT (scS fI (scS aT (scS fJ (scS em (scS aT (scS en sc0))))))) (by decide +kernel)
def t6:Cn:=((34,[au,zq3,dB],pU,3),(none,(am pU [(0,0,0,uS 0 8++rS 1 5++uS 8 15++[ax]),(1,64,16,[vU 23,zq3]++uS 25 14),(2,65,16,[eX,bU]++uS 41 14),(3,64,17,[f9,zq0,zq3]++uS 57 14),(4,64,256,[zq0]++uS 72 3),(5,65,256,[aA]++uS 76 3)]),[(12,1,0,1)]),(1,0,0,15))
theorem Fx:CtH t6:=ctR 96 aB rfl (az _) Fh [1] (scS aT (scS fI (scS en (scS en (scS aT (scS fJ (scS aT (scS em sc0)))))))) (by decide +kernel)
def t7:Cn:=((34,[au,zq3,vR 4],pV,3),(none,(am pV [(0,0,0,uS 0 8++rS 1 3++uS 8 17++[ax]),(1,64,16,[vU 25,zq3]++uS 27 14),(2,65,16,[dw,bU]++uS 43 14),(3,64,17,[vU 57,zq0,zq0]++uS 59 14)]),[(12,1,0,0)]),(1,0,0,15))
theorem Fy:CtH t7:=ctR 78 aB rfl (az _) Fj [0] (scS aT (scS fI (scS en (scS aT (scS fJ (scS aT (scS em sc0))))))) (by decide +kernel)
def Fz:List AD:=[]
def FA:Cn:=((1,[.float 1,ax],Fz,2),(some (.float 1),(Fz),[(15,1,1099511627778,1)]),(0,0,0,0))
theorem OL:CtH FA:=ctR 7 fj rfl (dK _) [] [1] sc0 (by decide +kernel)
def FB:List AD:=[]
def FC:Cn:=((1,[.float 1,ax],FB,2),(some ax,(FB),[(15,1,1099511627778,0)]),(0,0,0,0))
theorem OM:CtH FC:=ctR 6 fj rfl (dK _) [] [0] sc0 (by decide +kernel)
def FD:List AD:=[]
def t8:Cn:=((1,[.float 1,.float 2],FD,3),(some (.float 1),(FD),[(15,1,2,1)]),(0,0,0,0))
theorem FE:CtH t8:=ctR 7 fj rfl (dK _) [] [1] sc0 (by decide +kernel)
def FG:List AD:=[]
def t9:Cn:=((1,[.float 1,.float 2],FG,3),(some (.float 2),(FG),[(15,1,2,0)]),(0,0,0,0))
theorem FH:CtH t9:=ctR 6 fj rfl (dK _) [] [0] sc0 (by decide +kernel)
section Fix
open Jvm.FP Jvm.FP.Core Jvm.Free.Fl
def shd (k:Int):Datum→Datum
 | .fin s c q => .fin s c (q+k)
 | .nan => .nan
 | .inf s => .inf s
def ah (i:Int)(k:Nat)(a:UInt64):Prop:=Whole i (shd (k:Int) (val64 a))
theorem bG {i:Int}{k:Nat}{d:Datum}(h:Whole i (shd k d)):∃s c q,d = .fin s c q:=by
 cases d with
 | nan=>exact h.elim
 | inf=>exact h.elim
 | fin s c q=>exact⟨s,c,q,rfl⟩
theorem aj {i:Int}{k:Nat}{a:UInt64}(h:ah i k a):NoNaN64 a:=by
 obtain⟨s,c,q,e⟩:=bG h
 exact noNaN64_no.mpr ((notNaN_iff a).mpr (by rw[e];intro q;cases q))
theorem If {i:Int}{s:Bool}(h:s=decide (i<0)):signed s i.natAbs=i:=by
 subst h
 unfold signed
 by_cases hn:i<0<;>simp [hn]<;>omega
theorem ol {i:Int}{k:Nat}{s:Bool}(h0:i≠0)(hi:i.natAbs≤2 ^ 53)(hk:k≤1000)(hs:s=decide (i<0)):Whole i (shd k (roundRatio b64 s i.natAbs 1 (-(k:Int)))):=by
 obtain⟨c',q',hfit,hv⟩:=natFit good_b64 wide_b64 s (n:=i.natAbs) hi
 obtain⟨f1,f2,f3,f4⟩:=hfit
 have hp:b64.p=53:=by decide
 have hmin:b64.qmin=-1074:=by decide
 have hq:-52≤q':=by
  refine Int.le_of_not_gt fun hlt=>?_
  rw[show (q'-0).toNat=0 by omega,Nat.pow_zero,Nat.mul_one,Nat.mul_one] at hv
  have h53:2 ^ 53≤2 ^ (0-q').toNat:=Nat.pow_le_pow_right (by decide) (by omega)
  have:1*2 ^ (0-q').toNat≤i.natAbs*2 ^ (0-q').toNat:=Nat.mul_le_mul_right _ (by omega)
  rw[hp] at f1
  omega
 have hfit2:Core.fits b64 (.fin s c' (q'-k)):=⟨f1,by rw[hmin];omega,by omega,f4.elim (fun q=>by rw[hmin] at q;omega) Or.inr⟩
 rw[roundRatio_exact good_b64 (by decide) hfit2 (by rw[show -(k:Int)-(q'-k)=0-q' by omega,show q'-k - -(k:Int)=q'-0 by omega];exact hv)]
 show signed s (c'*2 ^ (q'-k+k).toNat)=i*((2 ^ (-(q'-k+k)).toNat:Nat):Int)
 rw[show q'-k+k=q' by omega]
 rw[show (0-q').toNat=(-q').toNat by omega,show (q'-0).toNat=q'.toNat by omega,Nat.mul_one] at hv
 rw[←hv,signed_mul,If hs]
theorem jM {i:Int}{k:Nat}{d:Datum}(hi:i.natAbs≤2 ^ 53)(hk:k≤1000)(h:Whole i (shd k d)):Whole i (shd k (round b64 d)):=by
 obtain⟨s,c,q,rfl⟩:=bG h
 have h':Whole i (.fin s c (q+k)):=h
 by_cases h0:i=0
 ·subst h0
  have hc:c=0:=(whole_zero h').mpr rfl
  subst hc
  show Whole 0 (shd k (roundRatio b64 s 0 1 q))
  unfold roundRatio
  rw[if_pos rfl]
  show signed s (0*_)=0*_
  rw[Nat.zero_mul,Int.zero_mul,signed_zero]
 ·have hn:=whole_natAbs h'
  have e1:round b64 (.fin s c q)=roundRatio b64 s i.natAbs 1 (-(k:Int)):=by
   refine roundRatio_congr (by decide) (by decide) ?_
   rw[show q - -(k:Int)=q+k by omega,show -(k:Int)-q=-(q+k) by omega,Nat.mul_one,Nat.mul_one]
   exact hn
  rw[e1]
  exact ol h0 hi hk (whole_sign h' h0)
theorem jj {i j:Int}{k:Nat}{a b:UInt64}(ha:ah i k a)(hb:ah j k b)(h:(i+j).natAbs≤2 ^ 53)(hk:k≤1000):ah (i+j) k (FP.dadd a b):=by
 show Whole _ (shd k (val64 (Core.dadd a b)))
 rw[val64_dadd]
 refine jM h hk ?_
 obtain⟨s,c,q,ea⟩:=bG ha
 obtain⟨t,d,r,eb⟩:=bG hb
 have ha':Whole i (.fin s c (q+k)):=by have:=ha;unfold ah at this;rw[ea] at this;exact this
 have hb':Whole j (.fin t d (r+k)):=by have:=hb;unfold ah at this;rw[eb] at this;exact this
 rw[ea,eb]
 have e:shd k (exactSum (.fin s c q) (.fin t d r))=exactSum (.fin s c (q+k)) (.fin t d (r+k)):=by
  simp only[exactSum,shd]
  have e0:min (q+(k:Int)) (r+k)=min q r+k:=by omega
  have e1:sumUnits s c (q+k) t d (r+k) (min q r+k)=sumUnits s c q t d r (min q r):=by
   unfold sumUnits inUnits
   rw[show q+(k:Int)-(min q r+k)=q-min q r by omega,show r+(k:Int)-(min q r+k)=r-min q r by omega]
  rw[e0,e1]
 rw[e]
 exact whole_sum ha' hb'
theorem t_ {i:Int}{k:Nat}{a:UInt64}(ha:ah i k a):Whole (-i) (shd k (negate (val64 a))):=by
 obtain⟨s,c,q,ea⟩:=bG ha
 have ha':Whole i (.fin s c (q+k)):=by have:=ha;unfold ah at this;rw[ea] at this;exact this
 rw[ea]
 exact whole_negate ha'
theorem gX {i j:Int}{k:Nat}{a b:UInt64}(ha:ah i k a)(hb:ah j k b)(h:(i-j).natAbs≤2 ^ 53)(hk:k≤1000):ah (i-j) k (FP.dsub a b):=by
 have hb2:ah (-j) k (Core.dneg b):=by
  show Whole _ (shd k (val64 (Core.dneg b)))
  rw[Core.val64_dneg];exact t_ hb
 have:=jj ha hb2 (by rw[←Int.sub_eq_add_neg];exact h) hk
 rw[←Int.sub_eq_add_neg] at this
 show ah (i-j) k (Core.dsub a b)
 rw[dsub_eq];exact this
theorem dF {i j:Int}{k l:Nat}{a b:UInt64}(ha:ah i k a)(hb:ah j l b)(h:(i*j).natAbs≤2 ^ 53)(hk:k+l≤1000):ah (i*j) (k+l) (FP.dmul a b):=by
 show Whole _ (shd _ (val64 (Core.dmul a b)))
 rw[val64_dmul]
 refine jM h hk ?_
 obtain⟨s,c,q,ea⟩:=bG ha
 obtain⟨t,d,r,eb⟩:=bG hb
 have ha':Whole i (.fin s c (q+k)):=by have:=ha;unfold ah at this;rw[ea] at this;exact this
 have hb':Whole j (.fin t d (r+l)):=by have:=hb;unfold ah at this;rw[eb] at this;exact this
 rw[ea,eb]
 have e:shd ((k+l:Nat):Int) (exactProduct (.fin s c q) (.fin t d r))=exactProduct (.fin s c (q+k)) (.fin t d (r+l)):=by
  simp only[exactProduct,shd]
  rw[show q+r+((k+l:Nat):Int)=q+k+(r+l) by omega]
 rw[e]
 exact whole_product ha' hb'
theorem nk {i j:Int}{k:Nat}{a b:UInt64}(ha:ah i k a)(hb:ah j k b):FP.dcmp a b=some (compare i j):=by
 obtain⟨s,c,q,ea⟩:=bG ha
 obtain⟨t,d,r,eb⟩:=bG hb
 have ha':Whole i (.fin s c (q+k)):=by have:=ha;unfold ah at this;rw[ea] at this;exact this
 have hb':Whole j (.fin t d (r+k)):=by have:=hb;unfold ah at this;rw[eb] at this;exact this
 show order (val64 a) (val64 b)=_
 rw[ea,eb,←order_whole ha' hb']
 simp only[order]
 have e0:min (q+(k:Int)) (r+k)=min q r+k:=by omega
 unfold inUnits
 rw[e0,show q+(k:Int)-(min q r+k)=q-min q r by omega,show r+(k:Int)-(min q r+k)=r-min q r by omega]
theorem lB {i:Int}{k:Nat}{a:UInt64}(ha:ah i k a)(m:Nat):ah (i*((2 ^ m:Nat):Int)) (k+m) a:=by
 obtain⟨s,c,q,ea⟩:=bG ha
 have h:signed s (c*2 ^ (q+k).toNat)=i*((2 ^ (-(q+(k:Int))).toNat:Nat):Int):=by have:=ha;unfold ah at this;rw[ea] at this;exact this
 show Whole _ (shd _ (val64 a))
 rw[ea]
 show signed s (c*2 ^ (q+((k+m:Nat):Int)).toNat)=i*((2 ^ m:Nat):Int)*((2 ^ (-(q+((k+m:Nat):Int))).toNat:Nat):Int)
 have p2:((2 ^ (-(q+(k:Int))).toNat:Nat):Int)≠0:=by have:=Nat.two_pow_pos (-(q+(k:Int))).toNat;omega
 refine Int.eq_of_mul_eq_mul_right p2 ?_
 rw[←signed_mul,Nat.mul_assoc,←Nat.pow_add]
 rw[show (q+((k+m:Nat):Int)).toNat+(-(q+(k:Int))).toNat=(q+k).toNat+(m+(-(q+((k+m:Nat):Int))).toNat) by omega]
 rw[Nat.pow_add,←Nat.mul_assoc,signed_mul,h,Nat.pow_add]
 rw[Int.natCast_mul]
 simp only[Int.mul_assoc]
 rw[Int.mul_comm ((2 ^ (-(q+(k:Int))).toNat:Nat):Int),Int.mul_assoc]
theorem ak {i:Int}{a:UInt64}:ah i 0 a↔DInt i a:=by
 have e:shd ((0:Nat):Int) (val64 a)=val64 a:=by
  cases val64 a with
  | nan=>rfl
  | inf=>rfl
  | fin s c q=>show Datum.fin s c (q+((0:Nat):Int))=_;rw[show q+((0:Nat):Int)=q by omega]
 unfold ah DInt
 rw[e]
theorem ua {i:Int}{a:UInt64}(h:DInt i a)(m:Nat):ah (i*((2 ^ m:Nat):Int)) m a:=by
 have:=lB (ak.mpr h) m
 rwa [Nat.zero_add] at this
theorem gY {i j t:Int}{k l M:Nat}{a b:UInt64}(ha:ah i k a)(hb:ah j l b)(hj:j≠0)(ht:i*((2 ^ (l+M):Nat):Int)=t*j*((2 ^ k:Nat):Int))(h:t.natAbs≤2 ^ 53)(hM:M≤1000):ah t M (FP.ddiv a b):=by
 show Whole _ (shd _ (val64 (Core.ddiv a b)))
 rw[val64_ddiv]
 obtain⟨s,c,q,ea⟩:=bG ha
 obtain⟨u,d,r,eb⟩:=bG hb
 have ha':Whole i (.fin s c (q+k)):=by have:=ha;unfold ah at this;rw[ea] at this;exact this
 have hb':Whole j (.fin u d (r+l)):=by have:=hb;unfold ah at this;rw[eb] at this;exact this
 have hd:d≠0:=fun q=>hj ((whole_zero hb').mp q)
 have p1:(0:Int)<((2 ^ (l+M):Nat):Int):=by have:=Nat.two_pow_pos (l+M);omega
 have p2:(0:Int)<((2 ^ k:Nat):Int):=by have:=Nat.two_pow_pos k;omega
 rw[ea,eb]
 show Whole t (shd M (if d=0 then _ else roundRatio b64 (s != u) c d (q-r)))
 rw[if_neg hd]
 by_cases h0:t=0
 ·subst h0
  have hi0:i=0:=by
   rw[Int.zero_mul,Int.zero_mul] at ht
   rcases Int.mul_eq_zero.mp ht with q|q
   ·exact q
   ·omega
  have hc:c=0:=(whole_zero ha').mpr hi0
  subst hc
  unfold roundRatio
  rw[if_pos rfl]
  show signed _ (0*_)=0*_
  rw[Nat.zero_mul,Int.zero_mul,signed_zero]
 ·have hi0:i≠0:=by
   intro q;subst q
   rw[Int.zero_mul] at ht
   rcases Int.mul_eq_zero.mp ht.symm with q|q
   ·rcases Int.mul_eq_zero.mp q with q|q
    ·exact h0 q
    ·exact hj q
   ·omega
  have hsg:(s != u)=decide (t<0):=by
   rw[whole_sign ha' hi0,whole_sign hb' hj]
   have m1:i<0↔t*j<0:=by
    constructor
    ·intro q
     refine Int.lt_of_not_ge fun g=>?_
     have a1:=Int.mul_nonneg g (Int.le_of_lt p2)
     have a2:=Int.mul_neg_of_neg_of_pos q p1
     omega
    ·intro q
     refine Int.lt_of_not_ge fun g=>?_
     have a1:=Int.mul_nonneg g (Int.le_of_lt p1)
     have a2:=Int.mul_neg_of_neg_of_pos q p2
     omega
   have m2:decide (i<0)=decide (t*j<0):=decide_eq_decide.mpr m1
   rw[m2]
   rcases Int.lt_or_gt_of_ne hj with g|g
   ·rcases Int.lt_or_gt_of_ne h0 with f|f
    ·have:=Int.mul_pos_of_neg_of_neg f g
     simp [f,g,show ¬t*j<0 by omega]
    ·have:=Int.mul_neg_of_pos_of_neg f g
     simp [g,show ¬t<0 by omega,this]
   ·rcases Int.lt_or_gt_of_ne h0 with f|f
    ·have:=Int.mul_neg_of_neg_of_pos f g
     simp [f,this,show ¬j<0 by omega]
    ·have:=Int.mul_pos f g
     simp [show ¬t<0 by omega,show ¬j<0 by omega,show ¬t*j<0 by omega]
  have hn1:=whole_natAbs ha'
  have hn2:=whole_natAbs hb'
  have hn3:i.natAbs*2 ^ (l+M)=t.natAbs*j.natAbs*2 ^ k:=by
   have:=congrArg Int.natAbs ht
   rw[Int.natAbs_mul,Int.natAbs_mul,Int.natAbs_mul,Int.natAbs_natCast,Int.natAbs_natCast] at this
   exact this
  have hjp:0<j.natAbs:=by omega
  have key:c*1*2 ^ (q-r - -(M:Int)).toNat=t.natAbs*d*2 ^ (-(M:Int)-(q-r)).toNat:=by
   have hF:0<j.natAbs*2 ^ (-(r+(l:Int))).toNat*2 ^ (q+(k:Int)).toNat*2 ^ k:=Nat.mul_pos (Nat.mul_pos (Nat.mul_pos hjp (Nat.two_pow_pos _)) (Nat.two_pow_pos _)) (Nat.two_pow_pos _)
   refine Nat.eq_of_mul_eq_mul_right hF ?_
   have hex:(-(q+(k:Int))).toNat+(q-r - -(M:Int)).toNat+(r+(l:Int)).toNat+k=(-(M:Int)-(q-r)).toNat+(-(r+(l:Int))).toNat+(q+(k:Int)).toNat+(l+M):=by omega
   have L:c*1*2 ^ (q-r - -(M:Int)).toNat*(j.natAbs*2 ^ (-(r+(l:Int))).toNat*2 ^ (q+(k:Int)).toNat*2 ^ k)=i.natAbs*d*2 ^ ((-(q+(k:Int))).toNat+(q-r - -(M:Int)).toNat+(r+(l:Int)).toNat+k):=by
    calc c*1*2 ^ (q-r - -(M:Int)).toNat*(j.natAbs*2 ^ (-(r+(l:Int))).toNat*2 ^ (q+(k:Int)).toNat*2 ^ k)=(c*2 ^ (q+(k:Int)).toNat)*(j.natAbs*2 ^ (-(r+(l:Int))).toNat)*2 ^ (q-r - -(M:Int)).toNat*2 ^ k:=by rw[Nat.mul_one];ac_rfl
     _=(i.natAbs*2 ^ (-(q+(k:Int))).toNat)*(d*2 ^ (r+(l:Int)).toNat)*2 ^ (q-r - -(M:Int)).toNat*2 ^ k:=by rw[hn1,hn2]
     _=_:=by simp only[Nat.pow_add];ac_rfl
   have Rr:t.natAbs*d*2 ^ (-(M:Int)-(q-r)).toNat*(j.natAbs*2 ^ (-(r+(l:Int))).toNat*2 ^ (q+(k:Int)).toNat*2 ^ k)=i.natAbs*d*2 ^ ((-(M:Int)-(q-r)).toNat+(-(r+(l:Int))).toNat+(q+(k:Int)).toNat+(l+M)):=by
    calc t.natAbs*d*2 ^ (-(M:Int)-(q-r)).toNat*(j.natAbs*2 ^ (-(r+(l:Int))).toNat*2 ^ (q+(k:Int)).toNat*2 ^ k)=(t.natAbs*j.natAbs*2 ^ k)*(d*2 ^ (-(M:Int)-(q-r)).toNat*2 ^ (-(r+(l:Int))).toNat*2 ^ (q+(k:Int)).toNat):=by ac_rfl
     _=(i.natAbs*2 ^ (l+M))*(d*2 ^ (-(M:Int)-(q-r)).toNat*2 ^ (-(r+(l:Int))).toNat*2 ^ (q+(k:Int)).toNat):=by rw[hn3]
     _=_:=by simp only[Nat.pow_add];ac_rfl
   rw[L,Rr,hex]
  rw[roundRatio_congr (A':=t.natAbs) (B':=1) (e':=-(M:Int)) (by omega) (by decide) (by simpa using key)]
  exact ol h0 h hM hsg
end Fix
theorem cp {i:Int}(h:-9007199254740992≤i∧i≤9007199254740992):i.natAbs≤2 ^ 53:=by
 have:(2:Nat) ^ 53=9007199254740992:=by decide
 omega
def zI (n:Nat)(l:List Value):List Value:=l++List.replicate (n-l.length) (.int 0)
def zD (n:Nat)(l:List Value):List Value:=l++List.replicate (n-l.length) (.double 0)
theorem ON {i:Int}{k:Nat}{x:UInt64}(h:ah i k x):(i=0∧(cmpValue (FP.dcmp x 0) .l).toInt=0)∨(i≠0∧(cmpValue (FP.dcmp x 0) .l).toInt≠0):=by
 have h0:ah 0 k 0:=by have:=ua x9 k;rwa [Int.zero_mul] at this
 have hc:=nk h h0
 have Q:=qi i 0 .l
 rw[hc]
 have C:i<0∨i=0∨0<i:=by omega
 rcases C with C|C|C
 ·have:=Q.1 C;exact Or.inr ⟨by omega,by omega⟩
 ·have:=Q.2.1 C;exact Or.inl ⟨C,by omega⟩
 ·have:=Q.2.2 C;exact Or.inr ⟨by omega,by omega⟩
def ac (l:List UInt64):Nat→UInt64:=fun i=>l.getD i 0
theorem YgF.congr {Z:State}{n0:Nat}{h:Heap}{A:Nat→Addr}{K:Nat→ClassId}{D D':Nat→UInt64}{W W':Nat→Value}{ds ds':List AD}(Y:YgF Z n0 h A K D W ds)(e:ds'.map (fun d=>(d.1,d.2.1,d.2.2.map (den A D' W')))=ds.map (fun d=>(d.1,d.2.1,d.2.2.map (den A D W)))):YgF Z n0 h A K D' W' ds':=by
 have hl:ds'.length=ds.length:=by simpa using congrArg List.length e
 refine⟨fun i d' hi=>?_,fun i j hi hj q=>Y.2 i j (by omega) (by omega) q⟩
 have e1:(ds'.map (fun d=>(d.1,d.2.1,d.2.2.map (den A D' W'))))[i]? = some (d'.1,d'.2.1,d'.2.2.map (den A D' W')):=by rw[List.getElem?_map,hi];rfl
 rw[e,List.getElem?_map] at e1
 cases e2:ds[i]? with
 | none=>rw[e2] at e1;cases e1
 | some d =>
  rw[e2] at e1
  have e3:(d.1,d.2.1,d.2.2.map (den A D W))=(d'.1,d'.2.1,d'.2.2.map (den A D' W')):=Option.some.inj e1
  simp only[Prod.mk.injEq] at e3
  exact⟨(Y.1 i d e2).1,HdF.congr (d:=d) e3.1.symm e3.2.1.symm e3.2.2.symm (Y.1 i d e2).2⟩
theorem goE {p:Program}{e:Env}{below:List Frame}{Ev:State→Outcome→Prop}{T:State}{F F':JFrame}(G:Go p e below Ev T F')(h:F'=F):Go p e below Ev T F:=by
 subst h
 exact G
section OwnYf
variable {Z:State}{n0:Nat}{h h':Heap}{A A':Nat→Addr}{K K':Nat→ClassId}{D:Nat→UInt64}{W:Nat→Value}{ds:List AD}
abbrev OB:=Addr×ClassId×Nat×Nat×List Value
def aP (l:List Addr):Nat→Addr:=fun i=>l.getD i 0
def aQ (l:List ClassId):Nat→ClassId:=fun i=>l.getD i 0
def rG (l:List Value):Nat→Value:=fun i=>l.getD i .null
theorem FI (vs:List Value):(uS 0 vs.length).map (den A D (fun k=>vs.getD k .null))=vs:=by
 unfold uS
 rw[List.map_map]
 refine List.ext_getElem (by simp) fun i h1 h2=>?_
 simp only[List.getElem_map,List.getElem_range,Function.comp,den,Nat.zero_add]
 rw[List.getD_eq_getElem?_getD,List.getElem?_eq_getElem h2]
 rfl
def HO (Z:State)(h:Heap)(o:OB):Prop:=HdF Z h o.1 o.2.1 (fun _=>0) (fun _=>0) (fun k=>o.2.2.2.2.getD k .null) (o.2.2.1,o.2.2.2.1,uS 0 o.2.2.2.2.length)
theorem HO.of {a:Addr}{k:ClassId}{d:AD}(H:HdF Z h a k A D W d):HO Z h (a,k,d.1,d.2.1,d.2.2.map (den A D W)):=HdF.congr (d:=d) rfl rfl (FI _) H
theorem HO.to {o:OB}{d:AD}(H:HO Z h o)(h1:d.1=o.2.2.1)(h2:d.2.1=o.2.2.2.1)(e:d.2.2.map (den A D W)=o.2.2.2.2):HdF Z h o.1 o.2.1 A D W d:=HdF.congr (d:=(o.2.2.1,o.2.2.2.1,uS 0 o.2.2.2.2.length)) h1 h2 (e.trans (FI _).symm) H
def Yf (Z:State)(n0:Nat)(h:Heap)(os:List OB):Prop:=(∀(i:Nat)(o:OB),os[i]? = some o→n0≤o.1∧HO Z h o)∧∀(i j:Nat)(o o':OB),os[i]? = some o→os[j]? = some o'→o.1=o'.1→i=j
def an (A:Nat→Addr)(K:Nat→ClassId)(D:Nat→UInt64)(W:Nat→Value):Nat→List AD→List OB
 | _,[]=>[]
 | i,d::t=>(A i,K i,d.1,d.2.1,d.2.2.map (den A D W))::an A K D W (i+1) t
theorem l7:∀(ds:List AD)(i j:Nat),(an A K D W i ds)[j]? = (ds[j]?).map fun d=>(A (i+j),K (i+j),d.1,d.2.1,d.2.2.map (den A D W))
 | [],i,j=>by simp [an]
 | d::t,i,0=>by simp [an]
 | d::t,i,j+1=>by
  show (an A K D W (i+1) t)[j]? = _
  rw[l7 t (i+1) j,show i+1+j=i+(j+1) by omega]
  rfl
theorem eM {j:Nat}{d:AD}(e:ds[j]? = some d):(an A K D W 0 ds)[j]? = some (A j,K j,d.1,d.2.1,d.2.2.map (den A D W)):=by
 rw[l7,e,Nat.zero_add]
 rfl
theorem jN {j:Nat}{o:OB}(e:(an A K D W 0 ds)[j]? = some o):∃d,ds[j]? = some d∧o=(A j,K j,d.1,d.2.1,d.2.2.map (den A D W)):=by
 cases e1:ds[j]? with
 | none=>rw[l7,e1] at e;cases e
 | some d=>rw[eM e1] at e;exact⟨d,rfl,(Option.some.inj e).symm⟩
theorem YgF.fl (Y:YgF Z n0 h A K D W ds):Yf Z n0 h (an A K D W 0 ds):=by
 refine⟨fun i o hi=>?_,fun i j o o' hi hj q=>?_⟩
 ·obtain⟨d,e,rfl⟩:=jN hi
  exact⟨(Y.1 i d e).1,HO.of (Y.1 i d e).2⟩
 ·obtain⟨d,e,rfl⟩:=jN hi
  obtain⟨d',e',rfl⟩:=jN hj
  exact Y.2 i j (List.getElem?_eq_some_iff.mp e).1 (List.getElem?_eq_some_iff.mp e').1 q
theorem Yf.to {os:List OB}(Y:Yf Z n0 h os)(e:an A K D W 0 ds=os):YgF Z n0 h A K D W ds:=by
 subst e
 refine⟨fun i d hi=>?_,fun i j hi hj q=>?_⟩
 ·have y:=Y.1 i _ (eM hi)
  exact⟨y.1,HO.to y.2 rfl rfl rfl⟩
 ·exact Y.2 i j _ _ (eM (List.getElem?_eq_getElem hi)) (eM (List.getElem?_eq_getElem hj)) q
theorem Yf.pick {os os':List OB}(Y:Yf Z n0 h os)(J:List Nat)(hJ:J.Nodup)(e:J.map (fun j=>os[j]?)=os'.map some):Yf Z n0 h os':=by
 have key:∀(i:Nat) (o:OB),os'[i]? = some o→∃j,J[i]? = some j∧os[j]? = some o:=by
  intro i o hi
  have e1:(os'.map some)[i]? = some (some o):=by rw[List.getElem?_map,hi];rfl
  rw[←e,List.getElem?_map] at e1
  cases e2:J[i]? with
  | none=>rw[e2] at e1;cases e1
  | some j=>rw[e2] at e1;exact⟨j,rfl,Option.some.inj e1⟩
 refine⟨fun i o hi=>?_,fun i j o o' hi hj q=>?_⟩
 ·obtain⟨j,-,hj⟩:=key i o hi
  exact Y.1 j o hj
 ·obtain⟨x,hx,ex⟩:=key i o hi
  obtain⟨y,hy,ey⟩:=key j o' hj
  have exy:=Y.2 x y o o' ex ey q
  obtain⟨l1,g1⟩:=List.getElem?_eq_some_iff.mp hx
  obtain⟨l2,g2⟩:=List.getElem?_eq_some_iff.mp hy
  exact (List.getElem_inj hJ).mp (g1.trans (exy.trans g2.symm))
theorem Yf.join {os1 os2 os1':List OB}(Y:Yf Z n0 h (os1++os2))(Y':Yf Z n0 h' os1')(hK:Keep h h' (os1.map (·.1)))(hs:∀o∈os1',o.1∈os1.map (·.1)∨h.size≤o.1):Yf Z n0 h' (os1'++os2):=by
 have k2:∀(i:Nat) (o:OB),os2[i]? = some o→(os1++os2)[os1.length+i]? = some o:=fun i o hi=>by
  rw[List.getElem?_append_right (by omega),Nat.add_sub_cancel_left]
  exact hi
 have nm:∀(i:Nat) (o:OB),os2[i]? = some o→o.1 ∉ os1.map (·.1):=fun i o hi hm=>by
  obtain⟨o1,h1,e1⟩:=List.mem_map.mp hm
  obtain⟨j,hj⟩:=List.mem_iff_getElem?.mp h1
  have hl:j<os1.length:=(List.getElem?_eq_some_iff.mp hj).1
  have:=Y.2 j (os1.length+i) o1 o (by rw[List.getElem?_append_left hl];exact hj) (k2 i o hi) e1
  omega
 have lt2:∀(i:Nat) (o:OB),os2[i]? = some o→o.1<h.size:=fun i o hi=>HdF.lt (Y.1 _ o (k2 i o hi)).2
 have cr:∀(i j:Nat) (o o':OB),os1'[i]? = some o→os2[j]? = some o'→o.1=o'.1→False:=fun i j o o' hi hj q=>by
  rcases hs o (List.mem_of_getElem? hi) with z|z
  ·rw[q] at z
   exact nm j o' hj z
  ·have:=lt2 j o' hj
   rw[←q] at this
   exact absurd this (Nat.not_lt.mpr z)
 refine⟨fun i o hi=>?_,fun i j o o' hi hj q=>?_⟩
 ·by_cases c:i<os1'.length
  ·rw[List.getElem?_append_left c] at hi
   exact Y'.1 i o hi
  ·rw[List.getElem?_append_right (by omega)] at hi
   have y:=Y.1 _ o (k2 _ o hi)
   exact⟨y.1,HdF.keep y.2 hK (nm _ o hi)⟩
 ·by_cases c:i<os1'.length<;>by_cases c':j<os1'.length
  ·rw[List.getElem?_append_left c] at hi
   rw[List.getElem?_append_left c'] at hj
   exact Y'.2 i j o o' hi hj q
  ·rw[List.getElem?_append_left c] at hi
   rw[List.getElem?_append_right (by omega)] at hj
   exact (cr _ _ _ _ hi hj q).elim
  ·rw[List.getElem?_append_right (by omega)] at hi
   rw[List.getElem?_append_left c'] at hj
   exact (cr _ _ _ _ hj hi q.symm).elim
  ·rw[List.getElem?_append_right (by omega)] at hi hj
   have:=Y.2 _ _ o o' (k2 _ o hi) (k2 _ o' hj) q
   omega
theorem YgF.bare (Y:YgF Z n0 h A K D W ds)(i:Nat){c z:Nat}{vs:List Value}(e:ds[i]? = some (c,z,vs))(hc:c<64):YgF Z n0 h A K D W (ds.set i (c,z,[])):=by
 refine⟨fun j d hj=>?_,fun x y hx hy q=>Y.2 x y (by simpa using hx) (by simpa using hy) q⟩
 by_cases q:i=j
 ·subst q
  have hl:i<ds.length:=(List.getElem?_eq_some_iff.mp e).1
  rw[List.getElem?_set_self hl] at hj
  cases hj
  have H:=(Y.1 i _ e).2
  refine⟨(Y.1 i _ e).1,?_⟩
  unfold HdF at H ⊢
  rw[if_pos hc] at H ⊢
  exact⟨H.1,fun j v f hj _=>by cases hj⟩
 ·rw[List.getElem?_set_ne q] at hj
  exact Y.1 j d hj
theorem FJ {hM:Heap}{ws:List Addr}{n n':Nat}(K1:Keep hM h ws)(hf:∀i,i<n→A i∈ws∨hM.size≤A i)(K2:Keep h h' ((List.range n).map A))(hA:∀i,i<n→A' i=A i∧K' i=K i)(hn:∀i,n≤i→i<n'→h.size≤A' i):Keep hM h' ws∧∀i,i<n'→A' i∈ws∨hM.size≤A' i:=by
 refine⟨K1.trans K2 fun x hx=>?_,fun i hi=>?_⟩
 ·obtain⟨i,hi,rfl⟩:=List.mem_map.mp hx
  exact hf i (List.mem_range.mp hi)
 ·by_cases q:i<n
  ·rw[(hA i q).1]
   exact hf i q
  ·exact Or.inr (Nat.le_trans K1.1 (hn i (by omega) hi))
theorem aq {i:Int}{k:Nat}{x z:UInt64}(h:ah i k x)(hz:z=0):(i=0∧(cmpValue (FP.dcmp x z) .l).toInt=0)∨(i≠0∧(cmpValue (FP.dcmp x z) .l).toInt≠0):=by
 subst hz
 exact ON h
end OwnYf
theorem HdF.obj {Z:State}{h:Heap}{a:Addr}{k:ClassId}{A:Nat→Addr}{D:Nat→UInt64}{W:Nat→Value}{d:AD}(H:HdF Z h a k A D W d)(q:d.1<64):Exa Z h a (cI d.1):=by
 unfold HdF at H
 rw[if_pos q] at H
 exact H.1
theorem YgF.nil {Z:State}{n0:Nat}{h:Heap}{A:Nat→Addr}{K:Nat→ClassId}{D:Nat→UInt64}{W:Nat→Value}:YgF Z n0 h A K D W []:=⟨fun i d q=>by simp at q,fun i j q=>absurd q (Nat.not_lt_zero _)⟩
theorem wK {A:Nat→Addr}{K:Nat→ClassId}{D:Nat→UInt64}{W:Nat→Value}{ds:List AD}:(an A K D W 0 ds).map (·.1)=(List.range ds.length).map A:=by
 apply List.ext_getElem?
 intro i
 rw[List.getElem?_map,List.getElem?_map,l7]
 by_cases q:i<ds.length
 ·rw[List.getElem?_eq_getElem q,List.getElem?_range q]
  simp
 ·rw[List.getElem?_eq_none (by omega),List.getElem?_eq_none (by rw[List.length_range];omega)]
  rfl
theorem Yf.segj {Z:State}{n0:Nat}{h h':Heap}{A A':Nat→Addr}{K K':Nat→ClassId}{D D':Nat→UInt64}{W:Nat→Value}{ds ds':List AD}{os2:List OB}(Y:Yf Z n0 h (an A K D W 0 ds++os2))(Y':YgF Z n0 h' A' K' D' W ds')(Kp:Keep h h' ((List.range ds.length).map A))(hA:∀i,i<ds.length→A' i=A i∧K' i=K i)(hf:∀i,ds.length≤i→i<ds'.length→h.size≤A' i):Yf Z n0 h' (an A' K' D' W 0 ds'++os2):=by
 refine Yf.join Y Y'.fl (by rw[wK];exact Kp) (fun o ho=>?_)
 obtain⟨i,hi⟩:=List.mem_iff_getElem?.mp ho
 obtain⟨d,e,rfl⟩:=jN hi
 have hl:i<ds'.length:=(List.getElem?_eq_some_iff.mp e).1
 rw[wK]
 by_cases q:i<ds.length
 ·exact Or.inl (List.mem_map.mpr ⟨i,List.mem_range.mpr q,(hA i q).1.symm⟩)
 ·exact Or.inr (hf i (by omega) hl)
theorem Yf.swap {Z:State}{n0:Nat}{h:Heap}{a b c:List OB}(Y:Yf Z n0 h (a++(b++c))):Yf Z n0 h (a++(c++b)):=by
 have key:∀(i:Nat) (o:OB),(a++(c++b))[i]? = some o→∃j,(a++(b++c))[j]? = some o∧((i<a.length∧j=i)∨(a.length≤i∧i<a.length+c.length∧j=i+b.length)∨(a.length+c.length≤i∧i=j+c.length∧j<a.length+b.length)):=by
  intro i o hi
  by_cases h1:i<a.length
  ·rw[List.getElem?_append_left h1] at hi
   exact⟨i,by rw[List.getElem?_append_left h1];exact hi,Or.inl ⟨h1,rfl⟩⟩
  ·rw[List.getElem?_append_right (by omega)] at hi
   by_cases h2:i<a.length+c.length
   ·rw[List.getElem?_append_left (by omega)] at hi
    refine⟨i+b.length,?_,Or.inr (Or.inl ⟨by omega,h2,rfl⟩)⟩
    rw[List.getElem?_append_right (by omega),List.getElem?_append_right (by omega),show i+b.length-a.length-b.length=i-a.length by omega]
    exact hi
   ·rw[List.getElem?_append_right (by omega)] at hi
    have hb:=(List.getElem?_eq_some_iff.mp hi).1
    refine⟨i-c.length,?_,Or.inr (Or.inr ⟨by omega,by omega,by omega⟩)⟩
    rw[List.getElem?_append_right (by omega),List.getElem?_append_left (by omega),show i-c.length-a.length=i-a.length-c.length by omega]
    exact hi
 refine⟨fun i o hi=>?_,fun i j o o' hi hj q=>?_⟩
 ·obtain⟨x,hx,-⟩:=key i o hi
  exact Y.1 x o hx
 ·obtain⟨x,hx,cx⟩:=key i o hi
  obtain⟨y,hy,cy⟩:=key j o' hj
  have:=Y.2 x y o o' hx hy q
  omega
theorem jO {i:Int}{k:Nat}{a:UInt64}(m:Nat)(ha:ah (i*((2 ^ m:Nat):Int)) (k+m) a):ah i k a:=by
 obtain⟨s,c,q,ea⟩:=bG ha
 have h:Jvm.FP.Core.signed s (c*2 ^ (q+((k+m:Nat):Int)).toNat)=i*((2 ^ m:Nat):Int)*((2 ^ (-(q+((k+m:Nat):Int))).toNat:Nat):Int):=by have:=ha;unfold ah at this;rw[ea] at this;exact this
 show Jvm.FP.Core.Whole _ (shd _ (Jvm.FP.Core.val64 a))
 rw[ea]
 show Jvm.FP.Core.signed s (c*2 ^ (q+(k:Int)).toNat)=i*((2 ^ (-(q+(k:Int))).toNat:Nat):Int)
 have p2:((2 ^ (m+(-(q+((k+m:Nat):Int))).toNat):Nat):Int)≠0:=by have:=Nat.two_pow_pos (m+(-(q+((k+m:Nat):Int))).toNat);omega
 refine Int.eq_of_mul_eq_mul_right p2 ?_
 rw[←Jvm.FP.Core.signed_mul,Nat.mul_assoc,←Nat.pow_add]
 rw[show (q+(k:Int)).toNat+(m+(-(q+((k+m:Nat):Int))).toNat)=(q+((k+m:Nat):Int)).toNat+(-(q+(k:Int))).toNat by omega]
 rw[Nat.pow_add,←Nat.mul_assoc,Jvm.FP.Core.signed_mul,h,Nat.pow_add 2 m]
 rw[Int.natCast_mul]
 simp only[Int.mul_assoc]
 rw[Int.mul_comm ((2 ^ (-(q+(k:Int))).toNat:Nat):Int),Int.mul_assoc]
theorem aG {i j:Int}{k:Nat}{x:UInt64}(m:Nat)(N:Int)(h:ah i k x)(hN:((2 ^ m:Nat):Int)=N)(hj:i*N=j):ah j (k+m) x:=by
 have:=lB h m
 rw[hN,hj] at this
 exact this
def S7 (Du Dl:Prop)(a u Lq Dd m00 m01 m10 m11:Int)(pv0 pv1:UInt64):Prop:=(a=1∨a=-1∨a=2∨a=-2∨a=4∨a=-4∨a=8∨a=-8∨a=16∨a=-16∨a=32∨a=-32∨a=64∨a=-64∨a=128∨a=-128)∧(-128≤u∧u≤128)∧(-2048≤Lq∧Lq≤2048)∧Dd≠0∧ah a 0 pv0∧Du∧Dl∧ah Dd 1 pv1∧m00=a∧m01=u∧128*m10=Lq*a∧128*m11=64*Dd+Lq*u
def JH (m00 m01 m10 m11 J0 J1 R0 R1:Int):Prop:=m00*J0+m10*J1=128*R0∧m01*J0+m11*J1=128*R1∧(-134217728≤J0∧J0≤134217728)∧(-134217728≤J1∧J1≤134217728)∧(-65536≤R0∧R0≤65536)∧(-65536≤R1∧R1≤65536)
theorem cv {u x U N:Int}(hu:-U≤u∧u≤U)(hx:-N≤x∧x≤N):-(U*N)≤u*x∧u*x≤U*N:=by
 have hU:0≤U:=by omega
 have hN:0≤N:=by omega
 have h1:(u*x).natAbs≤U.natAbs*N.natAbs:=by
  rw[Int.natAbs_mul]
  exact Nat.mul_le_mul (by omega) (by omega)
 have h2:((U.natAbs*N.natAbs:Nat):Int)=U*N:=by
  rw[Int.natCast_mul,Int.natAbs_of_nonneg hU,Int.natAbs_of_nonneg hN]
 omega
theorem gq {a u Lq Dd m00 m01 m10 m11 J0 J1 R0 R1:Int}{pv0 pv1 vd:UInt64}{Du Dl:Prop}(S:S7 Du Dl a u Lq Dd m00 m01 m10 m11 pv0 pv1)(H:JH m00 m01 m10 m11 J0 J1 R0 R1)(f:Jvm.FP.Core.DInt R0 vd) :
  ∃P0:Int,ah P0 7 (FP.ddiv vd pv0)∧(-8388608≤P0∧P0≤8388608)∧128*P0=128*J0+Lq*J1∧2*(128*R1-u*P0)=Dd*J1:=by
 obtain⟨sa,su,sL,sD,da,-,-,dd,q00,q01,q10,q11⟩:=S
 obtain⟨h0,h1,b0,b1,r0,r1⟩:=H
 have key:∃P0:Int,P0*a=128*R0∧(-8388608≤P0∧P0≤8388608)∧a≠0:=by
  rcases sa with rfl|rfl|rfl|rfl|rfl|rfl|rfl|rfl|rfl|rfl|rfl|rfl|rfl|rfl|rfl|rfl
  ·exact⟨128*R0,by omega,by omega,by decide⟩
  ·exact⟨-(128*R0),by omega,by omega,by decide⟩
  ·exact⟨64*R0,by omega,by omega,by decide⟩
  ·exact⟨-(64*R0),by omega,by omega,by decide⟩
  ·exact⟨32*R0,by omega,by omega,by decide⟩
  ·exact⟨-(32*R0),by omega,by omega,by decide⟩
  ·exact⟨16*R0,by omega,by omega,by decide⟩
  ·exact⟨-(16*R0),by omega,by omega,by decide⟩
  ·exact⟨8*R0,by omega,by omega,by decide⟩
  ·exact⟨-(8*R0),by omega,by omega,by decide⟩
  ·exact⟨4*R0,by omega,by omega,by decide⟩
  ·exact⟨-(4*R0),by omega,by omega,by decide⟩
  ·exact⟨2*R0,by omega,by omega,by decide⟩
  ·exact⟨-(2*R0),by omega,by omega,by decide⟩
  ·exact⟨R0,by omega,by omega,by decide⟩
  ·exact⟨-R0,by omega,by omega,by decide⟩
 obtain⟨P0,e0,bP,ha⟩:=key
 have F:ah P0 7 (FP.ddiv vd pv0):=gY (ak.mpr f) da ha (M:=7) (by rw[show ((2 ^ (0+7):Nat):Int)=128 from rfl,show ((2 ^ 0:Nat):Int)=1 from rfl,e0];omega) (cp (by omega)) (by decide)
 have E1:128*P0=128*J0+Lq*J1:=by
  refine Int.eq_of_mul_eq_mul_right ha ?_
  have e1:m10*J1*128=Lq*a*J1:=by rw[←q10,Int.mul_assoc,Int.mul_comm J1,Int.mul_left_comm,Int.mul_assoc]
  have e2:Lq*a*J1=Lq*J1*a:=by rw[Int.mul_assoc,Int.mul_comm a,←Int.mul_assoc]
  rw[Int.add_mul,←e2,←e1,Int.mul_assoc 128 P0,e0,←h0,q00,Int.mul_assoc 128 J0,Int.mul_comm J0 a]
  omega
 refine⟨P0,F,bP,E1,?_⟩
 have e3:u*(128*P0)=u*(128*J0+Lq*J1):=by rw[E1]
 rw[Int.mul_add,Int.mul_left_comm u 128 P0,Int.mul_left_comm u 128 J0] at e3
 have e4:128*(m11*J1)=(64*Dd+Lq*u)*J1:=by rw[←q11,Int.mul_assoc]
 rw[Int.add_mul,Int.mul_assoc 64,Int.mul_assoc Lq,Int.mul_left_comm Lq] at e4
 rw[q01] at h1
 omega
theorem gP {u R1 P0:Int}{uv x vd:UInt64}(du:ah u 0 uv)(fx:ah P0 7 x)(f:Jvm.FP.Core.DInt R1 vd)(bu:-128≤u∧u≤128)(bP:-8388608≤P0∧P0≤8388608)(bR:-65536≤R1∧R1≤65536):ah (u*P0) 7 (FP.dmul uv x)∧ah (128*R1-u*P0) 7 (FP.dsub vd (FP.dmul uv x)):=by
 have b:=cv bu bP
 have fp:ah (u*P0) 7 (FP.dmul uv x):=dF (k:=0) (l:=7) du fx (cp (by omega)) (by decide)
 exact⟨fp,gX (aG 7 128 (ak.mpr f) rfl (by omega)) fp (cp (by omega)) (by decide)⟩
theorem ch {Dd J1 i:Int}{w pv1:UInt64}(fi:ah i 7 w)(dd:ah Dd 1 pv1)(hD:Dd≠0)(e:2*i=Dd*J1)(bJ:-134217728≤J1∧J1≤134217728):ah J1 7 (FP.ddiv w pv1):=gY fi dd hD (M:=7) (by rw[show ((2 ^ (1+7):Nat):Int)=256 from rfl,show ((2 ^ 7:Nat):Int)=128 from rfl,Int.mul_comm J1,←e];omega) (cp (by omega)) (by decide)
theorem rH {Lq J0 J1 P0:Int}{lv x0 x1:UInt64}(dl:ah Lq 7 lv)(f0:ah P0 7 x0)(f1:ah J1 7 x1)(e:128*P0=128*J0+Lq*J1)(bL:-2048≤Lq∧Lq≤2048)(bJ1:-134217728≤J1∧J1≤134217728)(bJ0:-134217728≤J0∧J0≤134217728):ah (Lq*J1) 14 (FP.dmul lv x1)∧Jvm.Free.Fl.NoNaN64 (FP.dsub x0 (FP.dmul lv x1))∧ah J0 7 (FP.dsub x0 (FP.dmul lv x1)):=by
 have b:=cv bL bJ1
 have fp:ah (Lq*J1) 14 (FP.dmul lv x1):=dF (k:=7) (l:=7) dl f1 (cp (by omega)) (by decide)
 have fs:ah (128*P0-Lq*J1) 14 (FP.dsub x0 (FP.dmul lv x1)):=gX (aG 7 128 f0 rfl (by omega)) fp (cp (by omega)) (by decide)
 refine⟨fp,aj fs,jO 7 ?_⟩
 rw[show 128*P0-Lq*J1=J0*((2 ^ 7:Nat):Int) by rw[show ((2 ^ 7:Nat):Int)=128 from rfl];omega] at fs
 exact fs
section OwnLu7
variable {p:Program}{l:Launch}{e:Env}{s:State}{m:MethodId}{args:Array Value}{below:List Frame}{meth:Method}{c:Code}{T0 Z:State}{a0:Array Value}{h0 hM:Heap}{n0:Nat}{L0:List Loc}{A Ab:Nat→Addr}{K Kb:Nat→ClassId}{D:Nat→UInt64}{W:Nat→Value}{oM rest:List OB}{v0 v1:UInt64}{ce sl:Nat}{ds:List AD}{Ev:State→Outcome→Prop}{M00 M01 M10 M11 a u Lq Dd J0 J1 R0 R1 P0 i0 i1:Int}
def LVS (p:Program)(l:Launch)(e:Env)(s:State)(m:MethodId)(args:Array Value)(below:List Frame)(meth:Method)(c:Code)(T0 Z:State)(a0:Array Value)(h0:Heap)(n0:Nat)(L0:List Loc)(ce sl:Nat):Prop:=Stand p l e (jc (1,3,6,14)) s m args below meth c T0 L0 ce sl∧p.tables.exec=Jvm.exec∧c.code=aH 32∧c.maxLocals=10∧meth.sig.returnType=some (.array .double)∧meth.locks=false∧s.vm.findClass "com/example/tracefold/tracefold/mining/FactoredInverse" = some m.cls∧Z.Warmed39 s.vm∧(∀d∈tables_1,d.before a0 Z=true)∧T0.heap=h0∧n0≤h0.size∧Fr n0 L0
theorem Q_ {f to pc pc' nD nD' ce' sl':Nat}{orc:List Int32}{L L':Array Slot}{st st':List Value}{ds':List AD}{ops:List Op}(hr:ai (run (tb 32) ae 10 (1,3,6,14) to f [] orc (pc,L,st,ds,nD,ce,sl)) (pc',L',st',ds',nD',ce',sl') ops=true)(B:LVS p l e s m args below meth c T0 Z a0 h0 n0 L0 ce sl)(Y:YgF Z n0 h0 A K D W ds)(D0:D 0=0)(hnD:0<nD)(hv:okv ops nD D)
  (K_:∀T1 h1 L1 A1 K1,LVS p l e s m args below meth c T1 Z a0 h1 n0 L1 ce' sl'→(∀i,i<ds.length→A1 i=A i∧K1 i=K i)→Keep h0 h1 ((List.range ds.length).map A)→(∀i,ds.length≤i→i<ds'.length→h0.size≤A1 i)→YgF Z n0 h1 A1 K1 (ca ops nD D) W ds'→Go p e below Ev T1 (mkF m pc' (dL A1 (ca ops nD D) W L') (st'.map (den A1 (ca ops nD D) W)))):Go p e below Ev T0 (mkF m pc (dL A D W L) (st.map (den A D W))):=by
 obtain⟨XS,hx,hby,hml,hret,hlk,hown,hZ,hw,e0,Z0,N0⟩:=B
 rw[z9] at hr
 refine seg (uQ hr) sc0 hw hx hby hml rfl hZ hown (az _ Z a0 hw) D0 hnD XS e0 Y N0 Z0 hv ?_
 intro T1 h1 L1 A1 K1 hA1 X1 e1 Y1 N1 Kp f1 n1
 exact K_ T1 h1 L1 A1 K1 ⟨X1,hx,hby,hml,hret,hlk,hown,hZ,hw,e1,n1,N1⟩ hA1 Kp f1 Y1
def LVH (p:Program)(l:Launch)(e:Env)(s:State)(m:MethodId)(args:Array Value)(below:List Frame)(meth:Method)(c:Code)(T0 Z:State)(a0:Array Value)(h0 hM:Heap)(n0:Nat)(L0:List Loc)(A Ab:Nat→Addr)(K Kb:Nat→ClassId)(D:Nat→UInt64)(W:Nat→Value)(oM rest:List OB)(v0 v1:UInt64)(ce sl:Nat)(ds:List AD):Prop:=LVS p l e s m args below meth c T0 Z a0 h0 n0 L0 ce sl∧D 0=0∧YgF Z n0 h0 A K D W ds∧Yf Z n0 hM (oM++rest)∧Keep hM h0 (oM.map (·.1))∧(∀i,i<ds.length→A i∈oM.map (·.1)∨hM.size≤A i)∧(∀i,i<11→A i=Ab i∧K i=Kb i)∧D 1=v0∧D 2=v1
theorem aX {f to pc pc' nD nD' ce' sl':Nat}{orc:List Int32}{L L':Array Slot}{st st':List Value}{ds':List AD}{ops:List Op}(hr:ai (run (tb 32) ae 10 (1,3,6,14) to f [] orc (pc,L,st,ds,nD,ce,sl)) (pc',L',st',ds',nD',ce',sl') ops=true)(H:LVH p l e s m args below meth c T0 Z a0 h0 hM n0 L0 A Ab K Kb D W oM rest v0 v1 ce sl ds)(hnD:3≤nD)(h2:11≤ds.length)(hv:okv ops nD D)
  (K_:∀T1 h1 L1 A1 K1,LVH p l e s m args below meth c T1 Z a0 h1 hM n0 L1 A1 Ab K1 Kb (ca ops nD D) W oM rest v0 v1 ce' sl' ds'→Go p e below Ev T1 (mkF m pc' (dL A1 (ca ops nD D) W L') (st'.map (den A1 (ca ops nD D) W)))):Go p e below Ev T0 (mkF m pc (dL A D W L) (st.map (den A D W))):=by
 obtain⟨B,D0,Y,YM,KM,hf,hAb,d1,d2⟩:=H
 refine Q_ hr B Y D0 (by omega) hv ?_
 intro T1 h1 L1 A1 K1 B1 hA1 Kp f1 Y1
 obtain⟨KM1,hf1⟩:=FJ (n':=ds'.length) KM hf Kp hA1 f1
 exact K_ T1 h1 L1 A1 K1 ⟨B1,(fk ops nD D (by omega)).trans D0,Y1,YM,KM1,hf1,fun i hi=>⟨(hA1 i (by omega)).1.trans (hAb i hi).1,(hA1 i (by omega)).2.trans (hAb i hi).2⟩,(fk ops nD D (by omega)).trans d1,(fk ops nD D (by omega)).trans d2⟩
theorem LVH.re {D':Nat→UInt64}{ds':List AD}(H:LVH p l e s m args below meth c T0 Z a0 h0 hM n0 L0 A Ab K Kb D W oM rest v0 v1 ce sl ds)(e0:D' 0=D 0)(e1:D' 1=D 1)(e2:D' 2=D 2)(e':ds'.map (fun d=>(d.1,d.2.1,d.2.2.map (den A D' W)))=ds.map (fun d=>(d.1,d.2.1,d.2.2.map (den A D W)))):LVH p l e s m args below meth c T0 Z a0 h0 hM n0 L0 A Ab K Kb D' W oM rest v0 v1 ce sl ds':=by
 obtain⟨B,D0,Y,YM,KM,hf,hAb,d1,d2⟩:=H
 have hl:ds'.length=ds.length:=by simpa using congrArg List.length e'
 exact⟨B,e0.trans D0,Y.congr e',YM,KM,fun i hi=>hf i (by omega),hAb,e1.trans d1,e2.trans d2⟩
def dsE (cnt:Int32)(er ep es eo ev:List Value):List AD:=[(65,2,[vD 1,vD 2]),(0,0,[vU 0,vU 1,vU 2,vU 3,vU 4,vU 5,vU 6,vU 7,vR 2,vR 3,vR 4,vR 5,vR 6,vU 8,vU 9,vU 10,vU 11,vU 12,vU 13,vU 14,vU 15,vU 16,vU 17,vU 18,vU 19,vU 20,vU 21,vU 22,vI cnt]),(64,16,er),(65,16,ep),(64,17,es),(64,256,eo),(65,256,ev)]
theorem rI {T1:State}{h1:Heap}{L1:List Loc}{A1:Nat→Addr}{K1:Nat→ClassId}{D1:Nat→UInt64}{fv pp:List Value}(H:LVH p l e s m args below meth c T1 Z a0 h1 hM n0 L1 A1 Ab K1 Kb D1 W oM rest v0 v1 3 6 ds)(g0:ds[0]? = some (0,0,fv))(g1:ds[1]? = some (65,2,[vD 1,vD 2]))(g11:ds[11]? = some (65,2,[vD 10,vD 11]))(g12:ds[12]? = some (65,2,[vD 7,vD 9]))(g13:ds[13]? = some (65,2,pp))(hfv:fv.all (okV 11 0)=true):Yf Z n0 h1 ([(A1 13,K1 13,65,2,pp.map (den A1 D1 W)),(A1 11,K1 11,65,2,[.double (D1 10),.double (D1 11)]),(A1 12,K1 12,65,2,[.double (D1 7),.double (D1 9)]),(Ab 1,Kb 1,65,2,[.double v0,.double v1]),(Ab 0,Kb 0,0,0,fv.map (den Ab (fun _=>0) W))]++rest):=by
 obtain⟨B,D0,Y,YM,KM,hf,hAb,d1,d2⟩:=H
 have hl:13<ds.length:=(List.getElem?_eq_some_iff.mp g13).1
 have c0:=eM (A:=A1) (K:=K1) (D:=D1) (W:=W) g0
 have c1:=eM (A:=A1) (K:=K1) (D:=D1) (W:=W) g1
 have c11:=eM (A:=A1) (K:=K1) (D:=D1) (W:=W) g11
 have c12:=eM (A:=A1) (K:=K1) (D:=D1) (W:=W) g12
 have c13:=eM (A:=A1) (K:=K1) (D:=D1) (W:=W) g13
 have Yp:Yf Z n0 h1 [(A1 13,K1 13,65,2,pp.map (den A1 D1 W)),(A1 11,K1 11,65,2,[.double (D1 10),.double (D1 11)]),(A1 12,K1 12,65,2,[.double (D1 7),.double (D1 9)]),(A1 1,K1 1,65,2,[.double (D1 1),.double (D1 2)]),(A1 0,K1 0,0,0,fv.map (den A1 D1 W))]:=Yf.pick Y.fl [13,11,12,1,0] (by decide) (by
  simp only[List.map_cons,List.map_nil]
  rw[c13,c11,c12,c1,c0]
  all_goals rfl)
 rw[eH (A:=Ab) (D:=fun _=>0) (nA:=11) (nD:=0) (fun i hi=>(hAb i hi).1) (fun j hj=>absurd hj (Nat.not_lt_zero _)) hfv,d1,d2,(hAb 1 (by decide)).1,(hAb 1 (by decide)).2,(hAb 0 (by decide)).1,(hAb 0 (by decide)).2] at Yp
 refine Yf.join YM Yp KM (fun o ho=>?_)
 simp only[List.mem_cons,List.not_mem_nil,or_false] at ho
 rcases ho with rfl|rfl|rfl|rfl|rfl
 ·exact hf 13 (by omega)
 ·exact hf 11 (by omega)
 ·exact hf 12 (by omega)
 ·exact (hAb 1 (by decide)).1▸hf 1 (by omega)
 ·exact (hAb 0 (by decide)).1▸hf 0 (by omega)
def ttA (A la:Nat→Addr):Nat→Addr:=aP [A 1,A 0,la 0,la 1,la 2,la 3,la 4,la 5,la 6,la 7,la 8]
def ttK (A la:Nat→ClassId):Nat→ClassId:=aQ [A 1,A 0,la 0,la 1,la 2,la 3,la 4,la 5,la 6,la 7,la 8]
def tmL (g:Nat→Value)(la:Nat→Addr):Nat→Value:=rG [.ref (la 4),.ref (la 5),g 2,g 3,g 4,g 5,.ref (la 7),.ref (la 8),.int 2,.ref (la 0),.ref (la 1),.ref (la 2),.ref (la 3),g 13,g 14,.ref (la 6),g 16,g 17,g 18,g 19,g 20,g 21,g 22,g 23,g 24,g 25,g 26]
def ttW (A:Nat→Addr)(cnt:Int32)(g:Nat→Value):Nat→Value:=rG [g 2,g 3,g 4,g 5,.ref (A 2),.ref (A 3),.ref (A 4),.ref (A 5),.ref (A 6),g 13,g 14,g 16,g 17,g 18,g 19,g 20,g 21,g 22,.int cnt]
def JT (M00 M01 M10 M11 J0 J1 i0 i1:Int):Prop:=M00*J0+M10*J1=128*i0∧M01*J0+M11*J1=128*i1∧(-134217728≤J0∧J0≤134217728)∧(-134217728≤J1∧J1≤134217728)∧(-65536≤i0∧i0≤65536)∧(-65536≤i1∧i1≤65536)
def bl (l:Launch)(Z:State)(n0:Nat)(M00 M01 M10 M11:Int)(W:Nat→Value)(lu:List OB):Prop:=∀(p:Program)(e:Env)(s:State)(m:MethodId)(args:Array Value)(below:List Frame)(meth:Method)(c:Code)(T0:State)(a0:Array Value)(Ev:State→Outcome→Prop)(h0:Heap)(A:Nat→Addr)(K:Nat→ClassId)(D:Nat→UInt64)(J0 J1 i0 i1:Int)(cnt:Int32)(er ep es eo ev:List Value)(rest:List OB),LVS p l e s m args below meth c T0 Z a0 h0 n0 [] 0 0→D 0=0→Jvm.FP.Core.DInt i0 (D 1)→Jvm.FP.Core.DInt i1 (D 2)→JT M00 M01 M10 M11 J0 J1 i0 i1→Yf Z n0 h0 (an A K D W 0 (dsE cnt er ep es eo ev)++(lu++rest))→(∀(T1:State)(h1:Heap)(L1:List Loc)(pr rs st:Addr)(kp kr ks:ClassId)(y0 y1 x7 ra rb sa sb:UInt64)(w6 j9:Int32)(b9:Bool),LVS p l e s m args below meth c T1 Z a0 h1 n0 L1 3 6→Yf Z n0 h1 ([(pr,kp,65,2,[.double y0,.double y1]),(rs,kr,65,2,[.double ra,.double rb]),(st,ks,65,2,[.double sa,.double sb])]++(an A K D W 0 (dsE cnt er ep es eo ev)++rest))→ah J0 7 y0→ah J1 7 y1→Go p e below Ev T1 (mkF m 226 #[.val (.ref (A 1)),.val (.ref (A 0)),.val (.ref rs),.val (.ref st),.val (.ref pr),.val (.int 0),.val (.int w6),.val (.double x7),.second,(bif b9 then .val (.int j9) else .unset)] []))→Go p e below Ev T0 (mkF m 0 #[.val (.ref (A 1)),.val (.ref (A 0)),.unset,.unset,.unset,.unset,.unset,.unset,.unset,.unset] [])
def rJ:AD:=(0,0,[dB,vR 7]++uS 0 4++[bO,dt]++uS 4 5++[ax]++rS 2 4++[vU 9,cu,cW]++uS 11 8)
def c9:List AD:=[rJ,aL,za9,za4,ff,bv,za8,eI,bv,za8,eI]
def lC:AD:=aD [12,0]
theorem OO:ai (run (tb 32) ae 10 (1,3,6,14) 52 32 [] [] (0,#[sR 0,sR 1,sU,sU,sU,sU,sU,sU,sU,sU],[],c9,12,0,0)) (52,#[sR 0,sR 1,sR 11,sR 12,sI 0,sD 12,s2,sU,sU,sU],[],c9++[aL,lC],13,2,4) [fO]=true:=by decide +kernel
def za6:AD:=aD [10,11]
def dM:AD:=aD [7,0]
def d8:Op:=(12,7,0,0)
def i7:List Value:=[vD 12,zq3,d4]
def lD:Op:=(3,11,4,0)
theorem Ig:ai (run (tb 32) ae 10 (1,3,6,14) 51 26 [] [0] (52,#[sR 0,sR 1,sR 11,sR 12,sI 0,sD 7,s2,sU,sU,sU],[],c9++[za6,dM],12,2,4)) (51,#[sR 0,sR 1,sR 11,sR 12,sI 1,sD 12,s2,sU,sU,sU],i7,c9++[za6,dM],13,2,4) [d8,lD]=true:=by decide +kernel
def eO:Op:=(12,7,0,1)
theorem Ih:ai (run (tb 32) ae 10 (1,3,6,14) 51 39 [] [1] (52,#[sR 0,sR 1,sR 11,sR 12,sI 0,sD 7,s2,sU,sU,sU],[],c9++[za6,dM],12,2,4)) (51,#[sR 0,sR 1,sR 11,sR 12,sI 1,sD 12,s2,sI 0,sU,sU],i7,c9++[za6,dM],13,2,4) [eO,lD]=true:=by decide +kernel
def Ra:AD:=aD [8,7]
def fP:List Value:=[vD 7,zq3,d4]
def fQ:AD:=aD [8,0]
def dG:List AD:=[za6,Ra,dM]
theorem Ii:∀b7:Bool,ai (run (tb 32) ae 10 (1,3,6,14) 159 36 [] [0] (51,#[sR 0,sR 1,sR 11,sR 12,sI 1,sD 7,s2,(bif b7 then sI 0 else sU),sU,sU],fP,c9++[za6,fQ],12,2,4)) (159,#[sR 0,sR 1,sR 11,sR 12,sR 13,sI 1,sI 0,sD 7,s2,sU],[],c9++dG,12,3,6) [d8]=true:=by decide +kernel
theorem Ij:∀b7:Bool,ai (run (tb 32) ae 10 (1,3,6,14) 159 49 [] [1] (51,#[sR 0,sR 1,sR 11,sR 12,sI 1,sD 7,s2,(bif b7 then sI 0 else sU),sU,sU],fP,c9++[za6,fQ],12,2,4)) (159,#[sR 0,sR 1,sR 11,sR 12,sR 13,sI 1,sI 0,sD 7,s2,sU],[],c9++dG,12,3,6) [eO]=true:=by decide +kernel
def nl:List Value:=[vD 8,zq3,d5]
theorem Ik:ai (run (tb 32) ae 10 (1,3,6,14) 158 21 [] [0] (159,#[sR 0,sR 1,sR 11,sR 12,sR 13,sI 1,sI 0,sD 7,s2,sU],[],c9++dG,12,3,6)) (158,#[sR 0,sR 1,sR 11,sR 12,sR 13,sI 0,sI 1,sD 8,s2,sU],nl,c9++dG,12,3,6) [d8]=true:=by decide +kernel
theorem Il:ai (run (tb 32) ae 10 (1,3,6,14) 158 34 [] [1] (159,#[sR 0,sR 1,sR 11,sR 12,sR 13,sI 1,sI 0,sD 7,s2,sU],[],c9++dG,12,3,6)) (158,#[sR 0,sR 1,sR 11,sR 12,sR 13,sI 0,sI 1,sD 8,s2,sI 0],nl,c9++dG,12,3,6) [eO]=true:=by decide +kernel
def FK:AD:=aD [7,9]
def lE:List Value:=[vD 7,zq3,d5]
def Rb:AD:=aD [9,7]
def Rc:AD:=aD [9,0]
def lF:List AD:=[za6,FK,Rc]
def lG:List AD:=[za6,FK,Rb]
theorem Im:∀b9:Bool,ai (run (tb 32) ae 10 (1,3,6,14) 226 12 [] [0] (158,#[sR 0,sR 1,sR 11,sR 12,sR 13,sI 0,sI 1,sD 7,s2,(bif b9 then sI 0 else sU)],lE,c9++lF,12,3,6)) (226,#[sR 0,sR 1,sR 11,sR 12,sR 13,sI 0,sI 1,sD 7,s2,(bif b9 then sI 0 else sU)],[],c9++lG,12,3,6) [d8]=true:=by decide +kernel
theorem In:∀b9:Bool,ai (run (tb 32) ae 10 (1,3,6,14) 226 25 [] [1] (158,#[sR 0,sR 1,sR 11,sR 12,sR 13,sI 0,sI 1,sD 7,s2,(bif b9 then sI 0 else sU)],lE,c9++lF,12,3,6)) (226,#[sR 0,sR 1,sR 11,sR 12,sR 13,sI 0,sI 1,sD 7,s2,sI 0],[],c9++lG,12,3,6) [eO]=true:=by decide +kernel
def rK (p:Program)(l:Launch)(e:Env)(s:State)(m:MethodId)(args:Array Value)(below:List Frame)(meth:Method)(c:Code)(Z:State)(a0:Array Value)(hM:Heap)(n0:Nat)(Ab:Nat→Addr)(Kb:Nat→ClassId)(W:Nat→Value)(oM rest:List OB)(v0 v1:UInt64)(J0 J1:Int)(Ev:State→Outcome→Prop):Prop:=∀(T1:State)(h1:Heap)(L1:List Loc)(A1:Nat→Addr)(K1:Nat→ClassId)(D1:Nat→UInt64)(b9:Bool)(j9:Int32),LVH p l e s m args below meth c T1 Z a0 h1 hM n0 L1 A1 Ab K1 Kb D1 W oM rest v0 v1 3 6 (c9++[(65,2,[vD 10,vD 11]),(65,2,[vD 7,vD 9]),(65,2,[vD 9,vD 7])])→ah J0 7 (D1 7)→ah J1 7 (D1 9)→Go p e below Ev T1 (mkF m 226 #[.val (.ref (A1 0)),.val (.ref (A1 1)),.val (.ref (A1 11)),.val (.ref (A1 12)),.val (.ref (A1 13)),.val (.int 0),.val (.int 1),.val (.double (D1 7)),.second,(bif b9 then .val (.int j9) else .unset)] [])
theorem rL (b9:Bool)(H:LVH p l e s m args below meth c T0 Z a0 h0 hM n0 L0 A Ab K Kb D W oM rest v0 v1 3 6 (c9++[(65,2,[vD 10,vD 11]),(65,2,[vD 7,vD 9]),(65,2,[vD 9,vD 0])]))(S:S7 (u=0) (Lq=0) a u Lq Dd M10 M11 M00 M01 (D 3) (D 4))(J:JH M10 M11 M00 M01 J0 J1 R0 R1)(f0:ah J0 7 (D 7))(f1:ah J1 7 (D 9))(KK:rK p l e s m args below meth c Z a0 hM n0 Ab Kb W oM rest v0 v1 J0 J1 Ev):Go p e below Ev T0 (mkF m 158 (dL A D W #[sR 0,sR 1,sR 11,sR 12,sR 13,sI 0,sI 1,sD 7,s2,(bif b9 then sI 0 else sU)]) [.double (D 7),.int 1,.ref (A 13)]):=by
 rcases aq f0 H.2.1 with ⟨hz,hc⟩|⟨hz,hc⟩
 ·refine goE (aX (Im b9) H (by decide) (by decide) ⟨hc,trivial⟩ ?_) rfl
  intro T1 h1 L1 A1 K1 H1
  exact goE (KK T1 h1 L1 A1 K1 _ b9 0 H1 f0 f1) (by cases b9<;>rfl)
 ·refine goE (aX (In b9) H (by decide) (by decide) ⟨hc,trivial⟩ ?_) rfl
  intro T1 h1 L1 A1 K1 H1
  exact goE (KK T1 h1 L1 A1 K1 _ true 0 H1 f0 f1) rfl
theorem rM (H:LVH p l e s m args below meth c T0 Z a0 h0 hM n0 L0 A Ab K Kb D W oM rest v0 v1 3 6 (c9++[(65,2,[vD 10,vD 11]),(65,2,[vD 8,vD 7]),(65,2,[vD 7,vD 0])]))(S:S7 (u=0) (Lq=0) a u Lq Dd M10 M11 M00 M01 (D 3) (D 4))(J:JH M10 M11 M00 M01 J0 J1 R0 R1)(f0:ah P0 7 (D 8))(f1:ah J1 7 (D 7))(e1:128*P0=128*J0+Lq*J1)(KK:rK p l e s m args below meth c Z a0 hM n0 Ab Kb W oM rest v0 v1 J0 J1 Ev):Go p e below Ev T0 (mkF m 159 (dL A D W #[sR 0,sR 1,sR 11,sR 12,sR 13,sI 1,sI 0,sD 7,s2,sU]) []):=by
 rcases aq f1 H.2.1 with ⟨hz,hc⟩|⟨hz,hc⟩
 ·refine goE (aX (Ik) H (by decide) (by decide) ⟨hc,trivial⟩ ?_) rfl
  intro T1 h1 L1 A1 K1 H1
  exact goE (rL (D:=(ac [(D 0),(D 1),(D 2),(D 3),(D 4),(D 5),(D 6),(D 8),(D 8),(D 7),(D 10),(D 11)])) false (H1.re rfl rfl rfl rfl) S J (by rw[show J0=P0 by rw[S.2.2.2.2.2.2.1,Int.zero_mul] at e1;omega];exact f0) f1 KK) rfl
 ·refine goE (aX (Il) H (by decide) (by decide) ⟨hc,trivial⟩ ?_) rfl
  intro T1 h1 L1 A1 K1 H1
  exact goE (rL (D:=(ac [(D 0),(D 1),(D 2),(D 3),(D 4),(D 5),(D 6),(D 8),(D 8),(D 7),(D 10),(D 11)])) true (H1.re rfl rfl rfl rfl) S J (by rw[show J0=P0 by rw[S.2.2.2.2.2.2.1,Int.zero_mul] at e1;omega];exact f0) f1 KK) rfl
theorem rN (b7:Bool)(H:LVH p l e s m args below meth c T0 Z a0 h0 hM n0 L0 A Ab K Kb D W oM rest v0 v1 2 4 (c9++[(65,2,[vD 10,vD 11]),(65,2,[vD 8,vD 0])]))(S:S7 (u=0) (Lq=0) a u Lq Dd M10 M11 M00 M01 (D 3) (D 4))(J:JH M10 M11 M00 M01 J0 J1 R0 R1)(f0:ah P0 7 (D 8))(f1:ah J1 7 (D 7))(e1:128*P0=128*J0+Lq*J1)(KK:rK p l e s m args below meth c Z a0 hM n0 Ab Kb W oM rest v0 v1 J0 J1 Ev):Go p e below Ev T0 (mkF m 51 (dL A D W #[sR 0,sR 1,sR 11,sR 12,sI 1,sD 7,s2,(bif b7 then sI 0 else sU),sU,sU]) [.double (D 7),.int 1,.ref (A 12)]):=by
 rcases aq f1 H.2.1 with ⟨hz,hc⟩|⟨hz,hc⟩
 ·refine goE (aX (Ii b7) H (by decide) (by decide) ⟨hc,trivial⟩ ?_) rfl
  intro T1 h1 L1 A1 K1 H1
  exact goE (rM (D:=(ac [(D 0),(D 1),(D 2),(D 3),(D 4),(D 5),(D 6),(D 7),(D 8),(D 9),(D 10),(D 11)])) (H1.re rfl rfl rfl rfl) S J f0 f1 e1 KK) rfl
 ·refine goE (aX (Ij b7) H (by decide) (by decide) ⟨hc,trivial⟩ ?_) rfl
  intro T1 h1 L1 A1 K1 H1
  exact goE (rM (D:=(ac [(D 0),(D 1),(D 2),(D 3),(D 4),(D 5),(D 6),(D 7),(D 8),(D 9),(D 10),(D 11)])) (H1.re rfl rfl rfl rfl) S J f0 f1 e1 KK) rfl
theorem FL (H:LVH p l e s m args below meth c T0 Z a0 h0 hM n0 L0 A Ab K Kb D W oM rest v0 v1 2 4 (c9++[(65,2,[vD 10,vD 11]),(65,2,[vD 7,vD 0])]))(S:S7 (u=0) (Lq=0) a u Lq Dd M10 M11 M00 M01 (D 3) (D 4))(J:JH M10 M11 M00 M01 J0 J1 R0 R1)(fx:ah P0 7 (D 7))(fz:Jvm.FP.Core.DInt R1 (D 11))(bP:-8388608≤P0∧P0≤8388608)(e1:128*P0=128*J0+Lq*J1)(e2:2*(128*R1-u*P0)=Dd*J1)(KK:rK p l e s m args below meth c Z a0 hM n0 Ab Kb W oM rest v0 v1 J0 J1 Ev):Go p e below Ev T0 (mkF m 52 (dL A D W #[sR 0,sR 1,sR 11,sR 12,sI 0,sD 7,s2,sU,sU,sU]) []):=by
 rcases aq fx H.2.1 with ⟨hz,hc⟩|⟨hz,hc⟩
 ·have fi:ah (128*R1-u*P0) 7 (D 11):=(by rw[show 128*R1-u*P0=128*R1 by rw[S.2.2.2.2.2.1,Int.zero_mul];omega];exact aG 7 128 (ak.mpr fz) rfl (by omega))
  have f1:=ch fi S.2.2.2.2.2.2.2.1 S.2.2.2.1 e2 J.2.2.2.1
  refine goE (aX (Ig) H (by decide) (by decide) ⟨hc,aj f1,trivial⟩ ?_) rfl
  intro T1 h1 L1 A1 K1 H1
  exact goE (rN (D:=(ac [(D 0),(D 1),(D 2),(D 3),(D 4),(D 5),(D 6),(FP.ddiv (D 11) (D 4)),(D 7),(D 9),(D 10),(D 11)])) false (H1.re rfl rfl rfl rfl) S J fx f1 e1 KK) rfl
 ·have fi:ah (128*R1-u*P0) 7 (D 11):=(by rw[show 128*R1-u*P0=128*R1 by rw[S.2.2.2.2.2.1,Int.zero_mul];omega];exact aG 7 128 (ak.mpr fz) rfl (by omega))
  have f1:=ch fi S.2.2.2.2.2.2.2.1 S.2.2.2.1 e2 J.2.2.2.1
  refine goE (aX (Ih) H (by decide) (by decide) ⟨hc,aj f1,trivial⟩ ?_) rfl
  intro T1 h1 L1 A1 K1 H1
  exact goE (rN (D:=(ac [(D 0),(D 1),(D 2),(D 3),(D 4),(D 5),(D 6),(FP.ddiv (D 11) (D 4)),(D 7),(D 9),(D 10),(D 11)])) true (H1.re rfl rfl rfl rfl) S J fx f1 e1 KK) rfl
theorem FM (H:LVH p l e s m args below meth c T0 Z a0 h0 hM n0 L0 A Ab K Kb D W oM rest v0 v1 0 0 (c9))(S:S7 (u=0) (Lq=0) a u Lq Dd M10 M11 M00 M01 (D 3) (D 4))(J:JH M10 M11 M00 M01 J0 J1 R0 R1)(fv:Jvm.FP.Core.DInt R0 (D 1))(fz:Jvm.FP.Core.DInt R1 (D 2))(KK:rK p l e s m args below meth c Z a0 hM n0 Ab Kb W oM rest v0 v1 J0 J1 Ev):Go p e below Ev T0 (mkF m 0 (dL A D W #[sR 0,sR 1,sU,sU,sU,sU,sU,sU,sU,sU]) []):=by
 obtain⟨P0,fx,bP,e1,e2⟩:=gq S J fv
 refine goE (aX (OO) H (by decide) (by decide) ⟨aj fx,trivial⟩ ?_) rfl
 intro T1 h1 L1 A1 K1 H1
 exact goE (FL (D:=(ac [(D 0),(D 1),(D 2),(D 3),(D 4),(D 5),(D 6),(FP.ddiv (D 1) (D 3)),(D 8),(D 9),(D 1),(D 2)])) (H1.re rfl rfl rfl rfl) S J fx fz bP e1 e2 KK) rfl
def ub (la:Nat→Addr)(kl:Nat→ClassId)(pv0 pv1:UInt64):List OB:=[(la 0,kl 0,64,2,[.int 1,.int 0]),(la 1,kl 1,64,2,[.int 0,.int 1]),(la 2,kl 2,65,2,[.double pv0,.double pv1]),(la 3,kl 3,64,3,[.int 0,.int 0,.int 0]),(la 4,kl 4,64,0,[]),(la 5,kl 5,65,0,[]),(la 6,kl 6,64,3,[.int 0,.int 0,.int 0]),(la 7,kl 7,64,0,[]),(la 8,kl 8,65,0,[])]
theorem Rd {la:Nat→Addr}{kl:Nat→ClassId}{g:Nat→Value}{pv0 pv1:UInt64}(S:S7 (u=0) (Lq=0) a u Lq Dd M10 M11 M00 M01 pv0 pv1):bl l Z n0 M00 M01 M10 M11 (tmL g la) (ub la kl pv0 pv1):=by
 intro p e s m args below meth c T0 a0 Ev h0 A K D J0 J1 i0 i1 cnt er ep es eo ev rest B D0 d0 d1 J YM KK
 have YS:Yf Z n0 h0 (([(A 0,K 0,65,2,[.double (D 1),.double (D 2)]),(A 1,K 1,0,0,[tmL g la 0,tmL g la 1,tmL g la 2,tmL g la 3,tmL g la 4,tmL g la 5,tmL g la 6,tmL g la 7,.ref (A 2),.ref (A 3),.ref (A 4),.ref (A 5),.ref (A 6),tmL g la 8,tmL g la 9,tmL g la 10,tmL g la 11,tmL g la 12,tmL g la 13,tmL g la 14,tmL g la 15,tmL g la 16,tmL g la 17,tmL g la 18,tmL g la 19,tmL g la 20,tmL g la 21,tmL g la 22,.int cnt])]++ub la kl pv0 pv1)++(rest++(an A K D (tmL g la) 0 (dsE cnt er ep es eo ev)).drop 2)):=by
  have:=Yf.swap (a:=[(A 0,K 0,65,2,[.double (D 1),.double (D 2)]),(A 1,K 1,0,0,[tmL g la 0,tmL g la 1,tmL g la 2,tmL g la 3,tmL g la 4,tmL g la 5,tmL g la 6,tmL g la 7,.ref (A 2),.ref (A 3),.ref (A 4),.ref (A 5),.ref (A 6),tmL g la 8,tmL g la 9,tmL g la 10,tmL g la 11,tmL g la 12,tmL g la 13,tmL g la 14,tmL g la 15,tmL g la 16,tmL g la 17,tmL g la 18,tmL g la 19,tmL g la 20,tmL g la 21,tmL g la 22,.int cnt])]) (b:=(an A K D (tmL g la) 0 (dsE cnt er ep es eo ev)).drop 2) (c:=ub la kl pv0 pv1++rest) YM
  exact this
 refine goE (FM (A:=ttA A la) (Ab:=ttA A la) (K:=ttK K kl) (Kb:=ttK K kl) (D:=(ac [0,D 1,D 2,pv0,pv1,0,0,0,0,0,0,0])) (W:=(ttW A cnt g)) (hM:=h0) (v0:=D 1) (v1:=D 2) (M00:=M00) (M01:=M01) (M10:=M10) (M11:=M11) (J0:=J1) (J1:=J0) (R0:=i0) (R1:=i1) ⟨B,rfl,Yf.to (Yf.pick (os':=an (ttA A la) (ttK K kl) (ac [0,D 1,D 2,pv0,pv1,0,0,0,0,0,0,0]) (ttW A cnt g) 0 c9) YS [1,0,2,3,4,5,6,7,8,9,10] (by decide) rfl) rfl,YS,Keep.refl _ _,fun i hi=>?_,fun i _=>⟨rfl,rfl⟩,rfl,rfl⟩ S ?_ d0 d1 ?_) rfl
 ·exact match i,hi with
   | 0,_=>Or.inl (show A 1∈[A 0,A 1,la 0,la 1,la 2,la 3,la 4,la 5,la 6,la 7,la 8] by simp)
   | 1,_=>Or.inl (show A 0∈[A 0,A 1,la 0,la 1,la 2,la 3,la 4,la 5,la 6,la 7,la 8] by simp)
   | 2,_=>Or.inl (show la 0∈[A 0,A 1,la 0,la 1,la 2,la 3,la 4,la 5,la 6,la 7,la 8] by simp)
   | 3,_=>Or.inl (show la 1∈[A 0,A 1,la 0,la 1,la 2,la 3,la 4,la 5,la 6,la 7,la 8] by simp)
   | 4,_=>Or.inl (show la 2∈[A 0,A 1,la 0,la 1,la 2,la 3,la 4,la 5,la 6,la 7,la 8] by simp)
   | 5,_=>Or.inl (show la 3∈[A 0,A 1,la 0,la 1,la 2,la 3,la 4,la 5,la 6,la 7,la 8] by simp)
   | 6,_=>Or.inl (show la 4∈[A 0,A 1,la 0,la 1,la 2,la 3,la 4,la 5,la 6,la 7,la 8] by simp)
   | 7,_=>Or.inl (show la 5∈[A 0,A 1,la 0,la 1,la 2,la 3,la 4,la 5,la 6,la 7,la 8] by simp)
   | 8,_=>Or.inl (show la 6∈[A 0,A 1,la 0,la 1,la 2,la 3,la 4,la 5,la 6,la 7,la 8] by simp)
   | 9,_=>Or.inl (show la 7∈[A 0,A 1,la 0,la 1,la 2,la 3,la 4,la 5,la 6,la 7,la 8] by simp)
   | 10,_=>Or.inl (show la 8∈[A 0,A 1,la 0,la 1,la 2,la 3,la 4,la 5,la 6,la 7,la 8] by simp)
 ·obtain⟨j0,j1,j2,j3,j4,j5⟩:=J
  exact⟨by omega,by omega,by omega,by omega,by omega,by omega⟩
 ·intro T1 h1 L1 A1 K1 D1 b9 j9 H1 f0 f1
  have YE:=rI H1 rfl rfl rfl rfl rfl (by decide)
  have YF:=Yf.swap (a:=[(A1 13,K1 13,65,2,[.double (D1 9),.double (D1 7)]),(A1 11,K1 11,65,2,[.double (D1 10),.double (D1 11)]),(A1 12,K1 12,65,2,[.double (D1 7),.double (D1 9)]),(A 0,K 0,65,2,[.double (D 1),.double (D 2)]),(A 1,K 1,0,0,[tmL g la 0,tmL g la 1,tmL g la 2,tmL g la 3,tmL g la 4,tmL g la 5,tmL g la 6,tmL g la 7,.ref (A 2),.ref (A 3),.ref (A 4),.ref (A 5),.ref (A 6),tmL g la 8,tmL g la 9,tmL g la 10,tmL g la 11,tmL g la 12,tmL g la 13,tmL g la 14,tmL g la 15,tmL g la 16,tmL g la 17,tmL g la 18,tmL g la 19,tmL g la 20,tmL g la 21,tmL g la 22,.int cnt])]) (b:=rest) (c:=(an A K D (tmL g la) 0 (dsE cnt er ep es eo ev)).drop 2) YE
  have a0:=(H1.2.2.2.2.2.2.1 0 (by decide)).1
  have a1:=(H1.2.2.2.2.2.2.1 1 (by decide)).1
  have G:=KK T1 h1 L1 (A1 13) (A1 11) (A1 12) (K1 13) (K1 11) (K1 12) _ _ (D1 7) _ _ _ _ 1 j9 b9 H1.1 YF f1 f0
  rw[a0,a1]
  exact G
def bV:List AD:=[rJ,aL,za9,za4,ff,dV,za9,aD [6,0],bv,za8,eI]
theorem Io:ai (run (tb 32) ae 10 (1,3,6,14) 52 32 [] [] (0,#[sR 0,sR 1,sU,sU,sU,sU,sU,sU,sU,sU],[],bV,12,0,0)) (52,#[sR 0,sR 1,sR 11,sR 12,sI 0,sD 12,s2,sU,sU,sU],[],bV++[aL,lC],13,2,4) [fO]=true:=by decide +kernel
theorem FN:ai (run (tb 32) ae 10 (1,3,6,14) 51 26 [] [0] (52,#[sR 0,sR 1,sR 11,sR 12,sI 0,sD 7,s2,sU,sU,sU],[],bV++[za6,dM],12,2,4)) (51,#[sR 0,sR 1,sR 11,sR 12,sI 1,sD 12,s2,sU,sU,sU],i7,bV++[za6,dM],13,2,4) [d8,lD]=true:=by decide +kernel
def om:List Value:=[vD 14,zq3,d4]
def wL:List Op:=[eO,(2,6,7,0),(1,11,12,0),(3,13,4,0)]
theorem FO:ai (run (tb 32) ae 10 (1,3,6,14) 51 64 [] [1] (52,#[sR 0,sR 1,sR 11,sR 12,sI 0,sD 7,s2,sU,sU,sU],[],bV++[za6,dM],12,2,4)) (51,#[sR 0,sR 1,sR 11,sR 12,sI 1,sD 14,s2,sI 1,sU,sU],om,bV++[aD [10,13],dM],15,2,4) wL=true:=by decide +kernel
theorem FQ:∀b7:Bool,ai (run (tb 32) ae 10 (1,3,6,14) 159 36 [] [0] (51,#[sR 0,sR 1,sR 11,sR 12,sI 1,sD 7,s2,(bif b7 then sI 1 else sU),sU,sU],fP,bV++[za6,fQ],12,2,4)) (159,#[sR 0,sR 1,sR 11,sR 12,sR 13,sI 1,sI 0,sD 7,s2,sU],[],bV++dG,12,3,6) [d8]=true:=by decide +kernel
theorem FR:∀b7:Bool,ai (run (tb 32) ae 10 (1,3,6,14) 159 49 [] [1] (51,#[sR 0,sR 1,sR 11,sR 12,sI 1,sD 7,s2,(bif b7 then sI 1 else sU),sU,sU],fP,bV++[za6,fQ],12,2,4)) (159,#[sR 0,sR 1,sR 11,sR 12,sR 13,sI 1,sI 0,sD 7,s2,sU],[],bV++dG,12,3,6) [eO]=true:=by decide +kernel
theorem FS:ai (run (tb 32) ae 10 (1,3,6,14) 158 21 [] [0] (159,#[sR 0,sR 1,sR 11,sR 12,sR 13,sI 1,sI 0,sD 7,s2,sU],[],bV++dG,12,3,6)) (158,#[sR 0,sR 1,sR 11,sR 12,sR 13,sI 0,sI 1,sD 8,s2,sU],nl,bV++dG,12,3,6) [d8]=true:=by decide +kernel
theorem FT:ai (run (tb 32) ae 10 (1,3,6,14) 158 34 [] [1] (159,#[sR 0,sR 1,sR 11,sR 12,sR 13,sI 1,sI 0,sD 7,s2,sU],[],bV++dG,12,3,6)) (158,#[sR 0,sR 1,sR 11,sR 12,sR 13,sI 0,sI 1,sD 8,s2,sI 0],nl,bV++dG,12,3,6) [eO]=true:=by decide +kernel
theorem FU:∀b9:Bool,ai (run (tb 32) ae 10 (1,3,6,14) 226 12 [] [0] (158,#[sR 0,sR 1,sR 11,sR 12,sR 13,sI 0,sI 1,sD 7,s2,(bif b9 then sI 0 else sU)],lE,bV++lF,12,3,6)) (226,#[sR 0,sR 1,sR 11,sR 12,sR 13,sI 0,sI 1,sD 7,s2,(bif b9 then sI 0 else sU)],[],bV++lG,12,3,6) [d8]=true:=by decide +kernel
theorem FV:∀b9:Bool,ai (run (tb 32) ae 10 (1,3,6,14) 226 25 [] [1] (158,#[sR 0,sR 1,sR 11,sR 12,sR 13,sI 0,sI 1,sD 7,s2,(bif b9 then sI 0 else sU)],lE,bV++lF,12,3,6)) (226,#[sR 0,sR 1,sR 11,sR 12,sR 13,sI 0,sI 1,sD 7,s2,sI 0],[],bV++lG,12,3,6) [eO]=true:=by decide +kernel
def nn (p:Program)(l:Launch)(e:Env)(s:State)(m:MethodId)(args:Array Value)(below:List Frame)(meth:Method)(c:Code)(Z:State)(a0:Array Value)(hM:Heap)(n0:Nat)(Ab:Nat→Addr)(Kb:Nat→ClassId)(W:Nat→Value)(oM rest:List OB)(v0 v1:UInt64)(J0 J1:Int)(Ev:State→Outcome→Prop):Prop:=∀(T1:State)(h1:Heap)(L1:List Loc)(A1:Nat→Addr)(K1:Nat→ClassId)(D1:Nat→UInt64)(b9:Bool)(j9:Int32),LVH p l e s m args below meth c T1 Z a0 h1 hM n0 L1 A1 Ab K1 Kb D1 W oM rest v0 v1 3 6 (bV++[(65,2,[vD 10,vD 11]),(65,2,[vD 7,vD 9]),(65,2,[vD 9,vD 7])])→ah J0 7 (D1 7)→ah J1 7 (D1 9)→Go p e below Ev T1 (mkF m 226 #[.val (.ref (A1 0)),.val (.ref (A1 1)),.val (.ref (A1 11)),.val (.ref (A1 12)),.val (.ref (A1 13)),.val (.int 0),.val (.int 1),.val (.double (D1 7)),.second,(bif b9 then .val (.int j9) else .unset)] [])
theorem oo (b9:Bool)(H:LVH p l e s m args below meth c T0 Z a0 h0 hM n0 L0 A Ab K Kb D W oM rest v0 v1 3 6 (bV++[(65,2,[vD 10,vD 11]),(65,2,[vD 7,vD 9]),(65,2,[vD 9,vD 0])]))(S:S7 (ah u 0 (D 6)) (Lq=0) a u Lq Dd M10 M11 M00 M01 (D 3) (D 4))(J:JH M10 M11 M00 M01 J0 J1 R0 R1)(f0:ah J0 7 (D 7))(f1:ah J1 7 (D 9))(KK:nn p l e s m args below meth c Z a0 hM n0 Ab Kb W oM rest v0 v1 J0 J1 Ev):Go p e below Ev T0 (mkF m 158 (dL A D W #[sR 0,sR 1,sR 11,sR 12,sR 13,sI 0,sI 1,sD 7,s2,(bif b9 then sI 0 else sU)]) [.double (D 7),.int 1,.ref (A 13)]):=by
 rcases aq f0 H.2.1 with ⟨hz,hc⟩|⟨hz,hc⟩
 ·refine goE (aX (FU b9) H (by decide) (by decide) ⟨hc,trivial⟩ ?_) rfl
  intro T1 h1 L1 A1 K1 H1
  exact goE (KK T1 h1 L1 A1 K1 _ b9 0 H1 f0 f1) (by cases b9<;>rfl)
 ·refine goE (aX (FV b9) H (by decide) (by decide) ⟨hc,trivial⟩ ?_) rfl
  intro T1 h1 L1 A1 K1 H1
  exact goE (KK T1 h1 L1 A1 K1 _ true 0 H1 f0 f1) rfl
theorem oq (H:LVH p l e s m args below meth c T0 Z a0 h0 hM n0 L0 A Ab K Kb D W oM rest v0 v1 3 6 (bV++[(65,2,[vD 10,vD 11]),(65,2,[vD 8,vD 7]),(65,2,[vD 7,vD 0])]))(S:S7 (ah u 0 (D 6)) (Lq=0) a u Lq Dd M10 M11 M00 M01 (D 3) (D 4))(J:JH M10 M11 M00 M01 J0 J1 R0 R1)(f0:ah P0 7 (D 8))(f1:ah J1 7 (D 7))(e1:128*P0=128*J0+Lq*J1)(KK:nn p l e s m args below meth c Z a0 hM n0 Ab Kb W oM rest v0 v1 J0 J1 Ev):Go p e below Ev T0 (mkF m 159 (dL A D W #[sR 0,sR 1,sR 11,sR 12,sR 13,sI 1,sI 0,sD 7,s2,sU]) []):=by
 rcases aq f1 H.2.1 with ⟨hz,hc⟩|⟨hz,hc⟩
 ·refine goE (aX (FS) H (by decide) (by decide) ⟨hc,trivial⟩ ?_) rfl
  intro T1 h1 L1 A1 K1 H1
  exact goE (oo (D:=(ac [(D 0),(D 1),(D 2),(D 3),(D 4),(D 5),(D 6),(D 8),(D 8),(D 7),(D 10),(D 11)])) false (H1.re rfl rfl rfl rfl) S J (by rw[show J0=P0 by rw[S.2.2.2.2.2.2.1,Int.zero_mul] at e1;omega];exact f0) f1 KK) rfl
 ·refine goE (aX (FT) H (by decide) (by decide) ⟨hc,trivial⟩ ?_) rfl
  intro T1 h1 L1 A1 K1 H1
  exact goE (oo (D:=(ac [(D 0),(D 1),(D 2),(D 3),(D 4),(D 5),(D 6),(D 8),(D 8),(D 7),(D 10),(D 11)])) true (H1.re rfl rfl rfl rfl) S J (by rw[show J0=P0 by rw[S.2.2.2.2.2.2.1,Int.zero_mul] at e1;omega];exact f0) f1 KK) rfl
theorem ot (b7:Bool)(H:LVH p l e s m args below meth c T0 Z a0 h0 hM n0 L0 A Ab K Kb D W oM rest v0 v1 2 4 (bV++[(65,2,[vD 10,vD 11]),(65,2,[vD 8,vD 0])]))(S:S7 (ah u 0 (D 6)) (Lq=0) a u Lq Dd M10 M11 M00 M01 (D 3) (D 4))(J:JH M10 M11 M00 M01 J0 J1 R0 R1)(f0:ah P0 7 (D 8))(f1:ah J1 7 (D 7))(e1:128*P0=128*J0+Lq*J1)(KK:nn p l e s m args below meth c Z a0 hM n0 Ab Kb W oM rest v0 v1 J0 J1 Ev):Go p e below Ev T0 (mkF m 51 (dL A D W #[sR 0,sR 1,sR 11,sR 12,sI 1,sD 7,s2,(bif b7 then sI 1 else sU),sU,sU]) [.double (D 7),.int 1,.ref (A 12)]):=by
 rcases aq f1 H.2.1 with ⟨hz,hc⟩|⟨hz,hc⟩
 ·refine goE (aX (FQ b7) H (by decide) (by decide) ⟨hc,trivial⟩ ?_) rfl
  intro T1 h1 L1 A1 K1 H1
  exact goE (oq (D:=(ac [(D 0),(D 1),(D 2),(D 3),(D 4),(D 5),(D 6),(D 7),(D 8),(D 9),(D 10),(D 11)])) (H1.re rfl rfl rfl rfl) S J f0 f1 e1 KK) rfl
 ·refine goE (aX (FR b7) H (by decide) (by decide) ⟨hc,trivial⟩ ?_) rfl
  intro T1 h1 L1 A1 K1 H1
  exact goE (oq (D:=(ac [(D 0),(D 1),(D 2),(D 3),(D 4),(D 5),(D 6),(D 7),(D 8),(D 9),(D 10),(D 11)])) (H1.re rfl rfl rfl rfl) S J f0 f1 e1 KK) rfl
theorem yv (H:LVH p l e s m args below meth c T0 Z a0 h0 hM n0 L0 A Ab K Kb D W oM rest v0 v1 2 4 (bV++[(65,2,[vD 10,vD 11]),(65,2,[vD 7,vD 0])]))(S:S7 (ah u 0 (D 6)) (Lq=0) a u Lq Dd M10 M11 M00 M01 (D 3) (D 4))(J:JH M10 M11 M00 M01 J0 J1 R0 R1)(fx:ah P0 7 (D 7))(fz:Jvm.FP.Core.DInt R1 (D 11))(bP:-8388608≤P0∧P0≤8388608)(e1:128*P0=128*J0+Lq*J1)(e2:2*(128*R1-u*P0)=Dd*J1)(KK:nn p l e s m args below meth c Z a0 hM n0 Ab Kb W oM rest v0 v1 J0 J1 Ev):Go p e below Ev T0 (mkF m 52 (dL A D W #[sR 0,sR 1,sR 11,sR 12,sI 0,sD 7,s2,sU,sU,sU]) []):=by
 obtain⟨fp,fw⟩:=gP S.2.2.2.2.2.1 fx fz S.2.1 bP J.2.2.2.2.2
 rcases aq fx H.2.1 with ⟨hz,hc⟩|⟨hz,hc⟩
 ·have fi:ah (128*R1-u*P0) 7 (D 11):=(by rw[show 128*R1-u*P0=128*R1 by rw[hz,Int.mul_zero];omega];exact aG 7 128 (ak.mpr fz) rfl (by omega))
  have f1:=ch fi S.2.2.2.2.2.2.2.1 S.2.2.2.1 e2 J.2.2.2.1
  refine goE (aX (FN) H (by decide) (by decide) ⟨hc,aj f1,trivial⟩ ?_) rfl
  intro T1 h1 L1 A1 K1 H1
  exact goE (ot (D:=(ac [(D 0),(D 1),(D 2),(D 3),(D 4),(D 5),(D 6),(FP.ddiv (D 11) (D 4)),(D 7),(D 9),(D 10),(D 11)])) false (H1.re rfl rfl rfl rfl) S J fx f1 e1 KK) rfl
 ·have fi:ah (128*R1-u*P0) 7 (FP.dsub (D 11) (FP.dmul (D 6) (D 7))):=fw
  have f1:=ch fi S.2.2.2.2.2.2.2.1 S.2.2.2.1 e2 J.2.2.2.1
  refine goE (aX (FO) H (by decide) (by decide) ⟨hc,aj fp,aj fw,aj f1,trivial⟩ ?_) rfl
  intro T1 h1 L1 A1 K1 H1
  exact goE (ot (D:=(ac [(D 0),(D 1),(D 2),(D 3),(D 4),(D 5),(D 6),(FP.ddiv (FP.dsub (D 11) (FP.dmul (D 6) (D 7))) (D 4)),(D 7),(D 9),(D 10),(FP.dsub (D 11) (FP.dmul (D 6) (D 7)))])) true (H1.re rfl rfl rfl rfl) S J fx f1 e1 KK) rfl
theorem yw (H:LVH p l e s m args below meth c T0 Z a0 h0 hM n0 L0 A Ab K Kb D W oM rest v0 v1 0 0 (bV))(S:S7 (ah u 0 (D 6)) (Lq=0) a u Lq Dd M10 M11 M00 M01 (D 3) (D 4))(J:JH M10 M11 M00 M01 J0 J1 R0 R1)(fv:Jvm.FP.Core.DInt R0 (D 1))(fz:Jvm.FP.Core.DInt R1 (D 2))(KK:nn p l e s m args below meth c Z a0 hM n0 Ab Kb W oM rest v0 v1 J0 J1 Ev):Go p e below Ev T0 (mkF m 0 (dL A D W #[sR 0,sR 1,sU,sU,sU,sU,sU,sU,sU,sU]) []):=by
 obtain⟨P0,fx,bP,e1,e2⟩:=gq S J fv
 refine goE (aX (Io) H (by decide) (by decide) ⟨aj fx,trivial⟩ ?_) rfl
 intro T1 h1 L1 A1 K1 H1
 exact goE (yv (D:=(ac [(D 0),(D 1),(D 2),(D 3),(D 4),(D 5),(D 6),(FP.ddiv (D 1) (D 3)),(D 8),(D 9),(D 1),(D 2)])) (H1.re rfl rfl rfl rfl) S J fx fz bP e1 e2 KK) rfl
def pW (la:Nat→Addr)(kl:Nat→ClassId)(pv0 pv1 uv:UInt64):List OB:=[(la 0,kl 0,64,2,[.int 1,.int 0]),(la 1,kl 1,64,2,[.int 0,.int 1]),(la 2,kl 2,65,2,[.double pv0,.double pv1]),(la 3,kl 3,64,3,[.int 0,.int 1,.int 1]),(la 4,kl 4,64,2,[.int 1,.int 0]),(la 5,kl 5,65,2,[.double uv,.double 0]),(la 6,kl 6,64,3,[.int 0,.int 0,.int 0]),(la 7,kl 7,64,0,[]),(la 8,kl 8,65,0,[])]
theorem FW {la:Nat→Addr}{kl:Nat→ClassId}{g:Nat→Value}{pv0 pv1 uv:UInt64}(S:S7 (ah u 0 uv) (Lq=0) a u Lq Dd M10 M11 M00 M01 pv0 pv1):bl l Z n0 M00 M01 M10 M11 (tmL g la) (pW la kl pv0 pv1 uv):=by
 intro p e s m args below meth c T0 a0 Ev h0 A K D J0 J1 i0 i1 cnt er ep es eo ev rest B D0 d0 d1 J YM KK
 have YS:Yf Z n0 h0 (([(A 0,K 0,65,2,[.double (D 1),.double (D 2)]),(A 1,K 1,0,0,[tmL g la 0,tmL g la 1,tmL g la 2,tmL g la 3,tmL g la 4,tmL g la 5,tmL g la 6,tmL g la 7,.ref (A 2),.ref (A 3),.ref (A 4),.ref (A 5),.ref (A 6),tmL g la 8,tmL g la 9,tmL g la 10,tmL g la 11,tmL g la 12,tmL g la 13,tmL g la 14,tmL g la 15,tmL g la 16,tmL g la 17,tmL g la 18,tmL g la 19,tmL g la 20,tmL g la 21,tmL g la 22,.int cnt])]++pW la kl pv0 pv1 uv)++(rest++(an A K D (tmL g la) 0 (dsE cnt er ep es eo ev)).drop 2)):=by
  have:=Yf.swap (a:=[(A 0,K 0,65,2,[.double (D 1),.double (D 2)]),(A 1,K 1,0,0,[tmL g la 0,tmL g la 1,tmL g la 2,tmL g la 3,tmL g la 4,tmL g la 5,tmL g la 6,tmL g la 7,.ref (A 2),.ref (A 3),.ref (A 4),.ref (A 5),.ref (A 6),tmL g la 8,tmL g la 9,tmL g la 10,tmL g la 11,tmL g la 12,tmL g la 13,tmL g la 14,tmL g la 15,tmL g la 16,tmL g la 17,tmL g la 18,tmL g la 19,tmL g la 20,tmL g la 21,tmL g la 22,.int cnt])]) (b:=(an A K D (tmL g la) 0 (dsE cnt er ep es eo ev)).drop 2) (c:=pW la kl pv0 pv1 uv++rest) YM
  exact this
 refine goE (yw (A:=ttA A la) (Ab:=ttA A la) (K:=ttK K kl) (Kb:=ttK K kl) (D:=(ac [0,D 1,D 2,pv0,pv1,0,uv,0,0,0,0,0])) (W:=(ttW A cnt g)) (hM:=h0) (v0:=D 1) (v1:=D 2) (M00:=M00) (M01:=M01) (M10:=M10) (M11:=M11) (J0:=J1) (J1:=J0) (R0:=i0) (R1:=i1) ⟨B,rfl,Yf.to (Yf.pick (os':=an (ttA A la) (ttK K kl) (ac [0,D 1,D 2,pv0,pv1,0,uv,0,0,0,0,0]) (ttW A cnt g) 0 bV) YS [1,0,2,3,4,5,6,7,8,9,10] (by decide) rfl) rfl,YS,Keep.refl _ _,fun i hi=>?_,fun i _=>⟨rfl,rfl⟩,rfl,rfl⟩ S ?_ d0 d1 ?_) rfl
 ·exact match i,hi with
   | 0,_=>Or.inl (show A 1∈[A 0,A 1,la 0,la 1,la 2,la 3,la 4,la 5,la 6,la 7,la 8] by simp)
   | 1,_=>Or.inl (show A 0∈[A 0,A 1,la 0,la 1,la 2,la 3,la 4,la 5,la 6,la 7,la 8] by simp)
   | 2,_=>Or.inl (show la 0∈[A 0,A 1,la 0,la 1,la 2,la 3,la 4,la 5,la 6,la 7,la 8] by simp)
   | 3,_=>Or.inl (show la 1∈[A 0,A 1,la 0,la 1,la 2,la 3,la 4,la 5,la 6,la 7,la 8] by simp)
   | 4,_=>Or.inl (show la 2∈[A 0,A 1,la 0,la 1,la 2,la 3,la 4,la 5,la 6,la 7,la 8] by simp)
   | 5,_=>Or.inl (show la 3∈[A 0,A 1,la 0,la 1,la 2,la 3,la 4,la 5,la 6,la 7,la 8] by simp)
   | 6,_=>Or.inl (show la 4∈[A 0,A 1,la 0,la 1,la 2,la 3,la 4,la 5,la 6,la 7,la 8] by simp)
   | 7,_=>Or.inl (show la 5∈[A 0,A 1,la 0,la 1,la 2,la 3,la 4,la 5,la 6,la 7,la 8] by simp)
   | 8,_=>Or.inl (show la 6∈[A 0,A 1,la 0,la 1,la 2,la 3,la 4,la 5,la 6,la 7,la 8] by simp)
   | 9,_=>Or.inl (show la 7∈[A 0,A 1,la 0,la 1,la 2,la 3,la 4,la 5,la 6,la 7,la 8] by simp)
   | 10,_=>Or.inl (show la 8∈[A 0,A 1,la 0,la 1,la 2,la 3,la 4,la 5,la 6,la 7,la 8] by simp)
 ·obtain⟨j0,j1,j2,j3,j4,j5⟩:=J
  exact⟨by omega,by omega,by omega,by omega,by omega,by omega⟩
 ·intro T1 h1 L1 A1 K1 D1 b9 j9 H1 f0 f1
  have YE:=rI H1 rfl rfl rfl rfl rfl (by decide)
  have YF:=Yf.swap (a:=[(A1 13,K1 13,65,2,[.double (D1 9),.double (D1 7)]),(A1 11,K1 11,65,2,[.double (D1 10),.double (D1 11)]),(A1 12,K1 12,65,2,[.double (D1 7),.double (D1 9)]),(A 0,K 0,65,2,[.double (D 1),.double (D 2)]),(A 1,K 1,0,0,[tmL g la 0,tmL g la 1,tmL g la 2,tmL g la 3,tmL g la 4,tmL g la 5,tmL g la 6,tmL g la 7,.ref (A 2),.ref (A 3),.ref (A 4),.ref (A 5),.ref (A 6),tmL g la 8,tmL g la 9,tmL g la 10,tmL g la 11,tmL g la 12,tmL g la 13,tmL g la 14,tmL g la 15,tmL g la 16,tmL g la 17,tmL g la 18,tmL g la 19,tmL g la 20,tmL g la 21,tmL g la 22,.int cnt])]) (b:=rest) (c:=(an A K D (tmL g la) 0 (dsE cnt er ep es eo ev)).drop 2) YE
  have a0:=(H1.2.2.2.2.2.2.1 0 (by decide)).1
  have a1:=(H1.2.2.2.2.2.2.1 1 (by decide)).1
  have G:=KK T1 h1 L1 (A1 13) (A1 11) (A1 12) (K1 13) (K1 11) (K1 12) _ _ (D1 7) _ _ _ _ 1 j9 b9 H1.1 YF f1 f0
  rw[a0,a1]
  exact G
def c_:List AD:=[rJ,aL,za4,za4,ff,bv,za8,eI,bv,za8,eI]
theorem OP:ai (run (tb 32) ae 10 (1,3,6,14) 52 32 [] [] (0,#[sR 0,sR 1,sU,sU,sU,sU,sU,sU,sU,sU],[],c_,12,0,0)) (52,#[sR 0,sR 1,sR 11,sR 12,sI 0,sD 12,s2,sU,sU,sU],[],c_++[aL,lC],13,2,4) [fO]=true:=by decide +kernel
theorem Ip:ai (run (tb 32) ae 10 (1,3,6,14) 51 26 [] [0] (52,#[sR 0,sR 1,sR 11,sR 12,sI 0,sD 7,s2,sU,sU,sU],[],c_++[za6,dM],12,2,4)) (51,#[sR 0,sR 1,sR 11,sR 12,sI 1,sD 12,s2,sU,sU,sU],i7,c_++[za6,dM],13,2,4) [d8,lD]=true:=by decide +kernel
theorem Iq:ai (run (tb 32) ae 10 (1,3,6,14) 51 39 [] [1] (52,#[sR 0,sR 1,sR 11,sR 12,sI 0,sD 7,s2,sU,sU,sU],[],c_++[za6,dM],12,2,4)) (51,#[sR 0,sR 1,sR 11,sR 12,sI 1,sD 12,s2,sI 0,sU,sU],i7,c_++[za6,dM],13,2,4) [eO,lD]=true:=by decide +kernel
def M2:AD:=aD [0,7]
def dH:List AD:=[za6,Ra,M2]
theorem Ir:∀b7:Bool,ai (run (tb 32) ae 10 (1,3,6,14) 159 36 [] [0] (51,#[sR 0,sR 1,sR 11,sR 12,sI 1,sD 7,s2,(bif b7 then sI 0 else sU),sU,sU],fP,c_++[za6,fQ],12,2,4)) (159,#[sR 0,sR 1,sR 11,sR 12,sR 13,sI 1,sI 1,sD 7,s2,sU],[],c_++dH,12,3,6) [d8]=true:=by decide +kernel
theorem Is:∀b7:Bool,ai (run (tb 32) ae 10 (1,3,6,14) 159 49 [] [1] (51,#[sR 0,sR 1,sR 11,sR 12,sI 1,sD 7,s2,(bif b7 then sI 0 else sU),sU,sU],fP,c_++[za6,fQ],12,2,4)) (159,#[sR 0,sR 1,sR 11,sR 12,sR 13,sI 1,sI 1,sD 7,s2,sU],[],c_++dH,12,3,6) [eO]=true:=by decide +kernel
def no:List Value:=[vD 8,zq0,d5]
theorem It:ai (run (tb 32) ae 10 (1,3,6,14) 158 21 [] [0] (159,#[sR 0,sR 1,sR 11,sR 12,sR 13,sI 1,sI 1,sD 7,s2,sU],[],c_++dH,12,3,6)) (158,#[sR 0,sR 1,sR 11,sR 12,sR 13,sI 0,sI 0,sD 8,s2,sU],no,c_++dH,12,3,6) [d8]=true:=by decide +kernel
theorem Iu:ai (run (tb 32) ae 10 (1,3,6,14) 158 34 [] [1] (159,#[sR 0,sR 1,sR 11,sR 12,sR 13,sI 1,sI 1,sD 7,s2,sU],[],c_++dH,12,3,6)) (158,#[sR 0,sR 1,sR 11,sR 12,sR 13,sI 0,sI 0,sD 8,s2,sI 0],no,c_++dH,12,3,6) [eO]=true:=by decide +kernel
def lH:List Value:=[vD 7,zq0,d5]
def Re:AD:=aD [0,9]
def lI:List AD:=[za6,FK,Re]
def lJ:List AD:=[za6,FK,FK]
theorem Iv:∀b9:Bool,ai (run (tb 32) ae 10 (1,3,6,14) 226 12 [] [0] (158,#[sR 0,sR 1,sR 11,sR 12,sR 13,sI 0,sI 0,sD 7,s2,(bif b9 then sI 0 else sU)],lH,c_++lI,12,3,6)) (226,#[sR 0,sR 1,sR 11,sR 12,sR 13,sI 0,sI 0,sD 7,s2,(bif b9 then sI 0 else sU)],[],c_++lJ,12,3,6) [d8]=true:=by decide +kernel
theorem Iw:∀b9:Bool,ai (run (tb 32) ae 10 (1,3,6,14) 226 25 [] [1] (158,#[sR 0,sR 1,sR 11,sR 12,sR 13,sI 0,sI 0,sD 7,s2,(bif b9 then sI 0 else sU)],lH,c_++lI,12,3,6)) (226,#[sR 0,sR 1,sR 11,sR 12,sR 13,sI 0,sI 0,sD 7,s2,sI 0],[],c_++lJ,12,3,6) [eO]=true:=by decide +kernel
def rO (p:Program)(l:Launch)(e:Env)(s:State)(m:MethodId)(args:Array Value)(below:List Frame)(meth:Method)(c:Code)(Z:State)(a0:Array Value)(hM:Heap)(n0:Nat)(Ab:Nat→Addr)(Kb:Nat→ClassId)(W:Nat→Value)(oM rest:List OB)(v0 v1:UInt64)(J0 J1:Int)(Ev:State→Outcome→Prop):Prop:=∀(T1:State)(h1:Heap)(L1:List Loc)(A1:Nat→Addr)(K1:Nat→ClassId)(D1:Nat→UInt64)(b9:Bool)(j9:Int32),LVH p l e s m args below meth c T1 Z a0 h1 hM n0 L1 A1 Ab K1 Kb D1 W oM rest v0 v1 3 6 (c_++[(65,2,[vD 10,vD 11]),(65,2,[vD 7,vD 9]),(65,2,[vD 7,vD 9])])→ah J0 7 (D1 7)→ah J1 7 (D1 9)→Go p e below Ev T1 (mkF m 226 #[.val (.ref (A1 0)),.val (.ref (A1 1)),.val (.ref (A1 11)),.val (.ref (A1 12)),.val (.ref (A1 13)),.val (.int 0),.val (.int 0),.val (.double (D1 7)),.second,(bif b9 then .val (.int j9) else .unset)] [])
theorem rP (b9:Bool)(H:LVH p l e s m args below meth c T0 Z a0 h0 hM n0 L0 A Ab K Kb D W oM rest v0 v1 3 6 (c_++[(65,2,[vD 10,vD 11]),(65,2,[vD 7,vD 9]),(65,2,[vD 0,vD 9])]))(S:S7 (u=0) (Lq=0) a u Lq Dd M00 M01 M10 M11 (D 3) (D 4))(J:JH M00 M01 M10 M11 J0 J1 R0 R1)(f0:ah J0 7 (D 7))(f1:ah J1 7 (D 9))(KK:rO p l e s m args below meth c Z a0 hM n0 Ab Kb W oM rest v0 v1 J0 J1 Ev):Go p e below Ev T0 (mkF m 158 (dL A D W #[sR 0,sR 1,sR 11,sR 12,sR 13,sI 0,sI 0,sD 7,s2,(bif b9 then sI 0 else sU)]) [.double (D 7),.int 0,.ref (A 13)]):=by
 rcases aq f0 H.2.1 with ⟨hz,hc⟩|⟨hz,hc⟩
 ·refine goE (aX (Iv b9) H (by decide) (by decide) ⟨hc,trivial⟩ ?_) rfl
  intro T1 h1 L1 A1 K1 H1
  exact goE (KK T1 h1 L1 A1 K1 _ b9 0 H1 f0 f1) (by cases b9<;>rfl)
 ·refine goE (aX (Iw b9) H (by decide) (by decide) ⟨hc,trivial⟩ ?_) rfl
  intro T1 h1 L1 A1 K1 H1
  exact goE (KK T1 h1 L1 A1 K1 _ true 0 H1 f0 f1) rfl
theorem rQ (H:LVH p l e s m args below meth c T0 Z a0 h0 hM n0 L0 A Ab K Kb D W oM rest v0 v1 3 6 (c_++[(65,2,[vD 10,vD 11]),(65,2,[vD 8,vD 7]),(65,2,[vD 0,vD 7])]))(S:S7 (u=0) (Lq=0) a u Lq Dd M00 M01 M10 M11 (D 3) (D 4))(J:JH M00 M01 M10 M11 J0 J1 R0 R1)(f0:ah P0 7 (D 8))(f1:ah J1 7 (D 7))(e1:128*P0=128*J0+Lq*J1)(KK:rO p l e s m args below meth c Z a0 hM n0 Ab Kb W oM rest v0 v1 J0 J1 Ev):Go p e below Ev T0 (mkF m 159 (dL A D W #[sR 0,sR 1,sR 11,sR 12,sR 13,sI 1,sI 1,sD 7,s2,sU]) []):=by
 rcases aq f1 H.2.1 with ⟨hz,hc⟩|⟨hz,hc⟩
 ·refine goE (aX (It) H (by decide) (by decide) ⟨hc,trivial⟩ ?_) rfl
  intro T1 h1 L1 A1 K1 H1
  exact goE (rP (D:=(ac [(D 0),(D 1),(D 2),(D 3),(D 4),(D 5),(D 6),(D 8),(D 8),(D 7),(D 10),(D 11)])) false (H1.re rfl rfl rfl rfl) S J (by rw[show J0=P0 by rw[S.2.2.2.2.2.2.1,Int.zero_mul] at e1;omega];exact f0) f1 KK) rfl
 ·refine goE (aX (Iu) H (by decide) (by decide) ⟨hc,trivial⟩ ?_) rfl
  intro T1 h1 L1 A1 K1 H1
  exact goE (rP (D:=(ac [(D 0),(D 1),(D 2),(D 3),(D 4),(D 5),(D 6),(D 8),(D 8),(D 7),(D 10),(D 11)])) true (H1.re rfl rfl rfl rfl) S J (by rw[show J0=P0 by rw[S.2.2.2.2.2.2.1,Int.zero_mul] at e1;omega];exact f0) f1 KK) rfl
theorem rR (b7:Bool)(H:LVH p l e s m args below meth c T0 Z a0 h0 hM n0 L0 A Ab K Kb D W oM rest v0 v1 2 4 (c_++[(65,2,[vD 10,vD 11]),(65,2,[vD 8,vD 0])]))(S:S7 (u=0) (Lq=0) a u Lq Dd M00 M01 M10 M11 (D 3) (D 4))(J:JH M00 M01 M10 M11 J0 J1 R0 R1)(f0:ah P0 7 (D 8))(f1:ah J1 7 (D 7))(e1:128*P0=128*J0+Lq*J1)(KK:rO p l e s m args below meth c Z a0 hM n0 Ab Kb W oM rest v0 v1 J0 J1 Ev):Go p e below Ev T0 (mkF m 51 (dL A D W #[sR 0,sR 1,sR 11,sR 12,sI 1,sD 7,s2,(bif b7 then sI 0 else sU),sU,sU]) [.double (D 7),.int 1,.ref (A 12)]):=by
 rcases aq f1 H.2.1 with ⟨hz,hc⟩|⟨hz,hc⟩
 ·refine goE (aX (Ir b7) H (by decide) (by decide) ⟨hc,trivial⟩ ?_) rfl
  intro T1 h1 L1 A1 K1 H1
  exact goE (rQ (D:=(ac [(D 0),(D 1),(D 2),(D 3),(D 4),(D 5),(D 6),(D 7),(D 8),(D 9),(D 10),(D 11)])) (H1.re rfl rfl rfl rfl) S J f0 f1 e1 KK) rfl
 ·refine goE (aX (Is b7) H (by decide) (by decide) ⟨hc,trivial⟩ ?_) rfl
  intro T1 h1 L1 A1 K1 H1
  exact goE (rQ (D:=(ac [(D 0),(D 1),(D 2),(D 3),(D 4),(D 5),(D 6),(D 7),(D 8),(D 9),(D 10),(D 11)])) (H1.re rfl rfl rfl rfl) S J f0 f1 e1 KK) rfl
theorem FX (H:LVH p l e s m args below meth c T0 Z a0 h0 hM n0 L0 A Ab K Kb D W oM rest v0 v1 2 4 (c_++[(65,2,[vD 10,vD 11]),(65,2,[vD 7,vD 0])]))(S:S7 (u=0) (Lq=0) a u Lq Dd M00 M01 M10 M11 (D 3) (D 4))(J:JH M00 M01 M10 M11 J0 J1 R0 R1)(fx:ah P0 7 (D 7))(fz:Jvm.FP.Core.DInt R1 (D 11))(bP:-8388608≤P0∧P0≤8388608)(e1:128*P0=128*J0+Lq*J1)(e2:2*(128*R1-u*P0)=Dd*J1)(KK:rO p l e s m args below meth c Z a0 hM n0 Ab Kb W oM rest v0 v1 J0 J1 Ev):Go p e below Ev T0 (mkF m 52 (dL A D W #[sR 0,sR 1,sR 11,sR 12,sI 0,sD 7,s2,sU,sU,sU]) []):=by
 rcases aq fx H.2.1 with ⟨hz,hc⟩|⟨hz,hc⟩
 ·have fi:ah (128*R1-u*P0) 7 (D 11):=(by rw[show 128*R1-u*P0=128*R1 by rw[S.2.2.2.2.2.1,Int.zero_mul];omega];exact aG 7 128 (ak.mpr fz) rfl (by omega))
  have f1:=ch fi S.2.2.2.2.2.2.2.1 S.2.2.2.1 e2 J.2.2.2.1
  refine goE (aX (Ip) H (by decide) (by decide) ⟨hc,aj f1,trivial⟩ ?_) rfl
  intro T1 h1 L1 A1 K1 H1
  exact goE (rR (D:=(ac [(D 0),(D 1),(D 2),(D 3),(D 4),(D 5),(D 6),(FP.ddiv (D 11) (D 4)),(D 7),(D 9),(D 10),(D 11)])) false (H1.re rfl rfl rfl rfl) S J fx f1 e1 KK) rfl
 ·have fi:ah (128*R1-u*P0) 7 (D 11):=(by rw[show 128*R1-u*P0=128*R1 by rw[S.2.2.2.2.2.1,Int.zero_mul];omega];exact aG 7 128 (ak.mpr fz) rfl (by omega))
  have f1:=ch fi S.2.2.2.2.2.2.2.1 S.2.2.2.1 e2 J.2.2.2.1
  refine goE (aX (Iq) H (by decide) (by decide) ⟨hc,aj f1,trivial⟩ ?_) rfl
  intro T1 h1 L1 A1 K1 H1
  exact goE (rR (D:=(ac [(D 0),(D 1),(D 2),(D 3),(D 4),(D 5),(D 6),(FP.ddiv (D 11) (D 4)),(D 7),(D 9),(D 10),(D 11)])) true (H1.re rfl rfl rfl rfl) S J fx f1 e1 KK) rfl
theorem FY (H:LVH p l e s m args below meth c T0 Z a0 h0 hM n0 L0 A Ab K Kb D W oM rest v0 v1 0 0 (c_))(S:S7 (u=0) (Lq=0) a u Lq Dd M00 M01 M10 M11 (D 3) (D 4))(J:JH M00 M01 M10 M11 J0 J1 R0 R1)(fv:Jvm.FP.Core.DInt R0 (D 1))(fz:Jvm.FP.Core.DInt R1 (D 2))(KK:rO p l e s m args below meth c Z a0 hM n0 Ab Kb W oM rest v0 v1 J0 J1 Ev):Go p e below Ev T0 (mkF m 0 (dL A D W #[sR 0,sR 1,sU,sU,sU,sU,sU,sU,sU,sU]) []):=by
 obtain⟨P0,fx,bP,e1,e2⟩:=gq S J fv
 refine goE (aX (OP) H (by decide) (by decide) ⟨aj fx,trivial⟩ ?_) rfl
 intro T1 h1 L1 A1 K1 H1
 exact goE (FX (D:=(ac [(D 0),(D 1),(D 2),(D 3),(D 4),(D 5),(D 6),(FP.ddiv (D 1) (D 3)),(D 8),(D 9),(D 1),(D 2)])) (H1.re rfl rfl rfl rfl) S J fx fz bP e1 e2 KK) rfl
def uc (la:Nat→Addr)(kl:Nat→ClassId)(pv0 pv1:UInt64):List OB:=[(la 0,kl 0,64,2,[.int 0,.int 1]),(la 1,kl 1,64,2,[.int 0,.int 1]),(la 2,kl 2,65,2,[.double pv0,.double pv1]),(la 3,kl 3,64,3,[.int 0,.int 0,.int 0]),(la 4,kl 4,64,0,[]),(la 5,kl 5,65,0,[]),(la 6,kl 6,64,3,[.int 0,.int 0,.int 0]),(la 7,kl 7,64,0,[]),(la 8,kl 8,65,0,[])]
theorem Rf {la:Nat→Addr}{kl:Nat→ClassId}{g:Nat→Value}{pv0 pv1:UInt64}(S:S7 (u=0) (Lq=0) a u Lq Dd M00 M01 M10 M11 pv0 pv1):bl l Z n0 M00 M01 M10 M11 (tmL g la) (uc la kl pv0 pv1):=by
 intro p e s m args below meth c T0 a0 Ev h0 A K D J0 J1 i0 i1 cnt er ep es eo ev rest B D0 d0 d1 J YM KK
 have YS:Yf Z n0 h0 (([(A 0,K 0,65,2,[.double (D 1),.double (D 2)]),(A 1,K 1,0,0,[tmL g la 0,tmL g la 1,tmL g la 2,tmL g la 3,tmL g la 4,tmL g la 5,tmL g la 6,tmL g la 7,.ref (A 2),.ref (A 3),.ref (A 4),.ref (A 5),.ref (A 6),tmL g la 8,tmL g la 9,tmL g la 10,tmL g la 11,tmL g la 12,tmL g la 13,tmL g la 14,tmL g la 15,tmL g la 16,tmL g la 17,tmL g la 18,tmL g la 19,tmL g la 20,tmL g la 21,tmL g la 22,.int cnt])]++uc la kl pv0 pv1)++(rest++(an A K D (tmL g la) 0 (dsE cnt er ep es eo ev)).drop 2)):=by
  have:=Yf.swap (a:=[(A 0,K 0,65,2,[.double (D 1),.double (D 2)]),(A 1,K 1,0,0,[tmL g la 0,tmL g la 1,tmL g la 2,tmL g la 3,tmL g la 4,tmL g la 5,tmL g la 6,tmL g la 7,.ref (A 2),.ref (A 3),.ref (A 4),.ref (A 5),.ref (A 6),tmL g la 8,tmL g la 9,tmL g la 10,tmL g la 11,tmL g la 12,tmL g la 13,tmL g la 14,tmL g la 15,tmL g la 16,tmL g la 17,tmL g la 18,tmL g la 19,tmL g la 20,tmL g la 21,tmL g la 22,.int cnt])]) (b:=(an A K D (tmL g la) 0 (dsE cnt er ep es eo ev)).drop 2) (c:=uc la kl pv0 pv1++rest) YM
  exact this
 refine goE (FY (A:=ttA A la) (Ab:=ttA A la) (K:=ttK K kl) (Kb:=ttK K kl) (D:=(ac [0,D 1,D 2,pv0,pv1,0,0,0,0,0,0,0])) (W:=(ttW A cnt g)) (hM:=h0) (v0:=D 1) (v1:=D 2) (M00:=M00) (M01:=M01) (M10:=M10) (M11:=M11) (J0:=J0) (J1:=J1) (R0:=i0) (R1:=i1) ⟨B,rfl,Yf.to (Yf.pick (os':=an (ttA A la) (ttK K kl) (ac [0,D 1,D 2,pv0,pv1,0,0,0,0,0,0,0]) (ttW A cnt g) 0 c_) YS [1,0,2,3,4,5,6,7,8,9,10] (by decide) rfl) rfl,YS,Keep.refl _ _,fun i hi=>?_,fun i _=>⟨rfl,rfl⟩,rfl,rfl⟩ S ?_ d0 d1 ?_) rfl
 ·exact match i,hi with
   | 0,_=>Or.inl (show A 1∈[A 0,A 1,la 0,la 1,la 2,la 3,la 4,la 5,la 6,la 7,la 8] by simp)
   | 1,_=>Or.inl (show A 0∈[A 0,A 1,la 0,la 1,la 2,la 3,la 4,la 5,la 6,la 7,la 8] by simp)
   | 2,_=>Or.inl (show la 0∈[A 0,A 1,la 0,la 1,la 2,la 3,la 4,la 5,la 6,la 7,la 8] by simp)
   | 3,_=>Or.inl (show la 1∈[A 0,A 1,la 0,la 1,la 2,la 3,la 4,la 5,la 6,la 7,la 8] by simp)
   | 4,_=>Or.inl (show la 2∈[A 0,A 1,la 0,la 1,la 2,la 3,la 4,la 5,la 6,la 7,la 8] by simp)
   | 5,_=>Or.inl (show la 3∈[A 0,A 1,la 0,la 1,la 2,la 3,la 4,la 5,la 6,la 7,la 8] by simp)
   | 6,_=>Or.inl (show la 4∈[A 0,A 1,la 0,la 1,la 2,la 3,la 4,la 5,la 6,la 7,la 8] by simp)
   | 7,_=>Or.inl (show la 5∈[A 0,A 1,la 0,la 1,la 2,la 3,la 4,la 5,la 6,la 7,la 8] by simp)
   | 8,_=>Or.inl (show la 6∈[A 0,A 1,la 0,la 1,la 2,la 3,la 4,la 5,la 6,la 7,la 8] by simp)
   | 9,_=>Or.inl (show la 7∈[A 0,A 1,la 0,la 1,la 2,la 3,la 4,la 5,la 6,la 7,la 8] by simp)
   | 10,_=>Or.inl (show la 8∈[A 0,A 1,la 0,la 1,la 2,la 3,la 4,la 5,la 6,la 7,la 8] by simp)
 ·obtain⟨j0,j1,j2,j3,j4,j5⟩:=J
  exact⟨by omega,by omega,by omega,by omega,by omega,by omega⟩
 ·intro T1 h1 L1 A1 K1 D1 b9 j9 H1 f0 f1
  have YE:=rI H1 rfl rfl rfl rfl rfl (by decide)
  have YF:=Yf.swap (a:=[(A1 13,K1 13,65,2,[.double (D1 7),.double (D1 9)]),(A1 11,K1 11,65,2,[.double (D1 10),.double (D1 11)]),(A1 12,K1 12,65,2,[.double (D1 7),.double (D1 9)]),(A 0,K 0,65,2,[.double (D 1),.double (D 2)]),(A 1,K 1,0,0,[tmL g la 0,tmL g la 1,tmL g la 2,tmL g la 3,tmL g la 4,tmL g la 5,tmL g la 6,tmL g la 7,.ref (A 2),.ref (A 3),.ref (A 4),.ref (A 5),.ref (A 6),tmL g la 8,tmL g la 9,tmL g la 10,tmL g la 11,tmL g la 12,tmL g la 13,tmL g la 14,tmL g la 15,tmL g la 16,tmL g la 17,tmL g la 18,tmL g la 19,tmL g la 20,tmL g la 21,tmL g la 22,.int cnt])]) (b:=rest) (c:=(an A K D (tmL g la) 0 (dsE cnt er ep es eo ev)).drop 2) YE
  have a0:=(H1.2.2.2.2.2.2.1 0 (by decide)).1
  have a1:=(H1.2.2.2.2.2.2.1 1 (by decide)).1
  have G:=KK T1 h1 L1 (A1 13) (A1 11) (A1 12) (K1 13) (K1 11) (K1 12) _ _ (D1 7) _ _ _ _ 0 j9 b9 H1.1 YF f0 f1
  rw[a0,a1]
  exact G
def bW:List AD:=[rJ,aL,za9,za9,ff,dV,ay,aD [6,0],bv,za8,eI]
def i8:Op:=(3,2,3,0)
theorem Ix:ai (run (tb 32) ae 10 (1,3,6,14) 52 32 [] [] (0,#[sR 0,sR 1,sU,sU,sU,sU,sU,sU,sU,sU],[],bW,12,0,0)) (52,#[sR 0,sR 1,sR 11,sR 12,sI 0,sD 12,s2,sU,sU,sU],[],bW++[aL,lC],13,2,4) [i8]=true:=by decide +kernel
theorem FZ:ai (run (tb 32) ae 10 (1,3,6,14) 51 26 [] [0] (52,#[sR 0,sR 1,sR 11,sR 12,sI 0,sD 7,s2,sU,sU,sU],[],bW++[za6,dM],12,2,4)) (51,#[sR 0,sR 1,sR 11,sR 12,sI 1,sD 12,s2,sU,sU,sU],i7,bW++[za6,dM],13,2,4) [d8,(3,10,4,0)]=true:=by decide +kernel
theorem F2:ai (run (tb 32) ae 10 (1,3,6,14) 51 64 [] [1] (52,#[sR 0,sR 1,sR 11,sR 12,sI 0,sD 7,s2,sU,sU,sU],[],bW++[za6,dM],12,2,4)) (51,#[sR 0,sR 1,sR 11,sR 12,sI 1,sD 14,s2,sI 1,sU,sU],om,bW++[aD [13,11],dM],15,2,4) [eO,(2,6,7,0),(1,10,12,0),(3,13,4,0)]=true:=by decide +kernel
theorem F3:∀b7:Bool,ai (run (tb 32) ae 10 (1,3,6,14) 159 36 [] [0] (51,#[sR 0,sR 1,sR 11,sR 12,sI 1,sD 7,s2,(bif b7 then sI 1 else sU),sU,sU],fP,bW++[za6,fQ],12,2,4)) (159,#[sR 0,sR 1,sR 11,sR 12,sR 13,sI 1,sI 0,sD 7,s2,sU],[],bW++dG,12,3,6) [d8]=true:=by decide +kernel
theorem F4:∀b7:Bool,ai (run (tb 32) ae 10 (1,3,6,14) 159 49 [] [1] (51,#[sR 0,sR 1,sR 11,sR 12,sI 1,sD 7,s2,(bif b7 then sI 1 else sU),sU,sU],fP,bW++[za6,fQ],12,2,4)) (159,#[sR 0,sR 1,sR 11,sR 12,sR 13,sI 1,sI 0,sD 7,s2,sU],[],bW++dG,12,3,6) [eO]=true:=by decide +kernel
theorem F5:ai (run (tb 32) ae 10 (1,3,6,14) 158 21 [] [0] (159,#[sR 0,sR 1,sR 11,sR 12,sR 13,sI 1,sI 0,sD 7,s2,sU],[],bW++dG,12,3,6)) (158,#[sR 0,sR 1,sR 11,sR 12,sR 13,sI 0,sI 1,sD 8,s2,sU],nl,bW++dG,12,3,6) [d8]=true:=by decide +kernel
theorem F6:ai (run (tb 32) ae 10 (1,3,6,14) 158 34 [] [1] (159,#[sR 0,sR 1,sR 11,sR 12,sR 13,sI 1,sI 0,sD 7,s2,sU],[],bW++dG,12,3,6)) (158,#[sR 0,sR 1,sR 11,sR 12,sR 13,sI 0,sI 1,sD 8,s2,sI 0],nl,bW++dG,12,3,6) [eO]=true:=by decide +kernel
theorem F7:∀b9:Bool,ai (run (tb 32) ae 10 (1,3,6,14) 226 12 [] [0] (158,#[sR 0,sR 1,sR 11,sR 12,sR 13,sI 0,sI 1,sD 7,s2,(bif b9 then sI 0 else sU)],lE,bW++lF,12,3,6)) (226,#[sR 0,sR 1,sR 11,sR 12,sR 13,sI 0,sI 1,sD 7,s2,(bif b9 then sI 0 else sU)],[],bW++lG,12,3,6) [d8]=true:=by decide +kernel
theorem F8:∀b9:Bool,ai (run (tb 32) ae 10 (1,3,6,14) 226 25 [] [1] (158,#[sR 0,sR 1,sR 11,sR 12,sR 13,sI 0,sI 1,sD 7,s2,(bif b9 then sI 0 else sU)],lE,bW++lF,12,3,6)) (226,#[sR 0,sR 1,sR 11,sR 12,sR 13,sI 0,sI 1,sD 7,s2,sI 0],[],bW++lG,12,3,6) [eO]=true:=by decide +kernel
def nq (p:Program)(l:Launch)(e:Env)(s:State)(m:MethodId)(args:Array Value)(below:List Frame)(meth:Method)(c:Code)(Z:State)(a0:Array Value)(hM:Heap)(n0:Nat)(Ab:Nat→Addr)(Kb:Nat→ClassId)(W:Nat→Value)(oM rest:List OB)(v0 v1:UInt64)(J0 J1:Int)(Ev:State→Outcome→Prop):Prop:=∀(T1:State)(h1:Heap)(L1:List Loc)(A1:Nat→Addr)(K1:Nat→ClassId)(D1:Nat→UInt64)(b9:Bool)(j9:Int32),LVH p l e s m args below meth c T1 Z a0 h1 hM n0 L1 A1 Ab K1 Kb D1 W oM rest v0 v1 3 6 (bW++[(65,2,[vD 10,vD 11]),(65,2,[vD 7,vD 9]),(65,2,[vD 9,vD 7])])→ah J0 7 (D1 7)→ah J1 7 (D1 9)→Go p e below Ev T1 (mkF m 226 #[.val (.ref (A1 0)),.val (.ref (A1 1)),.val (.ref (A1 11)),.val (.ref (A1 12)),.val (.ref (A1 13)),.val (.int 0),.val (.int 1),.val (.double (D1 7)),.second,(bif b9 then .val (.int j9) else .unset)] [])
theorem ou (b9:Bool)(H:LVH p l e s m args below meth c T0 Z a0 h0 hM n0 L0 A Ab K Kb D W oM rest v0 v1 3 6 (bW++[(65,2,[vD 10,vD 11]),(65,2,[vD 7,vD 9]),(65,2,[vD 9,vD 0])]))(S:S7 (ah u 0 (D 6)) (Lq=0) a u Lq Dd M11 M10 M01 M00 (D 3) (D 4))(J:JH M11 M10 M01 M00 J0 J1 R0 R1)(f0:ah J0 7 (D 7))(f1:ah J1 7 (D 9))(KK:nq p l e s m args below meth c Z a0 hM n0 Ab Kb W oM rest v0 v1 J0 J1 Ev):Go p e below Ev T0 (mkF m 158 (dL A D W #[sR 0,sR 1,sR 11,sR 12,sR 13,sI 0,sI 1,sD 7,s2,(bif b9 then sI 0 else sU)]) [.double (D 7),.int 1,.ref (A 13)]):=by
 rcases aq f0 H.2.1 with ⟨hz,hc⟩|⟨hz,hc⟩
 ·refine goE (aX (F7 b9) H (by decide) (by decide) ⟨hc,trivial⟩ ?_) rfl
  intro T1 h1 L1 A1 K1 H1
  exact goE (KK T1 h1 L1 A1 K1 _ b9 0 H1 f0 f1) (by cases b9<;>rfl)
 ·refine goE (aX (F8 b9) H (by decide) (by decide) ⟨hc,trivial⟩ ?_) rfl
  intro T1 h1 L1 A1 K1 H1
  exact goE (KK T1 h1 L1 A1 K1 _ true 0 H1 f0 f1) rfl
theorem ov (H:LVH p l e s m args below meth c T0 Z a0 h0 hM n0 L0 A Ab K Kb D W oM rest v0 v1 3 6 (bW++[(65,2,[vD 10,vD 11]),(65,2,[vD 8,vD 7]),(65,2,[vD 7,vD 0])]))(S:S7 (ah u 0 (D 6)) (Lq=0) a u Lq Dd M11 M10 M01 M00 (D 3) (D 4))(J:JH M11 M10 M01 M00 J0 J1 R0 R1)(f0:ah P0 7 (D 8))(f1:ah J1 7 (D 7))(e1:128*P0=128*J0+Lq*J1)(KK:nq p l e s m args below meth c Z a0 hM n0 Ab Kb W oM rest v0 v1 J0 J1 Ev):Go p e below Ev T0 (mkF m 159 (dL A D W #[sR 0,sR 1,sR 11,sR 12,sR 13,sI 1,sI 0,sD 7,s2,sU]) []):=by
 rcases aq f1 H.2.1 with ⟨hz,hc⟩|⟨hz,hc⟩
 ·refine goE (aX (F5) H (by decide) (by decide) ⟨hc,trivial⟩ ?_) rfl
  intro T1 h1 L1 A1 K1 H1
  exact goE (ou (D:=(ac [(D 0),(D 1),(D 2),(D 3),(D 4),(D 5),(D 6),(D 8),(D 8),(D 7),(D 10),(D 11)])) false (H1.re rfl rfl rfl rfl) S J (by rw[show J0=P0 by rw[S.2.2.2.2.2.2.1,Int.zero_mul] at e1;omega];exact f0) f1 KK) rfl
 ·refine goE (aX (F6) H (by decide) (by decide) ⟨hc,trivial⟩ ?_) rfl
  intro T1 h1 L1 A1 K1 H1
  exact goE (ou (D:=(ac [(D 0),(D 1),(D 2),(D 3),(D 4),(D 5),(D 6),(D 8),(D 8),(D 7),(D 10),(D 11)])) true (H1.re rfl rfl rfl rfl) S J (by rw[show J0=P0 by rw[S.2.2.2.2.2.2.1,Int.zero_mul] at e1;omega];exact f0) f1 KK) rfl
theorem ow (b7:Bool)(H:LVH p l e s m args below meth c T0 Z a0 h0 hM n0 L0 A Ab K Kb D W oM rest v0 v1 2 4 (bW++[(65,2,[vD 10,vD 11]),(65,2,[vD 8,vD 0])]))(S:S7 (ah u 0 (D 6)) (Lq=0) a u Lq Dd M11 M10 M01 M00 (D 3) (D 4))(J:JH M11 M10 M01 M00 J0 J1 R0 R1)(f0:ah P0 7 (D 8))(f1:ah J1 7 (D 7))(e1:128*P0=128*J0+Lq*J1)(KK:nq p l e s m args below meth c Z a0 hM n0 Ab Kb W oM rest v0 v1 J0 J1 Ev):Go p e below Ev T0 (mkF m 51 (dL A D W #[sR 0,sR 1,sR 11,sR 12,sI 1,sD 7,s2,(bif b7 then sI 1 else sU),sU,sU]) [.double (D 7),.int 1,.ref (A 12)]):=by
 rcases aq f1 H.2.1 with ⟨hz,hc⟩|⟨hz,hc⟩
 ·refine goE (aX (F3 b7) H (by decide) (by decide) ⟨hc,trivial⟩ ?_) rfl
  intro T1 h1 L1 A1 K1 H1
  exact goE (ov (D:=(ac [(D 0),(D 1),(D 2),(D 3),(D 4),(D 5),(D 6),(D 7),(D 8),(D 9),(D 10),(D 11)])) (H1.re rfl rfl rfl rfl) S J f0 f1 e1 KK) rfl
 ·refine goE (aX (F4 b7) H (by decide) (by decide) ⟨hc,trivial⟩ ?_) rfl
  intro T1 h1 L1 A1 K1 H1
  exact goE (ov (D:=(ac [(D 0),(D 1),(D 2),(D 3),(D 4),(D 5),(D 6),(D 7),(D 8),(D 9),(D 10),(D 11)])) (H1.re rfl rfl rfl rfl) S J f0 f1 e1 KK) rfl
theorem yx (H:LVH p l e s m args below meth c T0 Z a0 h0 hM n0 L0 A Ab K Kb D W oM rest v0 v1 2 4 (bW++[(65,2,[vD 10,vD 11]),(65,2,[vD 7,vD 0])]))(S:S7 (ah u 0 (D 6)) (Lq=0) a u Lq Dd M11 M10 M01 M00 (D 3) (D 4))(J:JH M11 M10 M01 M00 J0 J1 R0 R1)(fx:ah P0 7 (D 7))(fz:Jvm.FP.Core.DInt R1 (D 10))(bP:-8388608≤P0∧P0≤8388608)(e1:128*P0=128*J0+Lq*J1)(e2:2*(128*R1-u*P0)=Dd*J1)(KK:nq p l e s m args below meth c Z a0 hM n0 Ab Kb W oM rest v0 v1 J0 J1 Ev):Go p e below Ev T0 (mkF m 52 (dL A D W #[sR 0,sR 1,sR 11,sR 12,sI 0,sD 7,s2,sU,sU,sU]) []):=by
 obtain⟨fp,fw⟩:=gP S.2.2.2.2.2.1 fx fz S.2.1 bP J.2.2.2.2.2
 rcases aq fx H.2.1 with ⟨hz,hc⟩|⟨hz,hc⟩
 ·have fi:ah (128*R1-u*P0) 7 (D 10):=(by rw[show 128*R1-u*P0=128*R1 by rw[hz,Int.mul_zero];omega];exact aG 7 128 (ak.mpr fz) rfl (by omega))
  have f1:=ch fi S.2.2.2.2.2.2.2.1 S.2.2.2.1 e2 J.2.2.2.1
  refine goE (aX (FZ) H (by decide) (by decide) ⟨hc,aj f1,trivial⟩ ?_) rfl
  intro T1 h1 L1 A1 K1 H1
  exact goE (ow (D:=(ac [(D 0),(D 1),(D 2),(D 3),(D 4),(D 5),(D 6),(FP.ddiv (D 10) (D 4)),(D 7),(D 9),(D 10),(D 11)])) false (H1.re rfl rfl rfl rfl) S J fx f1 e1 KK) rfl
 ·have fi:ah (128*R1-u*P0) 7 (FP.dsub (D 10) (FP.dmul (D 6) (D 7))):=fw
  have f1:=ch fi S.2.2.2.2.2.2.2.1 S.2.2.2.1 e2 J.2.2.2.1
  refine goE (aX (F2) H (by decide) (by decide) ⟨hc,aj fp,aj fw,aj f1,trivial⟩ ?_) rfl
  intro T1 h1 L1 A1 K1 H1
  exact goE (ow (D:=(ac [(D 0),(D 1),(D 2),(D 3),(D 4),(D 5),(D 6),(FP.ddiv (FP.dsub (D 10) (FP.dmul (D 6) (D 7))) (D 4)),(D 7),(D 9),(FP.dsub (D 10) (FP.dmul (D 6) (D 7))),(D 11)])) true (H1.re rfl rfl rfl rfl) S J fx f1 e1 KK) rfl
theorem yy (H:LVH p l e s m args below meth c T0 Z a0 h0 hM n0 L0 A Ab K Kb D W oM rest v0 v1 0 0 (bW))(S:S7 (ah u 0 (D 6)) (Lq=0) a u Lq Dd M11 M10 M01 M00 (D 3) (D 4))(J:JH M11 M10 M01 M00 J0 J1 R0 R1)(fv:Jvm.FP.Core.DInt R0 (D 2))(fz:Jvm.FP.Core.DInt R1 (D 1))(KK:nq p l e s m args below meth c Z a0 hM n0 Ab Kb W oM rest v0 v1 J0 J1 Ev):Go p e below Ev T0 (mkF m 0 (dL A D W #[sR 0,sR 1,sU,sU,sU,sU,sU,sU,sU,sU]) []):=by
 obtain⟨P0,fx,bP,e1,e2⟩:=gq S J fv
 refine goE (aX (Ix) H (by decide) (by decide) ⟨aj fx,trivial⟩ ?_) rfl
 intro T1 h1 L1 A1 K1 H1
 exact goE (yx (D:=(ac [(D 0),(D 1),(D 2),(D 3),(D 4),(D 5),(D 6),(FP.ddiv (D 2) (D 3)),(D 8),(D 9),(D 1),(D 2)])) (H1.re rfl rfl rfl rfl) S J fx fz bP e1 e2 KK) rfl
def pX (la:Nat→Addr)(kl:Nat→ClassId)(pv0 pv1 uv:UInt64):List OB:=[(la 0,kl 0,64,2,[.int 1,.int 0]),(la 1,kl 1,64,2,[.int 1,.int 0]),(la 2,kl 2,65,2,[.double pv0,.double pv1]),(la 3,kl 3,64,3,[.int 0,.int 1,.int 1]),(la 4,kl 4,64,2,[.int 0,.int 0]),(la 5,kl 5,65,2,[.double uv,.double 0]),(la 6,kl 6,64,3,[.int 0,.int 0,.int 0]),(la 7,kl 7,64,0,[]),(la 8,kl 8,65,0,[])]
theorem F9 {la:Nat→Addr}{kl:Nat→ClassId}{g:Nat→Value}{pv0 pv1 uv:UInt64}(S:S7 (ah u 0 uv) (Lq=0) a u Lq Dd M11 M10 M01 M00 pv0 pv1):bl l Z n0 M00 M01 M10 M11 (tmL g la) (pX la kl pv0 pv1 uv):=by
 intro p e s m args below meth c T0 a0 Ev h0 A K D J0 J1 i0 i1 cnt er ep es eo ev rest B D0 d0 d1 J YM KK
 have YS:Yf Z n0 h0 (([(A 0,K 0,65,2,[.double (D 1),.double (D 2)]),(A 1,K 1,0,0,[tmL g la 0,tmL g la 1,tmL g la 2,tmL g la 3,tmL g la 4,tmL g la 5,tmL g la 6,tmL g la 7,.ref (A 2),.ref (A 3),.ref (A 4),.ref (A 5),.ref (A 6),tmL g la 8,tmL g la 9,tmL g la 10,tmL g la 11,tmL g la 12,tmL g la 13,tmL g la 14,tmL g la 15,tmL g la 16,tmL g la 17,tmL g la 18,tmL g la 19,tmL g la 20,tmL g la 21,tmL g la 22,.int cnt])]++pX la kl pv0 pv1 uv)++(rest++(an A K D (tmL g la) 0 (dsE cnt er ep es eo ev)).drop 2)):=by
  have:=Yf.swap (a:=[(A 0,K 0,65,2,[.double (D 1),.double (D 2)]),(A 1,K 1,0,0,[tmL g la 0,tmL g la 1,tmL g la 2,tmL g la 3,tmL g la 4,tmL g la 5,tmL g la 6,tmL g la 7,.ref (A 2),.ref (A 3),.ref (A 4),.ref (A 5),.ref (A 6),tmL g la 8,tmL g la 9,tmL g la 10,tmL g la 11,tmL g la 12,tmL g la 13,tmL g la 14,tmL g la 15,tmL g la 16,tmL g la 17,tmL g la 18,tmL g la 19,tmL g la 20,tmL g la 21,tmL g la 22,.int cnt])]) (b:=(an A K D (tmL g la) 0 (dsE cnt er ep es eo ev)).drop 2) (c:=pX la kl pv0 pv1 uv++rest) YM
  exact this
 refine goE (yy (A:=ttA A la) (Ab:=ttA A la) (K:=ttK K kl) (Kb:=ttK K kl) (D:=(ac [0,D 1,D 2,pv0,pv1,0,uv,0,0,0,0,0])) (W:=(ttW A cnt g)) (hM:=h0) (v0:=D 1) (v1:=D 2) (M00:=M00) (M01:=M01) (M10:=M10) (M11:=M11) (J0:=J1) (J1:=J0) (R0:=i1) (R1:=i0) ⟨B,rfl,Yf.to (Yf.pick (os':=an (ttA A la) (ttK K kl) (ac [0,D 1,D 2,pv0,pv1,0,uv,0,0,0,0,0]) (ttW A cnt g) 0 bW) YS [1,0,2,3,4,5,6,7,8,9,10] (by decide) rfl) rfl,YS,Keep.refl _ _,fun i hi=>?_,fun i _=>⟨rfl,rfl⟩,rfl,rfl⟩ S ?_ d1 d0 ?_) rfl
 ·exact match i,hi with
   | 0,_=>Or.inl (show A 1∈[A 0,A 1,la 0,la 1,la 2,la 3,la 4,la 5,la 6,la 7,la 8] by simp)
   | 1,_=>Or.inl (show A 0∈[A 0,A 1,la 0,la 1,la 2,la 3,la 4,la 5,la 6,la 7,la 8] by simp)
   | 2,_=>Or.inl (show la 0∈[A 0,A 1,la 0,la 1,la 2,la 3,la 4,la 5,la 6,la 7,la 8] by simp)
   | 3,_=>Or.inl (show la 1∈[A 0,A 1,la 0,la 1,la 2,la 3,la 4,la 5,la 6,la 7,la 8] by simp)
   | 4,_=>Or.inl (show la 2∈[A 0,A 1,la 0,la 1,la 2,la 3,la 4,la 5,la 6,la 7,la 8] by simp)
   | 5,_=>Or.inl (show la 3∈[A 0,A 1,la 0,la 1,la 2,la 3,la 4,la 5,la 6,la 7,la 8] by simp)
   | 6,_=>Or.inl (show la 4∈[A 0,A 1,la 0,la 1,la 2,la 3,la 4,la 5,la 6,la 7,la 8] by simp)
   | 7,_=>Or.inl (show la 5∈[A 0,A 1,la 0,la 1,la 2,la 3,la 4,la 5,la 6,la 7,la 8] by simp)
   | 8,_=>Or.inl (show la 6∈[A 0,A 1,la 0,la 1,la 2,la 3,la 4,la 5,la 6,la 7,la 8] by simp)
   | 9,_=>Or.inl (show la 7∈[A 0,A 1,la 0,la 1,la 2,la 3,la 4,la 5,la 6,la 7,la 8] by simp)
   | 10,_=>Or.inl (show la 8∈[A 0,A 1,la 0,la 1,la 2,la 3,la 4,la 5,la 6,la 7,la 8] by simp)
 ·obtain⟨j0,j1,j2,j3,j4,j5⟩:=J
  exact⟨by omega,by omega,by omega,by omega,by omega,by omega⟩
 ·intro T1 h1 L1 A1 K1 D1 b9 j9 H1 f0 f1
  have YE:=rI H1 rfl rfl rfl rfl rfl (by decide)
  have YF:=Yf.swap (a:=[(A1 13,K1 13,65,2,[.double (D1 9),.double (D1 7)]),(A1 11,K1 11,65,2,[.double (D1 10),.double (D1 11)]),(A1 12,K1 12,65,2,[.double (D1 7),.double (D1 9)]),(A 0,K 0,65,2,[.double (D 1),.double (D 2)]),(A 1,K 1,0,0,[tmL g la 0,tmL g la 1,tmL g la 2,tmL g la 3,tmL g la 4,tmL g la 5,tmL g la 6,tmL g la 7,.ref (A 2),.ref (A 3),.ref (A 4),.ref (A 5),.ref (A 6),tmL g la 8,tmL g la 9,tmL g la 10,tmL g la 11,tmL g la 12,tmL g la 13,tmL g la 14,tmL g la 15,tmL g la 16,tmL g la 17,tmL g la 18,tmL g la 19,tmL g la 20,tmL g la 21,tmL g la 22,.int cnt])]) (b:=rest) (c:=(an A K D (tmL g la) 0 (dsE cnt er ep es eo ev)).drop 2) YE
  have a0:=(H1.2.2.2.2.2.2.1 0 (by decide)).1
  have a1:=(H1.2.2.2.2.2.2.1 1 (by decide)).1
  have G:=KK T1 h1 L1 (A1 13) (A1 11) (A1 12) (K1 13) (K1 11) (K1 12) _ _ (D1 7) _ _ _ _ 1 j9 b9 H1.1 YF f1 f0
  rw[a0,a1]
  exact G
def bZ:List AD:=[rJ,aL,za4,za4,ff,dV,za9,aD [6,0],bv,za8,eI]
theorem Iy:ai (run (tb 32) ae 10 (1,3,6,14) 52 32 [] [] (0,#[sR 0,sR 1,sU,sU,sU,sU,sU,sU,sU,sU],[],bZ,12,0,0)) (52,#[sR 0,sR 1,sR 11,sR 12,sI 0,sD 12,s2,sU,sU,sU],[],bZ++[aL,lC],13,2,4) [fO]=true:=by decide +kernel
theorem F_:ai (run (tb 32) ae 10 (1,3,6,14) 51 26 [] [0] (52,#[sR 0,sR 1,sR 11,sR 12,sI 0,sD 7,s2,sU,sU,sU],[],bZ++[za6,dM],12,2,4)) (51,#[sR 0,sR 1,sR 11,sR 12,sI 1,sD 12,s2,sU,sU,sU],i7,bZ++[za6,dM],13,2,4) [d8,lD]=true:=by decide +kernel
theorem Ga:ai (run (tb 32) ae 10 (1,3,6,14) 51 64 [] [1] (52,#[sR 0,sR 1,sR 11,sR 12,sI 0,sD 7,s2,sU,sU,sU],[],bZ++[za6,dM],12,2,4)) (51,#[sR 0,sR 1,sR 11,sR 12,sI 1,sD 14,s2,sI 1,sU,sU],om,bZ++[aD [10,13],dM],15,2,4) wL=true:=by decide +kernel
theorem Gb:∀b7:Bool,ai (run (tb 32) ae 10 (1,3,6,14) 159 36 [] [0] (51,#[sR 0,sR 1,sR 11,sR 12,sI 1,sD 7,s2,(bif b7 then sI 1 else sU),sU,sU],fP,bZ++[za6,fQ],12,2,4)) (159,#[sR 0,sR 1,sR 11,sR 12,sR 13,sI 1,sI 1,sD 7,s2,sU],[],bZ++dH,12,3,6) [d8]=true:=by decide +kernel
theorem Gc:∀b7:Bool,ai (run (tb 32) ae 10 (1,3,6,14) 159 49 [] [1] (51,#[sR 0,sR 1,sR 11,sR 12,sI 1,sD 7,s2,(bif b7 then sI 1 else sU),sU,sU],fP,bZ++[za6,fQ],12,2,4)) (159,#[sR 0,sR 1,sR 11,sR 12,sR 13,sI 1,sI 1,sD 7,s2,sU],[],bZ++dH,12,3,6) [eO]=true:=by decide +kernel
theorem Gd:ai (run (tb 32) ae 10 (1,3,6,14) 158 21 [] [0] (159,#[sR 0,sR 1,sR 11,sR 12,sR 13,sI 1,sI 1,sD 7,s2,sU],[],bZ++dH,12,3,6)) (158,#[sR 0,sR 1,sR 11,sR 12,sR 13,sI 0,sI 0,sD 8,s2,sU],no,bZ++dH,12,3,6) [d8]=true:=by decide +kernel
theorem Ge:ai (run (tb 32) ae 10 (1,3,6,14) 158 34 [] [1] (159,#[sR 0,sR 1,sR 11,sR 12,sR 13,sI 1,sI 1,sD 7,s2,sU],[],bZ++dH,12,3,6)) (158,#[sR 0,sR 1,sR 11,sR 12,sR 13,sI 0,sI 0,sD 8,s2,sI 0],no,bZ++dH,12,3,6) [eO]=true:=by decide +kernel
theorem Gf:∀b9:Bool,ai (run (tb 32) ae 10 (1,3,6,14) 226 12 [] [0] (158,#[sR 0,sR 1,sR 11,sR 12,sR 13,sI 0,sI 0,sD 7,s2,(bif b9 then sI 0 else sU)],lH,bZ++lI,12,3,6)) (226,#[sR 0,sR 1,sR 11,sR 12,sR 13,sI 0,sI 0,sD 7,s2,(bif b9 then sI 0 else sU)],[],bZ++lJ,12,3,6) [d8]=true:=by decide +kernel
theorem Gg:∀b9:Bool,ai (run (tb 32) ae 10 (1,3,6,14) 226 25 [] [1] (158,#[sR 0,sR 1,sR 11,sR 12,sR 13,sI 0,sI 0,sD 7,s2,(bif b9 then sI 0 else sU)],lH,bZ++lI,12,3,6)) (226,#[sR 0,sR 1,sR 11,sR 12,sR 13,sI 0,sI 0,sD 7,s2,sI 0],[],bZ++lJ,12,3,6) [eO]=true:=by decide +kernel
def nr (p:Program)(l:Launch)(e:Env)(s:State)(m:MethodId)(args:Array Value)(below:List Frame)(meth:Method)(c:Code)(Z:State)(a0:Array Value)(hM:Heap)(n0:Nat)(Ab:Nat→Addr)(Kb:Nat→ClassId)(W:Nat→Value)(oM rest:List OB)(v0 v1:UInt64)(J0 J1:Int)(Ev:State→Outcome→Prop):Prop:=∀(T1:State)(h1:Heap)(L1:List Loc)(A1:Nat→Addr)(K1:Nat→ClassId)(D1:Nat→UInt64)(b9:Bool)(j9:Int32),LVH p l e s m args below meth c T1 Z a0 h1 hM n0 L1 A1 Ab K1 Kb D1 W oM rest v0 v1 3 6 (bZ++[(65,2,[vD 10,vD 11]),(65,2,[vD 7,vD 9]),(65,2,[vD 7,vD 9])])→ah J0 7 (D1 7)→ah J1 7 (D1 9)→Go p e below Ev T1 (mkF m 226 #[.val (.ref (A1 0)),.val (.ref (A1 1)),.val (.ref (A1 11)),.val (.ref (A1 12)),.val (.ref (A1 13)),.val (.int 0),.val (.int 0),.val (.double (D1 7)),.second,(bif b9 then .val (.int j9) else .unset)] [])
theorem ox (b9:Bool)(H:LVH p l e s m args below meth c T0 Z a0 h0 hM n0 L0 A Ab K Kb D W oM rest v0 v1 3 6 (bZ++[(65,2,[vD 10,vD 11]),(65,2,[vD 7,vD 9]),(65,2,[vD 0,vD 9])]))(S:S7 (ah u 0 (D 6)) (Lq=0) a u Lq Dd M00 M01 M10 M11 (D 3) (D 4))(J:JH M00 M01 M10 M11 J0 J1 R0 R1)(f0:ah J0 7 (D 7))(f1:ah J1 7 (D 9))(KK:nr p l e s m args below meth c Z a0 hM n0 Ab Kb W oM rest v0 v1 J0 J1 Ev):Go p e below Ev T0 (mkF m 158 (dL A D W #[sR 0,sR 1,sR 11,sR 12,sR 13,sI 0,sI 0,sD 7,s2,(bif b9 then sI 0 else sU)]) [.double (D 7),.int 0,.ref (A 13)]):=by
 rcases aq f0 H.2.1 with ⟨hz,hc⟩|⟨hz,hc⟩
 ·refine goE (aX (Gf b9) H (by decide) (by decide) ⟨hc,trivial⟩ ?_) rfl
  intro T1 h1 L1 A1 K1 H1
  exact goE (KK T1 h1 L1 A1 K1 _ b9 0 H1 f0 f1) (by cases b9<;>rfl)
 ·refine goE (aX (Gg b9) H (by decide) (by decide) ⟨hc,trivial⟩ ?_) rfl
  intro T1 h1 L1 A1 K1 H1
  exact goE (KK T1 h1 L1 A1 K1 _ true 0 H1 f0 f1) rfl
theorem oy (H:LVH p l e s m args below meth c T0 Z a0 h0 hM n0 L0 A Ab K Kb D W oM rest v0 v1 3 6 (bZ++[(65,2,[vD 10,vD 11]),(65,2,[vD 8,vD 7]),(65,2,[vD 0,vD 7])]))(S:S7 (ah u 0 (D 6)) (Lq=0) a u Lq Dd M00 M01 M10 M11 (D 3) (D 4))(J:JH M00 M01 M10 M11 J0 J1 R0 R1)(f0:ah P0 7 (D 8))(f1:ah J1 7 (D 7))(e1:128*P0=128*J0+Lq*J1)(KK:nr p l e s m args below meth c Z a0 hM n0 Ab Kb W oM rest v0 v1 J0 J1 Ev):Go p e below Ev T0 (mkF m 159 (dL A D W #[sR 0,sR 1,sR 11,sR 12,sR 13,sI 1,sI 1,sD 7,s2,sU]) []):=by
 rcases aq f1 H.2.1 with ⟨hz,hc⟩|⟨hz,hc⟩
 ·refine goE (aX (Gd) H (by decide) (by decide) ⟨hc,trivial⟩ ?_) rfl
  intro T1 h1 L1 A1 K1 H1
  exact goE (ox (D:=(ac [(D 0),(D 1),(D 2),(D 3),(D 4),(D 5),(D 6),(D 8),(D 8),(D 7),(D 10),(D 11)])) false (H1.re rfl rfl rfl rfl) S J (by rw[show J0=P0 by rw[S.2.2.2.2.2.2.1,Int.zero_mul] at e1;omega];exact f0) f1 KK) rfl
 ·refine goE (aX (Ge) H (by decide) (by decide) ⟨hc,trivial⟩ ?_) rfl
  intro T1 h1 L1 A1 K1 H1
  exact goE (ox (D:=(ac [(D 0),(D 1),(D 2),(D 3),(D 4),(D 5),(D 6),(D 8),(D 8),(D 7),(D 10),(D 11)])) true (H1.re rfl rfl rfl rfl) S J (by rw[show J0=P0 by rw[S.2.2.2.2.2.2.1,Int.zero_mul] at e1;omega];exact f0) f1 KK) rfl
theorem oz (b7:Bool)(H:LVH p l e s m args below meth c T0 Z a0 h0 hM n0 L0 A Ab K Kb D W oM rest v0 v1 2 4 (bZ++[(65,2,[vD 10,vD 11]),(65,2,[vD 8,vD 0])]))(S:S7 (ah u 0 (D 6)) (Lq=0) a u Lq Dd M00 M01 M10 M11 (D 3) (D 4))(J:JH M00 M01 M10 M11 J0 J1 R0 R1)(f0:ah P0 7 (D 8))(f1:ah J1 7 (D 7))(e1:128*P0=128*J0+Lq*J1)(KK:nr p l e s m args below meth c Z a0 hM n0 Ab Kb W oM rest v0 v1 J0 J1 Ev):Go p e below Ev T0 (mkF m 51 (dL A D W #[sR 0,sR 1,sR 11,sR 12,sI 1,sD 7,s2,(bif b7 then sI 1 else sU),sU,sU]) [.double (D 7),.int 1,.ref (A 12)]):=by
 rcases aq f1 H.2.1 with ⟨hz,hc⟩|⟨hz,hc⟩
 ·refine goE (aX (Gb b7) H (by decide) (by decide) ⟨hc,trivial⟩ ?_) rfl
  intro T1 h1 L1 A1 K1 H1
  exact goE (oy (D:=(ac [(D 0),(D 1),(D 2),(D 3),(D 4),(D 5),(D 6),(D 7),(D 8),(D 9),(D 10),(D 11)])) (H1.re rfl rfl rfl rfl) S J f0 f1 e1 KK) rfl
 ·refine goE (aX (Gc b7) H (by decide) (by decide) ⟨hc,trivial⟩ ?_) rfl
  intro T1 h1 L1 A1 K1 H1
  exact goE (oy (D:=(ac [(D 0),(D 1),(D 2),(D 3),(D 4),(D 5),(D 6),(D 7),(D 8),(D 9),(D 10),(D 11)])) (H1.re rfl rfl rfl rfl) S J f0 f1 e1 KK) rfl
theorem yz (H:LVH p l e s m args below meth c T0 Z a0 h0 hM n0 L0 A Ab K Kb D W oM rest v0 v1 2 4 (bZ++[(65,2,[vD 10,vD 11]),(65,2,[vD 7,vD 0])]))(S:S7 (ah u 0 (D 6)) (Lq=0) a u Lq Dd M00 M01 M10 M11 (D 3) (D 4))(J:JH M00 M01 M10 M11 J0 J1 R0 R1)(fx:ah P0 7 (D 7))(fz:Jvm.FP.Core.DInt R1 (D 11))(bP:-8388608≤P0∧P0≤8388608)(e1:128*P0=128*J0+Lq*J1)(e2:2*(128*R1-u*P0)=Dd*J1)(KK:nr p l e s m args below meth c Z a0 hM n0 Ab Kb W oM rest v0 v1 J0 J1 Ev):Go p e below Ev T0 (mkF m 52 (dL A D W #[sR 0,sR 1,sR 11,sR 12,sI 0,sD 7,s2,sU,sU,sU]) []):=by
 obtain⟨fp,fw⟩:=gP S.2.2.2.2.2.1 fx fz S.2.1 bP J.2.2.2.2.2
 rcases aq fx H.2.1 with ⟨hz,hc⟩|⟨hz,hc⟩
 ·have fi:ah (128*R1-u*P0) 7 (D 11):=(by rw[show 128*R1-u*P0=128*R1 by rw[hz,Int.mul_zero];omega];exact aG 7 128 (ak.mpr fz) rfl (by omega))
  have f1:=ch fi S.2.2.2.2.2.2.2.1 S.2.2.2.1 e2 J.2.2.2.1
  refine goE (aX (F_) H (by decide) (by decide) ⟨hc,aj f1,trivial⟩ ?_) rfl
  intro T1 h1 L1 A1 K1 H1
  exact goE (oz (D:=(ac [(D 0),(D 1),(D 2),(D 3),(D 4),(D 5),(D 6),(FP.ddiv (D 11) (D 4)),(D 7),(D 9),(D 10),(D 11)])) false (H1.re rfl rfl rfl rfl) S J fx f1 e1 KK) rfl
 ·have fi:ah (128*R1-u*P0) 7 (FP.dsub (D 11) (FP.dmul (D 6) (D 7))):=fw
  have f1:=ch fi S.2.2.2.2.2.2.2.1 S.2.2.2.1 e2 J.2.2.2.1
  refine goE (aX (Ga) H (by decide) (by decide) ⟨hc,aj fp,aj fw,aj f1,trivial⟩ ?_) rfl
  intro T1 h1 L1 A1 K1 H1
  exact goE (oz (D:=(ac [(D 0),(D 1),(D 2),(D 3),(D 4),(D 5),(D 6),(FP.ddiv (FP.dsub (D 11) (FP.dmul (D 6) (D 7))) (D 4)),(D 7),(D 9),(D 10),(FP.dsub (D 11) (FP.dmul (D 6) (D 7)))])) true (H1.re rfl rfl rfl rfl) S J fx f1 e1 KK) rfl
theorem yA (H:LVH p l e s m args below meth c T0 Z a0 h0 hM n0 L0 A Ab K Kb D W oM rest v0 v1 0 0 (bZ))(S:S7 (ah u 0 (D 6)) (Lq=0) a u Lq Dd M00 M01 M10 M11 (D 3) (D 4))(J:JH M00 M01 M10 M11 J0 J1 R0 R1)(fv:Jvm.FP.Core.DInt R0 (D 1))(fz:Jvm.FP.Core.DInt R1 (D 2))(KK:nr p l e s m args below meth c Z a0 hM n0 Ab Kb W oM rest v0 v1 J0 J1 Ev):Go p e below Ev T0 (mkF m 0 (dL A D W #[sR 0,sR 1,sU,sU,sU,sU,sU,sU,sU,sU]) []):=by
 obtain⟨P0,fx,bP,e1,e2⟩:=gq S J fv
 refine goE (aX (Iy) H (by decide) (by decide) ⟨aj fx,trivial⟩ ?_) rfl
 intro T1 h1 L1 A1 K1 H1
 exact goE (yz (D:=(ac [(D 0),(D 1),(D 2),(D 3),(D 4),(D 5),(D 6),(FP.ddiv (D 1) (D 3)),(D 8),(D 9),(D 1),(D 2)])) (H1.re rfl rfl rfl rfl) S J fx fz bP e1 e2 KK) rfl
def pY (la:Nat→Addr)(kl:Nat→ClassId)(pv0 pv1 uv:UInt64):List OB:=[(la 0,kl 0,64,2,[.int 0,.int 1]),(la 1,kl 1,64,2,[.int 0,.int 1]),(la 2,kl 2,65,2,[.double pv0,.double pv1]),(la 3,kl 3,64,3,[.int 0,.int 1,.int 1]),(la 4,kl 4,64,2,[.int 1,.int 0]),(la 5,kl 5,65,2,[.double uv,.double 0]),(la 6,kl 6,64,3,[.int 0,.int 0,.int 0]),(la 7,kl 7,64,0,[]),(la 8,kl 8,65,0,[])]
theorem Gh {la:Nat→Addr}{kl:Nat→ClassId}{g:Nat→Value}{pv0 pv1 uv:UInt64}(S:S7 (ah u 0 uv) (Lq=0) a u Lq Dd M00 M01 M10 M11 pv0 pv1):bl l Z n0 M00 M01 M10 M11 (tmL g la) (pY la kl pv0 pv1 uv):=by
 intro p e s m args below meth c T0 a0 Ev h0 A K D J0 J1 i0 i1 cnt er ep es eo ev rest B D0 d0 d1 J YM KK
 have YS:Yf Z n0 h0 (([(A 0,K 0,65,2,[.double (D 1),.double (D 2)]),(A 1,K 1,0,0,[tmL g la 0,tmL g la 1,tmL g la 2,tmL g la 3,tmL g la 4,tmL g la 5,tmL g la 6,tmL g la 7,.ref (A 2),.ref (A 3),.ref (A 4),.ref (A 5),.ref (A 6),tmL g la 8,tmL g la 9,tmL g la 10,tmL g la 11,tmL g la 12,tmL g la 13,tmL g la 14,tmL g la 15,tmL g la 16,tmL g la 17,tmL g la 18,tmL g la 19,tmL g la 20,tmL g la 21,tmL g la 22,.int cnt])]++pY la kl pv0 pv1 uv)++(rest++(an A K D (tmL g la) 0 (dsE cnt er ep es eo ev)).drop 2)):=by
  have:=Yf.swap (a:=[(A 0,K 0,65,2,[.double (D 1),.double (D 2)]),(A 1,K 1,0,0,[tmL g la 0,tmL g la 1,tmL g la 2,tmL g la 3,tmL g la 4,tmL g la 5,tmL g la 6,tmL g la 7,.ref (A 2),.ref (A 3),.ref (A 4),.ref (A 5),.ref (A 6),tmL g la 8,tmL g la 9,tmL g la 10,tmL g la 11,tmL g la 12,tmL g la 13,tmL g la 14,tmL g la 15,tmL g la 16,tmL g la 17,tmL g la 18,tmL g la 19,tmL g la 20,tmL g la 21,tmL g la 22,.int cnt])]) (b:=(an A K D (tmL g la) 0 (dsE cnt er ep es eo ev)).drop 2) (c:=pY la kl pv0 pv1 uv++rest) YM
  exact this
 refine goE (yA (A:=ttA A la) (Ab:=ttA A la) (K:=ttK K kl) (Kb:=ttK K kl) (D:=(ac [0,D 1,D 2,pv0,pv1,0,uv,0,0,0,0,0])) (W:=(ttW A cnt g)) (hM:=h0) (v0:=D 1) (v1:=D 2) (M00:=M00) (M01:=M01) (M10:=M10) (M11:=M11) (J0:=J0) (J1:=J1) (R0:=i0) (R1:=i1) ⟨B,rfl,Yf.to (Yf.pick (os':=an (ttA A la) (ttK K kl) (ac [0,D 1,D 2,pv0,pv1,0,uv,0,0,0,0,0]) (ttW A cnt g) 0 bZ) YS [1,0,2,3,4,5,6,7,8,9,10] (by decide) rfl) rfl,YS,Keep.refl _ _,fun i hi=>?_,fun i _=>⟨rfl,rfl⟩,rfl,rfl⟩ S ?_ d0 d1 ?_) rfl
 ·exact match i,hi with
   | 0,_=>Or.inl (show A 1∈[A 0,A 1,la 0,la 1,la 2,la 3,la 4,la 5,la 6,la 7,la 8] by simp)
   | 1,_=>Or.inl (show A 0∈[A 0,A 1,la 0,la 1,la 2,la 3,la 4,la 5,la 6,la 7,la 8] by simp)
   | 2,_=>Or.inl (show la 0∈[A 0,A 1,la 0,la 1,la 2,la 3,la 4,la 5,la 6,la 7,la 8] by simp)
   | 3,_=>Or.inl (show la 1∈[A 0,A 1,la 0,la 1,la 2,la 3,la 4,la 5,la 6,la 7,la 8] by simp)
   | 4,_=>Or.inl (show la 2∈[A 0,A 1,la 0,la 1,la 2,la 3,la 4,la 5,la 6,la 7,la 8] by simp)
   | 5,_=>Or.inl (show la 3∈[A 0,A 1,la 0,la 1,la 2,la 3,la 4,la 5,la 6,la 7,la 8] by simp)
   | 6,_=>Or.inl (show la 4∈[A 0,A 1,la 0,la 1,la 2,la 3,la 4,la 5,la 6,la 7,la 8] by simp)
   | 7,_=>Or.inl (show la 5∈[A 0,A 1,la 0,la 1,la 2,la 3,la 4,la 5,la 6,la 7,la 8] by simp)
   | 8,_=>Or.inl (show la 6∈[A 0,A 1,la 0,la 1,la 2,la 3,la 4,la 5,la 6,la 7,la 8] by simp)
   | 9,_=>Or.inl (show la 7∈[A 0,A 1,la 0,la 1,la 2,la 3,la 4,la 5,la 6,la 7,la 8] by simp)
   | 10,_=>Or.inl (show la 8∈[A 0,A 1,la 0,la 1,la 2,la 3,la 4,la 5,la 6,la 7,la 8] by simp)
 ·obtain⟨j0,j1,j2,j3,j4,j5⟩:=J
  exact⟨by omega,by omega,by omega,by omega,by omega,by omega⟩
 ·intro T1 h1 L1 A1 K1 D1 b9 j9 H1 f0 f1
  have YE:=rI H1 rfl rfl rfl rfl rfl (by decide)
  have YF:=Yf.swap (a:=[(A1 13,K1 13,65,2,[.double (D1 7),.double (D1 9)]),(A1 11,K1 11,65,2,[.double (D1 10),.double (D1 11)]),(A1 12,K1 12,65,2,[.double (D1 7),.double (D1 9)]),(A 0,K 0,65,2,[.double (D 1),.double (D 2)]),(A 1,K 1,0,0,[tmL g la 0,tmL g la 1,tmL g la 2,tmL g la 3,tmL g la 4,tmL g la 5,tmL g la 6,tmL g la 7,.ref (A 2),.ref (A 3),.ref (A 4),.ref (A 5),.ref (A 6),tmL g la 8,tmL g la 9,tmL g la 10,tmL g la 11,tmL g la 12,tmL g la 13,tmL g la 14,tmL g la 15,tmL g la 16,tmL g la 17,tmL g la 18,tmL g la 19,tmL g la 20,tmL g la 21,tmL g la 22,.int cnt])]) (b:=rest) (c:=(an A K D (tmL g la) 0 (dsE cnt er ep es eo ev)).drop 2) YE
  have a0:=(H1.2.2.2.2.2.2.1 0 (by decide)).1
  have a1:=(H1.2.2.2.2.2.2.1 1 (by decide)).1
  have G:=KK T1 h1 L1 (A1 13) (A1 11) (A1 12) (K1 13) (K1 11) (K1 12) _ _ (D1 7) _ _ _ _ 0 j9 b9 H1.1 YF f0 f1
  rw[a0,a1]
  exact G
def b8:List AD:=[rJ,aL,za4,za9,ff,dV,ay,aD [6,0],bv,za8,eI]
theorem Iz:ai (run (tb 32) ae 10 (1,3,6,14) 52 32 [] [] (0,#[sR 0,sR 1,sU,sU,sU,sU,sU,sU,sU,sU],[],b8,12,0,0)) (52,#[sR 0,sR 1,sR 11,sR 12,sI 0,sD 12,s2,sU,sU,sU],[],b8++[aL,lC],13,2,4) [i8]=true:=by decide +kernel
theorem Gi:ai (run (tb 32) ae 10 (1,3,6,14) 51 26 [] [0] (52,#[sR 0,sR 1,sR 11,sR 12,sI 0,sD 7,s2,sU,sU,sU],[],b8++[za6,dM],12,2,4)) (51,#[sR 0,sR 1,sR 11,sR 12,sI 1,sD 12,s2,sU,sU,sU],i7,b8++[za6,dM],13,2,4) [d8,(3,10,4,0)]=true:=by decide +kernel
theorem Gj:ai (run (tb 32) ae 10 (1,3,6,14) 51 64 [] [1] (52,#[sR 0,sR 1,sR 11,sR 12,sI 0,sD 7,s2,sU,sU,sU],[],b8++[za6,dM],12,2,4)) (51,#[sR 0,sR 1,sR 11,sR 12,sI 1,sD 14,s2,sI 1,sU,sU],om,b8++[aD [13,11],dM],15,2,4) [eO,(2,6,7,0),(1,10,12,0),(3,13,4,0)]=true:=by decide +kernel
theorem Gk:∀b7:Bool,ai (run (tb 32) ae 10 (1,3,6,14) 159 36 [] [0] (51,#[sR 0,sR 1,sR 11,sR 12,sI 1,sD 7,s2,(bif b7 then sI 1 else sU),sU,sU],fP,b8++[za6,fQ],12,2,4)) (159,#[sR 0,sR 1,sR 11,sR 12,sR 13,sI 1,sI 1,sD 7,s2,sU],[],b8++dH,12,3,6) [d8]=true:=by decide +kernel
theorem Gl:∀b7:Bool,ai (run (tb 32) ae 10 (1,3,6,14) 159 49 [] [1] (51,#[sR 0,sR 1,sR 11,sR 12,sI 1,sD 7,s2,(bif b7 then sI 1 else sU),sU,sU],fP,b8++[za6,fQ],12,2,4)) (159,#[sR 0,sR 1,sR 11,sR 12,sR 13,sI 1,sI 1,sD 7,s2,sU],[],b8++dH,12,3,6) [eO]=true:=by decide +kernel
theorem Gm:ai (run (tb 32) ae 10 (1,3,6,14) 158 21 [] [0] (159,#[sR 0,sR 1,sR 11,sR 12,sR 13,sI 1,sI 1,sD 7,s2,sU],[],b8++dH,12,3,6)) (158,#[sR 0,sR 1,sR 11,sR 12,sR 13,sI 0,sI 0,sD 8,s2,sU],no,b8++dH,12,3,6) [d8]=true:=by decide +kernel
theorem Gn:ai (run (tb 32) ae 10 (1,3,6,14) 158 34 [] [1] (159,#[sR 0,sR 1,sR 11,sR 12,sR 13,sI 1,sI 1,sD 7,s2,sU],[],b8++dH,12,3,6)) (158,#[sR 0,sR 1,sR 11,sR 12,sR 13,sI 0,sI 0,sD 8,s2,sI 0],no,b8++dH,12,3,6) [eO]=true:=by decide +kernel
theorem Gp:∀b9:Bool,ai (run (tb 32) ae 10 (1,3,6,14) 226 12 [] [0] (158,#[sR 0,sR 1,sR 11,sR 12,sR 13,sI 0,sI 0,sD 7,s2,(bif b9 then sI 0 else sU)],lH,b8++lI,12,3,6)) (226,#[sR 0,sR 1,sR 11,sR 12,sR 13,sI 0,sI 0,sD 7,s2,(bif b9 then sI 0 else sU)],[],b8++lJ,12,3,6) [d8]=true:=by decide +kernel
theorem Gq:∀b9:Bool,ai (run (tb 32) ae 10 (1,3,6,14) 226 25 [] [1] (158,#[sR 0,sR 1,sR 11,sR 12,sR 13,sI 0,sI 0,sD 7,s2,(bif b9 then sI 0 else sU)],lH,b8++lI,12,3,6)) (226,#[sR 0,sR 1,sR 11,sR 12,sR 13,sI 0,sI 0,sD 7,s2,sI 0],[],b8++lJ,12,3,6) [eO]=true:=by decide +kernel
def ns (p:Program)(l:Launch)(e:Env)(s:State)(m:MethodId)(args:Array Value)(below:List Frame)(meth:Method)(c:Code)(Z:State)(a0:Array Value)(hM:Heap)(n0:Nat)(Ab:Nat→Addr)(Kb:Nat→ClassId)(W:Nat→Value)(oM rest:List OB)(v0 v1:UInt64)(J0 J1:Int)(Ev:State→Outcome→Prop):Prop:=∀(T1:State)(h1:Heap)(L1:List Loc)(A1:Nat→Addr)(K1:Nat→ClassId)(D1:Nat→UInt64)(b9:Bool)(j9:Int32),LVH p l e s m args below meth c T1 Z a0 h1 hM n0 L1 A1 Ab K1 Kb D1 W oM rest v0 v1 3 6 (b8++[(65,2,[vD 10,vD 11]),(65,2,[vD 7,vD 9]),(65,2,[vD 7,vD 9])])→ah J0 7 (D1 7)→ah J1 7 (D1 9)→Go p e below Ev T1 (mkF m 226 #[.val (.ref (A1 0)),.val (.ref (A1 1)),.val (.ref (A1 11)),.val (.ref (A1 12)),.val (.ref (A1 13)),.val (.int 0),.val (.int 0),.val (.double (D1 7)),.second,(bif b9 then .val (.int j9) else .unset)] [])
theorem oA (b9:Bool)(H:LVH p l e s m args below meth c T0 Z a0 h0 hM n0 L0 A Ab K Kb D W oM rest v0 v1 3 6 (b8++[(65,2,[vD 10,vD 11]),(65,2,[vD 7,vD 9]),(65,2,[vD 0,vD 9])]))(S:S7 (ah u 0 (D 6)) (Lq=0) a u Lq Dd M01 M00 M11 M10 (D 3) (D 4))(J:JH M01 M00 M11 M10 J0 J1 R0 R1)(f0:ah J0 7 (D 7))(f1:ah J1 7 (D 9))(KK:ns p l e s m args below meth c Z a0 hM n0 Ab Kb W oM rest v0 v1 J0 J1 Ev):Go p e below Ev T0 (mkF m 158 (dL A D W #[sR 0,sR 1,sR 11,sR 12,sR 13,sI 0,sI 0,sD 7,s2,(bif b9 then sI 0 else sU)]) [.double (D 7),.int 0,.ref (A 13)]):=by
 rcases aq f0 H.2.1 with ⟨hz,hc⟩|⟨hz,hc⟩
 ·refine goE (aX (Gp b9) H (by decide) (by decide) ⟨hc,trivial⟩ ?_) rfl
  intro T1 h1 L1 A1 K1 H1
  exact goE (KK T1 h1 L1 A1 K1 _ b9 0 H1 f0 f1) (by cases b9<;>rfl)
 ·refine goE (aX (Gq b9) H (by decide) (by decide) ⟨hc,trivial⟩ ?_) rfl
  intro T1 h1 L1 A1 K1 H1
  exact goE (KK T1 h1 L1 A1 K1 _ true 0 H1 f0 f1) rfl
theorem oB (H:LVH p l e s m args below meth c T0 Z a0 h0 hM n0 L0 A Ab K Kb D W oM rest v0 v1 3 6 (b8++[(65,2,[vD 10,vD 11]),(65,2,[vD 8,vD 7]),(65,2,[vD 0,vD 7])]))(S:S7 (ah u 0 (D 6)) (Lq=0) a u Lq Dd M01 M00 M11 M10 (D 3) (D 4))(J:JH M01 M00 M11 M10 J0 J1 R0 R1)(f0:ah P0 7 (D 8))(f1:ah J1 7 (D 7))(e1:128*P0=128*J0+Lq*J1)(KK:ns p l e s m args below meth c Z a0 hM n0 Ab Kb W oM rest v0 v1 J0 J1 Ev):Go p e below Ev T0 (mkF m 159 (dL A D W #[sR 0,sR 1,sR 11,sR 12,sR 13,sI 1,sI 1,sD 7,s2,sU]) []):=by
 rcases aq f1 H.2.1 with ⟨hz,hc⟩|⟨hz,hc⟩
 ·refine goE (aX (Gm) H (by decide) (by decide) ⟨hc,trivial⟩ ?_) rfl
  intro T1 h1 L1 A1 K1 H1
  exact goE (oA (D:=(ac [(D 0),(D 1),(D 2),(D 3),(D 4),(D 5),(D 6),(D 8),(D 8),(D 7),(D 10),(D 11)])) false (H1.re rfl rfl rfl rfl) S J (by rw[show J0=P0 by rw[S.2.2.2.2.2.2.1,Int.zero_mul] at e1;omega];exact f0) f1 KK) rfl
 ·refine goE (aX (Gn) H (by decide) (by decide) ⟨hc,trivial⟩ ?_) rfl
  intro T1 h1 L1 A1 K1 H1
  exact goE (oA (D:=(ac [(D 0),(D 1),(D 2),(D 3),(D 4),(D 5),(D 6),(D 8),(D 8),(D 7),(D 10),(D 11)])) true (H1.re rfl rfl rfl rfl) S J (by rw[show J0=P0 by rw[S.2.2.2.2.2.2.1,Int.zero_mul] at e1;omega];exact f0) f1 KK) rfl
theorem oC (b7:Bool)(H:LVH p l e s m args below meth c T0 Z a0 h0 hM n0 L0 A Ab K Kb D W oM rest v0 v1 2 4 (b8++[(65,2,[vD 10,vD 11]),(65,2,[vD 8,vD 0])]))(S:S7 (ah u 0 (D 6)) (Lq=0) a u Lq Dd M01 M00 M11 M10 (D 3) (D 4))(J:JH M01 M00 M11 M10 J0 J1 R0 R1)(f0:ah P0 7 (D 8))(f1:ah J1 7 (D 7))(e1:128*P0=128*J0+Lq*J1)(KK:ns p l e s m args below meth c Z a0 hM n0 Ab Kb W oM rest v0 v1 J0 J1 Ev):Go p e below Ev T0 (mkF m 51 (dL A D W #[sR 0,sR 1,sR 11,sR 12,sI 1,sD 7,s2,(bif b7 then sI 1 else sU),sU,sU]) [.double (D 7),.int 1,.ref (A 12)]):=by
 rcases aq f1 H.2.1 with ⟨hz,hc⟩|⟨hz,hc⟩
 ·refine goE (aX (Gk b7) H (by decide) (by decide) ⟨hc,trivial⟩ ?_) rfl
  intro T1 h1 L1 A1 K1 H1
  exact goE (oB (D:=(ac [(D 0),(D 1),(D 2),(D 3),(D 4),(D 5),(D 6),(D 7),(D 8),(D 9),(D 10),(D 11)])) (H1.re rfl rfl rfl rfl) S J f0 f1 e1 KK) rfl
 ·refine goE (aX (Gl b7) H (by decide) (by decide) ⟨hc,trivial⟩ ?_) rfl
  intro T1 h1 L1 A1 K1 H1
  exact goE (oB (D:=(ac [(D 0),(D 1),(D 2),(D 3),(D 4),(D 5),(D 6),(D 7),(D 8),(D 9),(D 10),(D 11)])) (H1.re rfl rfl rfl rfl) S J f0 f1 e1 KK) rfl
theorem yB (H:LVH p l e s m args below meth c T0 Z a0 h0 hM n0 L0 A Ab K Kb D W oM rest v0 v1 2 4 (b8++[(65,2,[vD 10,vD 11]),(65,2,[vD 7,vD 0])]))(S:S7 (ah u 0 (D 6)) (Lq=0) a u Lq Dd M01 M00 M11 M10 (D 3) (D 4))(J:JH M01 M00 M11 M10 J0 J1 R0 R1)(fx:ah P0 7 (D 7))(fz:Jvm.FP.Core.DInt R1 (D 10))(bP:-8388608≤P0∧P0≤8388608)(e1:128*P0=128*J0+Lq*J1)(e2:2*(128*R1-u*P0)=Dd*J1)(KK:ns p l e s m args below meth c Z a0 hM n0 Ab Kb W oM rest v0 v1 J0 J1 Ev):Go p e below Ev T0 (mkF m 52 (dL A D W #[sR 0,sR 1,sR 11,sR 12,sI 0,sD 7,s2,sU,sU,sU]) []):=by
 obtain⟨fp,fw⟩:=gP S.2.2.2.2.2.1 fx fz S.2.1 bP J.2.2.2.2.2
 rcases aq fx H.2.1 with ⟨hz,hc⟩|⟨hz,hc⟩
 ·have fi:ah (128*R1-u*P0) 7 (D 10):=(by rw[show 128*R1-u*P0=128*R1 by rw[hz,Int.mul_zero];omega];exact aG 7 128 (ak.mpr fz) rfl (by omega))
  have f1:=ch fi S.2.2.2.2.2.2.2.1 S.2.2.2.1 e2 J.2.2.2.1
  refine goE (aX (Gi) H (by decide) (by decide) ⟨hc,aj f1,trivial⟩ ?_) rfl
  intro T1 h1 L1 A1 K1 H1
  exact goE (oC (D:=(ac [(D 0),(D 1),(D 2),(D 3),(D 4),(D 5),(D 6),(FP.ddiv (D 10) (D 4)),(D 7),(D 9),(D 10),(D 11)])) false (H1.re rfl rfl rfl rfl) S J fx f1 e1 KK) rfl
 ·have fi:ah (128*R1-u*P0) 7 (FP.dsub (D 10) (FP.dmul (D 6) (D 7))):=fw
  have f1:=ch fi S.2.2.2.2.2.2.2.1 S.2.2.2.1 e2 J.2.2.2.1
  refine goE (aX (Gj) H (by decide) (by decide) ⟨hc,aj fp,aj fw,aj f1,trivial⟩ ?_) rfl
  intro T1 h1 L1 A1 K1 H1
  exact goE (oC (D:=(ac [(D 0),(D 1),(D 2),(D 3),(D 4),(D 5),(D 6),(FP.ddiv (FP.dsub (D 10) (FP.dmul (D 6) (D 7))) (D 4)),(D 7),(D 9),(FP.dsub (D 10) (FP.dmul (D 6) (D 7))),(D 11)])) true (H1.re rfl rfl rfl rfl) S J fx f1 e1 KK) rfl
theorem yC (H:LVH p l e s m args below meth c T0 Z a0 h0 hM n0 L0 A Ab K Kb D W oM rest v0 v1 0 0 (b8))(S:S7 (ah u 0 (D 6)) (Lq=0) a u Lq Dd M01 M00 M11 M10 (D 3) (D 4))(J:JH M01 M00 M11 M10 J0 J1 R0 R1)(fv:Jvm.FP.Core.DInt R0 (D 2))(fz:Jvm.FP.Core.DInt R1 (D 1))(KK:ns p l e s m args below meth c Z a0 hM n0 Ab Kb W oM rest v0 v1 J0 J1 Ev):Go p e below Ev T0 (mkF m 0 (dL A D W #[sR 0,sR 1,sU,sU,sU,sU,sU,sU,sU,sU]) []):=by
 obtain⟨P0,fx,bP,e1,e2⟩:=gq S J fv
 refine goE (aX (Iz) H (by decide) (by decide) ⟨aj fx,trivial⟩ ?_) rfl
 intro T1 h1 L1 A1 K1 H1
 exact goE (yB (D:=(ac [(D 0),(D 1),(D 2),(D 3),(D 4),(D 5),(D 6),(FP.ddiv (D 2) (D 3)),(D 8),(D 9),(D 1),(D 2)])) (H1.re rfl rfl rfl rfl) S J fx fz bP e1 e2 KK) rfl
def pZ (la:Nat→Addr)(kl:Nat→ClassId)(pv0 pv1 uv:UInt64):List OB:=[(la 0,kl 0,64,2,[.int 0,.int 1]),(la 1,kl 1,64,2,[.int 1,.int 0]),(la 2,kl 2,65,2,[.double pv0,.double pv1]),(la 3,kl 3,64,3,[.int 0,.int 1,.int 1]),(la 4,kl 4,64,2,[.int 0,.int 0]),(la 5,kl 5,65,2,[.double uv,.double 0]),(la 6,kl 6,64,3,[.int 0,.int 0,.int 0]),(la 7,kl 7,64,0,[]),(la 8,kl 8,65,0,[])]
theorem Gr {la:Nat→Addr}{kl:Nat→ClassId}{g:Nat→Value}{pv0 pv1 uv:UInt64}(S:S7 (ah u 0 uv) (Lq=0) a u Lq Dd M01 M00 M11 M10 pv0 pv1):bl l Z n0 M00 M01 M10 M11 (tmL g la) (pZ la kl pv0 pv1 uv):=by
 intro p e s m args below meth c T0 a0 Ev h0 A K D J0 J1 i0 i1 cnt er ep es eo ev rest B D0 d0 d1 J YM KK
 have YS:Yf Z n0 h0 (([(A 0,K 0,65,2,[.double (D 1),.double (D 2)]),(A 1,K 1,0,0,[tmL g la 0,tmL g la 1,tmL g la 2,tmL g la 3,tmL g la 4,tmL g la 5,tmL g la 6,tmL g la 7,.ref (A 2),.ref (A 3),.ref (A 4),.ref (A 5),.ref (A 6),tmL g la 8,tmL g la 9,tmL g la 10,tmL g la 11,tmL g la 12,tmL g la 13,tmL g la 14,tmL g la 15,tmL g la 16,tmL g la 17,tmL g la 18,tmL g la 19,tmL g la 20,tmL g la 21,tmL g la 22,.int cnt])]++pZ la kl pv0 pv1 uv)++(rest++(an A K D (tmL g la) 0 (dsE cnt er ep es eo ev)).drop 2)):=by
  have:=Yf.swap (a:=[(A 0,K 0,65,2,[.double (D 1),.double (D 2)]),(A 1,K 1,0,0,[tmL g la 0,tmL g la 1,tmL g la 2,tmL g la 3,tmL g la 4,tmL g la 5,tmL g la 6,tmL g la 7,.ref (A 2),.ref (A 3),.ref (A 4),.ref (A 5),.ref (A 6),tmL g la 8,tmL g la 9,tmL g la 10,tmL g la 11,tmL g la 12,tmL g la 13,tmL g la 14,tmL g la 15,tmL g la 16,tmL g la 17,tmL g la 18,tmL g la 19,tmL g la 20,tmL g la 21,tmL g la 22,.int cnt])]) (b:=(an A K D (tmL g la) 0 (dsE cnt er ep es eo ev)).drop 2) (c:=pZ la kl pv0 pv1 uv++rest) YM
  exact this
 refine goE (yC (A:=ttA A la) (Ab:=ttA A la) (K:=ttK K kl) (Kb:=ttK K kl) (D:=(ac [0,D 1,D 2,pv0,pv1,0,uv,0,0,0,0,0])) (W:=(ttW A cnt g)) (hM:=h0) (v0:=D 1) (v1:=D 2) (M00:=M00) (M01:=M01) (M10:=M10) (M11:=M11) (J0:=J0) (J1:=J1) (R0:=i1) (R1:=i0) ⟨B,rfl,Yf.to (Yf.pick (os':=an (ttA A la) (ttK K kl) (ac [0,D 1,D 2,pv0,pv1,0,uv,0,0,0,0,0]) (ttW A cnt g) 0 b8) YS [1,0,2,3,4,5,6,7,8,9,10] (by decide) rfl) rfl,YS,Keep.refl _ _,fun i hi=>?_,fun i _=>⟨rfl,rfl⟩,rfl,rfl⟩ S ?_ d1 d0 ?_) rfl
 ·exact match i,hi with
   | 0,_=>Or.inl (show A 1∈[A 0,A 1,la 0,la 1,la 2,la 3,la 4,la 5,la 6,la 7,la 8] by simp)
   | 1,_=>Or.inl (show A 0∈[A 0,A 1,la 0,la 1,la 2,la 3,la 4,la 5,la 6,la 7,la 8] by simp)
   | 2,_=>Or.inl (show la 0∈[A 0,A 1,la 0,la 1,la 2,la 3,la 4,la 5,la 6,la 7,la 8] by simp)
   | 3,_=>Or.inl (show la 1∈[A 0,A 1,la 0,la 1,la 2,la 3,la 4,la 5,la 6,la 7,la 8] by simp)
   | 4,_=>Or.inl (show la 2∈[A 0,A 1,la 0,la 1,la 2,la 3,la 4,la 5,la 6,la 7,la 8] by simp)
   | 5,_=>Or.inl (show la 3∈[A 0,A 1,la 0,la 1,la 2,la 3,la 4,la 5,la 6,la 7,la 8] by simp)
   | 6,_=>Or.inl (show la 4∈[A 0,A 1,la 0,la 1,la 2,la 3,la 4,la 5,la 6,la 7,la 8] by simp)
   | 7,_=>Or.inl (show la 5∈[A 0,A 1,la 0,la 1,la 2,la 3,la 4,la 5,la 6,la 7,la 8] by simp)
   | 8,_=>Or.inl (show la 6∈[A 0,A 1,la 0,la 1,la 2,la 3,la 4,la 5,la 6,la 7,la 8] by simp)
   | 9,_=>Or.inl (show la 7∈[A 0,A 1,la 0,la 1,la 2,la 3,la 4,la 5,la 6,la 7,la 8] by simp)
   | 10,_=>Or.inl (show la 8∈[A 0,A 1,la 0,la 1,la 2,la 3,la 4,la 5,la 6,la 7,la 8] by simp)
 ·obtain⟨j0,j1,j2,j3,j4,j5⟩:=J
  exact⟨by omega,by omega,by omega,by omega,by omega,by omega⟩
 ·intro T1 h1 L1 A1 K1 D1 b9 j9 H1 f0 f1
  have YE:=rI H1 rfl rfl rfl rfl rfl (by decide)
  have YF:=Yf.swap (a:=[(A1 13,K1 13,65,2,[.double (D1 7),.double (D1 9)]),(A1 11,K1 11,65,2,[.double (D1 10),.double (D1 11)]),(A1 12,K1 12,65,2,[.double (D1 7),.double (D1 9)]),(A 0,K 0,65,2,[.double (D 1),.double (D 2)]),(A 1,K 1,0,0,[tmL g la 0,tmL g la 1,tmL g la 2,tmL g la 3,tmL g la 4,tmL g la 5,tmL g la 6,tmL g la 7,.ref (A 2),.ref (A 3),.ref (A 4),.ref (A 5),.ref (A 6),tmL g la 8,tmL g la 9,tmL g la 10,tmL g la 11,tmL g la 12,tmL g la 13,tmL g la 14,tmL g la 15,tmL g la 16,tmL g la 17,tmL g la 18,tmL g la 19,tmL g la 20,tmL g la 21,tmL g la 22,.int cnt])]) (b:=rest) (c:=(an A K D (tmL g la) 0 (dsE cnt er ep es eo ev)).drop 2) YE
  have a0:=(H1.2.2.2.2.2.2.1 0 (by decide)).1
  have a1:=(H1.2.2.2.2.2.2.1 1 (by decide)).1
  have G:=KK T1 h1 L1 (A1 13) (A1 11) (A1 12) (K1 13) (K1 11) (K1 12) _ _ (D1 7) _ _ _ _ 0 j9 b9 H1.1 YF f0 f1
  rw[a0,a1]
  exact G
def ix:AD:=aI [0,0,1]
def bg:List AD:=[rJ,aL,za4,za4,ff,dV,za9,aD [6,0],ix,ay,aD [5,0]]
theorem Gs:ai (run (tb 32) ae 10 (1,3,6,14) 52 32 [] [] (0,#[sR 0,sR 1,sU,sU,sU,sU,sU,sU,sU,sU],[],bg,12,0,0)) (52,#[sR 0,sR 1,sR 11,sR 12,sI 0,sD 12,s2,sU,sU,sU],[],bg++[aL,lC],13,2,4) [fO]=true:=by decide +kernel
theorem yD:ai (run (tb 32) ae 10 (1,3,6,14) 51 26 [] [0] (52,#[sR 0,sR 1,sR 11,sR 12,sI 0,sD 7,s2,sU,sU,sU],[],bg++[za6,dM],12,2,4)) (51,#[sR 0,sR 1,sR 11,sR 12,sI 1,sD 12,s2,sU,sU,sU],i7,bg++[za6,dM],13,2,4) [d8,lD]=true:=by decide +kernel
theorem yE:ai (run (tb 32) ae 10 (1,3,6,14) 51 64 [] [1] (52,#[sR 0,sR 1,sR 11,sR 12,sI 0,sD 7,s2,sU,sU,sU],[],bg++[za6,dM],12,2,4)) (51,#[sR 0,sR 1,sR 11,sR 12,sI 1,sD 14,s2,sI 1,sU,sU],om,bg++[aD [10,13],dM],15,2,4) wL=true:=by decide +kernel
theorem yF:∀b7:Bool,ai (run (tb 32) ae 10 (1,3,6,14) 159 36 [] [0] (51,#[sR 0,sR 1,sR 11,sR 12,sI 1,sD 7,s2,(bif b7 then sI 1 else sU),sU,sU],fP,bg++[za6,fQ],12,2,4)) (159,#[sR 0,sR 1,sR 11,sR 12,sR 13,sI 1,sI 1,sD 7,s2,sU],[],bg++dH,12,3,6) [d8]=true:=by decide +kernel
theorem yG:∀b7:Bool,ai (run (tb 32) ae 10 (1,3,6,14) 159 49 [] [1] (51,#[sR 0,sR 1,sR 11,sR 12,sI 1,sD 7,s2,(bif b7 then sI 1 else sU),sU,sU],fP,bg++[za6,fQ],12,2,4)) (159,#[sR 0,sR 1,sR 11,sR 12,sR 13,sI 1,sI 1,sD 7,s2,sU],[],bg++dH,12,3,6) [eO]=true:=by decide +kernel
theorem yH:ai (run (tb 32) ae 10 (1,3,6,14) 158 21 [] [0] (159,#[sR 0,sR 1,sR 11,sR 12,sR 13,sI 1,sI 1,sD 7,s2,sU],[],bg++dH,12,3,6)) (158,#[sR 0,sR 1,sR 11,sR 12,sR 13,sI 0,sI 0,sD 8,s2,sU],no,bg++dH,12,3,6) [d8]=true:=by decide +kernel
theorem yI:ai (run (tb 32) ae 10 (1,3,6,14) 158 59 [] [1] (159,#[sR 0,sR 1,sR 11,sR 12,sR 13,sI 1,sI 1,sD 7,s2,sU],[],bg++dH,12,3,6)) (158,#[sR 0,sR 1,sR 11,sR 12,sR 13,sI 0,sI 0,sD 13,s2,sI 1],[vD 13,zq0,d5],bg++[za6,aD [13,7],M2],14,3,6) [eO,(2,5,7,0),(1,8,12,0)]=true:=by decide +kernel
theorem yJ:∀b9:Bool,ai (run (tb 32) ae 10 (1,3,6,14) 226 12 [] [0] (158,#[sR 0,sR 1,sR 11,sR 12,sR 13,sI 0,sI 0,sD 7,s2,(bif b9 then sI 1 else sU)],lH,bg++lI,12,3,6)) (226,#[sR 0,sR 1,sR 11,sR 12,sR 13,sI 0,sI 0,sD 7,s2,(bif b9 then sI 1 else sU)],[],bg++lJ,12,3,6) [d8]=true:=by decide +kernel
theorem yK:∀b9:Bool,ai (run (tb 32) ae 10 (1,3,6,14) 226 25 [] [1] (158,#[sR 0,sR 1,sR 11,sR 12,sR 13,sI 0,sI 0,sD 7,s2,(bif b9 then sI 1 else sU)],lH,bg++lI,12,3,6)) (226,#[sR 0,sR 1,sR 11,sR 12,sR 13,sI 0,sI 0,sD 7,s2,sI 0],[],bg++lJ,12,3,6) [eO]=true:=by decide +kernel
def jP (p:Program)(l:Launch)(e:Env)(s:State)(m:MethodId)(args:Array Value)(below:List Frame)(meth:Method)(c:Code)(Z:State)(a0:Array Value)(hM:Heap)(n0:Nat)(Ab:Nat→Addr)(Kb:Nat→ClassId)(W:Nat→Value)(oM rest:List OB)(v0 v1:UInt64)(J0 J1:Int)(Ev:State→Outcome→Prop):Prop:=∀(T1:State)(h1:Heap)(L1:List Loc)(A1:Nat→Addr)(K1:Nat→ClassId)(D1:Nat→UInt64)(b9:Bool)(j9:Int32),LVH p l e s m args below meth c T1 Z a0 h1 hM n0 L1 A1 Ab K1 Kb D1 W oM rest v0 v1 3 6 (bg++[(65,2,[vD 10,vD 11]),(65,2,[vD 7,vD 9]),(65,2,[vD 7,vD 9])])→ah J0 7 (D1 7)→ah J1 7 (D1 9)→Go p e below Ev T1 (mkF m 226 #[.val (.ref (A1 0)),.val (.ref (A1 1)),.val (.ref (A1 11)),.val (.ref (A1 12)),.val (.ref (A1 13)),.val (.int 0),.val (.int 0),.val (.double (D1 7)),.second,(bif b9 then .val (.int j9) else .unset)] [])
theorem nu (b9:Bool)(H:LVH p l e s m args below meth c T0 Z a0 h0 hM n0 L0 A Ab K Kb D W oM rest v0 v1 3 6 (bg++[(65,2,[vD 10,vD 11]),(65,2,[vD 7,vD 9]),(65,2,[vD 0,vD 9])]))(S:S7 (ah u 0 (D 6)) (ah Lq 7 (D 5)) a u Lq Dd M00 M01 M10 M11 (D 3) (D 4))(J:JH M00 M01 M10 M11 J0 J1 R0 R1)(f0:ah J0 7 (D 7))(f1:ah J1 7 (D 9))(KK:jP p l e s m args below meth c Z a0 hM n0 Ab Kb W oM rest v0 v1 J0 J1 Ev):Go p e below Ev T0 (mkF m 158 (dL A D W #[sR 0,sR 1,sR 11,sR 12,sR 13,sI 0,sI 0,sD 7,s2,(bif b9 then sI 1 else sU)]) [.double (D 7),.int 0,.ref (A 13)]):=by
 rcases aq f0 H.2.1 with ⟨hz,hc⟩|⟨hz,hc⟩
 ·refine goE (aX (yJ b9) H (by decide) (by decide) ⟨hc,trivial⟩ ?_) rfl
  intro T1 h1 L1 A1 K1 H1
  exact goE (KK T1 h1 L1 A1 K1 _ b9 1 H1 f0 f1) (by cases b9<;>rfl)
 ·refine goE (aX (yK b9) H (by decide) (by decide) ⟨hc,trivial⟩ ?_) rfl
  intro T1 h1 L1 A1 K1 H1
  exact goE (KK T1 h1 L1 A1 K1 _ true 0 H1 f0 f1) rfl
theorem nv (H:LVH p l e s m args below meth c T0 Z a0 h0 hM n0 L0 A Ab K Kb D W oM rest v0 v1 3 6 (bg++[(65,2,[vD 10,vD 11]),(65,2,[vD 8,vD 7]),(65,2,[vD 0,vD 7])]))(S:S7 (ah u 0 (D 6)) (ah Lq 7 (D 5)) a u Lq Dd M00 M01 M10 M11 (D 3) (D 4))(J:JH M00 M01 M10 M11 J0 J1 R0 R1)(f0:ah P0 7 (D 8))(f1:ah J1 7 (D 7))(e1:128*P0=128*J0+Lq*J1)(KK:jP p l e s m args below meth c Z a0 hM n0 Ab Kb W oM rest v0 v1 J0 J1 Ev):Go p e below Ev T0 (mkF m 159 (dL A D W #[sR 0,sR 1,sR 11,sR 12,sR 13,sI 1,sI 1,sD 7,s2,sU]) []):=by
 obtain⟨fp,fn,fs⟩:=rH S.2.2.2.2.2.2.1 f0 f1 e1 S.2.2.1 J.2.2.2.1 J.2.2.1
 rcases aq f1 H.2.1 with ⟨hz,hc⟩|⟨hz,hc⟩
 ·refine goE (aX (yH) H (by decide) (by decide) ⟨hc,trivial⟩ ?_) rfl
  intro T1 h1 L1 A1 K1 H1
  exact goE (nu (D:=(ac [(D 0),(D 1),(D 2),(D 3),(D 4),(D 5),(D 6),(D 8),(D 8),(D 7),(D 10),(D 11)])) false (H1.re rfl rfl rfl rfl) S J (by rw[show J0=P0 by rw[hz,Int.mul_zero] at e1;omega];exact f0) f1 KK) rfl
 ·refine goE (aX (yI) H (by decide) (by decide) ⟨hc,aj fp,fn,trivial⟩ ?_) rfl
  intro T1 h1 L1 A1 K1 H1
  exact goE (nu (D:=(ac [(D 0),(D 1),(D 2),(D 3),(D 4),(D 5),(D 6),(FP.dsub (D 8) (FP.dmul (D 5) (D 7))),(FP.dsub (D 8) (FP.dmul (D 5) (D 7))),(D 7),(D 10),(D 11)])) true (H1.re rfl rfl rfl rfl) S J fs f1 KK) rfl
theorem nx (b7:Bool)(H:LVH p l e s m args below meth c T0 Z a0 h0 hM n0 L0 A Ab K Kb D W oM rest v0 v1 2 4 (bg++[(65,2,[vD 10,vD 11]),(65,2,[vD 8,vD 0])]))(S:S7 (ah u 0 (D 6)) (ah Lq 7 (D 5)) a u Lq Dd M00 M01 M10 M11 (D 3) (D 4))(J:JH M00 M01 M10 M11 J0 J1 R0 R1)(f0:ah P0 7 (D 8))(f1:ah J1 7 (D 7))(e1:128*P0=128*J0+Lq*J1)(KK:jP p l e s m args below meth c Z a0 hM n0 Ab Kb W oM rest v0 v1 J0 J1 Ev):Go p e below Ev T0 (mkF m 51 (dL A D W #[sR 0,sR 1,sR 11,sR 12,sI 1,sD 7,s2,(bif b7 then sI 1 else sU),sU,sU]) [.double (D 7),.int 1,.ref (A 12)]):=by
 rcases aq f1 H.2.1 with ⟨hz,hc⟩|⟨hz,hc⟩
 ·refine goE (aX (yF b7) H (by decide) (by decide) ⟨hc,trivial⟩ ?_) rfl
  intro T1 h1 L1 A1 K1 H1
  exact goE (nv (D:=(ac [(D 0),(D 1),(D 2),(D 3),(D 4),(D 5),(D 6),(D 7),(D 8),(D 9),(D 10),(D 11)])) (H1.re rfl rfl rfl rfl) S J f0 f1 e1 KK) rfl
 ·refine goE (aX (yG b7) H (by decide) (by decide) ⟨hc,trivial⟩ ?_) rfl
  intro T1 h1 L1 A1 K1 H1
  exact goE (nv (D:=(ac [(D 0),(D 1),(D 2),(D 3),(D 4),(D 5),(D 6),(D 7),(D 8),(D 9),(D 10),(D 11)])) (H1.re rfl rfl rfl rfl) S J f0 f1 e1 KK) rfl
theorem ue (H:LVH p l e s m args below meth c T0 Z a0 h0 hM n0 L0 A Ab K Kb D W oM rest v0 v1 2 4 (bg++[(65,2,[vD 10,vD 11]),(65,2,[vD 7,vD 0])]))(S:S7 (ah u 0 (D 6)) (ah Lq 7 (D 5)) a u Lq Dd M00 M01 M10 M11 (D 3) (D 4))(J:JH M00 M01 M10 M11 J0 J1 R0 R1)(fx:ah P0 7 (D 7))(fz:Jvm.FP.Core.DInt R1 (D 11))(bP:-8388608≤P0∧P0≤8388608)(e1:128*P0=128*J0+Lq*J1)(e2:2*(128*R1-u*P0)=Dd*J1)(KK:jP p l e s m args below meth c Z a0 hM n0 Ab Kb W oM rest v0 v1 J0 J1 Ev):Go p e below Ev T0 (mkF m 52 (dL A D W #[sR 0,sR 1,sR 11,sR 12,sI 0,sD 7,s2,sU,sU,sU]) []):=by
 obtain⟨fp,fw⟩:=gP S.2.2.2.2.2.1 fx fz S.2.1 bP J.2.2.2.2.2
 rcases aq fx H.2.1 with ⟨hz,hc⟩|⟨hz,hc⟩
 ·have fi:ah (128*R1-u*P0) 7 (D 11):=(by rw[show 128*R1-u*P0=128*R1 by rw[hz,Int.mul_zero];omega];exact aG 7 128 (ak.mpr fz) rfl (by omega))
  have f1:=ch fi S.2.2.2.2.2.2.2.1 S.2.2.2.1 e2 J.2.2.2.1
  refine goE (aX (yD) H (by decide) (by decide) ⟨hc,aj f1,trivial⟩ ?_) rfl
  intro T1 h1 L1 A1 K1 H1
  exact goE (nx (D:=(ac [(D 0),(D 1),(D 2),(D 3),(D 4),(D 5),(D 6),(FP.ddiv (D 11) (D 4)),(D 7),(D 9),(D 10),(D 11)])) false (H1.re rfl rfl rfl rfl) S J fx f1 e1 KK) rfl
 ·have fi:ah (128*R1-u*P0) 7 (FP.dsub (D 11) (FP.dmul (D 6) (D 7))):=fw
  have f1:=ch fi S.2.2.2.2.2.2.2.1 S.2.2.2.1 e2 J.2.2.2.1
  refine goE (aX (yE) H (by decide) (by decide) ⟨hc,aj fp,aj fw,aj f1,trivial⟩ ?_) rfl
  intro T1 h1 L1 A1 K1 H1
  exact goE (nx (D:=(ac [(D 0),(D 1),(D 2),(D 3),(D 4),(D 5),(D 6),(FP.ddiv (FP.dsub (D 11) (FP.dmul (D 6) (D 7))) (D 4)),(D 7),(D 9),(D 10),(FP.dsub (D 11) (FP.dmul (D 6) (D 7)))])) true (H1.re rfl rfl rfl rfl) S J fx f1 e1 KK) rfl
theorem uf (H:LVH p l e s m args below meth c T0 Z a0 h0 hM n0 L0 A Ab K Kb D W oM rest v0 v1 0 0 (bg))(S:S7 (ah u 0 (D 6)) (ah Lq 7 (D 5)) a u Lq Dd M00 M01 M10 M11 (D 3) (D 4))(J:JH M00 M01 M10 M11 J0 J1 R0 R1)(fv:Jvm.FP.Core.DInt R0 (D 1))(fz:Jvm.FP.Core.DInt R1 (D 2))(KK:jP p l e s m args below meth c Z a0 hM n0 Ab Kb W oM rest v0 v1 J0 J1 Ev):Go p e below Ev T0 (mkF m 0 (dL A D W #[sR 0,sR 1,sU,sU,sU,sU,sU,sU,sU,sU]) []):=by
 obtain⟨P0,fx,bP,e1,e2⟩:=gq S J fv
 refine goE (aX (Gs) H (by decide) (by decide) ⟨aj fx,trivial⟩ ?_) rfl
 intro T1 h1 L1 A1 K1 H1
 exact goE (ue (D:=(ac [(D 0),(D 1),(D 2),(D 3),(D 4),(D 5),(D 6),(FP.ddiv (D 1) (D 3)),(D 8),(D 9),(D 1),(D 2)])) (H1.re rfl rfl rfl rfl) S J fx fz bP e1 e2 KK) rfl
def ny (la:Nat→Addr)(kl:Nat→ClassId)(pv0 pv1 lv uv:UInt64):List OB:=[(la 0,kl 0,64,2,[.int 0,.int 1]),(la 1,kl 1,64,2,[.int 0,.int 1]),(la 2,kl 2,65,2,[.double pv0,.double pv1]),(la 3,kl 3,64,3,[.int 0,.int 1,.int 1]),(la 4,kl 4,64,2,[.int 1,.int 0]),(la 5,kl 5,65,2,[.double uv,.double 0]),(la 6,kl 6,64,3,[.int 0,.int 0,.int 1]),(la 7,kl 7,64,2,[.int 0,.int 0]),(la 8,kl 8,65,2,[.double lv,.double 0])]
theorem wM {la:Nat→Addr}{kl:Nat→ClassId}{g:Nat→Value}{pv0 pv1 lv uv:UInt64}(S:S7 (ah u 0 uv) (ah Lq 7 lv) a u Lq Dd M00 M01 M10 M11 pv0 pv1):bl l Z n0 M00 M01 M10 M11 (tmL g la) (ny la kl pv0 pv1 lv uv):=by
 intro p e s m args below meth c T0 a0 Ev h0 A K D J0 J1 i0 i1 cnt er ep es eo ev rest B D0 d0 d1 J YM KK
 have YS:Yf Z n0 h0 (([(A 0,K 0,65,2,[.double (D 1),.double (D 2)]),(A 1,K 1,0,0,[tmL g la 0,tmL g la 1,tmL g la 2,tmL g la 3,tmL g la 4,tmL g la 5,tmL g la 6,tmL g la 7,.ref (A 2),.ref (A 3),.ref (A 4),.ref (A 5),.ref (A 6),tmL g la 8,tmL g la 9,tmL g la 10,tmL g la 11,tmL g la 12,tmL g la 13,tmL g la 14,tmL g la 15,tmL g la 16,tmL g la 17,tmL g la 18,tmL g la 19,tmL g la 20,tmL g la 21,tmL g la 22,.int cnt])]++ny la kl pv0 pv1 lv uv)++(rest++(an A K D (tmL g la) 0 (dsE cnt er ep es eo ev)).drop 2)):=by
  have:=Yf.swap (a:=[(A 0,K 0,65,2,[.double (D 1),.double (D 2)]),(A 1,K 1,0,0,[tmL g la 0,tmL g la 1,tmL g la 2,tmL g la 3,tmL g la 4,tmL g la 5,tmL g la 6,tmL g la 7,.ref (A 2),.ref (A 3),.ref (A 4),.ref (A 5),.ref (A 6),tmL g la 8,tmL g la 9,tmL g la 10,tmL g la 11,tmL g la 12,tmL g la 13,tmL g la 14,tmL g la 15,tmL g la 16,tmL g la 17,tmL g la 18,tmL g la 19,tmL g la 20,tmL g la 21,tmL g la 22,.int cnt])]) (b:=(an A K D (tmL g la) 0 (dsE cnt er ep es eo ev)).drop 2) (c:=ny la kl pv0 pv1 lv uv++rest) YM
  exact this
 refine goE (uf (A:=ttA A la) (Ab:=ttA A la) (K:=ttK K kl) (Kb:=ttK K kl) (D:=(ac [0,D 1,D 2,pv0,pv1,lv,uv,0,0,0,0,0])) (W:=(ttW A cnt g)) (hM:=h0) (v0:=D 1) (v1:=D 2) (M00:=M00) (M01:=M01) (M10:=M10) (M11:=M11) (J0:=J0) (J1:=J1) (R0:=i0) (R1:=i1) ⟨B,rfl,Yf.to (Yf.pick (os':=an (ttA A la) (ttK K kl) (ac [0,D 1,D 2,pv0,pv1,lv,uv,0,0,0,0,0]) (ttW A cnt g) 0 bg) YS [1,0,2,3,4,5,6,7,8,9,10] (by decide) rfl) rfl,YS,Keep.refl _ _,fun i hi=>?_,fun i _=>⟨rfl,rfl⟩,rfl,rfl⟩ S ?_ d0 d1 ?_) rfl
 ·exact match i,hi with
   | 0,_=>Or.inl (show A 1∈[A 0,A 1,la 0,la 1,la 2,la 3,la 4,la 5,la 6,la 7,la 8] by simp)
   | 1,_=>Or.inl (show A 0∈[A 0,A 1,la 0,la 1,la 2,la 3,la 4,la 5,la 6,la 7,la 8] by simp)
   | 2,_=>Or.inl (show la 0∈[A 0,A 1,la 0,la 1,la 2,la 3,la 4,la 5,la 6,la 7,la 8] by simp)
   | 3,_=>Or.inl (show la 1∈[A 0,A 1,la 0,la 1,la 2,la 3,la 4,la 5,la 6,la 7,la 8] by simp)
   | 4,_=>Or.inl (show la 2∈[A 0,A 1,la 0,la 1,la 2,la 3,la 4,la 5,la 6,la 7,la 8] by simp)
   | 5,_=>Or.inl (show la 3∈[A 0,A 1,la 0,la 1,la 2,la 3,la 4,la 5,la 6,la 7,la 8] by simp)
   | 6,_=>Or.inl (show la 4∈[A 0,A 1,la 0,la 1,la 2,la 3,la 4,la 5,la 6,la 7,la 8] by simp)
   | 7,_=>Or.inl (show la 5∈[A 0,A 1,la 0,la 1,la 2,la 3,la 4,la 5,la 6,la 7,la 8] by simp)
   | 8,_=>Or.inl (show la 6∈[A 0,A 1,la 0,la 1,la 2,la 3,la 4,la 5,la 6,la 7,la 8] by simp)
   | 9,_=>Or.inl (show la 7∈[A 0,A 1,la 0,la 1,la 2,la 3,la 4,la 5,la 6,la 7,la 8] by simp)
   | 10,_=>Or.inl (show la 8∈[A 0,A 1,la 0,la 1,la 2,la 3,la 4,la 5,la 6,la 7,la 8] by simp)
 ·obtain⟨j0,j1,j2,j3,j4,j5⟩:=J
  exact⟨by omega,by omega,by omega,by omega,by omega,by omega⟩
 ·intro T1 h1 L1 A1 K1 D1 b9 j9 H1 f0 f1
  have YE:=rI H1 rfl rfl rfl rfl rfl (by decide)
  have YF:=Yf.swap (a:=[(A1 13,K1 13,65,2,[.double (D1 7),.double (D1 9)]),(A1 11,K1 11,65,2,[.double (D1 10),.double (D1 11)]),(A1 12,K1 12,65,2,[.double (D1 7),.double (D1 9)]),(A 0,K 0,65,2,[.double (D 1),.double (D 2)]),(A 1,K 1,0,0,[tmL g la 0,tmL g la 1,tmL g la 2,tmL g la 3,tmL g la 4,tmL g la 5,tmL g la 6,tmL g la 7,.ref (A 2),.ref (A 3),.ref (A 4),.ref (A 5),.ref (A 6),tmL g la 8,tmL g la 9,tmL g la 10,tmL g la 11,tmL g la 12,tmL g la 13,tmL g la 14,tmL g la 15,tmL g la 16,tmL g la 17,tmL g la 18,tmL g la 19,tmL g la 20,tmL g la 21,tmL g la 22,.int cnt])]) (b:=rest) (c:=(an A K D (tmL g la) 0 (dsE cnt er ep es eo ev)).drop 2) YE
  have a0:=(H1.2.2.2.2.2.2.1 0 (by decide)).1
  have a1:=(H1.2.2.2.2.2.2.1 1 (by decide)).1
  have G:=KK T1 h1 L1 (A1 13) (A1 11) (A1 12) (K1 13) (K1 11) (K1 12) _ _ (D1 7) _ _ _ _ 0 j9 b9 H1.1 YF f0 f1
  rw[a0,a1]
  exact G
def bh:List AD:=[rJ,aL,za9,za4,ff,dV,za9,aD [6,0],dV,ay,aD [5,0]]
theorem Gt:ai (run (tb 32) ae 10 (1,3,6,14) 52 32 [] [] (0,#[sR 0,sR 1,sU,sU,sU,sU,sU,sU,sU,sU],[],bh,12,0,0)) (52,#[sR 0,sR 1,sR 11,sR 12,sI 0,sD 12,s2,sU,sU,sU],[],bh++[aL,lC],13,2,4) [fO]=true:=by decide +kernel
theorem yL:ai (run (tb 32) ae 10 (1,3,6,14) 51 26 [] [0] (52,#[sR 0,sR 1,sR 11,sR 12,sI 0,sD 7,s2,sU,sU,sU],[],bh++[za6,dM],12,2,4)) (51,#[sR 0,sR 1,sR 11,sR 12,sI 1,sD 12,s2,sU,sU,sU],i7,bh++[za6,dM],13,2,4) [d8,lD]=true:=by decide +kernel
theorem yM:ai (run (tb 32) ae 10 (1,3,6,14) 51 64 [] [1] (52,#[sR 0,sR 1,sR 11,sR 12,sI 0,sD 7,s2,sU,sU,sU],[],bh++[za6,dM],12,2,4)) (51,#[sR 0,sR 1,sR 11,sR 12,sI 1,sD 14,s2,sI 1,sU,sU],om,bh++[aD [10,13],dM],15,2,4) wL=true:=by decide +kernel
theorem yN:∀b7:Bool,ai (run (tb 32) ae 10 (1,3,6,14) 159 36 [] [0] (51,#[sR 0,sR 1,sR 11,sR 12,sI 1,sD 7,s2,(bif b7 then sI 1 else sU),sU,sU],fP,bh++[za6,fQ],12,2,4)) (159,#[sR 0,sR 1,sR 11,sR 12,sR 13,sI 1,sI 0,sD 7,s2,sU],[],bh++dG,12,3,6) [d8]=true:=by decide +kernel
theorem yO:∀b7:Bool,ai (run (tb 32) ae 10 (1,3,6,14) 159 49 [] [1] (51,#[sR 0,sR 1,sR 11,sR 12,sI 1,sD 7,s2,(bif b7 then sI 1 else sU),sU,sU],fP,bh++[za6,fQ],12,2,4)) (159,#[sR 0,sR 1,sR 11,sR 12,sR 13,sI 1,sI 0,sD 7,s2,sU],[],bh++dG,12,3,6) [eO]=true:=by decide +kernel
theorem yP:ai (run (tb 32) ae 10 (1,3,6,14) 158 21 [] [0] (159,#[sR 0,sR 1,sR 11,sR 12,sR 13,sI 1,sI 0,sD 7,s2,sU],[],bh++dG,12,3,6)) (158,#[sR 0,sR 1,sR 11,sR 12,sR 13,sI 0,sI 1,sD 8,s2,sU],nl,bh++dG,12,3,6) [d8]=true:=by decide +kernel
theorem yQ:ai (run (tb 32) ae 10 (1,3,6,14) 158 59 [] [1] (159,#[sR 0,sR 1,sR 11,sR 12,sR 13,sI 1,sI 0,sD 7,s2,sU],[],bh++dG,12,3,6)) (158,#[sR 0,sR 1,sR 11,sR 12,sR 13,sI 0,sI 1,sD 13,s2,sI 1],[vD 13,zq3,d5],bh++[za6,aD [13,7],dM],14,3,6) [eO,(2,5,7,0),(1,8,12,0)]=true:=by decide +kernel
theorem yR:∀b9:Bool,ai (run (tb 32) ae 10 (1,3,6,14) 226 12 [] [0] (158,#[sR 0,sR 1,sR 11,sR 12,sR 13,sI 0,sI 1,sD 7,s2,(bif b9 then sI 1 else sU)],lE,bh++lF,12,3,6)) (226,#[sR 0,sR 1,sR 11,sR 12,sR 13,sI 0,sI 1,sD 7,s2,(bif b9 then sI 1 else sU)],[],bh++lG,12,3,6) [d8]=true:=by decide +kernel
theorem yS:∀b9:Bool,ai (run (tb 32) ae 10 (1,3,6,14) 226 25 [] [1] (158,#[sR 0,sR 1,sR 11,sR 12,sR 13,sI 0,sI 1,sD 7,s2,(bif b9 then sI 1 else sU)],lE,bh++lF,12,3,6)) (226,#[sR 0,sR 1,sR 11,sR 12,sR 13,sI 0,sI 1,sD 7,s2,sI 1],[],bh++lG,12,3,6) [eO]=true:=by decide +kernel
def jQ (p:Program)(l:Launch)(e:Env)(s:State)(m:MethodId)(args:Array Value)(below:List Frame)(meth:Method)(c:Code)(Z:State)(a0:Array Value)(hM:Heap)(n0:Nat)(Ab:Nat→Addr)(Kb:Nat→ClassId)(W:Nat→Value)(oM rest:List OB)(v0 v1:UInt64)(J0 J1:Int)(Ev:State→Outcome→Prop):Prop:=∀(T1:State)(h1:Heap)(L1:List Loc)(A1:Nat→Addr)(K1:Nat→ClassId)(D1:Nat→UInt64)(b9:Bool)(j9:Int32),LVH p l e s m args below meth c T1 Z a0 h1 hM n0 L1 A1 Ab K1 Kb D1 W oM rest v0 v1 3 6 (bh++[(65,2,[vD 10,vD 11]),(65,2,[vD 7,vD 9]),(65,2,[vD 9,vD 7])])→ah J0 7 (D1 7)→ah J1 7 (D1 9)→Go p e below Ev T1 (mkF m 226 #[.val (.ref (A1 0)),.val (.ref (A1 1)),.val (.ref (A1 11)),.val (.ref (A1 12)),.val (.ref (A1 13)),.val (.int 0),.val (.int 1),.val (.double (D1 7)),.second,(bif b9 then .val (.int j9) else .unset)] [])
theorem nz (b9:Bool)(H:LVH p l e s m args below meth c T0 Z a0 h0 hM n0 L0 A Ab K Kb D W oM rest v0 v1 3 6 (bh++[(65,2,[vD 10,vD 11]),(65,2,[vD 7,vD 9]),(65,2,[vD 9,vD 0])]))(S:S7 (ah u 0 (D 6)) (ah Lq 7 (D 5)) a u Lq Dd M10 M11 M00 M01 (D 3) (D 4))(J:JH M10 M11 M00 M01 J0 J1 R0 R1)(f0:ah J0 7 (D 7))(f1:ah J1 7 (D 9))(KK:jQ p l e s m args below meth c Z a0 hM n0 Ab Kb W oM rest v0 v1 J0 J1 Ev):Go p e below Ev T0 (mkF m 158 (dL A D W #[sR 0,sR 1,sR 11,sR 12,sR 13,sI 0,sI 1,sD 7,s2,(bif b9 then sI 1 else sU)]) [.double (D 7),.int 1,.ref (A 13)]):=by
 rcases aq f0 H.2.1 with ⟨hz,hc⟩|⟨hz,hc⟩
 ·refine goE (aX (yR b9) H (by decide) (by decide) ⟨hc,trivial⟩ ?_) rfl
  intro T1 h1 L1 A1 K1 H1
  exact goE (KK T1 h1 L1 A1 K1 _ b9 1 H1 f0 f1) (by cases b9<;>rfl)
 ·refine goE (aX (yS b9) H (by decide) (by decide) ⟨hc,trivial⟩ ?_) rfl
  intro T1 h1 L1 A1 K1 H1
  exact goE (KK T1 h1 L1 A1 K1 _ true 1 H1 f0 f1) rfl
theorem nC (H:LVH p l e s m args below meth c T0 Z a0 h0 hM n0 L0 A Ab K Kb D W oM rest v0 v1 3 6 (bh++[(65,2,[vD 10,vD 11]),(65,2,[vD 8,vD 7]),(65,2,[vD 7,vD 0])]))(S:S7 (ah u 0 (D 6)) (ah Lq 7 (D 5)) a u Lq Dd M10 M11 M00 M01 (D 3) (D 4))(J:JH M10 M11 M00 M01 J0 J1 R0 R1)(f0:ah P0 7 (D 8))(f1:ah J1 7 (D 7))(e1:128*P0=128*J0+Lq*J1)(KK:jQ p l e s m args below meth c Z a0 hM n0 Ab Kb W oM rest v0 v1 J0 J1 Ev):Go p e below Ev T0 (mkF m 159 (dL A D W #[sR 0,sR 1,sR 11,sR 12,sR 13,sI 1,sI 0,sD 7,s2,sU]) []):=by
 obtain⟨fp,fn,fs⟩:=rH S.2.2.2.2.2.2.1 f0 f1 e1 S.2.2.1 J.2.2.2.1 J.2.2.1
 rcases aq f1 H.2.1 with ⟨hz,hc⟩|⟨hz,hc⟩
 ·refine goE (aX (yP) H (by decide) (by decide) ⟨hc,trivial⟩ ?_) rfl
  intro T1 h1 L1 A1 K1 H1
  exact goE (nz (D:=(ac [(D 0),(D 1),(D 2),(D 3),(D 4),(D 5),(D 6),(D 8),(D 8),(D 7),(D 10),(D 11)])) false (H1.re rfl rfl rfl rfl) S J (by rw[show J0=P0 by rw[hz,Int.mul_zero] at e1;omega];exact f0) f1 KK) rfl
 ·refine goE (aX (yQ) H (by decide) (by decide) ⟨hc,aj fp,fn,trivial⟩ ?_) rfl
  intro T1 h1 L1 A1 K1 H1
  exact goE (nz (D:=(ac [(D 0),(D 1),(D 2),(D 3),(D 4),(D 5),(D 6),(FP.dsub (D 8) (FP.dmul (D 5) (D 7))),(FP.dsub (D 8) (FP.dmul (D 5) (D 7))),(D 7),(D 10),(D 11)])) true (H1.re rfl rfl rfl rfl) S J fs f1 KK) rfl
theorem nE (b7:Bool)(H:LVH p l e s m args below meth c T0 Z a0 h0 hM n0 L0 A Ab K Kb D W oM rest v0 v1 2 4 (bh++[(65,2,[vD 10,vD 11]),(65,2,[vD 8,vD 0])]))(S:S7 (ah u 0 (D 6)) (ah Lq 7 (D 5)) a u Lq Dd M10 M11 M00 M01 (D 3) (D 4))(J:JH M10 M11 M00 M01 J0 J1 R0 R1)(f0:ah P0 7 (D 8))(f1:ah J1 7 (D 7))(e1:128*P0=128*J0+Lq*J1)(KK:jQ p l e s m args below meth c Z a0 hM n0 Ab Kb W oM rest v0 v1 J0 J1 Ev):Go p e below Ev T0 (mkF m 51 (dL A D W #[sR 0,sR 1,sR 11,sR 12,sI 1,sD 7,s2,(bif b7 then sI 1 else sU),sU,sU]) [.double (D 7),.int 1,.ref (A 12)]):=by
 rcases aq f1 H.2.1 with ⟨hz,hc⟩|⟨hz,hc⟩
 ·refine goE (aX (yN b7) H (by decide) (by decide) ⟨hc,trivial⟩ ?_) rfl
  intro T1 h1 L1 A1 K1 H1
  exact goE (nC (D:=(ac [(D 0),(D 1),(D 2),(D 3),(D 4),(D 5),(D 6),(D 7),(D 8),(D 9),(D 10),(D 11)])) (H1.re rfl rfl rfl rfl) S J f0 f1 e1 KK) rfl
 ·refine goE (aX (yO b7) H (by decide) (by decide) ⟨hc,trivial⟩ ?_) rfl
  intro T1 h1 L1 A1 K1 H1
  exact goE (nC (D:=(ac [(D 0),(D 1),(D 2),(D 3),(D 4),(D 5),(D 6),(D 7),(D 8),(D 9),(D 10),(D 11)])) (H1.re rfl rfl rfl rfl) S J f0 f1 e1 KK) rfl
theorem ug (H:LVH p l e s m args below meth c T0 Z a0 h0 hM n0 L0 A Ab K Kb D W oM rest v0 v1 2 4 (bh++[(65,2,[vD 10,vD 11]),(65,2,[vD 7,vD 0])]))(S:S7 (ah u 0 (D 6)) (ah Lq 7 (D 5)) a u Lq Dd M10 M11 M00 M01 (D 3) (D 4))(J:JH M10 M11 M00 M01 J0 J1 R0 R1)(fx:ah P0 7 (D 7))(fz:Jvm.FP.Core.DInt R1 (D 11))(bP:-8388608≤P0∧P0≤8388608)(e1:128*P0=128*J0+Lq*J1)(e2:2*(128*R1-u*P0)=Dd*J1)(KK:jQ p l e s m args below meth c Z a0 hM n0 Ab Kb W oM rest v0 v1 J0 J1 Ev):Go p e below Ev T0 (mkF m 52 (dL A D W #[sR 0,sR 1,sR 11,sR 12,sI 0,sD 7,s2,sU,sU,sU]) []):=by
 obtain⟨fp,fw⟩:=gP S.2.2.2.2.2.1 fx fz S.2.1 bP J.2.2.2.2.2
 rcases aq fx H.2.1 with ⟨hz,hc⟩|⟨hz,hc⟩
 ·have fi:ah (128*R1-u*P0) 7 (D 11):=(by rw[show 128*R1-u*P0=128*R1 by rw[hz,Int.mul_zero];omega];exact aG 7 128 (ak.mpr fz) rfl (by omega))
  have f1:=ch fi S.2.2.2.2.2.2.2.1 S.2.2.2.1 e2 J.2.2.2.1
  refine goE (aX (yL) H (by decide) (by decide) ⟨hc,aj f1,trivial⟩ ?_) rfl
  intro T1 h1 L1 A1 K1 H1
  exact goE (nE (D:=(ac [(D 0),(D 1),(D 2),(D 3),(D 4),(D 5),(D 6),(FP.ddiv (D 11) (D 4)),(D 7),(D 9),(D 10),(D 11)])) false (H1.re rfl rfl rfl rfl) S J fx f1 e1 KK) rfl
 ·have fi:ah (128*R1-u*P0) 7 (FP.dsub (D 11) (FP.dmul (D 6) (D 7))):=fw
  have f1:=ch fi S.2.2.2.2.2.2.2.1 S.2.2.2.1 e2 J.2.2.2.1
  refine goE (aX (yM) H (by decide) (by decide) ⟨hc,aj fp,aj fw,aj f1,trivial⟩ ?_) rfl
  intro T1 h1 L1 A1 K1 H1
  exact goE (nE (D:=(ac [(D 0),(D 1),(D 2),(D 3),(D 4),(D 5),(D 6),(FP.ddiv (FP.dsub (D 11) (FP.dmul (D 6) (D 7))) (D 4)),(D 7),(D 9),(D 10),(FP.dsub (D 11) (FP.dmul (D 6) (D 7)))])) true (H1.re rfl rfl rfl rfl) S J fx f1 e1 KK) rfl
theorem uh (H:LVH p l e s m args below meth c T0 Z a0 h0 hM n0 L0 A Ab K Kb D W oM rest v0 v1 0 0 (bh))(S:S7 (ah u 0 (D 6)) (ah Lq 7 (D 5)) a u Lq Dd M10 M11 M00 M01 (D 3) (D 4))(J:JH M10 M11 M00 M01 J0 J1 R0 R1)(fv:Jvm.FP.Core.DInt R0 (D 1))(fz:Jvm.FP.Core.DInt R1 (D 2))(KK:jQ p l e s m args below meth c Z a0 hM n0 Ab Kb W oM rest v0 v1 J0 J1 Ev):Go p e below Ev T0 (mkF m 0 (dL A D W #[sR 0,sR 1,sU,sU,sU,sU,sU,sU,sU,sU]) []):=by
 obtain⟨P0,fx,bP,e1,e2⟩:=gq S J fv
 refine goE (aX (Gt) H (by decide) (by decide) ⟨aj fx,trivial⟩ ?_) rfl
 intro T1 h1 L1 A1 K1 H1
 exact goE (ug (D:=(ac [(D 0),(D 1),(D 2),(D 3),(D 4),(D 5),(D 6),(FP.ddiv (D 1) (D 3)),(D 8),(D 9),(D 1),(D 2)])) (H1.re rfl rfl rfl rfl) S J fx fz bP e1 e2 KK) rfl
def nF (la:Nat→Addr)(kl:Nat→ClassId)(pv0 pv1 lv uv:UInt64):List OB:=[(la 0,kl 0,64,2,[.int 1,.int 0]),(la 1,kl 1,64,2,[.int 0,.int 1]),(la 2,kl 2,65,2,[.double pv0,.double pv1]),(la 3,kl 3,64,3,[.int 0,.int 1,.int 1]),(la 4,kl 4,64,2,[.int 1,.int 0]),(la 5,kl 5,65,2,[.double uv,.double 0]),(la 6,kl 6,64,3,[.int 0,.int 1,.int 1]),(la 7,kl 7,64,2,[.int 0,.int 0]),(la 8,kl 8,65,2,[.double lv,.double 0])]
theorem wN {la:Nat→Addr}{kl:Nat→ClassId}{g:Nat→Value}{pv0 pv1 lv uv:UInt64}(S:S7 (ah u 0 uv) (ah Lq 7 lv) a u Lq Dd M10 M11 M00 M01 pv0 pv1):bl l Z n0 M00 M01 M10 M11 (tmL g la) (nF la kl pv0 pv1 lv uv):=by
 intro p e s m args below meth c T0 a0 Ev h0 A K D J0 J1 i0 i1 cnt er ep es eo ev rest B D0 d0 d1 J YM KK
 have YS:Yf Z n0 h0 (([(A 0,K 0,65,2,[.double (D 1),.double (D 2)]),(A 1,K 1,0,0,[tmL g la 0,tmL g la 1,tmL g la 2,tmL g la 3,tmL g la 4,tmL g la 5,tmL g la 6,tmL g la 7,.ref (A 2),.ref (A 3),.ref (A 4),.ref (A 5),.ref (A 6),tmL g la 8,tmL g la 9,tmL g la 10,tmL g la 11,tmL g la 12,tmL g la 13,tmL g la 14,tmL g la 15,tmL g la 16,tmL g la 17,tmL g la 18,tmL g la 19,tmL g la 20,tmL g la 21,tmL g la 22,.int cnt])]++nF la kl pv0 pv1 lv uv)++(rest++(an A K D (tmL g la) 0 (dsE cnt er ep es eo ev)).drop 2)):=by
  have:=Yf.swap (a:=[(A 0,K 0,65,2,[.double (D 1),.double (D 2)]),(A 1,K 1,0,0,[tmL g la 0,tmL g la 1,tmL g la 2,tmL g la 3,tmL g la 4,tmL g la 5,tmL g la 6,tmL g la 7,.ref (A 2),.ref (A 3),.ref (A 4),.ref (A 5),.ref (A 6),tmL g la 8,tmL g la 9,tmL g la 10,tmL g la 11,tmL g la 12,tmL g la 13,tmL g la 14,tmL g la 15,tmL g la 16,tmL g la 17,tmL g la 18,tmL g la 19,tmL g la 20,tmL g la 21,tmL g la 22,.int cnt])]) (b:=(an A K D (tmL g la) 0 (dsE cnt er ep es eo ev)).drop 2) (c:=nF la kl pv0 pv1 lv uv++rest) YM
  exact this
 refine goE (uh (A:=ttA A la) (Ab:=ttA A la) (K:=ttK K kl) (Kb:=ttK K kl) (D:=(ac [0,D 1,D 2,pv0,pv1,lv,uv,0,0,0,0,0])) (W:=(ttW A cnt g)) (hM:=h0) (v0:=D 1) (v1:=D 2) (M00:=M00) (M01:=M01) (M10:=M10) (M11:=M11) (J0:=J1) (J1:=J0) (R0:=i0) (R1:=i1) ⟨B,rfl,Yf.to (Yf.pick (os':=an (ttA A la) (ttK K kl) (ac [0,D 1,D 2,pv0,pv1,lv,uv,0,0,0,0,0]) (ttW A cnt g) 0 bh) YS [1,0,2,3,4,5,6,7,8,9,10] (by decide) rfl) rfl,YS,Keep.refl _ _,fun i hi=>?_,fun i _=>⟨rfl,rfl⟩,rfl,rfl⟩ S ?_ d0 d1 ?_) rfl
 ·exact match i,hi with
   | 0,_=>Or.inl (show A 1∈[A 0,A 1,la 0,la 1,la 2,la 3,la 4,la 5,la 6,la 7,la 8] by simp)
   | 1,_=>Or.inl (show A 0∈[A 0,A 1,la 0,la 1,la 2,la 3,la 4,la 5,la 6,la 7,la 8] by simp)
   | 2,_=>Or.inl (show la 0∈[A 0,A 1,la 0,la 1,la 2,la 3,la 4,la 5,la 6,la 7,la 8] by simp)
   | 3,_=>Or.inl (show la 1∈[A 0,A 1,la 0,la 1,la 2,la 3,la 4,la 5,la 6,la 7,la 8] by simp)
   | 4,_=>Or.inl (show la 2∈[A 0,A 1,la 0,la 1,la 2,la 3,la 4,la 5,la 6,la 7,la 8] by simp)
   | 5,_=>Or.inl (show la 3∈[A 0,A 1,la 0,la 1,la 2,la 3,la 4,la 5,la 6,la 7,la 8] by simp)
   | 6,_=>Or.inl (show la 4∈[A 0,A 1,la 0,la 1,la 2,la 3,la 4,la 5,la 6,la 7,la 8] by simp)
   | 7,_=>Or.inl (show la 5∈[A 0,A 1,la 0,la 1,la 2,la 3,la 4,la 5,la 6,la 7,la 8] by simp)
   | 8,_=>Or.inl (show la 6∈[A 0,A 1,la 0,la 1,la 2,la 3,la 4,la 5,la 6,la 7,la 8] by simp)
   | 9,_=>Or.inl (show la 7∈[A 0,A 1,la 0,la 1,la 2,la 3,la 4,la 5,la 6,la 7,la 8] by simp)
   | 10,_=>Or.inl (show la 8∈[A 0,A 1,la 0,la 1,la 2,la 3,la 4,la 5,la 6,la 7,la 8] by simp)
 ·obtain⟨j0,j1,j2,j3,j4,j5⟩:=J
  exact⟨by omega,by omega,by omega,by omega,by omega,by omega⟩
 ·intro T1 h1 L1 A1 K1 D1 b9 j9 H1 f0 f1
  have YE:=rI H1 rfl rfl rfl rfl rfl (by decide)
  have YF:=Yf.swap (a:=[(A1 13,K1 13,65,2,[.double (D1 9),.double (D1 7)]),(A1 11,K1 11,65,2,[.double (D1 10),.double (D1 11)]),(A1 12,K1 12,65,2,[.double (D1 7),.double (D1 9)]),(A 0,K 0,65,2,[.double (D 1),.double (D 2)]),(A 1,K 1,0,0,[tmL g la 0,tmL g la 1,tmL g la 2,tmL g la 3,tmL g la 4,tmL g la 5,tmL g la 6,tmL g la 7,.ref (A 2),.ref (A 3),.ref (A 4),.ref (A 5),.ref (A 6),tmL g la 8,tmL g la 9,tmL g la 10,tmL g la 11,tmL g la 12,tmL g la 13,tmL g la 14,tmL g la 15,tmL g la 16,tmL g la 17,tmL g la 18,tmL g la 19,tmL g la 20,tmL g la 21,tmL g la 22,.int cnt])]) (b:=rest) (c:=(an A K D (tmL g la) 0 (dsE cnt er ep es eo ev)).drop 2) YE
  have a0:=(H1.2.2.2.2.2.2.1 0 (by decide)).1
  have a1:=(H1.2.2.2.2.2.2.1 1 (by decide)).1
  have G:=KK T1 h1 L1 (A1 13) (A1 11) (A1 12) (K1 13) (K1 11) (K1 12) _ _ (D1 7) _ _ _ _ 1 j9 b9 H1.1 YF f1 f0
  rw[a0,a1]
  exact G
end OwnLu7
def PB (k j:Int)(ar ao:UInt64):Prop:=(k=1∨k=-1∨k=2∨k=-2∨k=4∨k=-4∨k=8∨k=-8)∧(-16≤j∧j≤16)∧Jvm.FP.Core.DInt k ar∧Jvm.FP.Core.DInt j ao
def Et (r:Bool)(k j A0 A1 B0 B1:Int):Prop:=k*(bif r then B1 else B0)=8*(bif r then A1 else A0)∧(bif r then B0 else B1)=8*(bif r then A0 else A1)-j*(bif r then B1 else B0)
theorem dZ {A B k j:Int}{K:Nat}{x y ar ao:UInt64}(H:PB k j ar ao)(fA:ah A K x)(fB:ah B K y)(N:Int)(hN:0≤N∧N≤17592186044416)(bA:-N≤A∧A≤N)(bB:-N≤B∧B≤N)(hK:K≤100):∃t:Int,k*t=8*A∧(-(8*N)≤t∧t≤8*N)∧(-(128*N)≤j*t∧j*t≤128*N)∧ah t (K+3) (FP.ddiv x ar)∧ah (j*t) (K+3) (FP.dmul ao (FP.ddiv x ar))∧ah (8*B-j*t) (K+3) (FP.dsub y (FP.dmul ao (FP.ddiv x ar)))∧ah (8*B) (K+3) y:=by
 obtain⟨hk,bj,hr,ho⟩:=H
 have key:∃t:Int,k*t=8*A∧(-(8*N)≤t∧t≤8*N)∧k≠0:=by
  rcases hk with rfl|rfl|rfl|rfl|rfl|rfl|rfl|rfl
  ·exact⟨8*A,by omega,by omega,by decide⟩
  ·exact⟨-(8*A),by omega,by omega,by decide⟩
  ·exact⟨4*A,by omega,by omega,by decide⟩
  ·exact⟨-(4*A),by omega,by omega,by decide⟩
  ·exact⟨2*A,by omega,by omega,by decide⟩
  ·exact⟨-(2*A),by omega,by omega,by decide⟩
  ·exact⟨A,by omega,by omega,by decide⟩
  ·exact⟨-A,by omega,by omega,by decide⟩
 obtain⟨t,et,bt,h0⟩:=key
 have bp:=cv bj bt
 have eb:(16:Int)*(8*N)=128*N:=by omega
 rw[eb] at bp
 have e8:((2 ^ (0+(K+3)):Nat):Int)=8*((2 ^ K:Nat):Int):=by rw[Nat.zero_add,Nat.pow_add,Int.natCast_mul,Int.mul_comm];rfl
 have F:ah t (K+3) (FP.ddiv x ar):=gY fA (ak.mpr hr) h0 (M:=K+3) (by rw[e8,←Int.mul_assoc,Int.mul_comm A 8,←et,Int.mul_comm k]) (cp (by omega)) (by omega)
 have G:ah (j*t) (K+3) (FP.dmul ao (FP.ddiv x ar)):=by
  have:=dF (k:=0) (ak.mpr ho) F (cp (by omega)) (by omega)
  rwa [Nat.zero_add] at this
 have B8:ah (8*B) (K+3) y:=aG 3 8 fB rfl (by omega)
 exact⟨t,et,bt,bp,F,G,gX B8 G (cp (by omega)) (by omega),B8⟩
theorem nG:decode (aH 32) 333 = .ok (.areturn,1):=by decide +kernel
section OwnEt7
variable {p:Program}{l:Launch}{e:Env}{s:State}{m:MethodId}{args:Array Value}{below:List Frame}{meth:Method}{c:Code}{T0 Z:State}{a0:Array Value}{h0 hM:Heap}{n0:Nat}{L0:List Loc}{A Ab:Nat→Addr}{K Kb:Nat→ClassId}{D:Nat→UInt64}{W:Nat→Value}{oM rest:List OB}{ds:List AD}{Ev:State→Outcome→Prop}{k j B0 B1 N:Int}{Kf:Nat}
abbrev sB (b:Bool):Slot:=bif b then sF 7 else sU
abbrev fr7 (i:Int32)(x:Slot)(k:UInt64)(y:Slot):Array Slot:=#[sR 0,sR 1,sR 2,sR 3,sR 4,sI i,x,sD k,s2,y]
def EVH (p:Program)(l:Launch)(e:Env)(s:State)(m:MethodId)(args:Array Value)(below:List Frame)(meth:Method)(c:Code)(T0 Z:State)(a0:Array Value)(h0 hM:Heap)(n0:Nat)(L0:List Loc)(A Ab:Nat→Addr)(K Kb:Nat→ClassId)(D:Nat→UInt64)(W:Nat→Value)(oM rest:List OB)(ds:List AD):Prop:=LVS p l e s m args below meth c T0 Z a0 h0 n0 L0 3 6∧D 0=0∧YgF Z n0 h0 A K D W ds∧Yf Z n0 hM (oM++rest)∧Keep hM h0 (oM.map (·.1))∧(∀i,i<10→A i∈oM.map (·.1)∨hM.size≤A i)∧∀i,i<10→A i=Ab i∧K i=Kb i
def SK (p:Program)(l:Launch)(e:Env)(s:State)(m:MethodId)(args:Array Value)(below:List Frame)(meth:Method)(c:Code)(Z:State)(a0:Array Value)(hM:Heap)(n0:Nat)(Ab:Nat→Addr)(Kb:Nat→ClassId)(D:Nat→UInt64)(W:Nat→Value)(oM rest:List OB)(Ev:State→Outcome→Prop)(k j B0 B1 N:Int)(Kf:Nat)(r:UInt64)(rb:Bool)(i:Int32)(ds:List AD):Prop:=∀(T1:State)(h1:Heap)(L1:List Loc)(A1:Nat→Addr)(K1:Nat→ClassId)(y0 y1 x5 w7:UInt64)(b9:Bool)(C0 C1:Int),EVH p l e s m args below meth c T1 Z a0 h1 hM n0 L1 A1 Ab K1 Kb (ac [0,y0,y1,D 3,D 4,x5,r,w7]) W oM rest ds→Et rb k j B0 B1 C0 C1→ah C0 (Kf+3) y0→ah C1 (Kf+3) y1→(-(136*N)≤C0∧C0≤136*N)→(-(136*N)≤C1∧C1≤136*N)→Go p e below Ev T1 (mkF m 226 (dL A1 (ac [0,y0,y1,D 3,D 4,x5,r,w7]) W (fr7 i (sF 6) 5 (sB b9))) [])
theorem b_ {f to pc pc' nD nD':Nat}{orc:List Int32}{L L':Array Slot}{st st':List Value}{ds':List AD}{ops:List Op}(hr:ai (run (tb 32) ae 10 (1,3,6,14) to f [] orc (pc,L,st,ds,nD,3,6)) (pc',L',st',ds',nD',3,6) ops=true)(H:EVH p l e s m args below meth c T0 Z a0 h0 hM n0 L0 A Ab K Kb D W oM rest ds)(hnD:0<nD)(h1:ds.length=10)(h2:ds'.length=10)(hv:okv ops nD D)
  (K_:∀T1 h1 L1 A1 K1,EVH p l e s m args below meth c T1 Z a0 h1 hM n0 L1 A1 Ab K1 Kb (ca ops nD D) W oM rest ds'→Go p e below Ev T1 (mkF m pc' (dL A1 (ca ops nD D) W L') (st'.map (den A1 (ca ops nD D) W)))):Go p e below Ev T0 (mkF m pc (dL A D W L) (st.map (den A D W))):=by
 obtain⟨B,D0,Y,YM,KM,hf,hAb⟩:=H
 refine Q_ hr B Y D0 hnD hv ?_
 intro T1 h1' L1 A1 K1 B1 hA1 Kp f1 Y1
 rw[h1] at hA1 Kp f1
 rw[h2] at f1
 obtain⟨KM1,hf1⟩:=FJ (n':=10) KM hf Kp hA1 f1
 exact K_ T1 h1' L1 A1 K1 ⟨B1,(fk ops nD D hnD).trans D0,Y1,YM,KM1,hf1,fun i hi=>⟨(hA1 i hi).1.trans (hAb i hi).1,(hA1 i hi).2.trans (hAb i hi).2⟩⟩
theorem EVH.re {D':Nat→UInt64}{W':Nat→Value}{ds':List AD}(H:EVH p l e s m args below meth c T0 Z a0 h0 hM n0 L0 A Ab K Kb D W oM rest ds)(e0:D' 0=D 0)(e':ds'.map (fun d=>(d.1,d.2.1,d.2.2.map (den A D' W')))=ds.map (fun d=>(d.1,d.2.1,d.2.2.map (den A D W)))):EVH p l e s m args below meth c T0 Z a0 h0 hM n0 L0 A Ab K Kb D' W' oM rest ds':=by
 obtain⟨B,D0,Y,YM,KM,hf,hAb⟩:=H
 exact⟨B,e0.trans D0,Y.congr e',YM,KM,hf,hAb⟩
def lK:AD:=(65,16,[vD 3]++uS 61 15)
def oD:AD:=aU 65 34 2
def oE:AD:=aU 65 32 2
def oF:AD:=aU 65 30 2
def rT:AD:=(0,0,uS 0 8++rS 5 5++uS 8 15++[zq3])
def oG:AD:=(65,256,[vD 4]++uS 111 3)
def wO:AD:=(64,17,lA++uS 82 15)
def wP:AD:=(64,16,[zq0]++uS 41 15)
def Gu:AD:=(64,256,[zq3]++uS 101 3)
def dN (a b:UInt64):List AD:=[rT,oF,oE,oD,aD [a,b],wP,lK,wO,Gu,oG]
theorem rU:∀b9:Bool,ai (run (tb 32) ae 10 (1,3,6,14) 259 20 [] [] (226,(fr7 0 (sF 6) 5 (sB b9)),[],dN 1 2,8,3,6)) (259,(fr7 0 (sI 0) 8 (sB b9)),[],dN 1 2,9,3,6) [fO]=true:=by decide +kernel
def fR:Op:=(12,5,0,0)
theorem rV:∀b9:Bool,ai (run (tb 32) ae 10 (1,3,6,14) 226 11 [] [0] (259,(fr7 0 (sI 0) 5 (sB b9)),[],dN 1 2,8,3,6)) (226,(fr7 1 (sI 0) 5 (sB b9)),[],dN 5 2,8,3,6) [fR]=true:=by decide +kernel
def i9:Op:=(12,5,0,1)
def M3:Op:=(2,4,5,0)
def wQ:List Op:=[i9,M3,(1,2,8,0)]
theorem rW:∀b9:Bool,ai (run (tb 32) ae 10 (1,3,6,14) 226 49 [] [1] (259,(fr7 0 (sI 0) 5 (sB b9)),[],dN 1 2,8,3,6)) (226,(fr7 1 (sI 0) 5 (sI 1)),[],dN 5 9,10,3,6) wQ=true:=by decide +kernel
theorem yT (b9:Bool)(E:EVH p l e s m args below meth c T0 Z a0 h0 hM n0 L0 A Ab K Kb D W oM rest (dN 1 2))(H:PB k j (D 3) (D 4))(f0:ah B0 Kf (D 1))(f1:ah B1 Kf (D 2))(hN:0≤N∧N≤17592186044416)(b0:-N≤B0∧B0≤N)(b1:-N≤B1∧B1≤N)(hK:Kf≤100)(KK:SK p l e s m args below meth c Z a0 hM n0 Ab Kb D W oM rest Ev k j B0 B1 N Kf 0 false 1 (dN 1 2)):Go p e below Ev T0 (mkF m 226 (dL A D W (fr7 0 (sF 6) 5 (sB b9))) []):=by
 obtain⟨t,et,bt,bp,F,G,Fs,B8⟩:=dZ H f0 f1 N hN b0 b1 hK
 refine goE (b_ (rU b9) E (by decide) rfl rfl ⟨aj F,trivial⟩ ?_) rfl
 intro T1 h1 L1 A1 K1 E1
 rcases aq F E.2.1 with ⟨hz,hc⟩|⟨hz,hc⟩
 ·refine goE (b_ (rV b9) (E1.re (D':=(ac [(D 0),(D 1),(D 2),(D 3),(D 4),(FP.ddiv (D 1) (D 3)),(D 6),(D 7)])) (W':=W) rfl rfl) (by decide) rfl rfl ⟨hc,trivial⟩ ?_) (by cases b9<;>rfl)
  intro T2 h2 L2 A2 K2 E2
  exact goE (KK T2 h2 L2 A2 K2 (FP.ddiv (D 1) (D 3)) (D 2) (FP.ddiv (D 1) (D 3)) (D 7) b9 t (8*B1-j*t) (E2.re (show (0:UInt64)=D 0 from E.2.1.symm) rfl) ⟨et,rfl⟩ F (by rw[show 8*B1-j*t=8*B1 by rw[hz,Int.mul_zero];omega];exact B8) (by omega) (by omega)) (by cases b9<;>rfl)
 ·refine goE (b_ (rW b9) (E1.re (D':=(ac [(D 0),(D 1),(D 2),(D 3),(D 4),(FP.ddiv (D 1) (D 3)),(D 6),(D 7)])) (W':=W) rfl rfl) (by decide) rfl rfl ⟨hc,aj G,aj Fs,trivial⟩ ?_) (by cases b9<;>rfl)
  intro T2 h2 L2 A2 K2 E2
  exact goE (KK T2 h2 L2 A2 K2 (FP.ddiv (D 1) (D 3)) (FP.dsub (D 2) (FP.dmul (D 4) (FP.ddiv (D 1) (D 3)))) (FP.ddiv (D 1) (D 3)) 1 true t (8*B1-j*t) (E2.re (show (0:UInt64)=D 0 from E.2.1.symm) rfl) ⟨et,rfl⟩ F Fs (by omega) (by omega)) (by cases b9<;>rfl)
def jR:AD:=(65,256,uS 110 4)
def jS:AD:=(64,256,uS 100 4)
def wR:AD:=(64,17,[zq0,zq0]++uS 82 15)
def dO (a b:UInt64):List AD:=[rT,oF,oE,oD,aD [a,b],wP,lK,wR,jS,jR]
theorem rX:∀b9:Bool,ai (run (tb 32) ae 10 (1,3,6,14) 259 20 [] [] (226,(fr7 0 (sF 6) 5 (sB b9)),[],dO 1 2,8,3,6)) (259,(fr7 0 (sI 0) 8 (sB b9)),[],dO 1 2,9,3,6) [fO]=true:=by decide +kernel
theorem rY:∀b9:Bool,ai (run (tb 32) ae 10 (1,3,6,14) 226 11 [] [0] (259,(fr7 0 (sI 0) 5 (sB b9)),[],dO 1 2,8,3,6)) (226,(fr7 1 (sI 0) 5 (sB b9)),[],dO 5 2,8,3,6) [fR]=true:=by decide +kernel
theorem rZ:∀b9:Bool,ai (run (tb 32) ae 10 (1,3,6,14) 226 24 [] [1] (259,(fr7 0 (sI 0) 5 (sB b9)),[],dO 1 2,8,3,6)) (226,(fr7 1 (sI 0) 5 (sI 0)),[],dO 5 2,8,3,6) [i9]=true:=by decide +kernel
theorem yU (b9:Bool)(E:EVH p l e s m args below meth c T0 Z a0 h0 hM n0 L0 A Ab K Kb D W oM rest (dO 1 2))(H:PB k j (D 3) (D 4))(hj:j=0)(f0:ah B0 Kf (D 1))(f1:ah B1 Kf (D 2))(hN:0≤N∧N≤17592186044416)(b0:-N≤B0∧B0≤N)(b1:-N≤B1∧B1≤N)(hK:Kf≤100)(KK:SK p l e s m args below meth c Z a0 hM n0 Ab Kb D W oM rest Ev k j B0 B1 N Kf 0 false 1 (dO 1 2)):Go p e below Ev T0 (mkF m 226 (dL A D W (fr7 0 (sF 6) 5 (sB b9))) []):=by
 obtain⟨t,et,bt,bp,F,G,Fs,B8⟩:=dZ H f0 f1 N hN b0 b1 hK
 refine goE (b_ (rX b9) E (by decide) rfl rfl ⟨aj F,trivial⟩ ?_) rfl
 intro T1 h1 L1 A1 K1 E1
 rcases aq F E.2.1 with ⟨hz,hc⟩|⟨hz,hc⟩
 ·refine goE (b_ (rY b9) (E1.re (D':=(ac [(D 0),(D 1),(D 2),(D 3),(D 4),(FP.ddiv (D 1) (D 3)),(D 6),(D 7)])) (W':=W) rfl rfl) (by decide) rfl rfl ⟨hc,trivial⟩ ?_) (by cases b9<;>rfl)
  intro T2 h2 L2 A2 K2 E2
  exact goE (KK T2 h2 L2 A2 K2 (FP.ddiv (D 1) (D 3)) (D 2) (FP.ddiv (D 1) (D 3)) (D 7) b9 t (8*B1-j*t) (E2.re (show (0:UInt64)=D 0 from E.2.1.symm) rfl) ⟨et,rfl⟩ F (by rw[show 8*B1-j*t=8*B1 by rw[hj,Int.zero_mul];omega];exact B8) (by omega) (by omega)) (by cases b9<;>rfl)
 ·refine goE (b_ (rZ b9) (E1.re (D':=(ac [(D 0),(D 1),(D 2),(D 3),(D 4),(FP.ddiv (D 1) (D 3)),(D 6),(D 7)])) (W':=W) rfl rfl) (by decide) rfl rfl ⟨hc,trivial⟩ ?_) (by cases b9<;>rfl)
  intro T2 h2 L2 A2 K2 E2
  exact goE (KK T2 h2 L2 A2 K2 (FP.ddiv (D 1) (D 3)) (D 2) (FP.ddiv (D 1) (D 3)) 0 true t (8*B1-j*t) (E2.re (show (0:UInt64)=D 0 from E.2.1.symm) rfl) ⟨et,rfl⟩ F (by rw[show 8*B1-j*t=8*B1 by rw[hj,Int.zero_mul];omega];exact B8) (by omega) (by omega)) (by cases b9<;>rfl)
def wS:AD:=(64,16,[zq3]++uS 41 15)
def Gv:AD:=(64,256,[zq0]++uS 101 3)
def dP (a b:UInt64):List AD:=[rT,oF,oE,oD,aD [a,b],wS,lK,wO,Gv,oG]
theorem r3:∀b9:Bool,ai (run (tb 32) ae 10 (1,3,6,14) 259 20 [] [] (226,(fr7 0 (sF 6) 5 (sB b9)),[],dP 1 2,8,3,6)) (259,(fr7 0 (sI 1) 8 (sB b9)),[],dP 1 2,9,3,6) [i8]=true:=by decide +kernel
theorem r4:∀b9:Bool,ai (run (tb 32) ae 10 (1,3,6,14) 226 11 [] [0] (259,(fr7 0 (sI 1) 5 (sB b9)),[],dP 1 2,8,3,6)) (226,(fr7 1 (sI 1) 5 (sB b9)),[],dP 1 5,8,3,6) [fR]=true:=by decide +kernel
def wT:List Op:=[i9,M3,(1,1,8,0)]
theorem r5:∀b9:Bool,ai (run (tb 32) ae 10 (1,3,6,14) 226 49 [] [1] (259,(fr7 0 (sI 1) 5 (sB b9)),[],dP 1 2,8,3,6)) (226,(fr7 1 (sI 1) 5 (sI 1)),[],dP 9 5,10,3,6) wT=true:=by decide +kernel
theorem yV (b9:Bool)(E:EVH p l e s m args below meth c T0 Z a0 h0 hM n0 L0 A Ab K Kb D W oM rest (dP 1 2))(H:PB k j (D 3) (D 4))(f0:ah B0 Kf (D 1))(f1:ah B1 Kf (D 2))(hN:0≤N∧N≤17592186044416)(b0:-N≤B0∧B0≤N)(b1:-N≤B1∧B1≤N)(hK:Kf≤100)(KK:SK p l e s m args below meth c Z a0 hM n0 Ab Kb D W oM rest Ev k j B0 B1 N Kf 1 true 1 (dP 1 2)):Go p e below Ev T0 (mkF m 226 (dL A D W (fr7 0 (sF 6) 5 (sB b9))) []):=by
 obtain⟨t,et,bt,bp,F,G,Fs,B8⟩:=dZ H f1 f0 N hN b1 b0 hK
 refine goE (b_ (r3 b9) E (by decide) rfl rfl ⟨aj F,trivial⟩ ?_) rfl
 intro T1 h1 L1 A1 K1 E1
 rcases aq F E.2.1 with ⟨hz,hc⟩|⟨hz,hc⟩
 ·refine goE (b_ (r4 b9) (E1.re (D':=(ac [(D 0),(D 1),(D 2),(D 3),(D 4),(FP.ddiv (D 2) (D 3)),(D 6),(D 7)])) (W':=W) rfl rfl) (by decide) rfl rfl ⟨hc,trivial⟩ ?_) (by cases b9<;>rfl)
  intro T2 h2 L2 A2 K2 E2
  exact goE (KK T2 h2 L2 A2 K2 (D 1) (FP.ddiv (D 2) (D 3)) (FP.ddiv (D 2) (D 3)) (D 7) b9 (8*B0-j*t) t (E2.re (show (0:UInt64)=D 0 from E.2.1.symm) rfl) ⟨et,rfl⟩ (by rw[show 8*B0-j*t=8*B0 by rw[hz,Int.mul_zero];omega];exact B8) F (by omega) (by omega)) (by cases b9<;>rfl)
 ·refine goE (b_ (r5 b9) (E1.re (D':=(ac [(D 0),(D 1),(D 2),(D 3),(D 4),(FP.ddiv (D 2) (D 3)),(D 6),(D 7)])) (W':=W) rfl rfl) (by decide) rfl rfl ⟨hc,aj G,aj Fs,trivial⟩ ?_) (by cases b9<;>rfl)
  intro T2 h2 L2 A2 K2 E2
  exact goE (KK T2 h2 L2 A2 K2 (FP.dsub (D 1) (FP.dmul (D 4) (FP.ddiv (D 2) (D 3)))) (FP.ddiv (D 2) (D 3)) (FP.ddiv (D 2) (D 3)) 1 true (8*B0-j*t) t (E2.re (show (0:UInt64)=D 0 from E.2.1.symm) rfl) ⟨et,rfl⟩ Fs F (by omega) (by omega)) (by cases b9<;>rfl)
def dQ (a b:UInt64):List AD:=[rT,oF,oE,oD,aD [a,b],wS,lK,wR,jS,jR]
theorem r6:∀b9:Bool,ai (run (tb 32) ae 10 (1,3,6,14) 259 20 [] [] (226,(fr7 0 (sF 6) 5 (sB b9)),[],dQ 1 2,8,3,6)) (259,(fr7 0 (sI 1) 8 (sB b9)),[],dQ 1 2,9,3,6) [i8]=true:=by decide +kernel
theorem r7:∀b9:Bool,ai (run (tb 32) ae 10 (1,3,6,14) 226 11 [] [0] (259,(fr7 0 (sI 1) 5 (sB b9)),[],dQ 1 2,8,3,6)) (226,(fr7 1 (sI 1) 5 (sB b9)),[],dQ 1 5,8,3,6) [fR]=true:=by decide +kernel
theorem r8:∀b9:Bool,ai (run (tb 32) ae 10 (1,3,6,14) 226 24 [] [1] (259,(fr7 0 (sI 1) 5 (sB b9)),[],dQ 1 2,8,3,6)) (226,(fr7 1 (sI 1) 5 (sI 0)),[],dQ 1 5,8,3,6) [i9]=true:=by decide +kernel
theorem yW (b9:Bool)(E:EVH p l e s m args below meth c T0 Z a0 h0 hM n0 L0 A Ab K Kb D W oM rest (dQ 1 2))(H:PB k j (D 3) (D 4))(hj:j=0)(f0:ah B0 Kf (D 1))(f1:ah B1 Kf (D 2))(hN:0≤N∧N≤17592186044416)(b0:-N≤B0∧B0≤N)(b1:-N≤B1∧B1≤N)(hK:Kf≤100)(KK:SK p l e s m args below meth c Z a0 hM n0 Ab Kb D W oM rest Ev k j B0 B1 N Kf 1 true 1 (dQ 1 2)):Go p e below Ev T0 (mkF m 226 (dL A D W (fr7 0 (sF 6) 5 (sB b9))) []):=by
 obtain⟨t,et,bt,bp,F,G,Fs,B8⟩:=dZ H f1 f0 N hN b1 b0 hK
 refine goE (b_ (r6 b9) E (by decide) rfl rfl ⟨aj F,trivial⟩ ?_) rfl
 intro T1 h1 L1 A1 K1 E1
 rcases aq F E.2.1 with ⟨hz,hc⟩|⟨hz,hc⟩
 ·refine goE (b_ (r7 b9) (E1.re (D':=(ac [(D 0),(D 1),(D 2),(D 3),(D 4),(FP.ddiv (D 2) (D 3)),(D 6),(D 7)])) (W':=W) rfl rfl) (by decide) rfl rfl ⟨hc,trivial⟩ ?_) (by cases b9<;>rfl)
  intro T2 h2 L2 A2 K2 E2
  exact goE (KK T2 h2 L2 A2 K2 (D 1) (FP.ddiv (D 2) (D 3)) (FP.ddiv (D 2) (D 3)) (D 7) b9 (8*B0-j*t) t (E2.re (show (0:UInt64)=D 0 from E.2.1.symm) rfl) ⟨et,rfl⟩ (by rw[show 8*B0-j*t=8*B0 by rw[hj,Int.zero_mul];omega];exact B8) F (by omega) (by omega)) (by cases b9<;>rfl)
 ·refine goE (b_ (r8 b9) (E1.re (D':=(ac [(D 0),(D 1),(D 2),(D 3),(D 4),(FP.ddiv (D 2) (D 3)),(D 6),(D 7)])) (W':=W) rfl rfl) (by decide) rfl rfl ⟨hc,trivial⟩ ?_) (by cases b9<;>rfl)
  intro T2 h2 L2 A2 K2 E2
  exact goE (KK T2 h2 L2 A2 K2 (D 1) (FP.ddiv (D 2) (D 3)) (FP.ddiv (D 2) (D 3)) 0 true (8*B0-j*t) t (E2.re (show (0:UInt64)=D 0 from E.2.1.symm) rfl) ⟨et,rfl⟩ (by rw[show 8*B0-j*t=8*B0 by rw[hj,Int.zero_mul];omega];exact B8) F (by omega) (by omega)) (by cases b9<;>rfl)
def Rg:AD:=(0,0,uS 0 8++rS 5 5++uS 8 15++[ax])
def hY:List AD:=[Rg,oF,oE,oD]
def cz (a b:UInt64):List AD:=hY++[aD [a,b],wP,lK,wO,Gu,oG]
theorem r9:∀b9:Bool,ai (run (tb 32) ae 10 (1,3,6,14) 259 20 [] [] (226,(fr7 0 (sF 6) 5 (sB b9)),[],cz 1 2,8,3,6)) (259,(fr7 0 (sI 0) 8 (sB b9)),[],cz 1 2,9,3,6) [fO]=true:=by decide +kernel
theorem r_:∀b9:Bool,ai (run (tb 32) ae 10 (1,3,6,14) 226 11 [] [0] (259,(fr7 0 (sI 0) 5 (sB b9)),[],cz 1 2,8,3,6)) (226,(fr7 1 (sI 0) 5 (sB b9)),[],cz 5 2,8,3,6) [fR]=true:=by decide +kernel
theorem se:∀b9:Bool,ai (run (tb 32) ae 10 (1,3,6,14) 226 49 [] [1] (259,(fr7 0 (sI 0) 5 (sB b9)),[],cz 1 2,8,3,6)) (226,(fr7 1 (sI 0) 5 (sI 1)),[],cz 5 9,10,3,6) wQ=true:=by decide +kernel
theorem iG (b9:Bool)(E:EVH p l e s m args below meth c T0 Z a0 h0 hM n0 L0 A Ab K Kb D W oM rest (cz 1 2))(H:PB k j (D 3) (D 4))(f0:ah B0 Kf (D 1))(f1:ah B1 Kf (D 2))(hN:0≤N∧N≤17592186044416)(b0:-N≤B0∧B0≤N)(b1:-N≤B1∧B1≤N)(hK:Kf≤100)(KK:SK p l e s m args below meth c Z a0 hM n0 Ab Kb D W oM rest Ev k j B0 B1 N Kf 0 false 1 (cz 1 2)):Go p e below Ev T0 (mkF m 226 (dL A D W (fr7 0 (sF 6) 5 (sB b9))) []):=by
 obtain⟨t,et,bt,bp,F,G,Fs,B8⟩:=dZ H f0 f1 N hN b0 b1 hK
 refine goE (b_ (r9 b9) E (by decide) rfl rfl ⟨aj F,trivial⟩ ?_) rfl
 intro T1 h1 L1 A1 K1 E1
 rcases aq F E.2.1 with ⟨hz,hc⟩|⟨hz,hc⟩
 ·refine goE (b_ (r_ b9) (E1.re (D':=(ac [(D 0),(D 1),(D 2),(D 3),(D 4),(FP.ddiv (D 1) (D 3)),(D 6),(D 7)])) (W':=W) rfl rfl) (by decide) rfl rfl ⟨hc,trivial⟩ ?_) (by cases b9<;>rfl)
  intro T2 h2 L2 A2 K2 E2
  exact goE (KK T2 h2 L2 A2 K2 (FP.ddiv (D 1) (D 3)) (D 2) (FP.ddiv (D 1) (D 3)) (D 7) b9 t (8*B1-j*t) (E2.re (show (0:UInt64)=D 0 from E.2.1.symm) rfl) ⟨et,rfl⟩ F (by rw[show 8*B1-j*t=8*B1 by rw[hz,Int.mul_zero];omega];exact B8) (by omega) (by omega)) (by cases b9<;>rfl)
 ·refine goE (b_ (se b9) (E1.re (D':=(ac [(D 0),(D 1),(D 2),(D 3),(D 4),(FP.ddiv (D 1) (D 3)),(D 6),(D 7)])) (W':=W) rfl rfl) (by decide) rfl rfl ⟨hc,aj G,aj Fs,trivial⟩ ?_) (by cases b9<;>rfl)
  intro T2 h2 L2 A2 K2 E2
  exact goE (KK T2 h2 L2 A2 K2 (FP.ddiv (D 1) (D 3)) (FP.dsub (D 2) (FP.dmul (D 4) (FP.ddiv (D 1) (D 3)))) (FP.ddiv (D 1) (D 3)) 1 true t (8*B1-j*t) (E2.re (show (0:UInt64)=D 0 from E.2.1.symm) rfl) ⟨et,rfl⟩ F Fs (by omega) (by omega)) (by cases b9<;>rfl)
def cB (a b:UInt64):List AD:=hY++[aD [a,b],wP,lK,wR,jS,jR]
theorem sf:∀b9:Bool,ai (run (tb 32) ae 10 (1,3,6,14) 259 20 [] [] (226,(fr7 0 (sF 6) 5 (sB b9)),[],cB 1 2,8,3,6)) (259,(fr7 0 (sI 0) 8 (sB b9)),[],cB 1 2,9,3,6) [fO]=true:=by decide +kernel
theorem sg:∀b9:Bool,ai (run (tb 32) ae 10 (1,3,6,14) 226 11 [] [0] (259,(fr7 0 (sI 0) 5 (sB b9)),[],cB 1 2,8,3,6)) (226,(fr7 1 (sI 0) 5 (sB b9)),[],cB 5 2,8,3,6) [fR]=true:=by decide +kernel
theorem sh:∀b9:Bool,ai (run (tb 32) ae 10 (1,3,6,14) 226 24 [] [1] (259,(fr7 0 (sI 0) 5 (sB b9)),[],cB 1 2,8,3,6)) (226,(fr7 1 (sI 0) 5 (sI 0)),[],cB 5 2,8,3,6) [i9]=true:=by decide +kernel
theorem iH (b9:Bool)(E:EVH p l e s m args below meth c T0 Z a0 h0 hM n0 L0 A Ab K Kb D W oM rest (cB 1 2))(H:PB k j (D 3) (D 4))(hj:j=0)(f0:ah B0 Kf (D 1))(f1:ah B1 Kf (D 2))(hN:0≤N∧N≤17592186044416)(b0:-N≤B0∧B0≤N)(b1:-N≤B1∧B1≤N)(hK:Kf≤100)(KK:SK p l e s m args below meth c Z a0 hM n0 Ab Kb D W oM rest Ev k j B0 B1 N Kf 0 false 1 (cB 1 2)):Go p e below Ev T0 (mkF m 226 (dL A D W (fr7 0 (sF 6) 5 (sB b9))) []):=by
 obtain⟨t,et,bt,bp,F,G,Fs,B8⟩:=dZ H f0 f1 N hN b0 b1 hK
 refine goE (b_ (sf b9) E (by decide) rfl rfl ⟨aj F,trivial⟩ ?_) rfl
 intro T1 h1 L1 A1 K1 E1
 rcases aq F E.2.1 with ⟨hz,hc⟩|⟨hz,hc⟩
 ·refine goE (b_ (sg b9) (E1.re (D':=(ac [(D 0),(D 1),(D 2),(D 3),(D 4),(FP.ddiv (D 1) (D 3)),(D 6),(D 7)])) (W':=W) rfl rfl) (by decide) rfl rfl ⟨hc,trivial⟩ ?_) (by cases b9<;>rfl)
  intro T2 h2 L2 A2 K2 E2
  exact goE (KK T2 h2 L2 A2 K2 (FP.ddiv (D 1) (D 3)) (D 2) (FP.ddiv (D 1) (D 3)) (D 7) b9 t (8*B1-j*t) (E2.re (show (0:UInt64)=D 0 from E.2.1.symm) rfl) ⟨et,rfl⟩ F (by rw[show 8*B1-j*t=8*B1 by rw[hj,Int.zero_mul];omega];exact B8) (by omega) (by omega)) (by cases b9<;>rfl)
 ·refine goE (b_ (sh b9) (E1.re (D':=(ac [(D 0),(D 1),(D 2),(D 3),(D 4),(FP.ddiv (D 1) (D 3)),(D 6),(D 7)])) (W':=W) rfl rfl) (by decide) rfl rfl ⟨hc,trivial⟩ ?_) (by cases b9<;>rfl)
  intro T2 h2 L2 A2 K2 E2
  exact goE (KK T2 h2 L2 A2 K2 (FP.ddiv (D 1) (D 3)) (D 2) (FP.ddiv (D 1) (D 3)) 0 true t (8*B1-j*t) (E2.re (show (0:UInt64)=D 0 from E.2.1.symm) rfl) ⟨et,rfl⟩ F (by rw[show 8*B1-j*t=8*B1 by rw[hj,Int.zero_mul];omega];exact B8) (by omega) (by omega)) (by cases b9<;>rfl)
def cC (a b:UInt64):List AD:=hY++[aD [a,b],wS,lK,wO,Gv,oG]
theorem si:∀b9:Bool,ai (run (tb 32) ae 10 (1,3,6,14) 259 20 [] [] (226,(fr7 0 (sF 6) 5 (sB b9)),[],cC 1 2,8,3,6)) (259,(fr7 0 (sI 1) 8 (sB b9)),[],cC 1 2,9,3,6) [i8]=true:=by decide +kernel
theorem sj:∀b9:Bool,ai (run (tb 32) ae 10 (1,3,6,14) 226 11 [] [0] (259,(fr7 0 (sI 1) 5 (sB b9)),[],cC 1 2,8,3,6)) (226,(fr7 1 (sI 1) 5 (sB b9)),[],cC 1 5,8,3,6) [fR]=true:=by decide +kernel
theorem sk:∀b9:Bool,ai (run (tb 32) ae 10 (1,3,6,14) 226 49 [] [1] (259,(fr7 0 (sI 1) 5 (sB b9)),[],cC 1 2,8,3,6)) (226,(fr7 1 (sI 1) 5 (sI 1)),[],cC 9 5,10,3,6) wT=true:=by decide +kernel
theorem iI (b9:Bool)(E:EVH p l e s m args below meth c T0 Z a0 h0 hM n0 L0 A Ab K Kb D W oM rest (cC 1 2))(H:PB k j (D 3) (D 4))(f0:ah B0 Kf (D 1))(f1:ah B1 Kf (D 2))(hN:0≤N∧N≤17592186044416)(b0:-N≤B0∧B0≤N)(b1:-N≤B1∧B1≤N)(hK:Kf≤100)(KK:SK p l e s m args below meth c Z a0 hM n0 Ab Kb D W oM rest Ev k j B0 B1 N Kf 1 true 1 (cC 1 2)):Go p e below Ev T0 (mkF m 226 (dL A D W (fr7 0 (sF 6) 5 (sB b9))) []):=by
 obtain⟨t,et,bt,bp,F,G,Fs,B8⟩:=dZ H f1 f0 N hN b1 b0 hK
 refine goE (b_ (si b9) E (by decide) rfl rfl ⟨aj F,trivial⟩ ?_) rfl
 intro T1 h1 L1 A1 K1 E1
 rcases aq F E.2.1 with ⟨hz,hc⟩|⟨hz,hc⟩
 ·refine goE (b_ (sj b9) (E1.re (D':=(ac [(D 0),(D 1),(D 2),(D 3),(D 4),(FP.ddiv (D 2) (D 3)),(D 6),(D 7)])) (W':=W) rfl rfl) (by decide) rfl rfl ⟨hc,trivial⟩ ?_) (by cases b9<;>rfl)
  intro T2 h2 L2 A2 K2 E2
  exact goE (KK T2 h2 L2 A2 K2 (D 1) (FP.ddiv (D 2) (D 3)) (FP.ddiv (D 2) (D 3)) (D 7) b9 (8*B0-j*t) t (E2.re (show (0:UInt64)=D 0 from E.2.1.symm) rfl) ⟨et,rfl⟩ (by rw[show 8*B0-j*t=8*B0 by rw[hz,Int.mul_zero];omega];exact B8) F (by omega) (by omega)) (by cases b9<;>rfl)
 ·refine goE (b_ (sk b9) (E1.re (D':=(ac [(D 0),(D 1),(D 2),(D 3),(D 4),(FP.ddiv (D 2) (D 3)),(D 6),(D 7)])) (W':=W) rfl rfl) (by decide) rfl rfl ⟨hc,aj G,aj Fs,trivial⟩ ?_) (by cases b9<;>rfl)
  intro T2 h2 L2 A2 K2 E2
  exact goE (KK T2 h2 L2 A2 K2 (FP.dsub (D 1) (FP.dmul (D 4) (FP.ddiv (D 2) (D 3)))) (FP.ddiv (D 2) (D 3)) (FP.ddiv (D 2) (D 3)) 1 true (8*B0-j*t) t (E2.re (show (0:UInt64)=D 0 from E.2.1.symm) rfl) ⟨et,rfl⟩ Fs F (by omega) (by omega)) (by cases b9<;>rfl)
def cD (a b:UInt64):List AD:=hY++[aD [a,b],wS,lK,wR,jS,jR]
theorem sm:∀b9:Bool,ai (run (tb 32) ae 10 (1,3,6,14) 259 20 [] [] (226,(fr7 0 (sF 6) 5 (sB b9)),[],cD 1 2,8,3,6)) (259,(fr7 0 (sI 1) 8 (sB b9)),[],cD 1 2,9,3,6) [i8]=true:=by decide +kernel
theorem sn:∀b9:Bool,ai (run (tb 32) ae 10 (1,3,6,14) 226 11 [] [0] (259,(fr7 0 (sI 1) 5 (sB b9)),[],cD 1 2,8,3,6)) (226,(fr7 1 (sI 1) 5 (sB b9)),[],cD 1 5,8,3,6) [fR]=true:=by decide +kernel
theorem so:∀b9:Bool,ai (run (tb 32) ae 10 (1,3,6,14) 226 24 [] [1] (259,(fr7 0 (sI 1) 5 (sB b9)),[],cD 1 2,8,3,6)) (226,(fr7 1 (sI 1) 5 (sI 0)),[],cD 1 5,8,3,6) [i9]=true:=by decide +kernel
theorem iJ (b9:Bool)(E:EVH p l e s m args below meth c T0 Z a0 h0 hM n0 L0 A Ab K Kb D W oM rest (cD 1 2))(H:PB k j (D 3) (D 4))(hj:j=0)(f0:ah B0 Kf (D 1))(f1:ah B1 Kf (D 2))(hN:0≤N∧N≤17592186044416)(b0:-N≤B0∧B0≤N)(b1:-N≤B1∧B1≤N)(hK:Kf≤100)(KK:SK p l e s m args below meth c Z a0 hM n0 Ab Kb D W oM rest Ev k j B0 B1 N Kf 1 true 1 (cD 1 2)):Go p e below Ev T0 (mkF m 226 (dL A D W (fr7 0 (sF 6) 5 (sB b9))) []):=by
 obtain⟨t,et,bt,bp,F,G,Fs,B8⟩:=dZ H f1 f0 N hN b1 b0 hK
 refine goE (b_ (sm b9) E (by decide) rfl rfl ⟨aj F,trivial⟩ ?_) rfl
 intro T1 h1 L1 A1 K1 E1
 rcases aq F E.2.1 with ⟨hz,hc⟩|⟨hz,hc⟩
 ·refine goE (b_ (sn b9) (E1.re (D':=(ac [(D 0),(D 1),(D 2),(D 3),(D 4),(FP.ddiv (D 2) (D 3)),(D 6),(D 7)])) (W':=W) rfl rfl) (by decide) rfl rfl ⟨hc,trivial⟩ ?_) (by cases b9<;>rfl)
  intro T2 h2 L2 A2 K2 E2
  exact goE (KK T2 h2 L2 A2 K2 (D 1) (FP.ddiv (D 2) (D 3)) (FP.ddiv (D 2) (D 3)) (D 7) b9 (8*B0-j*t) t (E2.re (show (0:UInt64)=D 0 from E.2.1.symm) rfl) ⟨et,rfl⟩ (by rw[show 8*B0-j*t=8*B0 by rw[hj,Int.zero_mul];omega];exact B8) F (by omega) (by omega)) (by cases b9<;>rfl)
 ·refine goE (b_ (so b9) (E1.re (D':=(ac [(D 0),(D 1),(D 2),(D 3),(D 4),(FP.ddiv (D 2) (D 3)),(D 6),(D 7)])) (W':=W) rfl rfl) (by decide) rfl rfl ⟨hc,trivial⟩ ?_) (by cases b9<;>rfl)
  intro T2 h2 L2 A2 K2 E2
  exact goE (KK T2 h2 L2 A2 K2 (D 1) (FP.ddiv (D 2) (D 3)) (FP.ddiv (D 2) (D 3)) 0 true (8*B0-j*t) t (E2.re (show (0:UInt64)=D 0 from E.2.1.symm) rfl) ⟨et,rfl⟩ (by rw[show 8*B0-j*t=8*B0 by rw[hj,Int.zero_mul];omega];exact B8) F (by omega) (by omega)) (by cases b9<;>rfl)
def lL:AD:=(65,16,[vU 60,vD 3]++uS 62 14)
def wU:AD:=(64,16,[ir,zq0]++uS 42 14)
def df (a b:UInt64):List AD:=hY++[aD [a,b],wU,lL,(64,17,[vU 80,zq0,zq3]++uS 83 14),Gu,oG]
theorem sq:∀b9:Bool,ai (run (tb 32) ae 10 (1,3,6,14) 259 20 [] [] (226,(fr7 1 (sF 6) 5 (sB b9)),[],df 1 2,8,3,6)) (259,(fr7 1 (sI 0) 8 (sB b9)),[],df 1 2,9,3,6) [fO]=true:=by decide +kernel
theorem sr:∀b9:Bool,ai (run (tb 32) ae 10 (1,3,6,14) 226 11 [] [0] (259,(fr7 1 (sI 0) 5 (sB b9)),[],df 1 2,8,3,6)) (226,(fr7 2 (sI 0) 5 (sB b9)),[],df 5 2,8,3,6) [fR]=true:=by decide +kernel
theorem ss:∀b9:Bool,ai (run (tb 32) ae 10 (1,3,6,14) 226 49 [] [1] (259,(fr7 1 (sI 0) 5 (sB b9)),[],df 1 2,8,3,6)) (226,(fr7 2 (sI 0) 5 (sI 1)),[],df 5 9,10,3,6) wQ=true:=by decide +kernel
theorem oH (b9:Bool)(E:EVH p l e s m args below meth c T0 Z a0 h0 hM n0 L0 A Ab K Kb D W oM rest (df 1 2))(H:PB k j (D 3) (D 4))(f0:ah B0 Kf (D 1))(f1:ah B1 Kf (D 2))(hN:0≤N∧N≤17592186044416)(b0:-N≤B0∧B0≤N)(b1:-N≤B1∧B1≤N)(hK:Kf≤100)(KK:SK p l e s m args below meth c Z a0 hM n0 Ab Kb D W oM rest Ev k j B0 B1 N Kf 0 false 2 (df 1 2)):Go p e below Ev T0 (mkF m 226 (dL A D W (fr7 1 (sF 6) 5 (sB b9))) []):=by
 obtain⟨t,et,bt,bp,F,G,Fs,B8⟩:=dZ H f0 f1 N hN b0 b1 hK
 refine goE (b_ (sq b9) E (by decide) rfl rfl ⟨aj F,trivial⟩ ?_) rfl
 intro T1 h1 L1 A1 K1 E1
 rcases aq F E.2.1 with ⟨hz,hc⟩|⟨hz,hc⟩
 ·refine goE (b_ (sr b9) (E1.re (D':=(ac [(D 0),(D 1),(D 2),(D 3),(D 4),(FP.ddiv (D 1) (D 3)),(D 6),(D 7)])) (W':=W) rfl rfl) (by decide) rfl rfl ⟨hc,trivial⟩ ?_) (by cases b9<;>rfl)
  intro T2 h2 L2 A2 K2 E2
  exact goE (KK T2 h2 L2 A2 K2 (FP.ddiv (D 1) (D 3)) (D 2) (FP.ddiv (D 1) (D 3)) (D 7) b9 t (8*B1-j*t) (E2.re (show (0:UInt64)=D 0 from E.2.1.symm) rfl) ⟨et,rfl⟩ F (by rw[show 8*B1-j*t=8*B1 by rw[hz,Int.mul_zero];omega];exact B8) (by omega) (by omega)) (by cases b9<;>rfl)
 ·refine goE (b_ (ss b9) (E1.re (D':=(ac [(D 0),(D 1),(D 2),(D 3),(D 4),(FP.ddiv (D 1) (D 3)),(D 6),(D 7)])) (W':=W) rfl rfl) (by decide) rfl rfl ⟨hc,aj G,aj Fs,trivial⟩ ?_) (by cases b9<;>rfl)
  intro T2 h2 L2 A2 K2 E2
  exact goE (KK T2 h2 L2 A2 K2 (FP.ddiv (D 1) (D 3)) (FP.dsub (D 2) (FP.dmul (D 4) (FP.ddiv (D 1) (D 3)))) (FP.ddiv (D 1) (D 3)) 1 true t (8*B1-j*t) (E2.re (show (0:UInt64)=D 0 from E.2.1.symm) rfl) ⟨et,rfl⟩ F Fs (by omega) (by omega)) (by cases b9<;>rfl)
def dg (a b:UInt64):List AD:=hY++[aD [a,b],wU,lL,(64,17,[vU 80,zq0,zq0]++uS 83 14),jS,jR]
theorem sv:∀b9:Bool,ai (run (tb 32) ae 10 (1,3,6,14) 259 20 [] [] (226,(fr7 1 (sF 6) 5 (sB b9)),[],dg 1 2,8,3,6)) (259,(fr7 1 (sI 0) 8 (sB b9)),[],dg 1 2,9,3,6) [fO]=true:=by decide +kernel
theorem sw:∀b9:Bool,ai (run (tb 32) ae 10 (1,3,6,14) 226 11 [] [0] (259,(fr7 1 (sI 0) 5 (sB b9)),[],dg 1 2,8,3,6)) (226,(fr7 2 (sI 0) 5 (sB b9)),[],dg 5 2,8,3,6) [fR]=true:=by decide +kernel
theorem sx:∀b9:Bool,ai (run (tb 32) ae 10 (1,3,6,14) 226 24 [] [1] (259,(fr7 1 (sI 0) 5 (sB b9)),[],dg 1 2,8,3,6)) (226,(fr7 2 (sI 0) 5 (sI 0)),[],dg 5 2,8,3,6) [i9]=true:=by decide +kernel
theorem oI (b9:Bool)(E:EVH p l e s m args below meth c T0 Z a0 h0 hM n0 L0 A Ab K Kb D W oM rest (dg 1 2))(H:PB k j (D 3) (D 4))(hj:j=0)(f0:ah B0 Kf (D 1))(f1:ah B1 Kf (D 2))(hN:0≤N∧N≤17592186044416)(b0:-N≤B0∧B0≤N)(b1:-N≤B1∧B1≤N)(hK:Kf≤100)(KK:SK p l e s m args below meth c Z a0 hM n0 Ab Kb D W oM rest Ev k j B0 B1 N Kf 0 false 2 (dg 1 2)):Go p e below Ev T0 (mkF m 226 (dL A D W (fr7 1 (sF 6) 5 (sB b9))) []):=by
 obtain⟨t,et,bt,bp,F,G,Fs,B8⟩:=dZ H f0 f1 N hN b0 b1 hK
 refine goE (b_ (sv b9) E (by decide) rfl rfl ⟨aj F,trivial⟩ ?_) rfl
 intro T1 h1 L1 A1 K1 E1
 rcases aq F E.2.1 with ⟨hz,hc⟩|⟨hz,hc⟩
 ·refine goE (b_ (sw b9) (E1.re (D':=(ac [(D 0),(D 1),(D 2),(D 3),(D 4),(FP.ddiv (D 1) (D 3)),(D 6),(D 7)])) (W':=W) rfl rfl) (by decide) rfl rfl ⟨hc,trivial⟩ ?_) (by cases b9<;>rfl)
  intro T2 h2 L2 A2 K2 E2
  exact goE (KK T2 h2 L2 A2 K2 (FP.ddiv (D 1) (D 3)) (D 2) (FP.ddiv (D 1) (D 3)) (D 7) b9 t (8*B1-j*t) (E2.re (show (0:UInt64)=D 0 from E.2.1.symm) rfl) ⟨et,rfl⟩ F (by rw[show 8*B1-j*t=8*B1 by rw[hj,Int.zero_mul];omega];exact B8) (by omega) (by omega)) (by cases b9<;>rfl)
 ·refine goE (b_ (sx b9) (E1.re (D':=(ac [(D 0),(D 1),(D 2),(D 3),(D 4),(FP.ddiv (D 1) (D 3)),(D 6),(D 7)])) (W':=W) rfl rfl) (by decide) rfl rfl ⟨hc,trivial⟩ ?_) (by cases b9<;>rfl)
  intro T2 h2 L2 A2 K2 E2
  exact goE (KK T2 h2 L2 A2 K2 (FP.ddiv (D 1) (D 3)) (D 2) (FP.ddiv (D 1) (D 3)) 0 true t (8*B1-j*t) (E2.re (show (0:UInt64)=D 0 from E.2.1.symm) rfl) ⟨et,rfl⟩ F (by rw[show 8*B1-j*t=8*B1 by rw[hj,Int.zero_mul];omega];exact B8) (by omega) (by omega)) (by cases b9<;>rfl)
def wV:AD:=(64,16,[ir,zq3]++uS 42 14)
def dh (a b:UInt64):List AD:=hY++[aD [a,b],wV,lL,(64,17,[vU 80,zq0,zq3]++uS 83 14),Gv,oG]
theorem sy:∀b9:Bool,ai (run (tb 32) ae 10 (1,3,6,14) 259 20 [] [] (226,(fr7 1 (sF 6) 5 (sB b9)),[],dh 1 2,8,3,6)) (259,(fr7 1 (sI 1) 8 (sB b9)),[],dh 1 2,9,3,6) [i8]=true:=by decide +kernel
theorem sz:∀b9:Bool,ai (run (tb 32) ae 10 (1,3,6,14) 226 11 [] [0] (259,(fr7 1 (sI 1) 5 (sB b9)),[],dh 1 2,8,3,6)) (226,(fr7 2 (sI 1) 5 (sB b9)),[],dh 1 5,8,3,6) [fR]=true:=by decide +kernel
theorem sA:∀b9:Bool,ai (run (tb 32) ae 10 (1,3,6,14) 226 49 [] [1] (259,(fr7 1 (sI 1) 5 (sB b9)),[],dh 1 2,8,3,6)) (226,(fr7 2 (sI 1) 5 (sI 1)),[],dh 9 5,10,3,6) wT=true:=by decide +kernel
theorem oJ (b9:Bool)(E:EVH p l e s m args below meth c T0 Z a0 h0 hM n0 L0 A Ab K Kb D W oM rest (dh 1 2))(H:PB k j (D 3) (D 4))(f0:ah B0 Kf (D 1))(f1:ah B1 Kf (D 2))(hN:0≤N∧N≤17592186044416)(b0:-N≤B0∧B0≤N)(b1:-N≤B1∧B1≤N)(hK:Kf≤100)(KK:SK p l e s m args below meth c Z a0 hM n0 Ab Kb D W oM rest Ev k j B0 B1 N Kf 1 true 2 (dh 1 2)):Go p e below Ev T0 (mkF m 226 (dL A D W (fr7 1 (sF 6) 5 (sB b9))) []):=by
 obtain⟨t,et,bt,bp,F,G,Fs,B8⟩:=dZ H f1 f0 N hN b1 b0 hK
 refine goE (b_ (sy b9) E (by decide) rfl rfl ⟨aj F,trivial⟩ ?_) rfl
 intro T1 h1 L1 A1 K1 E1
 rcases aq F E.2.1 with ⟨hz,hc⟩|⟨hz,hc⟩
 ·refine goE (b_ (sz b9) (E1.re (D':=(ac [(D 0),(D 1),(D 2),(D 3),(D 4),(FP.ddiv (D 2) (D 3)),(D 6),(D 7)])) (W':=W) rfl rfl) (by decide) rfl rfl ⟨hc,trivial⟩ ?_) (by cases b9<;>rfl)
  intro T2 h2 L2 A2 K2 E2
  exact goE (KK T2 h2 L2 A2 K2 (D 1) (FP.ddiv (D 2) (D 3)) (FP.ddiv (D 2) (D 3)) (D 7) b9 (8*B0-j*t) t (E2.re (show (0:UInt64)=D 0 from E.2.1.symm) rfl) ⟨et,rfl⟩ (by rw[show 8*B0-j*t=8*B0 by rw[hz,Int.mul_zero];omega];exact B8) F (by omega) (by omega)) (by cases b9<;>rfl)
 ·refine goE (b_ (sA b9) (E1.re (D':=(ac [(D 0),(D 1),(D 2),(D 3),(D 4),(FP.ddiv (D 2) (D 3)),(D 6),(D 7)])) (W':=W) rfl rfl) (by decide) rfl rfl ⟨hc,aj G,aj Fs,trivial⟩ ?_) (by cases b9<;>rfl)
  intro T2 h2 L2 A2 K2 E2
  exact goE (KK T2 h2 L2 A2 K2 (FP.dsub (D 1) (FP.dmul (D 4) (FP.ddiv (D 2) (D 3)))) (FP.ddiv (D 2) (D 3)) (FP.ddiv (D 2) (D 3)) 1 true (8*B0-j*t) t (E2.re (show (0:UInt64)=D 0 from E.2.1.symm) rfl) ⟨et,rfl⟩ Fs F (by omega) (by omega)) (by cases b9<;>rfl)
def di (a b:UInt64):List AD:=hY++[aD [a,b],wV,lL,(64,17,[vU 80,zq0,zq0]++uS 83 14),jS,jR]
theorem sC:∀b9:Bool,ai (run (tb 32) ae 10 (1,3,6,14) 259 20 [] [] (226,(fr7 1 (sF 6) 5 (sB b9)),[],di 1 2,8,3,6)) (259,(fr7 1 (sI 1) 8 (sB b9)),[],di 1 2,9,3,6) [i8]=true:=by decide +kernel
theorem sE:∀b9:Bool,ai (run (tb 32) ae 10 (1,3,6,14) 226 11 [] [0] (259,(fr7 1 (sI 1) 5 (sB b9)),[],di 1 2,8,3,6)) (226,(fr7 2 (sI 1) 5 (sB b9)),[],di 1 5,8,3,6) [fR]=true:=by decide +kernel
theorem sG:∀b9:Bool,ai (run (tb 32) ae 10 (1,3,6,14) 226 24 [] [1] (259,(fr7 1 (sI 1) 5 (sB b9)),[],di 1 2,8,3,6)) (226,(fr7 2 (sI 1) 5 (sI 0)),[],di 1 5,8,3,6) [i9]=true:=by decide +kernel
theorem oK (b9:Bool)(E:EVH p l e s m args below meth c T0 Z a0 h0 hM n0 L0 A Ab K Kb D W oM rest (di 1 2))(H:PB k j (D 3) (D 4))(hj:j=0)(f0:ah B0 Kf (D 1))(f1:ah B1 Kf (D 2))(hN:0≤N∧N≤17592186044416)(b0:-N≤B0∧B0≤N)(b1:-N≤B1∧B1≤N)(hK:Kf≤100)(KK:SK p l e s m args below meth c Z a0 hM n0 Ab Kb D W oM rest Ev k j B0 B1 N Kf 1 true 2 (di 1 2)):Go p e below Ev T0 (mkF m 226 (dL A D W (fr7 1 (sF 6) 5 (sB b9))) []):=by
 obtain⟨t,et,bt,bp,F,G,Fs,B8⟩:=dZ H f1 f0 N hN b1 b0 hK
 refine goE (b_ (sC b9) E (by decide) rfl rfl ⟨aj F,trivial⟩ ?_) rfl
 intro T1 h1 L1 A1 K1 E1
 rcases aq F E.2.1 with ⟨hz,hc⟩|⟨hz,hc⟩
 ·refine goE (b_ (sE b9) (E1.re (D':=(ac [(D 0),(D 1),(D 2),(D 3),(D 4),(FP.ddiv (D 2) (D 3)),(D 6),(D 7)])) (W':=W) rfl rfl) (by decide) rfl rfl ⟨hc,trivial⟩ ?_) (by cases b9<;>rfl)
  intro T2 h2 L2 A2 K2 E2
  exact goE (KK T2 h2 L2 A2 K2 (D 1) (FP.ddiv (D 2) (D 3)) (FP.ddiv (D 2) (D 3)) (D 7) b9 (8*B0-j*t) t (E2.re (show (0:UInt64)=D 0 from E.2.1.symm) rfl) ⟨et,rfl⟩ (by rw[show 8*B0-j*t=8*B0 by rw[hj,Int.zero_mul];omega];exact B8) F (by omega) (by omega)) (by cases b9<;>rfl)
 ·refine goE (b_ (sG b9) (E1.re (D':=(ac [(D 0),(D 1),(D 2),(D 3),(D 4),(FP.ddiv (D 2) (D 3)),(D 6),(D 7)])) (W':=W) rfl rfl) (by decide) rfl rfl ⟨hc,trivial⟩ ?_) (by cases b9<;>rfl)
  intro T2 h2 L2 A2 K2 E2
  exact goE (KK T2 h2 L2 A2 K2 (D 1) (FP.ddiv (D 2) (D 3)) (FP.ddiv (D 2) (D 3)) 0 true (8*B0-j*t) t (E2.re (show (0:UInt64)=D 0 from E.2.1.symm) rfl) ⟨et,rfl⟩ (by rw[show 8*B0-j*t=8*B0 by rw[hj,Int.zero_mul];omega];exact B8) F (by omega) (by omega)) (by cases b9<;>rfl)
def dj (a b:UInt64):List AD:=hY++[aD [a,b],wU,lL,(64,17,[vU 80,zq3,ax]++uS 83 14),(64,256,[vU 100,zq3,vU 102,vU 103]),(65,256,[vU 110,vD 4,vU 112,vU 113])]
theorem sH:∀b9:Bool,ai (run (tb 32) ae 10 (1,3,6,14) 259 20 [] [] (226,(fr7 1 (sF 6) 5 (sB b9)),[],dj 1 2,8,3,6)) (259,(fr7 1 (sI 0) 8 (sB b9)),[],dj 1 2,9,3,6) [fO]=true:=by decide +kernel
theorem sJ:∀b9:Bool,ai (run (tb 32) ae 10 (1,3,6,14) 226 11 [] [0] (259,(fr7 1 (sI 0) 5 (sB b9)),[],dj 1 2,8,3,6)) (226,(fr7 2 (sI 0) 5 (sB b9)),[],dj 5 2,8,3,6) [fR]=true:=by decide +kernel
theorem sK:∀b9:Bool,ai (run (tb 32) ae 10 (1,3,6,14) 226 49 [] [1] (259,(fr7 1 (sI 0) 5 (sB b9)),[],dj 1 2,8,3,6)) (226,(fr7 2 (sI 0) 5 (sI 2)),[],dj 5 9,10,3,6) wQ=true:=by decide +kernel
theorem oL (b9:Bool)(E:EVH p l e s m args below meth c T0 Z a0 h0 hM n0 L0 A Ab K Kb D W oM rest (dj 1 2))(H:PB k j (D 3) (D 4))(f0:ah B0 Kf (D 1))(f1:ah B1 Kf (D 2))(hN:0≤N∧N≤17592186044416)(b0:-N≤B0∧B0≤N)(b1:-N≤B1∧B1≤N)(hK:Kf≤100)(KK:SK p l e s m args below meth c Z a0 hM n0 Ab Kb D W oM rest Ev k j B0 B1 N Kf 0 false 2 (dj 1 2)):Go p e below Ev T0 (mkF m 226 (dL A D W (fr7 1 (sF 6) 5 (sB b9))) []):=by
 obtain⟨t,et,bt,bp,F,G,Fs,B8⟩:=dZ H f0 f1 N hN b0 b1 hK
 refine goE (b_ (sH b9) E (by decide) rfl rfl ⟨aj F,trivial⟩ ?_) rfl
 intro T1 h1 L1 A1 K1 E1
 rcases aq F E.2.1 with ⟨hz,hc⟩|⟨hz,hc⟩
 ·refine goE (b_ (sJ b9) (E1.re (D':=(ac [(D 0),(D 1),(D 2),(D 3),(D 4),(FP.ddiv (D 1) (D 3)),(D 6),(D 7)])) (W':=W) rfl rfl) (by decide) rfl rfl ⟨hc,trivial⟩ ?_) (by cases b9<;>rfl)
  intro T2 h2 L2 A2 K2 E2
  exact goE (KK T2 h2 L2 A2 K2 (FP.ddiv (D 1) (D 3)) (D 2) (FP.ddiv (D 1) (D 3)) (D 7) b9 t (8*B1-j*t) (E2.re (show (0:UInt64)=D 0 from E.2.1.symm) rfl) ⟨et,rfl⟩ F (by rw[show 8*B1-j*t=8*B1 by rw[hz,Int.mul_zero];omega];exact B8) (by omega) (by omega)) (by cases b9<;>rfl)
 ·refine goE (b_ (sK b9) (E1.re (D':=(ac [(D 0),(D 1),(D 2),(D 3),(D 4),(FP.ddiv (D 1) (D 3)),(D 6),(D 7)])) (W':=W) rfl rfl) (by decide) rfl rfl ⟨hc,aj G,aj Fs,trivial⟩ ?_) (by cases b9<;>rfl)
  intro T2 h2 L2 A2 K2 E2
  exact goE (KK T2 h2 L2 A2 K2 (FP.ddiv (D 1) (D 3)) (FP.dsub (D 2) (FP.dmul (D 4) (FP.ddiv (D 1) (D 3)))) (FP.ddiv (D 1) (D 3)) 2 true t (8*B1-j*t) (E2.re (show (0:UInt64)=D 0 from E.2.1.symm) rfl) ⟨et,rfl⟩ F Fs (by omega) (by omega)) (by cases b9<;>rfl)
def dm (a b:UInt64):List AD:=hY++[aD [a,b],wU,lL,(64,17,[vU 80,zq3,zq3]++uS 83 14),jS,jR]
theorem sM:∀b9:Bool,ai (run (tb 32) ae 10 (1,3,6,14) 259 20 [] [] (226,(fr7 1 (sF 6) 5 (sB b9)),[],dm 1 2,8,3,6)) (259,(fr7 1 (sI 0) 8 (sB b9)),[],dm 1 2,9,3,6) [fO]=true:=by decide +kernel
theorem sN:∀b9:Bool,ai (run (tb 32) ae 10 (1,3,6,14) 226 11 [] [0] (259,(fr7 1 (sI 0) 5 (sB b9)),[],dm 1 2,8,3,6)) (226,(fr7 2 (sI 0) 5 (sB b9)),[],dm 5 2,8,3,6) [fR]=true:=by decide +kernel
theorem sO:∀b9:Bool,ai (run (tb 32) ae 10 (1,3,6,14) 226 24 [] [1] (259,(fr7 1 (sI 0) 5 (sB b9)),[],dm 1 2,8,3,6)) (226,(fr7 2 (sI 0) 5 (sI 1)),[],dm 5 2,8,3,6) [i9]=true:=by decide +kernel
theorem oN (b9:Bool)(E:EVH p l e s m args below meth c T0 Z a0 h0 hM n0 L0 A Ab K Kb D W oM rest (dm 1 2))(H:PB k j (D 3) (D 4))(hj:j=0)(f0:ah B0 Kf (D 1))(f1:ah B1 Kf (D 2))(hN:0≤N∧N≤17592186044416)(b0:-N≤B0∧B0≤N)(b1:-N≤B1∧B1≤N)(hK:Kf≤100)(KK:SK p l e s m args below meth c Z a0 hM n0 Ab Kb D W oM rest Ev k j B0 B1 N Kf 0 false 2 (dm 1 2)):Go p e below Ev T0 (mkF m 226 (dL A D W (fr7 1 (sF 6) 5 (sB b9))) []):=by
 obtain⟨t,et,bt,bp,F,G,Fs,B8⟩:=dZ H f0 f1 N hN b0 b1 hK
 refine goE (b_ (sM b9) E (by decide) rfl rfl ⟨aj F,trivial⟩ ?_) rfl
 intro T1 h1 L1 A1 K1 E1
 rcases aq F E.2.1 with ⟨hz,hc⟩|⟨hz,hc⟩
 ·refine goE (b_ (sN b9) (E1.re (D':=(ac [(D 0),(D 1),(D 2),(D 3),(D 4),(FP.ddiv (D 1) (D 3)),(D 6),(D 7)])) (W':=W) rfl rfl) (by decide) rfl rfl ⟨hc,trivial⟩ ?_) (by cases b9<;>rfl)
  intro T2 h2 L2 A2 K2 E2
  exact goE (KK T2 h2 L2 A2 K2 (FP.ddiv (D 1) (D 3)) (D 2) (FP.ddiv (D 1) (D 3)) (D 7) b9 t (8*B1-j*t) (E2.re (show (0:UInt64)=D 0 from E.2.1.symm) rfl) ⟨et,rfl⟩ F (by rw[show 8*B1-j*t=8*B1 by rw[hj,Int.zero_mul];omega];exact B8) (by omega) (by omega)) (by cases b9<;>rfl)
 ·refine goE (b_ (sO b9) (E1.re (D':=(ac [(D 0),(D 1),(D 2),(D 3),(D 4),(FP.ddiv (D 1) (D 3)),(D 6),(D 7)])) (W':=W) rfl rfl) (by decide) rfl rfl ⟨hc,trivial⟩ ?_) (by cases b9<;>rfl)
  intro T2 h2 L2 A2 K2 E2
  exact goE (KK T2 h2 L2 A2 K2 (FP.ddiv (D 1) (D 3)) (D 2) (FP.ddiv (D 1) (D 3)) 1 true t (8*B1-j*t) (E2.re (show (0:UInt64)=D 0 from E.2.1.symm) rfl) ⟨et,rfl⟩ F (by rw[show 8*B1-j*t=8*B1 by rw[hj,Int.zero_mul];omega];exact B8) (by omega) (by omega)) (by cases b9<;>rfl)
def dn (a b:UInt64):List AD:=hY++[aD [a,b],wV,lL,(64,17,[vU 80,zq3,ax]++uS 83 14),(64,256,[vU 100,zq0,vU 102,vU 103]),(65,256,[vU 110,vD 4,vU 112,vU 113])]
theorem sP:∀b9:Bool,ai (run (tb 32) ae 10 (1,3,6,14) 259 20 [] [] (226,(fr7 1 (sF 6) 5 (sB b9)),[],dn 1 2,8,3,6)) (259,(fr7 1 (sI 1) 8 (sB b9)),[],dn 1 2,9,3,6) [i8]=true:=by decide +kernel
theorem sQ:∀b9:Bool,ai (run (tb 32) ae 10 (1,3,6,14) 226 11 [] [0] (259,(fr7 1 (sI 1) 5 (sB b9)),[],dn 1 2,8,3,6)) (226,(fr7 2 (sI 1) 5 (sB b9)),[],dn 1 5,8,3,6) [fR]=true:=by decide +kernel
theorem sS:∀b9:Bool,ai (run (tb 32) ae 10 (1,3,6,14) 226 49 [] [1] (259,(fr7 1 (sI 1) 5 (sB b9)),[],dn 1 2,8,3,6)) (226,(fr7 2 (sI 1) 5 (sI 2)),[],dn 9 5,10,3,6) wT=true:=by decide +kernel
theorem oO (b9:Bool)(E:EVH p l e s m args below meth c T0 Z a0 h0 hM n0 L0 A Ab K Kb D W oM rest (dn 1 2))(H:PB k j (D 3) (D 4))(f0:ah B0 Kf (D 1))(f1:ah B1 Kf (D 2))(hN:0≤N∧N≤17592186044416)(b0:-N≤B0∧B0≤N)(b1:-N≤B1∧B1≤N)(hK:Kf≤100)(KK:SK p l e s m args below meth c Z a0 hM n0 Ab Kb D W oM rest Ev k j B0 B1 N Kf 1 true 2 (dn 1 2)):Go p e below Ev T0 (mkF m 226 (dL A D W (fr7 1 (sF 6) 5 (sB b9))) []):=by
 obtain⟨t,et,bt,bp,F,G,Fs,B8⟩:=dZ H f1 f0 N hN b1 b0 hK
 refine goE (b_ (sP b9) E (by decide) rfl rfl ⟨aj F,trivial⟩ ?_) rfl
 intro T1 h1 L1 A1 K1 E1
 rcases aq F E.2.1 with ⟨hz,hc⟩|⟨hz,hc⟩
 ·refine goE (b_ (sQ b9) (E1.re (D':=(ac [(D 0),(D 1),(D 2),(D 3),(D 4),(FP.ddiv (D 2) (D 3)),(D 6),(D 7)])) (W':=W) rfl rfl) (by decide) rfl rfl ⟨hc,trivial⟩ ?_) (by cases b9<;>rfl)
  intro T2 h2 L2 A2 K2 E2
  exact goE (KK T2 h2 L2 A2 K2 (D 1) (FP.ddiv (D 2) (D 3)) (FP.ddiv (D 2) (D 3)) (D 7) b9 (8*B0-j*t) t (E2.re (show (0:UInt64)=D 0 from E.2.1.symm) rfl) ⟨et,rfl⟩ (by rw[show 8*B0-j*t=8*B0 by rw[hz,Int.mul_zero];omega];exact B8) F (by omega) (by omega)) (by cases b9<;>rfl)
 ·refine goE (b_ (sS b9) (E1.re (D':=(ac [(D 0),(D 1),(D 2),(D 3),(D 4),(FP.ddiv (D 2) (D 3)),(D 6),(D 7)])) (W':=W) rfl rfl) (by decide) rfl rfl ⟨hc,aj G,aj Fs,trivial⟩ ?_) (by cases b9<;>rfl)
  intro T2 h2 L2 A2 K2 E2
  exact goE (KK T2 h2 L2 A2 K2 (FP.dsub (D 1) (FP.dmul (D 4) (FP.ddiv (D 2) (D 3)))) (FP.ddiv (D 2) (D 3)) (FP.ddiv (D 2) (D 3)) 2 true (8*B0-j*t) t (E2.re (show (0:UInt64)=D 0 from E.2.1.symm) rfl) ⟨et,rfl⟩ Fs F (by omega) (by omega)) (by cases b9<;>rfl)
def dp (a b:UInt64):List AD:=hY++[aD [a,b],wV,lL,(64,17,[vU 80,zq3,zq3]++uS 83 14),jS,jR]
theorem sT:∀b9:Bool,ai (run (tb 32) ae 10 (1,3,6,14) 259 20 [] [] (226,(fr7 1 (sF 6) 5 (sB b9)),[],dp 1 2,8,3,6)) (259,(fr7 1 (sI 1) 8 (sB b9)),[],dp 1 2,9,3,6) [i8]=true:=by decide +kernel
theorem sV:∀b9:Bool,ai (run (tb 32) ae 10 (1,3,6,14) 226 11 [] [0] (259,(fr7 1 (sI 1) 5 (sB b9)),[],dp 1 2,8,3,6)) (226,(fr7 2 (sI 1) 5 (sB b9)),[],dp 1 5,8,3,6) [fR]=true:=by decide +kernel
theorem sW:∀b9:Bool,ai (run (tb 32) ae 10 (1,3,6,14) 226 24 [] [1] (259,(fr7 1 (sI 1) 5 (sB b9)),[],dp 1 2,8,3,6)) (226,(fr7 2 (sI 1) 5 (sI 1)),[],dp 1 5,8,3,6) [i9]=true:=by decide +kernel
theorem oP (b9:Bool)(E:EVH p l e s m args below meth c T0 Z a0 h0 hM n0 L0 A Ab K Kb D W oM rest (dp 1 2))(H:PB k j (D 3) (D 4))(hj:j=0)(f0:ah B0 Kf (D 1))(f1:ah B1 Kf (D 2))(hN:0≤N∧N≤17592186044416)(b0:-N≤B0∧B0≤N)(b1:-N≤B1∧B1≤N)(hK:Kf≤100)(KK:SK p l e s m args below meth c Z a0 hM n0 Ab Kb D W oM rest Ev k j B0 B1 N Kf 1 true 2 (dp 1 2)):Go p e below Ev T0 (mkF m 226 (dL A D W (fr7 1 (sF 6) 5 (sB b9))) []):=by
 obtain⟨t,et,bt,bp,F,G,Fs,B8⟩:=dZ H f1 f0 N hN b1 b0 hK
 refine goE (b_ (sT b9) E (by decide) rfl rfl ⟨aj F,trivial⟩ ?_) rfl
 intro T1 h1 L1 A1 K1 E1
 rcases aq F E.2.1 with ⟨hz,hc⟩|⟨hz,hc⟩
 ·refine goE (b_ (sV b9) (E1.re (D':=(ac [(D 0),(D 1),(D 2),(D 3),(D 4),(FP.ddiv (D 2) (D 3)),(D 6),(D 7)])) (W':=W) rfl rfl) (by decide) rfl rfl ⟨hc,trivial⟩ ?_) (by cases b9<;>rfl)
  intro T2 h2 L2 A2 K2 E2
  exact goE (KK T2 h2 L2 A2 K2 (D 1) (FP.ddiv (D 2) (D 3)) (FP.ddiv (D 2) (D 3)) (D 7) b9 (8*B0-j*t) t (E2.re (show (0:UInt64)=D 0 from E.2.1.symm) rfl) ⟨et,rfl⟩ (by rw[show 8*B0-j*t=8*B0 by rw[hj,Int.zero_mul];omega];exact B8) F (by omega) (by omega)) (by cases b9<;>rfl)
 ·refine goE (b_ (sW b9) (E1.re (D':=(ac [(D 0),(D 1),(D 2),(D 3),(D 4),(FP.ddiv (D 2) (D 3)),(D 6),(D 7)])) (W':=W) rfl rfl) (by decide) rfl rfl ⟨hc,trivial⟩ ?_) (by cases b9<;>rfl)
  intro T2 h2 L2 A2 K2 E2
  exact goE (KK T2 h2 L2 A2 K2 (D 1) (FP.ddiv (D 2) (D 3)) (FP.ddiv (D 2) (D 3)) 1 true (8*B0-j*t) t (E2.re (show (0:UInt64)=D 0 from E.2.1.symm) rfl) ⟨et,rfl⟩ (by rw[show 8*B0-j*t=8*B0 by rw[hj,Int.zero_mul];omega];exact B8) F (by omega) (by omega)) (by cases b9<;>rfl)
def Gw:List AD:=[oF,oE,oD,aL,aU 64 40 16,aU 65 60 16,aU 64 80 17,jS,jR]
def IA:List AD:=[(0,0,uS 0 8++rS 5 5++uS 8 15++[zq0])]++Gw
theorem IB:∀b9:Bool,ai (run (tb 32) ae 10 (1,3,6,14) 1000000 7 [] [] (226,(fr7 0 (sF 6) 5 (sB b9)),[],IA,8,3,6)) (333,(fr7 0 (sF 6) 5 (sB b9)),[vR 4],IA,8,3,6) []=true:=by decide +kernel
theorem RT {y0 y1 v0 v1:UInt64}(b9:Bool)(E:EVH p l e s m args below meth c T0 Z a0 h0 hM n0 L0 A Ab K Kb D W oM rest IA)(hy0:D 1=y0)(hy1:D 2=y1)(w0:W 30 = .double v0)(w1:W 31 = .double v1){Q:Option Value→Heap→List Loc→Prop}(hQ:∀(h:Heap)(L:List Loc),n0≤h.size→Fr n0 L→Yf Z n0 h ([(Ab 4,Kb 4,65,2,[.double y0,.double y1]),(Ab 1,Kb 1,65,2,[.double v0,.double v1]),(Ab 0,Kb 0,0,0,[])]++rest)→Q (some (.ref (Ab 4))) h L):Go p e below (bw s Q 3 6) T0 (mkF m 226 (dL A D W (fr7 0 (sF 6) 5 (sB b9))) []):=by
 refine goE (b_ (IB b9) E (by decide) rfl rfl trivial ?_) rfl
 intro T1 h1 L1 A1 K1 E1
 obtain⟨B1,D01,Y1,YM,KM,hf,hAb⟩:=E1
 obtain⟨X1,hx,hby,hml,hret,hlk,hown,hZ,hw,e1,n1,N1⟩:=B1
 have Yp:Yf Z n0 h1 [(A1 4,K1 4,65,2,[.double (D 1),.double (D 2)]),(A1 1,K1 1,65,2,[W 30,W 31]),(A1 0,K1 0,0,0,[])]:=Yf.pick (YgF.bare Y1 0 rfl (by decide)).fl [4,1,0] (by decide) rfl
 rw[hy0,hy1,w0,w1,(hAb 4 (by decide)).1,(hAb 4 (by decide)).2,(hAb 1 (by decide)).1,(hAb 1 (by decide)).2,(hAb 0 (by decide)).1,(hAb 0 (by decide)).2] at Yp
 have Yq:=Yf.join YM Yp KM (fun o ho=>by
  simp only[List.mem_cons,List.not_mem_nil,or_false] at ho
  rcases ho with rfl|rfl|rfl
  ·exact (hAb 4 (by decide)).1▸hf 4 (by decide)
  ·exact (hAb 1 (by decide)).1▸hf 1 (by decide)
  ·exact (hAb 0 (by decide)).1▸hf 0 (by decide))
 have q:=hQ h1 L1 n1 N1 Yq
 rw[←(hAb 4 (by decide)).1] at q
 exact mi X1 hx hlk hret rfl rfl rfl (by rw[hby];exact nG) (by decide) (by decide) e1 q
def ui:List AD:=[rT]++Gw
theorem IC:∀b9:Bool,ai (run (tb 32) ae 10 (1,3,6,14) 1000000 7 [] [] (226,(fr7 1 (sF 6) 5 (sB b9)),[],ui,8,3,6)) (333,(fr7 1 (sF 6) 5 (sB b9)),[vR 4],ui,8,3,6) []=true:=by decide +kernel
theorem IE {y0 y1 v0 v1:UInt64}(b9:Bool)(E:EVH p l e s m args below meth c T0 Z a0 h0 hM n0 L0 A Ab K Kb D W oM rest ui)(hy0:D 1=y0)(hy1:D 2=y1)(w0:W 30 = .double v0)(w1:W 31 = .double v1){Q:Option Value→Heap→List Loc→Prop}(hQ:∀(h:Heap)(L:List Loc),n0≤h.size→Fr n0 L→Yf Z n0 h ([(Ab 4,Kb 4,65,2,[.double y0,.double y1]),(Ab 1,Kb 1,65,2,[.double v0,.double v1]),(Ab 0,Kb 0,0,0,[])]++rest)→Q (some (.ref (Ab 4))) h L):Go p e below (bw s Q 3 6) T0 (mkF m 226 (dL A D W (fr7 1 (sF 6) 5 (sB b9))) []):=by
 refine goE (b_ (IC b9) E (by decide) rfl rfl trivial ?_) rfl
 intro T1 h1 L1 A1 K1 E1
 obtain⟨B1,D01,Y1,YM,KM,hf,hAb⟩:=E1
 obtain⟨X1,hx,hby,hml,hret,hlk,hown,hZ,hw,e1,n1,N1⟩:=B1
 have Yp:Yf Z n0 h1 [(A1 4,K1 4,65,2,[.double (D 1),.double (D 2)]),(A1 1,K1 1,65,2,[W 30,W 31]),(A1 0,K1 0,0,0,[])]:=Yf.pick (YgF.bare Y1 0 rfl (by decide)).fl [4,1,0] (by decide) rfl
 rw[hy0,hy1,w0,w1,(hAb 4 (by decide)).1,(hAb 4 (by decide)).2,(hAb 1 (by decide)).1,(hAb 1 (by decide)).2,(hAb 0 (by decide)).1,(hAb 0 (by decide)).2] at Yp
 have Yq:=Yf.join YM Yp KM (fun o ho=>by
  simp only[List.mem_cons,List.not_mem_nil,or_false] at ho
  rcases ho with rfl|rfl|rfl
  ·exact (hAb 4 (by decide)).1▸hf 4 (by decide)
  ·exact (hAb 1 (by decide)).1▸hf 1 (by decide)
  ·exact (hAb 0 (by decide)).1▸hf 0 (by decide))
 have q:=hQ h1 L1 n1 N1 Yq
 rw[←(hAb 4 (by decide)).1] at q
 exact mi X1 hx hlk hret rfl rfl rfl (by rw[hby];exact nG) (by decide) (by decide) e1 q
def gZ:List AD:=[Rg]++Gw
theorem IF:∀b9:Bool,ai (run (tb 32) ae 10 (1,3,6,14) 1000000 7 [] [] (226,(fr7 2 (sF 6) 5 (sB b9)),[],gZ,8,3,6)) (333,(fr7 2 (sF 6) 5 (sB b9)),[vR 4],gZ,8,3,6) []=true:=by decide +kernel
theorem iM {y0 y1 v0 v1:UInt64}(b9:Bool)(E:EVH p l e s m args below meth c T0 Z a0 h0 hM n0 L0 A Ab K Kb D W oM rest gZ)(hy0:D 1=y0)(hy1:D 2=y1)(w0:W 30 = .double v0)(w1:W 31 = .double v1){Q:Option Value→Heap→List Loc→Prop}(hQ:∀(h:Heap)(L:List Loc),n0≤h.size→Fr n0 L→Yf Z n0 h ([(Ab 4,Kb 4,65,2,[.double y0,.double y1]),(Ab 1,Kb 1,65,2,[.double v0,.double v1]),(Ab 0,Kb 0,0,0,[])]++rest)→Q (some (.ref (Ab 4))) h L):Go p e below (bw s Q 3 6) T0 (mkF m 226 (dL A D W (fr7 2 (sF 6) 5 (sB b9))) []):=by
 refine goE (b_ (IF b9) E (by decide) rfl rfl trivial ?_) rfl
 intro T1 h1 L1 A1 K1 E1
 obtain⟨B1,D01,Y1,YM,KM,hf,hAb⟩:=E1
 obtain⟨X1,hx,hby,hml,hret,hlk,hown,hZ,hw,e1,n1,N1⟩:=B1
 have Yp:Yf Z n0 h1 [(A1 4,K1 4,65,2,[.double (D 1),.double (D 2)]),(A1 1,K1 1,65,2,[W 30,W 31]),(A1 0,K1 0,0,0,[])]:=Yf.pick (YgF.bare Y1 0 rfl (by decide)).fl [4,1,0] (by decide) rfl
 rw[hy0,hy1,w0,w1,(hAb 4 (by decide)).1,(hAb 4 (by decide)).2,(hAb 1 (by decide)).1,(hAb 1 (by decide)).2,(hAb 0 (by decide)).1,(hAb 0 (by decide)).2] at Yp
 have Yq:=Yf.join YM Yp KM (fun o ho=>by
  simp only[List.mem_cons,List.not_mem_nil,or_false] at ho
  rcases ho with rfl|rfl|rfl
  ·exact (hAb 4 (by decide)).1▸hf 4 (by decide)
  ·exact (hAb 1 (by decide)).1▸hf 1 (by decide)
  ·exact (hAb 0 (by decide)).1▸hf 0 (by decide))
 have q:=hQ h1 L1 n1 N1 Yq
 rw[←(hAb 4 (by decide)).1] at q
 exact mi X1 hx hlk hret rfl rfl rfl (by rw[hby];exact nG) (by decide) (by decide) e1 q
def xA (A:Nat→Addr)(rs st pr:Addr):Nat→Addr:=aP [A 1,A 0,rs,st,pr,A 2,A 3,A 4,A 5,A 6]
def xK (K:Nat→ClassId)(rs st pr:ClassId):Nat→ClassId:=aQ [K 1,K 0,rs,st,pr,K 2,K 3,K 4,K 5,K 6]
def xW (W:Nat→Value)(o er ep es eo ev:List Value):Nat→Value:=fun k=>if k<30 then W k else if k<40 then o.getD (k-30) .null else if k<60 then er.getD (k-40) .null else if k<80 then ep.getD (k-60) .null else if k<100 then es.getD (k-80) .null else if k<110 then eo.getD (k-100) .null else ev.getD (k-110) .null
def Rh (Z:State)(n0:Nat)(vv fi:Addr)(rest:List OB)(v0 v1:UInt64)(Kf:Nat)(R:Int→Int→Prop)(v:Option Value)(h:Heap)(L:List Loc):Prop:=∃(pr:Addr)(kp kv kf:ClassId)(y0 y1:UInt64)(C0 C1:Int),v=some (.ref pr)∧Fr n0 L∧n0≤h.size∧Yf Z n0 h ([(pr,kp,65,2,[.double y0,.double y1]),(vv,kv,65,2,[.double v0,.double v1]),(fi,kf,0,0,[])]++rest)∧R C0 C1∧ah C0 Kf y0∧ah C1 Kf y1∧(-8796093022208≤C0∧C0≤8796093022208)∧(-8796093022208≤C1∧C1≤8796093022208)
abbrev EC:=Int32×List Value×List Value×List Value×List Value×List Value
def dE (c:EC):List AD:=dsE c.1 c.2.1 c.2.2.1 c.2.2.2.1 c.2.2.2.2.1 c.2.2.2.2.2
def xV (A:Nat→Addr)(D:Nat→UInt64)(W:Nat→Value)(ra rb sa sb:UInt64)(c:EC):Nat→Value:=xW W [.double (D 1),.double (D 2),.double ra,.double rb,.double sa,.double sb] (c.2.1.map (den A D W)) (c.2.2.1.map (den A D W)) (c.2.2.2.1.map (den A D W)) (c.2.2.2.2.1.map (den A D W)) (c.2.2.2.2.2.map (den A D W))
def oX (pr rs st:Addr)(kp kr ks:ClassId)(y0 y1 ra rb sa sb:UInt64):List OB:=[(pr,kp,65,2,[.double y0,.double y1]),(rs,kr,65,2,[.double ra,.double rb]),(st,ks,65,2,[.double sa,.double sb])]
variable {M00 M01 M10 M11 J0 J1 i0 i1 k1 j1 k2 j2:Int}{lu:List OB}{C:EC}
def XH (l:Launch)(Z:State)(a0:Array Value)(n0:Nat)(h0:Heap)(D:Nat→UInt64)(W:Nat→Value)(lu:List OB)(M00 M01 M10 M11 J0 J1 i0 i1:Int):Prop:=(∀d∈tables_1,d.before a0 Z=true)∧bl l Z n0 M00 M01 M10 M11 W lu∧n0≤h0.size∧D 0=0∧Jvm.FP.Core.DInt i0 (D 1)∧Jvm.FP.Core.DInt i1 (D 2)∧JT M00 M01 M10 M11 J0 J1 i0 i1
abbrev X7R (l:Launch)(Z:State)(n0:Nat)(h0:Heap)(A:Nat→Addr)(D:Nat→UInt64)(rest:List OB)(Kf:Nat)(R:Int→Int→Prop):Prop:=MetFree l (cJ 32) (head1 [Jvm.Cond.code (cJ 32) (aH 32) (ic 32) (pj 32)] (jc (1,3,6,14))) (fun a U=>a=#[.ref (A 1),.ref (A 0)]∧Z.Warmed39 U.vm∧U.heap=h0) (fun _ _ _ _ _=>True) (fun _ U o U'=>∃v L,o = .returned v∧Rh Z n0 (A 0) (A 1) rest (D 1) (D 2) Kf R v U'.heap L∧FrameEnd U o U' L (jc (1,3,6,14)).cells (jc (1,3,6,14)).slots)
theorem IG {T1:State}{h1:Heap}{L1:List Loc}{pr rs st:Addr}{kp kr ks:ClassId}{y0 y1 ra rb sa sb:UInt64}{D':Nat→UInt64}{W':Nat→Value}(B1:LVS p l e s m args below meth c T1 Z a0 h1 n0 L1 3 6)(Y1:Yf Z n0 h1 (oX pr rs st kp kr ks y0 y1 ra rb sa sb++(an A K D W 0 (dE C)++rest)))(d0:D' 0=0)(e':[4,3,1,2,0,5,6,7,8,9].map (fun j=>(oX pr rs st kp kr ks y0 y1 ra rb sa sb++an A K D W 0 (dE C))[j]?)=(an (xA A rs st pr) (xK K kr ks kp) D' W' 0 ds).map some):EVH p l e s m args below meth c T1 Z a0 h1 h1 n0 L1 (xA A rs st pr) (xA A rs st pr) (xK K kr ks kp) (xK K kr ks kp) D' W' (oX pr rs st kp kr ks y0 y1 ra rb sa sb++an A K D W 0 (dE C)) rest ds:=by
 refine⟨B1,d0,?_,Y1,Keep.refl _ _,fun i hi=>?_,fun i _=>⟨rfl,rfl⟩⟩
 ·exact Yf.to (Yf.pick (Yf.pick (os':=oX pr rs st kp kr ks y0 y1 ra rb sa sb++an A K D W 0 (dE C)) Y1 [0,1,2,3,4,5,6,7,8,9] (by decide) rfl) [4,3,1,2,0,5,6,7,8,9] (by decide) e') rfl
 ·exact match i,hi with
  | 0,_=>Or.inl (show A 1∈[pr,rs,st,A 0,A 1,A 2,A 3,A 4,A 5,A 6] by simp)
  | 1,_=>Or.inl (show A 0∈[pr,rs,st,A 0,A 1,A 2,A 3,A 4,A 5,A 6] by simp)
  | 2,_=>Or.inl (show rs∈[pr,rs,st,A 0,A 1,A 2,A 3,A 4,A 5,A 6] by simp)
  | 3,_=>Or.inl (show st∈[pr,rs,st,A 0,A 1,A 2,A 3,A 4,A 5,A 6] by simp)
  | 4,_=>Or.inl (show pr∈[pr,rs,st,A 0,A 1,A 2,A 3,A 4,A 5,A 6] by simp)
  | 5,_=>Or.inl (show A 2∈[pr,rs,st,A 0,A 1,A 2,A 3,A 4,A 5,A 6] by simp)
  | 6,_=>Or.inl (show A 3∈[pr,rs,st,A 0,A 1,A 2,A 3,A 4,A 5,A 6] by simp)
  | 7,_=>Or.inl (show A 4∈[pr,rs,st,A 0,A 1,A 2,A 3,A 4,A 5,A 6] by simp)
  | 8,_=>Or.inl (show A 5∈[pr,rs,st,A 0,A 1,A 2,A 3,A 4,A 5,A 6] by simp)
  | 9,_=>Or.inl (show A 6∈[pr,rs,st,A 0,A 1,A 2,A 3,A 4,A 5,A 6] by simp)
theorem x7G {R:Int→Int→Prop}(q3 q4:UInt64)(H:XH l Z a0 n0 h0 D W lu M00 M01 M10 M11 J0 J1 i0 i1)(Y:Yf Z n0 h0 (an A K D W 0 (dE C)++(lu++rest)))(e':∀(pr rs st:Addr)(kp kr ks:ClassId)(y0 y1 x7 ra rb sa sb u6 u9:UInt64),[4,3,1,2,0,5,6,7,8,9].map (fun j=>(oX pr rs st kp kr ks y0 y1 ra rb sa sb++an A K D W 0 (dE C))[j]?)=(an (xA A rs st pr) (xK K kr ks kp) (ac [0,y0,y1,q3,q4,x7,u6,u9]) (xV A D W ra rb sa sb C) 0 ds).map some)
  (KK:∀(p:Program) (e:Env) (s:State) (m:MethodId) (args:Array Value) (below:List Frame) (meth:Method) (c:Code) (T1:State) (h1:Heap) (L1:List Loc) (pr rs st:Addr) (kp kr ks:ClassId) (y0 y1 x7 ra rb sa sb u6 u9:UInt64) (b9:Bool),EVH p l e s m args below meth c T1 Z a0 h1 h1 n0 L1 (xA A rs st pr) (xA A rs st pr) (xK K kr ks kp) (xK K kr ks kp) (ac [0,y0,y1,q3,q4,x7,u6,u9]) (xV A D W ra rb sa sb C) (oX pr rs st kp kr ks y0 y1 ra rb sa sb++an A K D W 0 (dE C)) rest ds→ah J0 7 y0→ah J1 7 y1→(-134217728≤J0∧J0≤134217728)→(-134217728≤J1∧J1≤134217728)→Go p e below (bw s (Rh Z n0 (A 0) (A 1) rest (D 1) (D 2) Kf R) 3 6) T1 (mkF m 226 (dL (xA A rs st pr) (ac [0,y0,y1,q3,q4,x7,u6,u9]) (xV A D W ra rb sa sb C) (fr7 0 (sF 6) 5 (sB b9))) [])):X7R l Z n0 h0 A D rest Kf R:=by
 obtain⟨hw,HT,Z0,D0,d0,d1,J⟩:=H
 refine o9 (uR (mn:=32) rfl aB) (AK (as:=[vR 1,vR 0]) rfl A D W) ?_
 intro p e s m below meth c T0 X0 hx hby hml hret hlk hnm hown hZ e0
 refine goE (HT p e s m _ below meth c T0 a0 _ h0 A K D J0 J1 i0 i1 C.1 C.2.1 C.2.2.1 C.2.2.2.1 C.2.2.2.2.1 C.2.2.2.2.2 rest ⟨X0,hx,hby,hml,hret,hlk,hown,hZ,hw,e0,Z0,Fr.nil n0⟩ D0 d0 d1 J Y ?_) rfl
 intro T1 h1 L1 pr rs st kp kr ks y0 y1 x7 ra rb sa sb w6 j9 b9 B1 Y1 F0 F1
 obtain⟨u6,rfl⟩:∃w,iW w=w6:=⟨_,be w6⟩
 obtain⟨u9,rfl⟩:∃w,iW w=j9:=⟨_,be j9⟩
 obtain⟨q0,q1,bJ0,bJ1,-,-⟩:=J
 exact goE (KK p e s m _ below meth c T1 h1 L1 pr rs st kp kr ks y0 y1 x7 ra rb sa sb u6 u9 b9 (IG B1 Y1 rfl (e' pr rs st kp kr ks y0 y1 x7 ra rb sa sb u6 u9)) F0 F1 bJ0 bJ1) (by cases b9<;>rfl)
def Ri:EC:=(0,zI 16 [],zD 16 [],zI 17 [],zI 4 [],zD 4 [])
theorem RU (H:XH l Z a0 n0 h0 D W lu M00 M01 M10 M11 J0 J1 i0 i1)  (Y:Yf Z n0 h0 (an A K D W 0 (dE Ri)++(lu++rest))):X7R l Z n0 h0 A D rest 7 ((fun J0 J1 C0 C1=>C0=J0∧C1=J1) J0 J1):=by
 refine x7G (ds:=IA) 0 0 H Y (by intros;rfl) ?_
 intro p e s m args below meth c T1 h1 L1 pr rs st kp kr ks y0 y1 x7 ra rb sa sb u6 u9 b9 E F0 F1 bJ0 bJ1
 exact RT b9 E rfl rfl rfl rfl (fun h L hn N Yq=>⟨pr,kp,K 0,K 1,y0,y1,J0,J1,rfl,N,hn,Yq,⟨rfl,rfl⟩,F0,F1,by omega,by omega⟩)
def uj:EC:=(1,zI 16 [],zD 16 [vD 3],zI 17 [vI 0,vI 1],zI 4 [vI 1],zD 4 [vD 4])
theorem OQ (H:XH l Z a0 n0 h0 D W lu M00 M01 M10 M11 J0 J1 i0 i1)(H1:PB k1 j1 (D 3) (D 4))(Y:Yf Z n0 h0 (an A K D W 0 (dE uj)++(lu++rest))):X7R l Z n0 h0 A D rest 10 ((fun J0 J1 C0 C1=>Et false k1 j1 J0 J1 C0 C1) J0 J1):=by
 refine x7G (ds:=dN 1 2) (D 3) (D 4) H Y (by intros;rfl) ?_
 intro p e s m args below meth c T1 h1 L1 pr rs st kp kr ks y0 y1 x7 ra rb sa sb u6 u9 b9 E F0 F1 bJ0 bJ1
 refine yT b9 E H1 F0 F1 (N:=134217728) (by decide) bJ0 bJ1 (by decide) ?_
 intro T1_ h1_ L1_ A1_ K1_ y01 y11 x1 w1 c1 C01 C11 E1 R1 G01 G11 bc1 bd1
 exact goE (IE (D:=(ac [0,y01,y11,D 3,D 4,x1,0,w1])) c1 (E1.re (D':=(ac [0,y01,y11,D 3,D 4,x1,0,w1])) (W':=(xV A D W ra rb sa sb uj)) (ds':=ui) rfl rfl) rfl rfl rfl rfl (fun h L hn N Yq=>⟨pr,kp,K 0,K 1,y01,y11,C01,C11,rfl,N,hn,Yq,R1,G01,G11,by omega,by omega⟩)) (by cases c1<;>rfl)
def uk:EC:=(1,zI 16 [],zD 16 [vD 3],zI 17 [],zI 4 [],zD 4 [])
theorem OR (H:XH l Z a0 n0 h0 D W lu M00 M01 M10 M11 J0 J1 i0 i1)(H1:PB k1 j1 (D 3) (D 4))(hz1:j1=0)(Y:Yf Z n0 h0 (an A K D W 0 (dE uk)++(lu++rest))):X7R l Z n0 h0 A D rest 10 ((fun J0 J1 C0 C1=>Et false k1 j1 J0 J1 C0 C1) J0 J1):=by
 refine x7G (ds:=dO 1 2) (D 3) (D 4) H Y (by intros;rfl) ?_
 intro p e s m args below meth c T1 h1 L1 pr rs st kp kr ks y0 y1 x7 ra rb sa sb u6 u9 b9 E F0 F1 bJ0 bJ1
 refine yU b9 E H1 hz1 F0 F1 (N:=134217728) (by decide) bJ0 bJ1 (by decide) ?_
 intro T1_ h1_ L1_ A1_ K1_ y01 y11 x1 w1 c1 C01 C11 E1 R1 G01 G11 bc1 bd1
 exact goE (IE (D:=(ac [0,y01,y11,D 3,D 4,x1,0,w1])) c1 (E1.re (D':=(ac [0,y01,y11,D 3,D 4,x1,0,w1])) (W':=(xV A D W ra rb sa sb uk)) (ds':=ui) rfl rfl) rfl rfl rfl rfl (fun h L hn N Yq=>⟨pr,kp,K 0,K 1,y01,y11,C01,C11,rfl,N,hn,Yq,R1,G01,G11,by omega,by omega⟩)) (by cases c1<;>rfl)
def ul:EC:=(1,zI 16 [vI 1],zD 16 [vD 3],zI 17 [vI 0,vI 1],zI 4 [],zD 4 [vD 4])
theorem OS (H:XH l Z a0 n0 h0 D W lu M00 M01 M10 M11 J0 J1 i0 i1)(H1:PB k1 j1 (D 3) (D 4))(Y:Yf Z n0 h0 (an A K D W 0 (dE ul)++(lu++rest))):X7R l Z n0 h0 A D rest 10 ((fun J0 J1 C0 C1=>Et true k1 j1 J0 J1 C0 C1) J0 J1):=by
 refine x7G (ds:=dP 1 2) (D 3) (D 4) H Y (by intros;rfl) ?_
 intro p e s m args below meth c T1 h1 L1 pr rs st kp kr ks y0 y1 x7 ra rb sa sb u6 u9 b9 E F0 F1 bJ0 bJ1
 refine yV b9 E H1 F0 F1 (N:=134217728) (by decide) bJ0 bJ1 (by decide) ?_
 intro T1_ h1_ L1_ A1_ K1_ y01 y11 x1 w1 c1 C01 C11 E1 R1 G01 G11 bc1 bd1
 exact goE (IE (D:=(ac [0,y01,y11,D 3,D 4,x1,1,w1])) c1 (E1.re (D':=(ac [0,y01,y11,D 3,D 4,x1,1,w1])) (W':=(xV A D W ra rb sa sb ul)) (ds':=ui) rfl rfl) rfl rfl rfl rfl (fun h L hn N Yq=>⟨pr,kp,K 0,K 1,y01,y11,C01,C11,rfl,N,hn,Yq,R1,G01,G11,by omega,by omega⟩)) (by cases c1<;>rfl)
def um:EC:=(1,zI 16 [vI 1],zD 16 [vD 3],zI 17 [],zI 4 [],zD 4 [])
theorem OT (H:XH l Z a0 n0 h0 D W lu M00 M01 M10 M11 J0 J1 i0 i1)(H1:PB k1 j1 (D 3) (D 4))(hz1:j1=0)(Y:Yf Z n0 h0 (an A K D W 0 (dE um)++(lu++rest))):X7R l Z n0 h0 A D rest 10 ((fun J0 J1 C0 C1=>Et true k1 j1 J0 J1 C0 C1) J0 J1):=by
 refine x7G (ds:=dQ 1 2) (D 3) (D 4) H Y (by intros;rfl) ?_
 intro p e s m args below meth c T1 h1 L1 pr rs st kp kr ks y0 y1 x7 ra rb sa sb u6 u9 b9 E F0 F1 bJ0 bJ1
 refine yW b9 E H1 hz1 F0 F1 (N:=134217728) (by decide) bJ0 bJ1 (by decide) ?_
 intro T1_ h1_ L1_ A1_ K1_ y01 y11 x1 w1 c1 C01 C11 E1 R1 G01 G11 bc1 bd1
 exact goE (IE (D:=(ac [0,y01,y11,D 3,D 4,x1,1,w1])) c1 (E1.re (D':=(ac [0,y01,y11,D 3,D 4,x1,1,w1])) (W':=(xV A D W ra rb sa sb um)) (ds':=ui) rfl rfl) rfl rfl rfl rfl (fun h L hn N Yq=>⟨pr,kp,K 0,K 1,y01,y11,C01,C11,rfl,N,hn,Yq,R1,G01,G11,by omega,by omega⟩)) (by cases c1<;>rfl)
def jT:EC:=(2,zI 16 [],zD 16 [vD 3,vD 5],zI 17 [vI 0,vI 1,vI 2],zI 4 [vI 1,vI 1],zD 4 [vD 4,vD 6])
theorem Gx (H:XH l Z a0 n0 h0 D W lu M00 M01 M10 M11 J0 J1 i0 i1)(H1:PB k1 j1 (D 3) (D 4))(H2:PB k2 j2 (D 5) (D 6))(Y:Yf Z n0 h0 (an A K D W 0 (dE jT)++(lu++rest))):X7R l Z n0 h0 A D rest 13 ((fun J0 J1 C0 C1=>∃z0 z1,Et false k1 j1 J0 J1 z0 z1∧Et false k2 j2 z0 z1 C0 C1) J0 J1):=by
 refine x7G (ds:=cz 1 2) (D 3) (D 4) H Y (by intros;rfl) ?_
 intro p e s m args below meth c T1 h1 L1 pr rs st kp kr ks y0 y1 x7 ra rb sa sb u6 u9 b9 E F0 F1 bJ0 bJ1
 refine iG b9 E H1 F0 F1 (N:=134217728) (by decide) bJ0 bJ1 (by decide) ?_
 intro T1_ h1_ L1_ A1_ K1_ y01 y11 x1 w1 c1 C01 C11 E1 R1 G01 G11 bc1 bd1
 refine goE (oL (D:=(ac [0,y01,y11,D 5,D 6,x1,0,w1])) c1 (E1.re (D':=(ac [0,y01,y11,D 5,D 6,x1,0,w1])) (W':=(xV A D W ra rb sa sb jT)) (ds':=dj 1 2) rfl rfl) H2 G01 G11 (N:=18253611008) (by decide) (by omega) (by omega) (by decide) ?_) (by cases c1<;>rfl)
 intro T2_ h2_ L2_ A2_ K2_ y02 y12 x2 w2 c2 C02 C12 E2 R2 G02 G12 bc2 bd2
 exact goE (iM (D:=(ac [0,y02,y12,D 5,D 6,x2,0,w2])) c2 (E2.re (D':=(ac [0,y02,y12,D 5,D 6,x2,0,w2])) (W':=(xV A D W ra rb sa sb jT)) (ds':=gZ) rfl rfl) rfl rfl rfl rfl (fun h L hn N Yq=>⟨pr,kp,K 0,K 1,y02,y12,C02,C12,rfl,N,hn,Yq,⟨_,_,R1,R2⟩,G02,G12,by omega,by omega⟩)) (by cases c2<;>rfl)
def jU:EC:=(2,zI 16 [],zD 16 [vD 3,vD 5],zI 17 [vI 0,vI 1,vI 1],zI 4 [vI 1],zD 4 [vD 4])
theorem Gy (H:XH l Z a0 n0 h0 D W lu M00 M01 M10 M11 J0 J1 i0 i1)(H1:PB k1 j1 (D 3) (D 4))(H2:PB k2 j2 (D 5) (D 6))(hz2:j2=0)(Y:Yf Z n0 h0 (an A K D W 0 (dE jU)++(lu++rest))):X7R l Z n0 h0 A D rest 13 ((fun J0 J1 C0 C1=>∃z0 z1,Et false k1 j1 J0 J1 z0 z1∧Et false k2 j2 z0 z1 C0 C1) J0 J1):=by
 refine x7G (ds:=cz 1 2) (D 3) (D 4) H Y (by intros;rfl) ?_
 intro p e s m args below meth c T1 h1 L1 pr rs st kp kr ks y0 y1 x7 ra rb sa sb u6 u9 b9 E F0 F1 bJ0 bJ1
 refine iG b9 E H1 F0 F1 (N:=134217728) (by decide) bJ0 bJ1 (by decide) ?_
 intro T1_ h1_ L1_ A1_ K1_ y01 y11 x1 w1 c1 C01 C11 E1 R1 G01 G11 bc1 bd1
 refine goE (oN (D:=(ac [0,y01,y11,D 5,D 6,x1,0,w1])) c1 (E1.re (D':=(ac [0,y01,y11,D 5,D 6,x1,0,w1])) (W':=(xV A D W ra rb sa sb jU)) (ds':=dm 1 2) rfl rfl) H2 hz2 G01 G11 (N:=18253611008) (by decide) (by omega) (by omega) (by decide) ?_) (by cases c1<;>rfl)
 intro T2_ h2_ L2_ A2_ K2_ y02 y12 x2 w2 c2 C02 C12 E2 R2 G02 G12 bc2 bd2
 exact goE (iM (D:=(ac [0,y02,y12,D 5,D 6,x2,0,w2])) c2 (E2.re (D':=(ac [0,y02,y12,D 5,D 6,x2,0,w2])) (W':=(xV A D W ra rb sa sb jU)) (ds':=gZ) rfl rfl) rfl rfl rfl rfl (fun h L hn N Yq=>⟨pr,kp,K 0,K 1,y02,y12,C02,C12,rfl,N,hn,Yq,⟨_,_,R1,R2⟩,G02,G12,by omega,by omega⟩)) (by cases c2<;>rfl)
def jV:EC:=(2,zI 16 [vI 0,vI 1],zD 16 [vD 3,vD 5],zI 17 [vI 0,vI 1,vI 2],zI 4 [vI 1],zD 4 [vD 4,vD 6])
theorem Gz (H:XH l Z a0 n0 h0 D W lu M00 M01 M10 M11 J0 J1 i0 i1)(H1:PB k1 j1 (D 3) (D 4))(H2:PB k2 j2 (D 5) (D 6))(Y:Yf Z n0 h0 (an A K D W 0 (dE jV)++(lu++rest))):X7R l Z n0 h0 A D rest 13 ((fun J0 J1 C0 C1=>∃z0 z1,Et false k1 j1 J0 J1 z0 z1∧Et true k2 j2 z0 z1 C0 C1) J0 J1):=by
 refine x7G (ds:=cz 1 2) (D 3) (D 4) H Y (by intros;rfl) ?_
 intro p e s m args below meth c T1 h1 L1 pr rs st kp kr ks y0 y1 x7 ra rb sa sb u6 u9 b9 E F0 F1 bJ0 bJ1
 refine iG b9 E H1 F0 F1 (N:=134217728) (by decide) bJ0 bJ1 (by decide) ?_
 intro T1_ h1_ L1_ A1_ K1_ y01 y11 x1 w1 c1 C01 C11 E1 R1 G01 G11 bc1 bd1
 refine goE (oO (D:=(ac [0,y01,y11,D 5,D 6,x1,0,w1])) c1 (E1.re (D':=(ac [0,y01,y11,D 5,D 6,x1,0,w1])) (W':=(xV A D W ra rb sa sb jV)) (ds':=dn 1 2) rfl rfl) H2 G01 G11 (N:=18253611008) (by decide) (by omega) (by omega) (by decide) ?_) (by cases c1<;>rfl)
 intro T2_ h2_ L2_ A2_ K2_ y02 y12 x2 w2 c2 C02 C12 E2 R2 G02 G12 bc2 bd2
 exact goE (iM (D:=(ac [0,y02,y12,D 5,D 6,x2,1,w2])) c2 (E2.re (D':=(ac [0,y02,y12,D 5,D 6,x2,1,w2])) (W':=(xV A D W ra rb sa sb jV)) (ds':=gZ) rfl rfl) rfl rfl rfl rfl (fun h L hn N Yq=>⟨pr,kp,K 0,K 1,y02,y12,C02,C12,rfl,N,hn,Yq,⟨_,_,R1,R2⟩,G02,G12,by omega,by omega⟩)) (by cases c2<;>rfl)
def jW:EC:=(2,zI 16 [vI 0,vI 1],zD 16 [vD 3,vD 5],zI 17 [vI 0,vI 1,vI 1],zI 4 [vI 1],zD 4 [vD 4])
theorem GA (H:XH l Z a0 n0 h0 D W lu M00 M01 M10 M11 J0 J1 i0 i1)(H1:PB k1 j1 (D 3) (D 4))(H2:PB k2 j2 (D 5) (D 6))(hz2:j2=0)(Y:Yf Z n0 h0 (an A K D W 0 (dE jW)++(lu++rest))):X7R l Z n0 h0 A D rest 13 ((fun J0 J1 C0 C1=>∃z0 z1,Et false k1 j1 J0 J1 z0 z1∧Et true k2 j2 z0 z1 C0 C1) J0 J1):=by
 refine x7G (ds:=cz 1 2) (D 3) (D 4) H Y (by intros;rfl) ?_
 intro p e s m args below meth c T1 h1 L1 pr rs st kp kr ks y0 y1 x7 ra rb sa sb u6 u9 b9 E F0 F1 bJ0 bJ1
 refine iG b9 E H1 F0 F1 (N:=134217728) (by decide) bJ0 bJ1 (by decide) ?_
 intro T1_ h1_ L1_ A1_ K1_ y01 y11 x1 w1 c1 C01 C11 E1 R1 G01 G11 bc1 bd1
 refine goE (oP (D:=(ac [0,y01,y11,D 5,D 6,x1,0,w1])) c1 (E1.re (D':=(ac [0,y01,y11,D 5,D 6,x1,0,w1])) (W':=(xV A D W ra rb sa sb jW)) (ds':=dp 1 2) rfl rfl) H2 hz2 G01 G11 (N:=18253611008) (by decide) (by omega) (by omega) (by decide) ?_) (by cases c1<;>rfl)
 intro T2_ h2_ L2_ A2_ K2_ y02 y12 x2 w2 c2 C02 C12 E2 R2 G02 G12 bc2 bd2
 exact goE (iM (D:=(ac [0,y02,y12,D 5,D 6,x2,1,w2])) c2 (E2.re (D':=(ac [0,y02,y12,D 5,D 6,x2,1,w2])) (W':=(xV A D W ra rb sa sb jW)) (ds':=gZ) rfl rfl) rfl rfl rfl rfl (fun h L hn N Yq=>⟨pr,kp,K 0,K 1,y02,y12,C02,C12,rfl,N,hn,Yq,⟨_,_,R1,R2⟩,G02,G12,by omega,by omega⟩)) (by cases c2<;>rfl)
def jX:EC:=(2,zI 16 [],zD 16 [vD 3,vD 5],zI 17 [vI 0,vI 0,vI 1],zI 4 [vI 1],zD 4 [vD 6])
theorem GB (H:XH l Z a0 n0 h0 D W lu M00 M01 M10 M11 J0 J1 i0 i1)(H1:PB k1 j1 (D 3) (D 4))(hz1:j1=0)(H2:PB k2 j2 (D 5) (D 6))(Y:Yf Z n0 h0 (an A K D W 0 (dE jX)++(lu++rest))):X7R l Z n0 h0 A D rest 13 ((fun J0 J1 C0 C1=>∃z0 z1,Et false k1 j1 J0 J1 z0 z1∧Et false k2 j2 z0 z1 C0 C1) J0 J1):=by
 refine x7G (ds:=cB 1 2) (D 3) (D 4) H Y (by intros;rfl) ?_
 intro p e s m args below meth c T1 h1 L1 pr rs st kp kr ks y0 y1 x7 ra rb sa sb u6 u9 b9 E F0 F1 bJ0 bJ1
 refine iH b9 E H1 hz1 F0 F1 (N:=134217728) (by decide) bJ0 bJ1 (by decide) ?_
 intro T1_ h1_ L1_ A1_ K1_ y01 y11 x1 w1 c1 C01 C11 E1 R1 G01 G11 bc1 bd1
 refine goE (oH (D:=(ac [0,y01,y11,D 5,D 6,x1,0,w1])) c1 (E1.re (D':=(ac [0,y01,y11,D 5,D 6,x1,0,w1])) (W':=(xV A D W ra rb sa sb jX)) (ds':=df 1 2) rfl rfl) H2 G01 G11 (N:=18253611008) (by decide) (by omega) (by omega) (by decide) ?_) (by cases c1<;>rfl)
 intro T2_ h2_ L2_ A2_ K2_ y02 y12 x2 w2 c2 C02 C12 E2 R2 G02 G12 bc2 bd2
 exact goE (iM (D:=(ac [0,y02,y12,D 5,D 6,x2,0,w2])) c2 (E2.re (D':=(ac [0,y02,y12,D 5,D 6,x2,0,w2])) (W':=(xV A D W ra rb sa sb jX)) (ds':=gZ) rfl rfl) rfl rfl rfl rfl (fun h L hn N Yq=>⟨pr,kp,K 0,K 1,y02,y12,C02,C12,rfl,N,hn,Yq,⟨_,_,R1,R2⟩,G02,G12,by omega,by omega⟩)) (by cases c2<;>rfl)
def jY:EC:=(2,zI 16 [],zD 16 [vD 3,vD 5],zI 17 [],zI 4 [],zD 4 [])
theorem GC (H:XH l Z a0 n0 h0 D W lu M00 M01 M10 M11 J0 J1 i0 i1)(H1:PB k1 j1 (D 3) (D 4))(hz1:j1=0)(H2:PB k2 j2 (D 5) (D 6))(hz2:j2=0)(Y:Yf Z n0 h0 (an A K D W 0 (dE jY)++(lu++rest))):X7R l Z n0 h0 A D rest 13 ((fun J0 J1 C0 C1=>∃z0 z1,Et false k1 j1 J0 J1 z0 z1∧Et false k2 j2 z0 z1 C0 C1) J0 J1):=by
 refine x7G (ds:=cB 1 2) (D 3) (D 4) H Y (by intros;rfl) ?_
 intro p e s m args below meth c T1 h1 L1 pr rs st kp kr ks y0 y1 x7 ra rb sa sb u6 u9 b9 E F0 F1 bJ0 bJ1
 refine iH b9 E H1 hz1 F0 F1 (N:=134217728) (by decide) bJ0 bJ1 (by decide) ?_
 intro T1_ h1_ L1_ A1_ K1_ y01 y11 x1 w1 c1 C01 C11 E1 R1 G01 G11 bc1 bd1
 refine goE (oI (D:=(ac [0,y01,y11,D 5,D 6,x1,0,w1])) c1 (E1.re (D':=(ac [0,y01,y11,D 5,D 6,x1,0,w1])) (W':=(xV A D W ra rb sa sb jY)) (ds':=dg 1 2) rfl rfl) H2 hz2 G01 G11 (N:=18253611008) (by decide) (by omega) (by omega) (by decide) ?_) (by cases c1<;>rfl)
 intro T2_ h2_ L2_ A2_ K2_ y02 y12 x2 w2 c2 C02 C12 E2 R2 G02 G12 bc2 bd2
 exact goE (iM (D:=(ac [0,y02,y12,D 5,D 6,x2,0,w2])) c2 (E2.re (D':=(ac [0,y02,y12,D 5,D 6,x2,0,w2])) (W':=(xV A D W ra rb sa sb jY)) (ds':=gZ) rfl rfl) rfl rfl rfl rfl (fun h L hn N Yq=>⟨pr,kp,K 0,K 1,y02,y12,C02,C12,rfl,N,hn,Yq,⟨_,_,R1,R2⟩,G02,G12,by omega,by omega⟩)) (by cases c2<;>rfl)
def jZ:EC:=(2,zI 16 [vI 0,vI 1],zD 16 [vD 3,vD 5],zI 17 [vI 0,vI 0,vI 1],zI 4 [],zD 4 [vD 6])
theorem GD (H:XH l Z a0 n0 h0 D W lu M00 M01 M10 M11 J0 J1 i0 i1)(H1:PB k1 j1 (D 3) (D 4))(hz1:j1=0)(H2:PB k2 j2 (D 5) (D 6))(Y:Yf Z n0 h0 (an A K D W 0 (dE jZ)++(lu++rest))):X7R l Z n0 h0 A D rest 13 ((fun J0 J1 C0 C1=>∃z0 z1,Et false k1 j1 J0 J1 z0 z1∧Et true k2 j2 z0 z1 C0 C1) J0 J1):=by
 refine x7G (ds:=cB 1 2) (D 3) (D 4) H Y (by intros;rfl) ?_
 intro p e s m args below meth c T1 h1 L1 pr rs st kp kr ks y0 y1 x7 ra rb sa sb u6 u9 b9 E F0 F1 bJ0 bJ1
 refine iH b9 E H1 hz1 F0 F1 (N:=134217728) (by decide) bJ0 bJ1 (by decide) ?_
 intro T1_ h1_ L1_ A1_ K1_ y01 y11 x1 w1 c1 C01 C11 E1 R1 G01 G11 bc1 bd1
 refine goE (oJ (D:=(ac [0,y01,y11,D 5,D 6,x1,0,w1])) c1 (E1.re (D':=(ac [0,y01,y11,D 5,D 6,x1,0,w1])) (W':=(xV A D W ra rb sa sb jZ)) (ds':=dh 1 2) rfl rfl) H2 G01 G11 (N:=18253611008) (by decide) (by omega) (by omega) (by decide) ?_) (by cases c1<;>rfl)
 intro T2_ h2_ L2_ A2_ K2_ y02 y12 x2 w2 c2 C02 C12 E2 R2 G02 G12 bc2 bd2
 exact goE (iM (D:=(ac [0,y02,y12,D 5,D 6,x2,1,w2])) c2 (E2.re (D':=(ac [0,y02,y12,D 5,D 6,x2,1,w2])) (W':=(xV A D W ra rb sa sb jZ)) (ds':=gZ) rfl rfl) rfl rfl rfl rfl (fun h L hn N Yq=>⟨pr,kp,K 0,K 1,y02,y12,C02,C12,rfl,N,hn,Yq,⟨_,_,R1,R2⟩,G02,G12,by omega,by omega⟩)) (by cases c2<;>rfl)
def j6:EC:=(2,zI 16 [vI 0,vI 1],zD 16 [vD 3,vD 5],zI 17 [],zI 4 [],zD 4 [])
theorem GE (H:XH l Z a0 n0 h0 D W lu M00 M01 M10 M11 J0 J1 i0 i1)(H1:PB k1 j1 (D 3) (D 4))(hz1:j1=0)(H2:PB k2 j2 (D 5) (D 6))(hz2:j2=0)(Y:Yf Z n0 h0 (an A K D W 0 (dE j6)++(lu++rest))):X7R l Z n0 h0 A D rest 13 ((fun J0 J1 C0 C1=>∃z0 z1,Et false k1 j1 J0 J1 z0 z1∧Et true k2 j2 z0 z1 C0 C1) J0 J1):=by
 refine x7G (ds:=cB 1 2) (D 3) (D 4) H Y (by intros;rfl) ?_
 intro p e s m args below meth c T1 h1 L1 pr rs st kp kr ks y0 y1 x7 ra rb sa sb u6 u9 b9 E F0 F1 bJ0 bJ1
 refine iH b9 E H1 hz1 F0 F1 (N:=134217728) (by decide) bJ0 bJ1 (by decide) ?_
 intro T1_ h1_ L1_ A1_ K1_ y01 y11 x1 w1 c1 C01 C11 E1 R1 G01 G11 bc1 bd1
 refine goE (oK (D:=(ac [0,y01,y11,D 5,D 6,x1,0,w1])) c1 (E1.re (D':=(ac [0,y01,y11,D 5,D 6,x1,0,w1])) (W':=(xV A D W ra rb sa sb j6)) (ds':=di 1 2) rfl rfl) H2 hz2 G01 G11 (N:=18253611008) (by decide) (by omega) (by omega) (by decide) ?_) (by cases c1<;>rfl)
 intro T2_ h2_ L2_ A2_ K2_ y02 y12 x2 w2 c2 C02 C12 E2 R2 G02 G12 bc2 bd2
 exact goE (iM (D:=(ac [0,y02,y12,D 5,D 6,x2,1,w2])) c2 (E2.re (D':=(ac [0,y02,y12,D 5,D 6,x2,1,w2])) (W':=(xV A D W ra rb sa sb j6)) (ds':=gZ) rfl rfl) rfl rfl rfl rfl (fun h L hn N Yq=>⟨pr,kp,K 0,K 1,y02,y12,C02,C12,rfl,N,hn,Yq,⟨_,_,R1,R2⟩,G02,G12,by omega,by omega⟩)) (by cases c2<;>rfl)
def j7:EC:=(2,zI 16 [vI 1],zD 16 [vD 3,vD 5],zI 17 [vI 0,vI 1,vI 2],zI 4 [vI 0,vI 1],zD 4 [vD 4,vD 6])
theorem GF (H:XH l Z a0 n0 h0 D W lu M00 M01 M10 M11 J0 J1 i0 i1)(H1:PB k1 j1 (D 3) (D 4))(H2:PB k2 j2 (D 5) (D 6))(Y:Yf Z n0 h0 (an A K D W 0 (dE j7)++(lu++rest))):X7R l Z n0 h0 A D rest 13 ((fun J0 J1 C0 C1=>∃z0 z1,Et true k1 j1 J0 J1 z0 z1∧Et false k2 j2 z0 z1 C0 C1) J0 J1):=by
 refine x7G (ds:=cC 1 2) (D 3) (D 4) H Y (by intros;rfl) ?_
 intro p e s m args below meth c T1 h1 L1 pr rs st kp kr ks y0 y1 x7 ra rb sa sb u6 u9 b9 E F0 F1 bJ0 bJ1
 refine iI b9 E H1 F0 F1 (N:=134217728) (by decide) bJ0 bJ1 (by decide) ?_
 intro T1_ h1_ L1_ A1_ K1_ y01 y11 x1 w1 c1 C01 C11 E1 R1 G01 G11 bc1 bd1
 refine goE (oL (D:=(ac [0,y01,y11,D 5,D 6,x1,1,w1])) c1 (E1.re (D':=(ac [0,y01,y11,D 5,D 6,x1,1,w1])) (W':=(xV A D W ra rb sa sb j7)) (ds':=dj 1 2) rfl rfl) H2 G01 G11 (N:=18253611008) (by decide) (by omega) (by omega) (by decide) ?_) (by cases c1<;>rfl)
 intro T2_ h2_ L2_ A2_ K2_ y02 y12 x2 w2 c2 C02 C12 E2 R2 G02 G12 bc2 bd2
 exact goE (iM (D:=(ac [0,y02,y12,D 5,D 6,x2,0,w2])) c2 (E2.re (D':=(ac [0,y02,y12,D 5,D 6,x2,0,w2])) (W':=(xV A D W ra rb sa sb j7)) (ds':=gZ) rfl rfl) rfl rfl rfl rfl (fun h L hn N Yq=>⟨pr,kp,K 0,K 1,y02,y12,C02,C12,rfl,N,hn,Yq,⟨_,_,R1,R2⟩,G02,G12,by omega,by omega⟩)) (by cases c2<;>rfl)
def j8:EC:=(2,zI 16 [vI 1],zD 16 [vD 3,vD 5],zI 17 [vI 0,vI 1,vI 1],zI 4 [],zD 4 [vD 4])
theorem GG (H:XH l Z a0 n0 h0 D W lu M00 M01 M10 M11 J0 J1 i0 i1)(H1:PB k1 j1 (D 3) (D 4))(H2:PB k2 j2 (D 5) (D 6))(hz2:j2=0)(Y:Yf Z n0 h0 (an A K D W 0 (dE j8)++(lu++rest))):X7R l Z n0 h0 A D rest 13 ((fun J0 J1 C0 C1=>∃z0 z1,Et true k1 j1 J0 J1 z0 z1∧Et false k2 j2 z0 z1 C0 C1) J0 J1):=by
 refine x7G (ds:=cC 1 2) (D 3) (D 4) H Y (by intros;rfl) ?_
 intro p e s m args below meth c T1 h1 L1 pr rs st kp kr ks y0 y1 x7 ra rb sa sb u6 u9 b9 E F0 F1 bJ0 bJ1
 refine iI b9 E H1 F0 F1 (N:=134217728) (by decide) bJ0 bJ1 (by decide) ?_
 intro T1_ h1_ L1_ A1_ K1_ y01 y11 x1 w1 c1 C01 C11 E1 R1 G01 G11 bc1 bd1
 refine goE (oN (D:=(ac [0,y01,y11,D 5,D 6,x1,1,w1])) c1 (E1.re (D':=(ac [0,y01,y11,D 5,D 6,x1,1,w1])) (W':=(xV A D W ra rb sa sb j8)) (ds':=dm 1 2) rfl rfl) H2 hz2 G01 G11 (N:=18253611008) (by decide) (by omega) (by omega) (by decide) ?_) (by cases c1<;>rfl)
 intro T2_ h2_ L2_ A2_ K2_ y02 y12 x2 w2 c2 C02 C12 E2 R2 G02 G12 bc2 bd2
 exact goE (iM (D:=(ac [0,y02,y12,D 5,D 6,x2,0,w2])) c2 (E2.re (D':=(ac [0,y02,y12,D 5,D 6,x2,0,w2])) (W':=(xV A D W ra rb sa sb j8)) (ds':=gZ) rfl rfl) rfl rfl rfl rfl (fun h L hn N Yq=>⟨pr,kp,K 0,K 1,y02,y12,C02,C12,rfl,N,hn,Yq,⟨_,_,R1,R2⟩,G02,G12,by omega,by omega⟩)) (by cases c2<;>rfl)
def j_:EC:=(2,zI 16 [vI 1,vI 1],zD 16 [vD 3,vD 5],zI 17 [vI 0,vI 1,vI 2],zI 4 [],zD 4 [vD 4,vD 6])
theorem GH (H:XH l Z a0 n0 h0 D W lu M00 M01 M10 M11 J0 J1 i0 i1)(H1:PB k1 j1 (D 3) (D 4))(H2:PB k2 j2 (D 5) (D 6))(Y:Yf Z n0 h0 (an A K D W 0 (dE j_)++(lu++rest))):X7R l Z n0 h0 A D rest 13 ((fun J0 J1 C0 C1=>∃z0 z1,Et true k1 j1 J0 J1 z0 z1∧Et true k2 j2 z0 z1 C0 C1) J0 J1):=by
 refine x7G (ds:=cC 1 2) (D 3) (D 4) H Y (by intros;rfl) ?_
 intro p e s m args below meth c T1 h1 L1 pr rs st kp kr ks y0 y1 x7 ra rb sa sb u6 u9 b9 E F0 F1 bJ0 bJ1
 refine iI b9 E H1 F0 F1 (N:=134217728) (by decide) bJ0 bJ1 (by decide) ?_
 intro T1_ h1_ L1_ A1_ K1_ y01 y11 x1 w1 c1 C01 C11 E1 R1 G01 G11 bc1 bd1
 refine goE (oO (D:=(ac [0,y01,y11,D 5,D 6,x1,1,w1])) c1 (E1.re (D':=(ac [0,y01,y11,D 5,D 6,x1,1,w1])) (W':=(xV A D W ra rb sa sb j_)) (ds':=dn 1 2) rfl rfl) H2 G01 G11 (N:=18253611008) (by decide) (by omega) (by omega) (by decide) ?_) (by cases c1<;>rfl)
 intro T2_ h2_ L2_ A2_ K2_ y02 y12 x2 w2 c2 C02 C12 E2 R2 G02 G12 bc2 bd2
 exact goE (iM (D:=(ac [0,y02,y12,D 5,D 6,x2,1,w2])) c2 (E2.re (D':=(ac [0,y02,y12,D 5,D 6,x2,1,w2])) (W':=(xV A D W ra rb sa sb j_)) (ds':=gZ) rfl rfl) rfl rfl rfl rfl (fun h L hn N Yq=>⟨pr,kp,K 0,K 1,y02,y12,C02,C12,rfl,N,hn,Yq,⟨_,_,R1,R2⟩,G02,G12,by omega,by omega⟩)) (by cases c2<;>rfl)
def ka:EC:=(2,zI 16 [vI 1,vI 1],zD 16 [vD 3,vD 5],zI 17 [vI 0,vI 1,vI 1],zI 4 [],zD 4 [vD 4])
theorem GI (H:XH l Z a0 n0 h0 D W lu M00 M01 M10 M11 J0 J1 i0 i1)(H1:PB k1 j1 (D 3) (D 4))(H2:PB k2 j2 (D 5) (D 6))(hz2:j2=0)(Y:Yf Z n0 h0 (an A K D W 0 (dE ka)++(lu++rest))):X7R l Z n0 h0 A D rest 13 ((fun J0 J1 C0 C1=>∃z0 z1,Et true k1 j1 J0 J1 z0 z1∧Et true k2 j2 z0 z1 C0 C1) J0 J1):=by
 refine x7G (ds:=cC 1 2) (D 3) (D 4) H Y (by intros;rfl) ?_
 intro p e s m args below meth c T1 h1 L1 pr rs st kp kr ks y0 y1 x7 ra rb sa sb u6 u9 b9 E F0 F1 bJ0 bJ1
 refine iI b9 E H1 F0 F1 (N:=134217728) (by decide) bJ0 bJ1 (by decide) ?_
 intro T1_ h1_ L1_ A1_ K1_ y01 y11 x1 w1 c1 C01 C11 E1 R1 G01 G11 bc1 bd1
 refine goE (oP (D:=(ac [0,y01,y11,D 5,D 6,x1,1,w1])) c1 (E1.re (D':=(ac [0,y01,y11,D 5,D 6,x1,1,w1])) (W':=(xV A D W ra rb sa sb ka)) (ds':=dp 1 2) rfl rfl) H2 hz2 G01 G11 (N:=18253611008) (by decide) (by omega) (by omega) (by decide) ?_) (by cases c1<;>rfl)
 intro T2_ h2_ L2_ A2_ K2_ y02 y12 x2 w2 c2 C02 C12 E2 R2 G02 G12 bc2 bd2
 exact goE (iM (D:=(ac [0,y02,y12,D 5,D 6,x2,1,w2])) c2 (E2.re (D':=(ac [0,y02,y12,D 5,D 6,x2,1,w2])) (W':=(xV A D W ra rb sa sb ka)) (ds':=gZ) rfl rfl) rfl rfl rfl rfl (fun h L hn N Yq=>⟨pr,kp,K 0,K 1,y02,y12,C02,C12,rfl,N,hn,Yq,⟨_,_,R1,R2⟩,G02,G12,by omega,by omega⟩)) (by cases c2<;>rfl)
def kb:EC:=(2,zI 16 [vI 1],zD 16 [vD 3,vD 5],zI 17 [vI 0,vI 0,vI 1],zI 4 [vI 1],zD 4 [vD 6])
theorem GJ (H:XH l Z a0 n0 h0 D W lu M00 M01 M10 M11 J0 J1 i0 i1)(H1:PB k1 j1 (D 3) (D 4))(hz1:j1=0)(H2:PB k2 j2 (D 5) (D 6))(Y:Yf Z n0 h0 (an A K D W 0 (dE kb)++(lu++rest))):X7R l Z n0 h0 A D rest 13 ((fun J0 J1 C0 C1=>∃z0 z1,Et true k1 j1 J0 J1 z0 z1∧Et false k2 j2 z0 z1 C0 C1) J0 J1):=by
 refine x7G (ds:=cD 1 2) (D 3) (D 4) H Y (by intros;rfl) ?_
 intro p e s m args below meth c T1 h1 L1 pr rs st kp kr ks y0 y1 x7 ra rb sa sb u6 u9 b9 E F0 F1 bJ0 bJ1
 refine iJ b9 E H1 hz1 F0 F1 (N:=134217728) (by decide) bJ0 bJ1 (by decide) ?_
 intro T1_ h1_ L1_ A1_ K1_ y01 y11 x1 w1 c1 C01 C11 E1 R1 G01 G11 bc1 bd1
 refine goE (oH (D:=(ac [0,y01,y11,D 5,D 6,x1,1,w1])) c1 (E1.re (D':=(ac [0,y01,y11,D 5,D 6,x1,1,w1])) (W':=(xV A D W ra rb sa sb kb)) (ds':=df 1 2) rfl rfl) H2 G01 G11 (N:=18253611008) (by decide) (by omega) (by omega) (by decide) ?_) (by cases c1<;>rfl)
 intro T2_ h2_ L2_ A2_ K2_ y02 y12 x2 w2 c2 C02 C12 E2 R2 G02 G12 bc2 bd2
 exact goE (iM (D:=(ac [0,y02,y12,D 5,D 6,x2,0,w2])) c2 (E2.re (D':=(ac [0,y02,y12,D 5,D 6,x2,0,w2])) (W':=(xV A D W ra rb sa sb kb)) (ds':=gZ) rfl rfl) rfl rfl rfl rfl (fun h L hn N Yq=>⟨pr,kp,K 0,K 1,y02,y12,C02,C12,rfl,N,hn,Yq,⟨_,_,R1,R2⟩,G02,G12,by omega,by omega⟩)) (by cases c2<;>rfl)
def kc:EC:=(2,zI 16 [vI 1],zD 16 [vD 3,vD 5],zI 17 [],zI 4 [],zD 4 [])
theorem GK (H:XH l Z a0 n0 h0 D W lu M00 M01 M10 M11 J0 J1 i0 i1)(H1:PB k1 j1 (D 3) (D 4))(hz1:j1=0)(H2:PB k2 j2 (D 5) (D 6))(hz2:j2=0)(Y:Yf Z n0 h0 (an A K D W 0 (dE kc)++(lu++rest))):X7R l Z n0 h0 A D rest 13 ((fun J0 J1 C0 C1=>∃z0 z1,Et true k1 j1 J0 J1 z0 z1∧Et false k2 j2 z0 z1 C0 C1) J0 J1):=by
 refine x7G (ds:=cD 1 2) (D 3) (D 4) H Y (by intros;rfl) ?_
 intro p e s m args below meth c T1 h1 L1 pr rs st kp kr ks y0 y1 x7 ra rb sa sb u6 u9 b9 E F0 F1 bJ0 bJ1
 refine iJ b9 E H1 hz1 F0 F1 (N:=134217728) (by decide) bJ0 bJ1 (by decide) ?_
 intro T1_ h1_ L1_ A1_ K1_ y01 y11 x1 w1 c1 C01 C11 E1 R1 G01 G11 bc1 bd1
 refine goE (oI (D:=(ac [0,y01,y11,D 5,D 6,x1,1,w1])) c1 (E1.re (D':=(ac [0,y01,y11,D 5,D 6,x1,1,w1])) (W':=(xV A D W ra rb sa sb kc)) (ds':=dg 1 2) rfl rfl) H2 hz2 G01 G11 (N:=18253611008) (by decide) (by omega) (by omega) (by decide) ?_) (by cases c1<;>rfl)
 intro T2_ h2_ L2_ A2_ K2_ y02 y12 x2 w2 c2 C02 C12 E2 R2 G02 G12 bc2 bd2
 exact goE (iM (D:=(ac [0,y02,y12,D 5,D 6,x2,0,w2])) c2 (E2.re (D':=(ac [0,y02,y12,D 5,D 6,x2,0,w2])) (W':=(xV A D W ra rb sa sb kc)) (ds':=gZ) rfl rfl) rfl rfl rfl rfl (fun h L hn N Yq=>⟨pr,kp,K 0,K 1,y02,y12,C02,C12,rfl,N,hn,Yq,⟨_,_,R1,R2⟩,G02,G12,by omega,by omega⟩)) (by cases c2<;>rfl)
def ke:EC:=(2,zI 16 [vI 1,vI 1],zD 16 [vD 3,vD 5],zI 17 [vI 0,vI 0,vI 1],zI 4 [],zD 4 [vD 6])
theorem GL (H:XH l Z a0 n0 h0 D W lu M00 M01 M10 M11 J0 J1 i0 i1)(H1:PB k1 j1 (D 3) (D 4))(hz1:j1=0)(H2:PB k2 j2 (D 5) (D 6))(Y:Yf Z n0 h0 (an A K D W 0 (dE ke)++(lu++rest))):X7R l Z n0 h0 A D rest 13 ((fun J0 J1 C0 C1=>∃z0 z1,Et true k1 j1 J0 J1 z0 z1∧Et true k2 j2 z0 z1 C0 C1) J0 J1):=by
 refine x7G (ds:=cD 1 2) (D 3) (D 4) H Y (by intros;rfl) ?_
 intro p e s m args below meth c T1 h1 L1 pr rs st kp kr ks y0 y1 x7 ra rb sa sb u6 u9 b9 E F0 F1 bJ0 bJ1
 refine iJ b9 E H1 hz1 F0 F1 (N:=134217728) (by decide) bJ0 bJ1 (by decide) ?_
 intro T1_ h1_ L1_ A1_ K1_ y01 y11 x1 w1 c1 C01 C11 E1 R1 G01 G11 bc1 bd1
 refine goE (oJ (D:=(ac [0,y01,y11,D 5,D 6,x1,1,w1])) c1 (E1.re (D':=(ac [0,y01,y11,D 5,D 6,x1,1,w1])) (W':=(xV A D W ra rb sa sb ke)) (ds':=dh 1 2) rfl rfl) H2 G01 G11 (N:=18253611008) (by decide) (by omega) (by omega) (by decide) ?_) (by cases c1<;>rfl)
 intro T2_ h2_ L2_ A2_ K2_ y02 y12 x2 w2 c2 C02 C12 E2 R2 G02 G12 bc2 bd2
 exact goE (iM (D:=(ac [0,y02,y12,D 5,D 6,x2,1,w2])) c2 (E2.re (D':=(ac [0,y02,y12,D 5,D 6,x2,1,w2])) (W':=(xV A D W ra rb sa sb ke)) (ds':=gZ) rfl rfl) rfl rfl rfl rfl (fun h L hn N Yq=>⟨pr,kp,K 0,K 1,y02,y12,C02,C12,rfl,N,hn,Yq,⟨_,_,R1,R2⟩,G02,G12,by omega,by omega⟩)) (by cases c2<;>rfl)
def kg:EC:=(2,zI 16 [vI 1,vI 1],zD 16 [vD 3,vD 5],zI 17 [],zI 4 [],zD 4 [])
theorem GM (H:XH l Z a0 n0 h0 D W lu M00 M01 M10 M11 J0 J1 i0 i1)(H1:PB k1 j1 (D 3) (D 4))(hz1:j1=0)(H2:PB k2 j2 (D 5) (D 6))(hz2:j2=0)(Y:Yf Z n0 h0 (an A K D W 0 (dE kg)++(lu++rest))):X7R l Z n0 h0 A D rest 13 ((fun J0 J1 C0 C1=>∃z0 z1,Et true k1 j1 J0 J1 z0 z1∧Et true k2 j2 z0 z1 C0 C1) J0 J1):=by
 refine x7G (ds:=cD 1 2) (D 3) (D 4) H Y (by intros;rfl) ?_
 intro p e s m args below meth c T1 h1 L1 pr rs st kp kr ks y0 y1 x7 ra rb sa sb u6 u9 b9 E F0 F1 bJ0 bJ1
 refine iJ b9 E H1 hz1 F0 F1 (N:=134217728) (by decide) bJ0 bJ1 (by decide) ?_
 intro T1_ h1_ L1_ A1_ K1_ y01 y11 x1 w1 c1 C01 C11 E1 R1 G01 G11 bc1 bd1
 refine goE (oK (D:=(ac [0,y01,y11,D 5,D 6,x1,1,w1])) c1 (E1.re (D':=(ac [0,y01,y11,D 5,D 6,x1,1,w1])) (W':=(xV A D W ra rb sa sb kg)) (ds':=di 1 2) rfl rfl) H2 hz2 G01 G11 (N:=18253611008) (by decide) (by omega) (by omega) (by decide) ?_) (by cases c1<;>rfl)
 intro T2_ h2_ L2_ A2_ K2_ y02 y12 x2 w2 c2 C02 C12 E2 R2 G02 G12 bc2 bd2
 exact goE (iM (D:=(ac [0,y02,y12,D 5,D 6,x2,1,w2])) c2 (E2.re (D':=(ac [0,y02,y12,D 5,D 6,x2,1,w2])) (W':=(xV A D W ra rb sa sb kg)) (ds':=gZ) rfl rfl) rfl rfl rfl rfl (fun h L hn N Yq=>⟨pr,kp,K 0,K 1,y02,y12,C02,C12,rfl,N,hn,Yq,⟨_,_,R1,R2⟩,G02,G12,by omega,by omega⟩)) (by cases c2<;>rfl)
end OwnEt7
theorem gC {A B k j A' B':Int}{K:Nat}{x y kd jd:UInt64}(hk:Jvm.FP.Core.DInt k kd)(hj:Jvm.FP.Core.DInt j jd)(bk:-16≤k∧k≤16)(bj:-16≤j∧j≤16)(fA:ah A K x)(fB:ah B K y)(bA:-281474976710656≤A∧A≤281474976710656)(bB:-281474976710656≤B∧B≤281474976710656)(hK:K≤100)(e1:k*A=A')(e2:B+j*A=B'):Jvm.Free.Fl.NoNaN64 (FP.dmul jd x)∧Jvm.Free.Fl.NoNaN64 (FP.dadd y (FP.dmul jd x))∧Jvm.Free.Fl.NoNaN64 (FP.dmul kd x)∧ah A' K (FP.dmul kd x)∧ah B' K (FP.dadd y (FP.dmul jd x)):=by
 have p1:=cv bk bA
 have p2:=cv bj bA
 have h1:ah (k*A) K (FP.dmul kd x):=by
  have:=dF (k:=0) (ak.mpr hk) fA (cp (by omega)) (by omega)
  rwa [Nat.zero_add] at this
 have h2:ah (j*A) K (FP.dmul jd x):=by
  have:=dF (k:=0) (ak.mpr hj) fA (cp (by omega)) (by omega)
  rwa [Nat.zero_add] at this
 have h3:=jj fB h2 (cp (by omega)) (by omega)
 rw[e1] at h1
 rw[e2] at h3
 exact⟨aj h2,aj h3,aj h1,h1,h3⟩
theorem eP {a b X Y R:Int}{K:Nat}{ad bd x y:UInt64}(ha:Jvm.FP.Core.DInt a ad)(hb:Jvm.FP.Core.DInt b bd)(ba:-128≤a∧a≤128)(bb:-128≤b∧b≤128)(fX:ah X K x)(fY:ah Y K y)(bX:-8796093022208≤X∧X≤8796093022208)(bY:-8796093022208≤Y∧Y≤8796093022208)(hK:K≤100)(e:a*X+b*Y=R):Jvm.Free.Fl.NoNaN64 (FP.dmul ad x)∧Jvm.Free.Fl.NoNaN64 (FP.dmul bd y)∧Jvm.Free.Fl.NoNaN64 (FP.dadd (FP.dmul ad x) (FP.dmul bd y))∧ah R K (FP.dadd (FP.dmul ad x) (FP.dmul bd y)):=by
 have p1:=cv ba bX
 have p2:=cv bb bY
 have h1:ah (a*X) K (FP.dmul ad x):=by
  have:=dF (k:=0) (ak.mpr ha) fX (cp (by omega)) (by omega)
  rwa [Nat.zero_add] at this
 have h2:ah (b*Y) K (FP.dmul bd y):=by
  have:=dF (k:=0) (ak.mpr hb) fY (cp (by omega)) (by omega)
  rwa [Nat.zero_add] at this
 have h3:=jj h1 h2 (cp (by omega)) (by omega)
 rw[e] at h3
 exact⟨aj h1,aj h2,aj h3,h3⟩
theorem cG {K:Int}{k:Nat}{x y:UInt64}(h1:ah K k x)(h2:ah K k y):(cmpValue (FP.dcmp x y) .l).toInt=0:=by
 rw[nk h1 h2]
 exact (qi K K .l).2.1 rfl
def QM (D:Nat→UInt64):Prop:=(-128≤(iW (D 26)).toInt∧(iW (D 26)).toInt≤128)∧(-128≤(iW (D 27)).toInt∧(iW (D 27)).toInt≤128)∧(-128≤(iW (D 28)).toInt∧(iW (D 28)).toInt≤128)∧(-128≤(iW (D 29)).toInt∧(iW (D 29)).toInt≤128)
def JM (D:Nat→UInt64)(J0 J1:Int):Prop:=JT (iW (D 26)).toInt (iW (D 27)).toInt (iW (D 28)).toInt (iW (D 29)).toInt J0 J1 (iW (D 30)).toInt (iW (D 31)).toInt
def PI (k j:Int32):Prop:=(k.toInt=1∨k.toInt=-1∨k.toInt=2∨k.toInt=-2∨k.toInt=4∨k.toInt=-4∨k.toInt=8∨k.toInt=-8)∧(-16≤j.toInt∧j.toInt≤16)
theorem PI.pb {k j:Int32}(h:PI k j):PB k.toInt j.toInt (FP.i2d k) (FP.i2d j):=⟨h.1,h.2,Jvm.FP.Core.i2d_int k,Jvm.FP.Core.i2d_int j⟩
theorem PI.bk {k j:Int32}(h:PI k j):-16≤k.toInt∧k.toInt≤16:=by have:=h.1;omega
def bm (e p q:Slot):Array Slot:=#[sF 3,sF 4,sF 5,sF 6,sF 7,sF 8,sF 9,sF 10,sF 11,sF 12,sF 13,sF 14,sF 15,e,sF 17,sF 18,sF 19,sF 20,sF 21,sF 22,sF 23,sF 24,sF 25,sF 26,sF 27,sF 28,sF 29,sR 11,sR 12,sF 30,sF 31,sR 0,p,sF 33,sF 34,sF 35,sF 36,q,sF 38,sF 39,sF 40,sF 41,sR 1,sR 7,sU,sU,sU,sU,sU,sU,sU,sU,sU]
def gD (e p q:Slot)(x:List Slot):Array Slot:=([sF 3,sF 4,sF 5,sF 6,sF 7,sF 8,sF 9,sF 10,sF 11,sF 12,sF 13,sF 14,sF 15,e,sF 17,sF 18,sF 19,sF 20,sF 21,sF 22,sF 23,sF 24,sF 25,sF 26,sF 27,sF 28,sF 29,sR 4,sR 5,sF 30,sF 31,sR 1,p,sF 33,sF 34,sF 35,sF 36,q,sF 38,sF 39,sF 40,sF 41,sR 2,sR 3]++x).toArray
def dT:Value:=vD 43
def dU:Value:=vD 42
def dX7:List AD:=[(65,2,[dU,dT]),(65,2,[aA,bU]),(0,0,[]),(1,0,[]),(67,2,[vU 23,e7]),(68,2,[vU 25,vU 26])]
def gE (D:Nat→UInt64):List UInt64:=[D 0,D 1,D 2,D 3,D 4,D 5,D 6,D 7,D 8,D 9,D 10,D 11,D 12,D 13,D 14,D 15,D 16,D 17,D 18,D 19,D 20,D 21,D 22,D 23,D 24,D 25,D 26,D 27,D 28,D 29,D 30,D 31,D 32,D 33,D 34,D 35,D 36,D 37,D 38,D 39,D 40,D 41]
def cA (pr:Addr)(A:Nat→Addr):Nat→Addr:=aP [pr,A 0,A 1,A 7,A 11,A 12]
def cK (a b c:ClassId)(K:Nat→ClassId):Nat→ClassId:=aQ [a,b,c,K 7,K 11,K 12]
def wW:AD:=aU 68 25 2
def wX:AD:=aU 67 23 2
def ci:List AD:=dsE 0 (zI 16 []) (zD 16 []) (zI 17 []) (zI 4 []) (zD 4 [])++[(1,0,rS 8 3++[zq0]),jB,jf,gN,wX,wW]
section OwnLaw
variable {p:Program}{l:Launch}{e:Env}{s:State}{m:MethodId}{args:Array Value}{below:List Frame}{meth:Method}{c:Code}{T0 Z:State}{a0:Array Value}{h0:Heap}{n0:Nat}{L0:List Loc}{A:Nat→Addr}{K:Nat→ClassId}{D:Nat→UInt64}{W:Nat→Value}{ce sl:Nat}{ds:List AD}{Ev:State→Outcome→Prop}{J0 J1:Int}{lu:List OB}
def LWB (p:Program)(l:Launch)(e:Env)(s:State)(m:MethodId)(args:Array Value)(below:List Frame)(meth:Method)(c:Code)(T0 Z:State)(a0:Array Value)(h0:Heap)(n0:Nat)(L0:List Loc)(ce sl:Nat):Prop:=Stand p l e room_1 s m args below meth c T0 L0 ce sl∧p.tables.exec=Jvm.exec∧c.code=code∧c.maxLocals=maxLocals∧meth.sig.returnType=ret∧meth.locks=false∧s.vm.findClass "com/example/tracefold/tracefold/mining/FactoredInverseTransposeTimesPinLaw" = some m.cls∧Z.Warmed39 s.vm∧(∀d∈tables_1,d.before a0 Z=true)∧T0.heap=h0∧n0≤h0.size∧Fr n0 L0
theorem aY {sc:List Sc}{f to pc pc' nD nD' ce' sl':Nat}{orc:List Int32}{L L':Array Slot}{st st':List Value}{ds':List AD}{ops:List Op}(hr:ai (run (tb 0) ap 53 (8,192,1792,192) to f sc orc (pc,L,st,ds,nD,ce,sl)) (pc',L',st',ds',nD',ce',sl') ops=true)(hsc:∀E∈sc,CtH E.1)(B:LWB p l e s m args below meth c T0 Z a0 h0 n0 L0 ce sl)(Y:YgF Z n0 h0 A K D W ds)(D0:D 0=0)(hnD:0<nD)(hv:okv ops nD D)
  (K_:∀T1 h1 L1 A1 K1,LWB p l e s m args below meth c T1 Z a0 h1 n0 L1 ce' sl'→(∀i,i<ds.length→A1 i=A i∧K1 i=K i)→Keep h0 h1 ((List.range ds.length).map A)→(∀i,ds.length≤i→i<ds'.length→h0.size≤A1 i)→YgF Z n0 h1 A1 K1 (ca ops nD D) W ds'→Go p e below Ev T1 (mkF m pc' (dL A1 (ca ops nD D) W L') (st'.map (den A1 (ca ops nD D) W)))):Go p e below Ev T0 (mkF m pc (dL A D W L) (st.map (den A D W))):=by
 obtain⟨XS,hx,hby,hml,hret,hlk,hown,hZ,hw,e0,Z0,N0⟩:=B
 rw[z9] at hr
 refine seg (uQ hr) hsc hw hx hby hml rfl hZ hown (bq _ Z a0 hw) D0 hnD XS e0 Y N0 Z0 hv ?_
 intro T1 h1 L1 A1 K1 hA1 X1 e1 Y1 N1 Kp f1 n1
 exact K_ T1 h1 L1 A1 K1 ⟨X1,hx,hby,hml,hret,hlk,hown,hZ,hw,e1,n1,N1⟩ hA1 Kp f1 Y1
theorem LWB.more {ce' sl':Nat}(B:LWB p l e s m args below meth c T0 Z a0 h0 n0 L0 ce sl)(h1:ce≤ce')(h2:sl≤sl'):LWB p l e s m args below meth c T0 Z a0 h0 n0 L0 ce' sl':=⟨B.1.more h1 h2,B.2⟩
theorem y13 (Y:Yf Z n0 h0 (an A K D W 0 ci++lu)):YgF Z n0 h0 A K D W ci:=Yf.to (Yf.pick (os':=an A K D W 0 ci) Y [0,1,2,3,4,5,6,7,8,9,10,11,12] (by decide) rfl) rfl
theorem d9 {C:EC}{av a8 a9 a10:List Value}{Ls:Array Slot}{R:Int→Int→Prop}{Kf:Nat}{D2:Nat→UInt64}{T1:State}{h1:Heap}{L1:List Loc}{A1:Nat→Addr}{K1:Nat→ClassId}(Y:Yf Z n0 h0 (an A K D W 0 ci++lu))(Y1:YgF Z n0 h1 A1 K1 D2 W (dE C++[(1,0,av),(65,2,a8),(66,2,a9),(64,16,a10),(67,2,[vU 23,vU 24]),(68,2,[vU 25,vU 26])]))(B1:LWB p l e s m args below meth c T1 Z a0 h1 n0 L1 90 860)(hA1:∀i,i<ci.length→A1 i=A i∧K1 i=K i)(Kp:Keep h0 h1 ((List.range ci.length).map A))(f1:∀i,ci.length≤i→i<13→h0.size≤A1 i)(hs:Ls.size=53)(HX:∀rest:List OB,n0≤h1.size→Yf Z n0 h1 (an A1 K1 D2 W 0 (dE C)++(lu++rest))→X7R l Z n0 h1 A1 D2 rest Kf R)
  (KK:∀(T2:State) (h2:Heap) (L2:List Loc) (pr:Addr) (kp kv kf:ClassId) (y0 y1:UInt64) (C0 C1:Int),LWB p l e s m args below meth c T2 Z a0 h2 n0 L2 93 866→Yf Z n0 h2 [(pr,kp,65,2,[.double y0,.double y1]),(A1 0,kv,65,2,[.double (D2 1),.double (D2 2)]),(A1 1,kf,0,0,[]),(A1 7,K1 7,1,0,[]),(A1 11,K1 11,67,2,[W 23,W 24]),(A1 12,K1 12,68,2,[W 25,W 26])]→R C0 C1→ah C0 Kf y0→ah C1 Kf y1→(-8796093022208≤C0∧C0≤8796093022208)→(-8796093022208≤C1∧C1≤8796093022208)→Go p e below Ev T2 (mkF m 755 Ls [.ref pr])):Go p e below Ev T1 (mkF m 752 Ls [.ref (A1 0),.ref (A1 1)]):=by
 obtain⟨X1,hx,hby,hml,hret,hlk,hown,hZ,hw,e1,n1,N1⟩:=B1
 have YJ:=Yf.segj Y (YgF.bare Y1 7 rfl (by decide)) Kp hA1 f1
 have YS:=Yf.swap (a:=an A1 K1 D2 W 0 (dE C)) (b:=[(A1 7,K1 7,1,0,[]),(A1 8,K1 8,65,2,a8.map (den A1 D2 W)),(A1 9,K1 9,66,2,a9.map (den A1 D2 W)),(A1 10,K1 10,64,16,a10.map (den A1 D2 W)),(A1 11,K1 11,67,2,[W 23,W 24]),(A1 12,K1 12,68,2,[W 25,W 26])]) (c:=lu) YJ
 refine qF hw (.invokevirtual 47) 1 32 1 0 rfl X1 hx hZ hown (argsL:=[.ref (A1 0)]) (rest:=[]) (b:=A1 1) (HX _ n1 YS) e1 (fun _=>(Y1.1 1 _ rfl).2.obj (by show (0:Nat)<64;decide)) rfl (by rw[hml];exact hs) rfl (by decide) (by decide) (by decide) (by decide) (hb hby at_752) ?_
 intro v T2 L2 X2 Q2
 obtain⟨pr,kp,kv,kf,y0,y1,C0,C1,rfl,N2,n2,Y2,HR,F0,F1,bC0,bC1⟩:=Q2
 exact KK T2 _ _ pr kp kv kf y0 y1 C0 C1 ⟨X2.more (by decide) (by decide),hx,hby,hml,hret,hlk,hown,hZ,hw,rfl,n2,N1.app N2⟩ (Yf.pick Y2 [0,1,2,3,7,8] (by decide) rfl) HR F0 F1 bC0 bC1
def sX:Op:=(7,31,0,0)
def oQ:Op:=(7,29,0,0)
def wY:Op:=(7,30,0,0)
def sY:Op:=(7,28,0,0)
def sZ:Op:=(7,27,0,0)
def s5:Op:=(7,26,0,0)
theorem RV:ai (run (tb 0) ap 53 (8,192,1792,192) 1000000 51 [] [0,0] (755,gD (sI 0) (sF 32) (sF 37) (List.replicate 9 sU),[au],dX7,44,93,866)) (951,gD (sI 0) (sF 32) (sF 37) [sR 0,sD 42,s2,sD 43,s2,sD 48,s2,sD 53,s2],[zq3],dX7,56,93,866) [s5,(2,44,42,0),sY,(2,46,43,0),(0,45,47,0),sZ,(2,49,42,0),oQ,(2,51,43,0),(0,50,52,0),wY,(12,48,54,0),sX,(12,53,55,0)]=true:=by decide +kernel
theorem Rj {C0 C1:Int}(B:LWB p l e s m args below meth c T0 Z a0 h0 n0 L0 93 866)(Y:YgF Z n0 h0 A K D W dX7)(D0:D 0=0)(Q:QM D)(J:JM D J0 J1)(HR:(fun J0 J1 C0 C1=>C0=J0∧C1=J1) J0 J1 C0 C1)(F0:ah C0 7 (D 42))(F1:ah C1 7 (D 43))(bC0:-8796093022208≤C0∧C0≤8796093022208)(bC1:-8796093022208≤C1∧C1≤8796093022208):Go p e below (bw s (aV n0) 192 1792) T0 (mkF m 755 (dL A D W (gD (sI 0) (sF 32) (sF 37) (List.replicate 9 sU))) [.ref (A 0)]):=by
 obtain⟨q0,q1,q2,q3⟩:=Q
 obtain⟨g0,g1,bJ0,bJ1,bi0,bi1⟩:=J
 obtain⟨s1,s2⟩:=(HR:C0=J0∧C1=J1)
 subst s1 s2
 have W0:=eP (R:=128*(iW (D 30)).toInt) (Jvm.FP.Core.i2d_int (iW (D 26))) (Jvm.FP.Core.i2d_int (iW (D 28))) q0 q2 F0 F1 (by omega) (by omega) (by decide) (by omega)
 have X0:(cmpValue (FP.dcmp (FP.dadd (FP.dmul (FP.i2d (iW (D 26))) (D 42)) (FP.dmul (FP.i2d (iW (D 28))) (D 43))) (FP.i2d (iW (D 30)))) .l).toInt=0:=cG W0.2.2.2 (aG 7 128 (ak.mpr (Jvm.FP.Core.i2d_int (iW (D 30)))) rfl (by omega))
 have W1:=eP (R:=128*(iW (D 31)).toInt) (Jvm.FP.Core.i2d_int (iW (D 27))) (Jvm.FP.Core.i2d_int (iW (D 29))) q1 q3 F0 F1 (by omega) (by omega) (by decide) (by omega)
 have X1:(cmpValue (FP.dcmp (FP.dadd (FP.dmul (FP.i2d (iW (D 27))) (D 42)) (FP.dmul (FP.i2d (iW (D 29))) (D 43))) (FP.i2d (iW (D 31)))) .l).toInt=0:=cG W1.2.2.2 (aG 7 128 (ak.mpr (Jvm.FP.Core.i2d_int (iW (D 31)))) rfl (by omega))
 refine goE (aY RV sc0 B Y D0 (by decide) ⟨trivial,W0.1,trivial,W0.2.1,W0.2.2.1,trivial,W1.1,trivial,W1.2.1,W1.2.2.1,trivial,X0,trivial,X1,trivial⟩ ?_) rfl
 intro T1 h1 L1 A1 K1 B1 hA1 Kp f1 Y1_
 obtain⟨X1,hx,hby,hml,hret,hlk,hown,hZ,hw,e1,n1,N1⟩:=B1
 exact goE (ia X1 hx hlk hret (hb hby at_951) (by decide) (by decide) e1 ⟨rfl,N1⟩) rfl
def gr:Op:=(7,36,0,0)
def gu:Op:=(7,35,0,0)
def wZ:Op:=(0,55,57,0)
theorem RW:ai (run (tb 0) ap 53 (8,192,1792,192) 1000000 68 [] [0,0] (755,gD (sI 1) (sI 0) (sF 37) (List.replicate 9 sU),[au],dX7,44,93,866)) (951,gD (sI 1) (sI 0) (sF 37) [sR 0,sD 48,s2,sD 46,s2,sD 53,s2,sD 58,s2],[zq3],dX7,61,93,866) [gr,(2,44,42,0),(0,43,45,0),gu,(2,47,42,0),s5,(2,49,48,0),sY,(2,51,46,0),(0,50,52,0),sZ,(2,54,48,0),oQ,(2,56,46,0),wZ,wY,(12,53,59,0),sX,(12,58,60,0)]=true:=by decide +kernel
theorem M4 {C0 C1:Int}(B:LWB p l e s m args below meth c T0 Z a0 h0 n0 L0 93 866)(Y:YgF Z n0 h0 A K D W dX7)(D0:D 0=0)(Q:QM D)(J:JM D J0 J1)(H1:PI (iW (D 35)) (iW (D 36)))(HR:(fun J0 J1 C0 C1=>Et false (iW (D 35)).toInt (iW (D 36)).toInt J0 J1 C0 C1) J0 J1 C0 C1)(F0:ah C0 10 (D 42))(F1:ah C1 10 (D 43))(bC0:-8796093022208≤C0∧C0≤8796093022208)(bC1:-8796093022208≤C1∧C1≤8796093022208):Go p e below (bw s (aV n0) 192 1792) T0 (mkF m 755 (dL A D W (gD (sI 1) (sI 0) (sF 37) (List.replicate 9 sU))) [.ref (A 0)]):=by
 obtain⟨q0,q1,q2,q3⟩:=Q
 obtain⟨g0,g1,bJ0,bJ1,bi0,bi1⟩:=J
 have E1:=HR
 obtain⟨u0_,s0_⟩:=(E1:Et false (iW (D 35)).toInt (iW (D 36)).toInt J0 J1 C0 C1)
 have u0:(iW (D 35)).toInt*C0=8*J0:=u0_
 have s0:C1=8*J1-(iW (D 36)).toInt*C0:=s0_
 have bq0:=cv H1.2 (x:=C0) (N:=8796093022208) (by omega)
 have br0:=cv H1.bk (x:=C0) (N:=8796093022208) (by omega)
 have V0:=gC (A':=8*J0) (B':=8*J1) (Jvm.FP.Core.i2d_int (iW (D 35))) (Jvm.FP.Core.i2d_int (iW (D 36))) H1.bk H1.2 F0 F1 (by omega) (by omega) (by decide) (by omega) (by omega)
 have W0:=eP (R:=1024*(iW (D 30)).toInt) (Jvm.FP.Core.i2d_int (iW (D 26))) (Jvm.FP.Core.i2d_int (iW (D 28))) q0 q2 V0.2.2.2.1 V0.2.2.2.2 (by omega) (by omega) (by decide) (by rw[Int.mul_left_comm,Int.mul_left_comm ((iW (D 28)).toInt)];omega)
 have X0:(cmpValue (FP.dcmp (FP.dadd (FP.dmul (FP.i2d (iW (D 26))) (FP.dmul (FP.i2d (iW (D 35))) (D 42))) (FP.dmul (FP.i2d (iW (D 28))) (FP.dadd (D 43) (FP.dmul (FP.i2d (iW (D 36))) (D 42))))) (FP.i2d (iW (D 30)))) .l).toInt=0:=cG W0.2.2.2 (aG 10 1024 (ak.mpr (Jvm.FP.Core.i2d_int (iW (D 30)))) rfl (by omega))
 have W1:=eP (R:=1024*(iW (D 31)).toInt) (Jvm.FP.Core.i2d_int (iW (D 27))) (Jvm.FP.Core.i2d_int (iW (D 29))) q1 q3 V0.2.2.2.1 V0.2.2.2.2 (by omega) (by omega) (by decide) (by rw[Int.mul_left_comm,Int.mul_left_comm ((iW (D 29)).toInt)];omega)
 have X1:(cmpValue (FP.dcmp (FP.dadd (FP.dmul (FP.i2d (iW (D 27))) (FP.dmul (FP.i2d (iW (D 35))) (D 42))) (FP.dmul (FP.i2d (iW (D 29))) (FP.dadd (D 43) (FP.dmul (FP.i2d (iW (D 36))) (D 42))))) (FP.i2d (iW (D 31)))) .l).toInt=0:=cG W1.2.2.2 (aG 10 1024 (ak.mpr (Jvm.FP.Core.i2d_int (iW (D 31)))) rfl (by omega))
 refine goE (aY RW sc0 B Y D0 (by decide) ⟨trivial,V0.1,V0.2.1,trivial,V0.2.2.1,trivial,W0.1,trivial,W0.2.1,W0.2.2.1,trivial,W1.1,trivial,W1.2.1,W1.2.2.1,trivial,X0,trivial,X1,trivial⟩ ?_) rfl
 intro T1 h1 L1 A1 K1 B1 hA1 Kp f1 Y1_
 obtain⟨X1,hx,hby,hml,hret,hlk,hown,hZ,hw,e1,n1,N1⟩:=B1
 exact goE (ia X1 hx hlk hret (hb hby at_951) (by decide) (by decide) e1 ⟨rfl,N1⟩) rfl
theorem RX:ai (run (tb 0) ap 53 (8,192,1792,192) 1000000 67 [] [0,0] (755,gD (sI 1) (sI 1) (sF 37) (List.replicate 9 sU),[au],dX7,44,93,866)) (951,gD (sI 1) (sI 1) (sF 37) [sR 0,sD 46,s2,sD 48,s2,sD 53,s2,sD 58,s2],[zq3],dX7,61,93,866) [gu,(2,44,43,0),(0,42,45,0),gr,(2,47,43,0),s5,(2,49,46,0),sY,(2,51,48,0),(0,50,52,0),sZ,(2,54,46,0),oQ,(2,56,48,0),wZ,wY,(12,53,59,0),sX,(12,58,60,0)]=true:=by decide +kernel
theorem M5 {C0 C1:Int}(B:LWB p l e s m args below meth c T0 Z a0 h0 n0 L0 93 866)(Y:YgF Z n0 h0 A K D W dX7)(D0:D 0=0)(Q:QM D)(J:JM D J0 J1)(H1:PI (iW (D 36)) (iW (D 35)))(HR:(fun J0 J1 C0 C1=>Et true (iW (D 36)).toInt (iW (D 35)).toInt J0 J1 C0 C1) J0 J1 C0 C1)(F0:ah C0 10 (D 42))(F1:ah C1 10 (D 43))(bC0:-8796093022208≤C0∧C0≤8796093022208)(bC1:-8796093022208≤C1∧C1≤8796093022208):Go p e below (bw s (aV n0) 192 1792) T0 (mkF m 755 (dL A D W (gD (sI 1) (sI 1) (sF 37) (List.replicate 9 sU))) [.ref (A 0)]):=by
 obtain⟨q0,q1,q2,q3⟩:=Q
 obtain⟨g0,g1,bJ0,bJ1,bi0,bi1⟩:=J
 have E1:=HR
 obtain⟨u0_,s0_⟩:=(E1:Et true (iW (D 36)).toInt (iW (D 35)).toInt J0 J1 C0 C1)
 have u0:(iW (D 36)).toInt*C1=8*J1:=u0_
 have s0:C0=8*J0-(iW (D 35)).toInt*C1:=s0_
 have bq0:=cv H1.2 (x:=C1) (N:=8796093022208) (by omega)
 have br0:=cv H1.bk (x:=C1) (N:=8796093022208) (by omega)
 have V0:=gC (A':=8*J1) (B':=8*J0) (Jvm.FP.Core.i2d_int (iW (D 36))) (Jvm.FP.Core.i2d_int (iW (D 35))) H1.bk H1.2 F1 F0 (by omega) (by omega) (by decide) (by omega) (by omega)
 have W0:=eP (R:=1024*(iW (D 30)).toInt) (Jvm.FP.Core.i2d_int (iW (D 26))) (Jvm.FP.Core.i2d_int (iW (D 28))) q0 q2 V0.2.2.2.2 V0.2.2.2.1 (by omega) (by omega) (by decide) (by rw[Int.mul_left_comm,Int.mul_left_comm ((iW (D 28)).toInt)];omega)
 have X0:(cmpValue (FP.dcmp (FP.dadd (FP.dmul (FP.i2d (iW (D 26))) (FP.dadd (D 42) (FP.dmul (FP.i2d (iW (D 35))) (D 43)))) (FP.dmul (FP.i2d (iW (D 28))) (FP.dmul (FP.i2d (iW (D 36))) (D 43)))) (FP.i2d (iW (D 30)))) .l).toInt=0:=cG W0.2.2.2 (aG 10 1024 (ak.mpr (Jvm.FP.Core.i2d_int (iW (D 30)))) rfl (by omega))
 have W1:=eP (R:=1024*(iW (D 31)).toInt) (Jvm.FP.Core.i2d_int (iW (D 27))) (Jvm.FP.Core.i2d_int (iW (D 29))) q1 q3 V0.2.2.2.2 V0.2.2.2.1 (by omega) (by omega) (by decide) (by rw[Int.mul_left_comm,Int.mul_left_comm ((iW (D 29)).toInt)];omega)
 have X1:(cmpValue (FP.dcmp (FP.dadd (FP.dmul (FP.i2d (iW (D 27))) (FP.dadd (D 42) (FP.dmul (FP.i2d (iW (D 35))) (D 43)))) (FP.dmul (FP.i2d (iW (D 29))) (FP.dmul (FP.i2d (iW (D 36))) (D 43)))) (FP.i2d (iW (D 31)))) .l).toInt=0:=cG W1.2.2.2 (aG 10 1024 (ak.mpr (Jvm.FP.Core.i2d_int (iW (D 31)))) rfl (by omega))
 refine goE (aY RX sc0 B Y D0 (by decide) ⟨trivial,V0.1,V0.2.1,trivial,V0.2.2.1,trivial,W0.1,trivial,W0.2.1,W0.2.2.1,trivial,W1.1,trivial,W1.2.1,W1.2.2.1,trivial,X0,trivial,X1,trivial⟩ ?_) rfl
 intro T1 h1 L1 A1 K1 B1 hA1 Kp f1 Y1_
 obtain⟨X1,hx,hby,hml,hret,hlk,hown,hZ,hw,e1,n1,N1⟩:=B1
 exact goE (ia X1 hx hlk hret (hb hby at_951) (by decide) (by decide) e1 ⟨rfl,N1⟩) rfl
def lM:Op:=(7,41,0,0)
def lN:Op:=(7,40,0,0)
def w8:List Op:=[(0,60,62,0),wY,(12,58,64,0),sX,(12,63,65,0)]
def M6:List Op:=[s5,(2,54,53,0),sY,(2,56,51,0),wZ,sZ,(2,59,53,0),oQ,(2,61,51,0)]
theorem Rk:ai (run (tb 0) ap 53 (8,192,1792,192) 1000000 85 [] [0,0] (755,gD (sI 2) (sI 0) (sI 0) (List.replicate 9 sU),[au],dX7,44,93,866)) (951,gD (sI 2) (sI 0) (sI 0) [sR 0,sD 53,s2,sD 51,s2,sD 58,s2,sD 63,s2],[zq3],dX7,66,93,866) (([lM,(2,44,42,0),(0,43,45,0),lN,(2,47,42,0),gr,(2,49,48,0),(0,46,50,0),gu,(2,52,48,0)]++M6)++w8)=true:=by decide +kernel
theorem p6 {C0 C1:Int}(B:LWB p l e s m args below meth c T0 Z a0 h0 n0 L0 93 866)(Y:YgF Z n0 h0 A K D W dX7)(D0:D 0=0)(Q:QM D)(J:JM D J0 J1)(H1:PI (iW (D 35)) (iW (D 36)))(H2:PI (iW (D 40)) (iW (D 41)))(HR:(fun J0 J1 C0 C1=>∃z0 z1,Et false (iW (D 35)).toInt (iW (D 36)).toInt J0 J1 z0 z1∧Et false (iW (D 40)).toInt (iW (D 41)).toInt z0 z1 C0 C1) J0 J1 C0 C1)(F0:ah C0 13 (D 42))(F1:ah C1 13 (D 43))(bC0:-8796093022208≤C0∧C0≤8796093022208)(bC1:-8796093022208≤C1∧C1≤8796093022208):Go p e below (bw s (aV n0) 192 1792) T0 (mkF m 755 (dL A D W (gD (sI 2) (sI 0) (sI 0) (List.replicate 9 sU))) [.ref (A 0)]):=by
 obtain⟨q0,q1,q2,q3⟩:=Q
 obtain⟨g0,g1,bJ0,bJ1,bi0,bi1⟩:=J
 obtain⟨z0,z1,E1,E2⟩:=HR
 obtain⟨u1_,s1_⟩:=(E2:Et false (iW (D 40)).toInt (iW (D 41)).toInt z0 z1 C0 C1)
 have u1:(iW (D 40)).toInt*C0=8*z0:=u1_
 have s1:C1=8*z1-(iW (D 41)).toInt*C0:=s1_
 have bq1:=cv H2.2 (x:=C0) (N:=8796093022208) (by omega)
 have br1:=cv H2.bk (x:=C0) (N:=8796093022208) (by omega)
 have V1:=gC (A':=8*z0) (B':=8*z1) (Jvm.FP.Core.i2d_int (iW (D 40))) (Jvm.FP.Core.i2d_int (iW (D 41))) H2.bk H2.2 F0 F1 (by omega) (by omega) (by decide) (by omega) (by omega)
 obtain⟨u0_,s0_⟩:=(E1:Et false (iW (D 35)).toInt (iW (D 36)).toInt J0 J1 z0 z1)
 have u0:(iW (D 35)).toInt*z0=8*J0:=u0_
 have s0:z1=8*J1-(iW (D 36)).toInt*z0:=s0_
 have V0:=gC (A':=64*J0) (B':=64*J1) (Jvm.FP.Core.i2d_int (iW (D 35))) (Jvm.FP.Core.i2d_int (iW (D 36))) H1.bk H1.2 V1.2.2.2.1 V1.2.2.2.2 (by omega) (by omega) (by decide) (by rw[Int.mul_left_comm];omega) (by rw[Int.mul_left_comm];omega)
 have W0:=eP (R:=8192*(iW (D 30)).toInt) (Jvm.FP.Core.i2d_int (iW (D 26))) (Jvm.FP.Core.i2d_int (iW (D 28))) q0 q2 V0.2.2.2.1 V0.2.2.2.2 (by omega) (by omega) (by decide) (by rw[Int.mul_left_comm,Int.mul_left_comm ((iW (D 28)).toInt)];omega)
 have X0:(cmpValue (FP.dcmp (FP.dadd (FP.dmul (FP.i2d (iW (D 26))) (FP.dmul (FP.i2d (iW (D 35))) (FP.dmul (FP.i2d (iW (D 40))) (D 42)))) (FP.dmul (FP.i2d (iW (D 28))) (FP.dadd (FP.dadd (D 43) (FP.dmul (FP.i2d (iW (D 41))) (D 42))) (FP.dmul (FP.i2d (iW (D 36))) (FP.dmul (FP.i2d (iW (D 40))) (D 42)))))) (FP.i2d (iW (D 30)))) .l).toInt=0:=cG W0.2.2.2 (aG 13 8192 (ak.mpr (Jvm.FP.Core.i2d_int (iW (D 30)))) rfl (by omega))
 have W1:=eP (R:=8192*(iW (D 31)).toInt) (Jvm.FP.Core.i2d_int (iW (D 27))) (Jvm.FP.Core.i2d_int (iW (D 29))) q1 q3 V0.2.2.2.1 V0.2.2.2.2 (by omega) (by omega) (by decide) (by rw[Int.mul_left_comm,Int.mul_left_comm ((iW (D 29)).toInt)];omega)
 have X1:(cmpValue (FP.dcmp (FP.dadd (FP.dmul (FP.i2d (iW (D 27))) (FP.dmul (FP.i2d (iW (D 35))) (FP.dmul (FP.i2d (iW (D 40))) (D 42)))) (FP.dmul (FP.i2d (iW (D 29))) (FP.dadd (FP.dadd (D 43) (FP.dmul (FP.i2d (iW (D 41))) (D 42))) (FP.dmul (FP.i2d (iW (D 36))) (FP.dmul (FP.i2d (iW (D 40))) (D 42)))))) (FP.i2d (iW (D 31)))) .l).toInt=0:=cG W1.2.2.2 (aG 13 8192 (ak.mpr (Jvm.FP.Core.i2d_int (iW (D 31)))) rfl (by omega))
 refine goE (aY Rk sc0 B Y D0 (by decide) ⟨trivial,V1.1,V1.2.1,trivial,V1.2.2.1,trivial,V0.1,V0.2.1,trivial,V0.2.2.1,trivial,W0.1,trivial,W0.2.1,W0.2.2.1,trivial,W1.1,trivial,W1.2.1,W1.2.2.1,trivial,X0,trivial,X1,trivial⟩ ?_) rfl
 intro T1 h1 L1 A1 K1 B1 hA1 Kp f1 Y1_
 obtain⟨X1,hx,hby,hml,hret,hlk,hown,hZ,hw,e1,n1,N1⟩:=B1
 exact goE (ia X1 hx hlk hret (hb hby at_951) (by decide) (by decide) e1 ⟨rfl,N1⟩) rfl
theorem Rl:ai (run (tb 0) ap 53 (8,192,1792,192) 1000000 84 [] [0,0] (755,gD (sI 2) (sI 0) (sI 1) (List.replicate 9 sU),[au],dX7,44,93,866)) (951,gD (sI 2) (sI 0) (sI 1) [sR 0,sD 53,s2,sD 51,s2,sD 58,s2,sD 63,s2],[zq3],dX7,66,93,866) (([lN,(2,44,43,0),(0,42,45,0),lM,(2,47,43,0),gr,(2,49,46,0),(0,48,50,0),gu,(2,52,46,0)]++M6)++w8)=true:=by decide +kernel
theorem p7 {C0 C1:Int}(B:LWB p l e s m args below meth c T0 Z a0 h0 n0 L0 93 866)(Y:YgF Z n0 h0 A K D W dX7)(D0:D 0=0)(Q:QM D)(J:JM D J0 J1)(H1:PI (iW (D 35)) (iW (D 36)))(H2:PI (iW (D 41)) (iW (D 40)))(HR:(fun J0 J1 C0 C1=>∃z0 z1,Et false (iW (D 35)).toInt (iW (D 36)).toInt J0 J1 z0 z1∧Et true (iW (D 41)).toInt (iW (D 40)).toInt z0 z1 C0 C1) J0 J1 C0 C1)(F0:ah C0 13 (D 42))(F1:ah C1 13 (D 43))(bC0:-8796093022208≤C0∧C0≤8796093022208)(bC1:-8796093022208≤C1∧C1≤8796093022208):Go p e below (bw s (aV n0) 192 1792) T0 (mkF m 755 (dL A D W (gD (sI 2) (sI 0) (sI 1) (List.replicate 9 sU))) [.ref (A 0)]):=by
 obtain⟨q0,q1,q2,q3⟩:=Q
 obtain⟨g0,g1,bJ0,bJ1,bi0,bi1⟩:=J
 obtain⟨z0,z1,E1,E2⟩:=HR
 obtain⟨u1_,s1_⟩:=(E2:Et true (iW (D 41)).toInt (iW (D 40)).toInt z0 z1 C0 C1)
 have u1:(iW (D 41)).toInt*C1=8*z1:=u1_
 have s1:C0=8*z0-(iW (D 40)).toInt*C1:=s1_
 have bq1:=cv H2.2 (x:=C1) (N:=8796093022208) (by omega)
 have br1:=cv H2.bk (x:=C1) (N:=8796093022208) (by omega)
 have V1:=gC (A':=8*z1) (B':=8*z0) (Jvm.FP.Core.i2d_int (iW (D 41))) (Jvm.FP.Core.i2d_int (iW (D 40))) H2.bk H2.2 F1 F0 (by omega) (by omega) (by decide) (by omega) (by omega)
 obtain⟨u0_,s0_⟩:=(E1:Et false (iW (D 35)).toInt (iW (D 36)).toInt J0 J1 z0 z1)
 have u0:(iW (D 35)).toInt*z0=8*J0:=u0_
 have s0:z1=8*J1-(iW (D 36)).toInt*z0:=s0_
 have V0:=gC (A':=64*J0) (B':=64*J1) (Jvm.FP.Core.i2d_int (iW (D 35))) (Jvm.FP.Core.i2d_int (iW (D 36))) H1.bk H1.2 V1.2.2.2.2 V1.2.2.2.1 (by omega) (by omega) (by decide) (by rw[Int.mul_left_comm];omega) (by rw[Int.mul_left_comm];omega)
 have W0:=eP (R:=8192*(iW (D 30)).toInt) (Jvm.FP.Core.i2d_int (iW (D 26))) (Jvm.FP.Core.i2d_int (iW (D 28))) q0 q2 V0.2.2.2.1 V0.2.2.2.2 (by omega) (by omega) (by decide) (by rw[Int.mul_left_comm,Int.mul_left_comm ((iW (D 28)).toInt)];omega)
 have X0:(cmpValue (FP.dcmp (FP.dadd (FP.dmul (FP.i2d (iW (D 26))) (FP.dmul (FP.i2d (iW (D 35))) (FP.dadd (D 42) (FP.dmul (FP.i2d (iW (D 40))) (D 43))))) (FP.dmul (FP.i2d (iW (D 28))) (FP.dadd (FP.dmul (FP.i2d (iW (D 41))) (D 43)) (FP.dmul (FP.i2d (iW (D 36))) (FP.dadd (D 42) (FP.dmul (FP.i2d (iW (D 40))) (D 43))))))) (FP.i2d (iW (D 30)))) .l).toInt=0:=cG W0.2.2.2 (aG 13 8192 (ak.mpr (Jvm.FP.Core.i2d_int (iW (D 30)))) rfl (by omega))
 have W1:=eP (R:=8192*(iW (D 31)).toInt) (Jvm.FP.Core.i2d_int (iW (D 27))) (Jvm.FP.Core.i2d_int (iW (D 29))) q1 q3 V0.2.2.2.1 V0.2.2.2.2 (by omega) (by omega) (by decide) (by rw[Int.mul_left_comm,Int.mul_left_comm ((iW (D 29)).toInt)];omega)
 have X1:(cmpValue (FP.dcmp (FP.dadd (FP.dmul (FP.i2d (iW (D 27))) (FP.dmul (FP.i2d (iW (D 35))) (FP.dadd (D 42) (FP.dmul (FP.i2d (iW (D 40))) (D 43))))) (FP.dmul (FP.i2d (iW (D 29))) (FP.dadd (FP.dmul (FP.i2d (iW (D 41))) (D 43)) (FP.dmul (FP.i2d (iW (D 36))) (FP.dadd (D 42) (FP.dmul (FP.i2d (iW (D 40))) (D 43))))))) (FP.i2d (iW (D 31)))) .l).toInt=0:=cG W1.2.2.2 (aG 13 8192 (ak.mpr (Jvm.FP.Core.i2d_int (iW (D 31)))) rfl (by omega))
 refine goE (aY Rl sc0 B Y D0 (by decide) ⟨trivial,V1.1,V1.2.1,trivial,V1.2.2.1,trivial,V0.1,V0.2.1,trivial,V0.2.2.1,trivial,W0.1,trivial,W0.2.1,W0.2.2.1,trivial,W1.1,trivial,W1.2.1,W1.2.2.1,trivial,X0,trivial,X1,trivial⟩ ?_) rfl
 intro T1 h1 L1 A1 K1 B1 hA1 Kp f1 Y1_
 obtain⟨X1,hx,hby,hml,hret,hlk,hown,hZ,hw,e1,n1,N1⟩:=B1
 exact goE (ia X1 hx hlk hret (hb hby at_951) (by decide) (by decide) e1 ⟨rfl,N1⟩) rfl
def M7:List Op:=[s5,(2,54,51,0),sY,(2,56,53,0),wZ,sZ,(2,59,51,0),oQ,(2,61,53,0)]
theorem Rm:ai (run (tb 0) ap 53 (8,192,1792,192) 1000000 84 [] [0,0] (755,gD (sI 2) (sI 1) (sI 0) (List.replicate 9 sU),[au],dX7,44,93,866)) (951,gD (sI 2) (sI 1) (sI 0) [sR 0,sD 51,s2,sD 53,s2,sD 58,s2,sD 63,s2],[zq3],dX7,66,93,866) (([lM,(2,44,42,0),(0,43,45,0),lN,(2,47,42,0),gu,(2,49,46,0),(0,48,50,0),gr,(2,52,46,0)]++M7)++w8)=true:=by decide +kernel
theorem p8 {C0 C1:Int}(B:LWB p l e s m args below meth c T0 Z a0 h0 n0 L0 93 866)(Y:YgF Z n0 h0 A K D W dX7)(D0:D 0=0)(Q:QM D)(J:JM D J0 J1)(H1:PI (iW (D 36)) (iW (D 35)))(H2:PI (iW (D 40)) (iW (D 41)))(HR:(fun J0 J1 C0 C1=>∃z0 z1,Et true (iW (D 36)).toInt (iW (D 35)).toInt J0 J1 z0 z1∧Et false (iW (D 40)).toInt (iW (D 41)).toInt z0 z1 C0 C1) J0 J1 C0 C1)(F0:ah C0 13 (D 42))(F1:ah C1 13 (D 43))(bC0:-8796093022208≤C0∧C0≤8796093022208)(bC1:-8796093022208≤C1∧C1≤8796093022208):Go p e below (bw s (aV n0) 192 1792) T0 (mkF m 755 (dL A D W (gD (sI 2) (sI 1) (sI 0) (List.replicate 9 sU))) [.ref (A 0)]):=by
 obtain⟨q0,q1,q2,q3⟩:=Q
 obtain⟨g0,g1,bJ0,bJ1,bi0,bi1⟩:=J
 obtain⟨z0,z1,E1,E2⟩:=HR
 obtain⟨u1_,s1_⟩:=(E2:Et false (iW (D 40)).toInt (iW (D 41)).toInt z0 z1 C0 C1)
 have u1:(iW (D 40)).toInt*C0=8*z0:=u1_
 have s1:C1=8*z1-(iW (D 41)).toInt*C0:=s1_
 have bq1:=cv H2.2 (x:=C0) (N:=8796093022208) (by omega)
 have br1:=cv H2.bk (x:=C0) (N:=8796093022208) (by omega)
 have V1:=gC (A':=8*z0) (B':=8*z1) (Jvm.FP.Core.i2d_int (iW (D 40))) (Jvm.FP.Core.i2d_int (iW (D 41))) H2.bk H2.2 F0 F1 (by omega) (by omega) (by decide) (by omega) (by omega)
 obtain⟨u0_,s0_⟩:=(E1:Et true (iW (D 36)).toInt (iW (D 35)).toInt J0 J1 z0 z1)
 have u0:(iW (D 36)).toInt*z1=8*J1:=u0_
 have s0:z0=8*J0-(iW (D 35)).toInt*z1:=s0_
 have V0:=gC (A':=64*J1) (B':=64*J0) (Jvm.FP.Core.i2d_int (iW (D 36))) (Jvm.FP.Core.i2d_int (iW (D 35))) H1.bk H1.2 V1.2.2.2.2 V1.2.2.2.1 (by omega) (by omega) (by decide) (by rw[Int.mul_left_comm];omega) (by rw[Int.mul_left_comm];omega)
 have W0:=eP (R:=8192*(iW (D 30)).toInt) (Jvm.FP.Core.i2d_int (iW (D 26))) (Jvm.FP.Core.i2d_int (iW (D 28))) q0 q2 V0.2.2.2.2 V0.2.2.2.1 (by omega) (by omega) (by decide) (by rw[Int.mul_left_comm,Int.mul_left_comm ((iW (D 28)).toInt)];omega)
 have X0:(cmpValue (FP.dcmp (FP.dadd (FP.dmul (FP.i2d (iW (D 26))) (FP.dadd (FP.dmul (FP.i2d (iW (D 40))) (D 42)) (FP.dmul (FP.i2d (iW (D 35))) (FP.dadd (D 43) (FP.dmul (FP.i2d (iW (D 41))) (D 42)))))) (FP.dmul (FP.i2d (iW (D 28))) (FP.dmul (FP.i2d (iW (D 36))) (FP.dadd (D 43) (FP.dmul (FP.i2d (iW (D 41))) (D 42)))))) (FP.i2d (iW (D 30)))) .l).toInt=0:=cG W0.2.2.2 (aG 13 8192 (ak.mpr (Jvm.FP.Core.i2d_int (iW (D 30)))) rfl (by omega))
 have W1:=eP (R:=8192*(iW (D 31)).toInt) (Jvm.FP.Core.i2d_int (iW (D 27))) (Jvm.FP.Core.i2d_int (iW (D 29))) q1 q3 V0.2.2.2.2 V0.2.2.2.1 (by omega) (by omega) (by decide) (by rw[Int.mul_left_comm,Int.mul_left_comm ((iW (D 29)).toInt)];omega)
 have X1:(cmpValue (FP.dcmp (FP.dadd (FP.dmul (FP.i2d (iW (D 27))) (FP.dadd (FP.dmul (FP.i2d (iW (D 40))) (D 42)) (FP.dmul (FP.i2d (iW (D 35))) (FP.dadd (D 43) (FP.dmul (FP.i2d (iW (D 41))) (D 42)))))) (FP.dmul (FP.i2d (iW (D 29))) (FP.dmul (FP.i2d (iW (D 36))) (FP.dadd (D 43) (FP.dmul (FP.i2d (iW (D 41))) (D 42)))))) (FP.i2d (iW (D 31)))) .l).toInt=0:=cG W1.2.2.2 (aG 13 8192 (ak.mpr (Jvm.FP.Core.i2d_int (iW (D 31)))) rfl (by omega))
 refine goE (aY Rm sc0 B Y D0 (by decide) ⟨trivial,V1.1,V1.2.1,trivial,V1.2.2.1,trivial,V0.1,V0.2.1,trivial,V0.2.2.1,trivial,W0.1,trivial,W0.2.1,W0.2.2.1,trivial,W1.1,trivial,W1.2.1,W1.2.2.1,trivial,X0,trivial,X1,trivial⟩ ?_) rfl
 intro T1 h1 L1 A1 K1 B1 hA1 Kp f1 Y1_
 obtain⟨X1,hx,hby,hml,hret,hlk,hown,hZ,hw,e1,n1,N1⟩:=B1
 exact goE (ia X1 hx hlk hret (hb hby at_951) (by decide) (by decide) e1 ⟨rfl,N1⟩) rfl
theorem Rn:ai (run (tb 0) ap 53 (8,192,1792,192) 1000000 83 [] [0,0] (755,gD (sI 2) (sI 1) (sI 1) (List.replicate 9 sU),[au],dX7,44,93,866)) (951,gD (sI 2) (sI 1) (sI 1) [sR 0,sD 51,s2,sD 53,s2,sD 58,s2,sD 63,s2],[zq3],dX7,66,93,866) (([lN,(2,44,43,0),(0,42,45,0),lM,(2,47,43,0),gu,(2,49,48,0),(0,46,50,0),gr,(2,52,48,0)]++M7)++w8)=true:=by decide +kernel
theorem p9 {C0 C1:Int}(B:LWB p l e s m args below meth c T0 Z a0 h0 n0 L0 93 866)(Y:YgF Z n0 h0 A K D W dX7)(D0:D 0=0)(Q:QM D)(J:JM D J0 J1)(H1:PI (iW (D 36)) (iW (D 35)))(H2:PI (iW (D 41)) (iW (D 40)))(HR:(fun J0 J1 C0 C1=>∃z0 z1,Et true (iW (D 36)).toInt (iW (D 35)).toInt J0 J1 z0 z1∧Et true (iW (D 41)).toInt (iW (D 40)).toInt z0 z1 C0 C1) J0 J1 C0 C1)(F0:ah C0 13 (D 42))(F1:ah C1 13 (D 43))(bC0:-8796093022208≤C0∧C0≤8796093022208)(bC1:-8796093022208≤C1∧C1≤8796093022208):Go p e below (bw s (aV n0) 192 1792) T0 (mkF m 755 (dL A D W (gD (sI 2) (sI 1) (sI 1) (List.replicate 9 sU))) [.ref (A 0)]):=by
 obtain⟨q0,q1,q2,q3⟩:=Q
 obtain⟨g0,g1,bJ0,bJ1,bi0,bi1⟩:=J
 obtain⟨z0,z1,E1,E2⟩:=HR
 obtain⟨u1_,s1_⟩:=(E2:Et true (iW (D 41)).toInt (iW (D 40)).toInt z0 z1 C0 C1)
 have u1:(iW (D 41)).toInt*C1=8*z1:=u1_
 have s1:C0=8*z0-(iW (D 40)).toInt*C1:=s1_
 have bq1:=cv H2.2 (x:=C1) (N:=8796093022208) (by omega)
 have br1:=cv H2.bk (x:=C1) (N:=8796093022208) (by omega)
 have V1:=gC (A':=8*z1) (B':=8*z0) (Jvm.FP.Core.i2d_int (iW (D 41))) (Jvm.FP.Core.i2d_int (iW (D 40))) H2.bk H2.2 F1 F0 (by omega) (by omega) (by decide) (by omega) (by omega)
 obtain⟨u0_,s0_⟩:=(E1:Et true (iW (D 36)).toInt (iW (D 35)).toInt J0 J1 z0 z1)
 have u0:(iW (D 36)).toInt*z1=8*J1:=u0_
 have s0:z0=8*J0-(iW (D 35)).toInt*z1:=s0_
 have V0:=gC (A':=64*J1) (B':=64*J0) (Jvm.FP.Core.i2d_int (iW (D 36))) (Jvm.FP.Core.i2d_int (iW (D 35))) H1.bk H1.2 V1.2.2.2.1 V1.2.2.2.2 (by omega) (by omega) (by decide) (by rw[Int.mul_left_comm];omega) (by rw[Int.mul_left_comm];omega)
 have W0:=eP (R:=8192*(iW (D 30)).toInt) (Jvm.FP.Core.i2d_int (iW (D 26))) (Jvm.FP.Core.i2d_int (iW (D 28))) q0 q2 V0.2.2.2.2 V0.2.2.2.1 (by omega) (by omega) (by decide) (by rw[Int.mul_left_comm,Int.mul_left_comm ((iW (D 28)).toInt)];omega)
 have X0:(cmpValue (FP.dcmp (FP.dadd (FP.dmul (FP.i2d (iW (D 26))) (FP.dadd (FP.dadd (D 42) (FP.dmul (FP.i2d (iW (D 40))) (D 43))) (FP.dmul (FP.i2d (iW (D 35))) (FP.dmul (FP.i2d (iW (D 41))) (D 43))))) (FP.dmul (FP.i2d (iW (D 28))) (FP.dmul (FP.i2d (iW (D 36))) (FP.dmul (FP.i2d (iW (D 41))) (D 43))))) (FP.i2d (iW (D 30)))) .l).toInt=0:=cG W0.2.2.2 (aG 13 8192 (ak.mpr (Jvm.FP.Core.i2d_int (iW (D 30)))) rfl (by omega))
 have W1:=eP (R:=8192*(iW (D 31)).toInt) (Jvm.FP.Core.i2d_int (iW (D 27))) (Jvm.FP.Core.i2d_int (iW (D 29))) q1 q3 V0.2.2.2.2 V0.2.2.2.1 (by omega) (by omega) (by decide) (by rw[Int.mul_left_comm,Int.mul_left_comm ((iW (D 29)).toInt)];omega)
 have X1:(cmpValue (FP.dcmp (FP.dadd (FP.dmul (FP.i2d (iW (D 27))) (FP.dadd (FP.dadd (D 42) (FP.dmul (FP.i2d (iW (D 40))) (D 43))) (FP.dmul (FP.i2d (iW (D 35))) (FP.dmul (FP.i2d (iW (D 41))) (D 43))))) (FP.dmul (FP.i2d (iW (D 29))) (FP.dmul (FP.i2d (iW (D 36))) (FP.dmul (FP.i2d (iW (D 41))) (D 43))))) (FP.i2d (iW (D 31)))) .l).toInt=0:=cG W1.2.2.2 (aG 13 8192 (ak.mpr (Jvm.FP.Core.i2d_int (iW (D 31)))) rfl (by omega))
 refine goE (aY Rn sc0 B Y D0 (by decide) ⟨trivial,V1.1,V1.2.1,trivial,V1.2.2.1,trivial,V0.1,V0.2.1,trivial,V0.2.2.1,trivial,W0.1,trivial,W0.2.1,W0.2.2.1,trivial,W1.1,trivial,W1.2.1,W1.2.2.1,trivial,X0,trivial,X1,trivial⟩ ?_) rfl
 intro T1 h1 L1 A1 K1 B1 hA1 Kp f1 Y1_
 obtain⟨X1,hx,hby,hml,hret,hlk,hown,hZ,hw,e1,n1,N1⟩:=B1
 exact goE (ia X1 hx hlk hret (hb hby at_951) (by decide) (by decide) e1 ⟨rfl,N1⟩) rfl
def d_:List Value:=[au,aK]
theorem RY:ai (run (tb 0) ap 53 (8,192,1792,192) 752 10 [] [] (682,bm (sI 0) (sF 32) (sF 37),[],ci,42,90,860)) (752,bm (sI 0) (sF 32) (sF 37),d_,[aL,(0,0,uS 0 8++rS 2 5++uS 8 15++[zq0]),gN,P9,qP,jC,qO,(1,0,rS 8 3++[zq0]),jB,jf,gN,wX,wW],42,90,860) []=true:=by decide +kernel
theorem Ro (B:LWB p l e s m args below meth c T0 Z a0 h0 n0 L0 90 860)(D0:D 0=0)(Q:QM D)(J:JM D J0 J1)(V:Jvm.FP.Core.DInt (iW (D 30)).toInt (D 1)∧Jvm.FP.Core.DInt (iW (D 31)).toInt (D 2))(HT:bl l Z n0 (iW (D 26)).toInt (iW (D 27)).toInt (iW (D 28)).toInt (iW (D 29)).toInt W lu)(Y:Yf Z n0 h0 (an A K D W 0 ci++lu)):Go p e below (bw s (aV n0) 192 1792) T0 (mkF m 682 (dL A D W (bm (sI 0) (sF 32) (sF 37))) []):=by
 refine goE (aY RY sc0 B (y13 Y) D0 (by decide) trivial ?_) rfl
 intro T1 h1 L1 A1 K1 B1 hA1 Kp f1 Y1
 have Y2:YgF Z n0 h1 A1 K1 (ac [D 0,D 1,D 2]) W (dE Ri++[(1,0,rS 8 3++[vI 0]),(65,2,[vD 0,vD 0]),(66,2,[vI 0,vI 0]),(64,16,rp 16 (vI 0)),(67,2,[vU 23,vU 24]),(68,2,[vU 25,vU 26])]):=YgF.congr Y1 rfl
 refine goE (d9 Y Y2 B1 hA1 Kp f1 rfl (fun rest n1 YS=>RU (A:=A1) (K:=K1) (D:=(ac [D 0,D 1,D 2])) ⟨B1.2.2.2.2.2.2.2.2.1,HT,n1,D0,V.1,V.2,J⟩  YS) ?_) rfl
 intro T2 h2 L2 pr kp kv kf y0 y1 C0 C1 B2 YE HR F0 F1 bC0 bC1
 exact goE (Rj (A:=cA pr A1) (K:=cK kp kv kf K1) (D:=ac (gE D++[y0,y1])) (W:=W) B2 (Yf.to YE rfl) D0 Q J  HR F0 F1 bC0 bC1) rfl
def gQ:Sc:=(E5,[7,8,9,10],[0,43],[dU,aw,zq3]++rp 16 zq0)
def gR:Sc:=(E3,[7,8,9,10],[0,42],[aw,aw]++rp 17 zq0)
def yX:AD:=(64,16,lA++rp 14 zq0)
def oR:List Value:=[aw,aw,aw,aw,bO]
def GN:Sc:=(Fb,[1,2,3,4,5,6,7,8,10],[0,42,43],uS 0 23++rp 16 zq0++rp 16 aw++rp 20 zq0++oR++rp 14 zq0)
def Rp:AD:=(1,0,rS 8 3++[ax])
def Rq:AD:=(66,2,[zq3,zq3])
def oS:AD:=(64,256,[zq3,zq0,zq0,zq0])
def w9:AD:=(0,0,uS 0 8++rS 2 5++uS 8 15++[zq3])
def w_:List AD:=[Rp,aD [42,43],Rq,yX,wX,wW]
theorem OU:ai (run (tb 0) ap 53 (8,192,1792,192) 752 24 [gR,gQ,GN] [] (682,bm (sI 1) (sI 0) (sF 37),[],ci,42,90,860)) (752,bm (sI 1) (sI 0) (sF 37),d_,[aL,w9,gN,(65,16,[dU]++rp 15 aw),(64,17,lA++rp 15 zq0),oS,(65,256,[dT,aw,aw,aw])]++w_,44,90,860) [gu,gr,(12,43,0,1)]=true:=by decide +kernel
theorem IH (B:LWB p l e s m args below meth c T0 Z a0 h0 n0 L0 90 860)(D0:D 0=0)(Q:QM D)(J:JM D J0 J1)(V:Jvm.FP.Core.DInt (iW (D 30)).toInt (D 1)∧Jvm.FP.Core.DInt (iW (D 31)).toInt (D 2))(H1:PI (iW (D 35)) (iW (D 36)))(z1:(cmpValue (FP.dcmp (FP.i2d (iW (D 36))) (D 0)) .l).toInt≠0)(HT:bl l Z n0 (iW (D 26)).toInt (iW (D 27)).toInt (iW (D 28)).toInt (iW (D 29)).toInt W lu)(Y:Yf Z n0 h0 (an A K D W 0 ci++lu)):Go p e below (bw s (aV n0) 192 1792) T0 (mkF m 682 (dL A D W (bm (sI 1) (sI 0) (sF 37))) []):=by
 refine goE (aY OU (scS cS (scS cT (scS ng sc0))) B (y13 Y) D0 (by decide) ⟨trivial,trivial,z1,trivial⟩ ?_) rfl
 intro T1 h1 L1 A1 K1 B1 hA1 Kp f1 Y1
 have Y2:YgF Z n0 h1 A1 K1 (ac [D 0,D 1,D 2,FP.i2d (iW (D 35)),FP.i2d (iW (D 36))]) W (dE uj++[(1,0,rS 8 3++[vI 2]),(65,2,[vD 3,vD 4]),(66,2,[vI 1,vI 1]),(64,16,[vI 0,vI 1]++rp 14 (vI 0)),(67,2,[vU 23,vU 24]),(68,2,[vU 25,vU 26])]):=YgF.congr Y1 rfl
 refine goE (d9 Y Y2 B1 hA1 Kp f1 rfl (fun rest n1 YS=>OQ (A:=A1) (K:=K1) (D:=(ac [D 0,D 1,D 2,FP.i2d (iW (D 35)),FP.i2d (iW (D 36))])) ⟨B1.2.2.2.2.2.2.2.2.1,HT,n1,D0,V.1,V.2,J⟩ H1.pb YS) ?_) rfl
 intro T2 h2 L2 pr kp kv kf y0 y1 C0 C1 B2 YE HR F0 F1 bC0 bC1
 exact goE (M4 (A:=cA pr A1) (K:=cK kp kv kf K1) (D:=ac (gE D++[y0,y1])) (W:=W) B2 (Yf.to YE rfl) D0 Q J H1 HR F0 F1 bC0 bC1) rfl
def i_:List Value:=[vR 5,dB]
def GO:Sc:=(Fe,[1,2,3,4,7,8,10],[0,42,43],uS 0 8++i_++uS 8 15++rp 16 zq0++rp 16 aw++rp 16 zq0++[bO]++rp 14 zq0)
theorem OV:ai (run (tb 0) ap 53 (8,192,1792,192) 752 24 [gR,gQ,GO] [] (682,bm (sI 1) (sI 0) (sF 37),[],ci,42,90,860)) (752,bm (sI 1) (sI 0) (sF 37),d_,[aL,w9,gN,(65,16,[dU]++rp 15 aw),qP,jC,qO]++w_,44,90,860) [gu,gr,(12,43,0,0)]=true:=by decide +kernel
theorem IJ (B:LWB p l e s m args below meth c T0 Z a0 h0 n0 L0 90 860)(D0:D 0=0)(Q:QM D)(J:JM D J0 J1)(V:Jvm.FP.Core.DInt (iW (D 30)).toInt (D 1)∧Jvm.FP.Core.DInt (iW (D 31)).toInt (D 2))(H1:PI (iW (D 35)) (iW (D 36)))(z1:(cmpValue (FP.dcmp (FP.i2d (iW (D 36))) (D 0)) .l).toInt=0)(HT:bl l Z n0 (iW (D 26)).toInt (iW (D 27)).toInt (iW (D 28)).toInt (iW (D 29)).toInt W lu)(Y:Yf Z n0 h0 (an A K D W 0 ci++lu)):Go p e below (bw s (aV n0) 192 1792) T0 (mkF m 682 (dL A D W (bm (sI 1) (sI 0) (sF 37))) []):=by
 have hz1:(iW (D 36)).toInt=0:=by
  rcases aq (ak.mpr H1.pb.2.2.2) D0 with ⟨q,-⟩|⟨-,q⟩
  ·exact q
  ·exact absurd z1 q
 refine goE (aY OV (scS cS (scS cT (scS nh sc0))) B (y13 Y) D0 (by decide) ⟨trivial,trivial,z1,trivial⟩ ?_) rfl
 intro T1 h1 L1 A1 K1 B1 hA1 Kp f1 Y1
 have Y2:YgF Z n0 h1 A1 K1 (ac [D 0,D 1,D 2,FP.i2d (iW (D 35)),FP.i2d (iW (D 36))]) W (dE uk++[(1,0,rS 8 3++[vI 2]),(65,2,[vD 3,vD 4]),(66,2,[vI 1,vI 1]),(64,16,[vI 0,vI 1]++rp 14 (vI 0)),(67,2,[vU 23,vU 24]),(68,2,[vU 25,vU 26])]):=YgF.congr Y1 rfl
 refine goE (d9 Y Y2 B1 hA1 Kp f1 rfl (fun rest n1 YS=>OR (A:=A1) (K:=K1) (D:=(ac [D 0,D 1,D 2,FP.i2d (iW (D 35)),FP.i2d (iW (D 36))])) ⟨B1.2.2.2.2.2.2.2.2.1,HT,n1,D0,V.1,V.2,J⟩ H1.pb hz1 YS) ?_) rfl
 intro T2 h2 L2 pr kp kv kf y0 y1 C0 C1 B2 YE HR F0 F1 bC0 bC1
 exact goE (M4 (A:=cA pr A1) (K:=cK kp kv kf K1) (D:=ac (gE D++[y0,y1])) (W:=W) B2 (Yf.to YE rfl) D0 Q J H1 HR F0 F1 bC0 bC1) rfl
def GP:Sc:=(Fg,[1,2,3,4,5,6,7,8,10],[0,42,43],uS 0 23++rp 16 zq0++rp 16 aw++rp 20 zq0++oR++rp 14 zq0)
def oT:AD:=(64,16,[zq3]++rp 15 zq0)
theorem OW:ai (run (tb 0) ap 53 (8,192,1792,192) 752 24 [gR,gQ,GP] [] (682,bm (sI 1) (sI 1) (sF 37),[],ci,42,90,860)) (752,bm (sI 1) (sI 1) (sF 37),d_,[aL,w9,oT,(65,16,[dT]++rp 15 aw),(64,17,lA++rp 15 zq0),jC,(65,256,[dU,aw,aw,aw])]++w_,44,90,860) [gu,gr,(12,42,0,1)]=true:=by decide +kernel
theorem IK (B:LWB p l e s m args below meth c T0 Z a0 h0 n0 L0 90 860)(D0:D 0=0)(Q:QM D)(J:JM D J0 J1)(V:Jvm.FP.Core.DInt (iW (D 30)).toInt (D 1)∧Jvm.FP.Core.DInt (iW (D 31)).toInt (D 2))(H1:PI (iW (D 36)) (iW (D 35)))(z1:(cmpValue (FP.dcmp (FP.i2d (iW (D 35))) (D 0)) .l).toInt≠0)(HT:bl l Z n0 (iW (D 26)).toInt (iW (D 27)).toInt (iW (D 28)).toInt (iW (D 29)).toInt W lu)(Y:Yf Z n0 h0 (an A K D W 0 ci++lu)):Go p e below (bw s (aV n0) 192 1792) T0 (mkF m 682 (dL A D W (bm (sI 1) (sI 1) (sF 37))) []):=by
 refine goE (aY OW (scS cS (scS cT (scS ni sc0))) B (y13 Y) D0 (by decide) ⟨trivial,trivial,z1,trivial⟩ ?_) rfl
 intro T1 h1 L1 A1 K1 B1 hA1 Kp f1 Y1
 have Y2:YgF Z n0 h1 A1 K1 (ac [D 0,D 1,D 2,FP.i2d (iW (D 36)),FP.i2d (iW (D 35))]) W (dE ul++[(1,0,rS 8 3++[vI 2]),(65,2,[vD 4,vD 3]),(66,2,[vI 1,vI 1]),(64,16,[vI 0,vI 1]++rp 14 (vI 0)),(67,2,[vU 23,vU 24]),(68,2,[vU 25,vU 26])]):=YgF.congr Y1 rfl
 refine goE (d9 Y Y2 B1 hA1 Kp f1 rfl (fun rest n1 YS=>OS (A:=A1) (K:=K1) (D:=(ac [D 0,D 1,D 2,FP.i2d (iW (D 36)),FP.i2d (iW (D 35))])) ⟨B1.2.2.2.2.2.2.2.2.1,HT,n1,D0,V.1,V.2,J⟩ H1.pb YS) ?_) rfl
 intro T2 h2 L2 pr kp kv kf y0 y1 C0 C1 B2 YE HR F0 F1 bC0 bC1
 exact goE (M5 (A:=cA pr A1) (K:=cK kp kv kf K1) (D:=ac (gE D++[y0,y1])) (W:=W) B2 (Yf.to YE rfl) D0 Q J H1 HR F0 F1 bC0 bC1) rfl
def GQ:Sc:=(Fi,[1,2,3,4,7,8,10],[0,42,43],uS 0 8++i_++uS 8 15++rp 16 zq0++rp 16 aw++rp 16 zq0++[bO]++rp 14 zq0)
theorem OX:ai (run (tb 0) ap 53 (8,192,1792,192) 752 24 [gR,gQ,GQ] [] (682,bm (sI 1) (sI 1) (sF 37),[],ci,42,90,860)) (752,bm (sI 1) (sI 1) (sF 37),d_,[aL,w9,oT,(65,16,[dT]++rp 15 aw),qP,jC,qO]++w_,44,90,860) [gu,gr,(12,42,0,0)]=true:=by decide +kernel
theorem IL (B:LWB p l e s m args below meth c T0 Z a0 h0 n0 L0 90 860)(D0:D 0=0)(Q:QM D)(J:JM D J0 J1)(V:Jvm.FP.Core.DInt (iW (D 30)).toInt (D 1)∧Jvm.FP.Core.DInt (iW (D 31)).toInt (D 2))(H1:PI (iW (D 36)) (iW (D 35)))(z1:(cmpValue (FP.dcmp (FP.i2d (iW (D 35))) (D 0)) .l).toInt=0)(HT:bl l Z n0 (iW (D 26)).toInt (iW (D 27)).toInt (iW (D 28)).toInt (iW (D 29)).toInt W lu)(Y:Yf Z n0 h0 (an A K D W 0 ci++lu)):Go p e below (bw s (aV n0) 192 1792) T0 (mkF m 682 (dL A D W (bm (sI 1) (sI 1) (sF 37))) []):=by
 have hz1:(iW (D 35)).toInt=0:=by
  rcases aq (ak.mpr H1.pb.2.2.2) D0 with ⟨q,-⟩|⟨-,q⟩
  ·exact q
  ·exact absurd z1 q
 refine goE (aY OX (scS cS (scS cT (scS nj sc0))) B (y13 Y) D0 (by decide) ⟨trivial,trivial,z1,trivial⟩ ?_) rfl
 intro T1 h1 L1 A1 K1 B1 hA1 Kp f1 Y1
 have Y2:YgF Z n0 h1 A1 K1 (ac [D 0,D 1,D 2,FP.i2d (iW (D 36)),FP.i2d (iW (D 35))]) W (dE um++[(1,0,rS 8 3++[vI 2]),(65,2,[vD 4,vD 3]),(66,2,[vI 1,vI 1]),(64,16,[vI 0,vI 1]++rp 14 (vI 0)),(67,2,[vU 23,vU 24]),(68,2,[vU 25,vU 26])]):=YgF.congr Y1 rfl
 refine goE (d9 Y Y2 B1 hA1 Kp f1 rfl (fun rest n1 YS=>OT (A:=A1) (K:=K1) (D:=(ac [D 0,D 1,D 2,FP.i2d (iW (D 36)),FP.i2d (iW (D 35))])) ⟨B1.2.2.2.2.2.2.2.2.1,HT,n1,D0,V.1,V.2,J⟩ H1.pb hz1 YS) ?_) rfl
 intro T2 h2 L2 pr kp kv kf y0 y1 C0 C1 B2 YE HR F0 F1 bC0 bC1
 exact goE (M5 (A:=cA pr A1) (K:=cK kp kv kf K1) (D:=ac (gE D++[y0,y1])) (W:=W) B2 (Yf.to YE rfl) D0 Q J H1 HR F0 F1 bC0 bC1) rfl
def iN:Sc:=(Fo,[7,8,9],[0,45],[dt,ax,vD 44,dT,zq3])
def iO:Sc:=(Fm,[7,8,9],[0,44],[dt,ax,dU,dT,zq3])
def iP:AD:=(0,0,uS 0 8++rS 2 5++uS 8 15++[ax])
def xa:AD:=aD [44,45]
def xb:AD:=(65,16,[dU,vD 44]++rp 14 aw)
def xc:AD:=(64,17,[zq0,zq3,ax]++rp 14 zq0)
def fS:List AD:=[Rp,xa,Rq,yX,wX,wW]
def xd:List Op:=[gu,gr,(12,43,0,1),lN,lM]
theorem GR:ai (run (tb 0) ap 53 (8,192,1792,192) 752 38 [gR,gQ,GN,iO,iN,(tU,[1,2,3,4,5,6,7,8,10],[0,44,45],uS 0 23++rp 16 zq0++[dU]++rp 15 aw++rp 16 zq0++[zq3,zq0,zq0,zq0,dT,aw,aw,aw,bO]++rp 14 zq0)] [] (682,bm (sI 2) (sI 0) (sI 0),[],ci,42,90,860)) (752,bm (sI 2) (sI 0) (sI 0),d_,[aL,iP,gN,xb,xc,(64,256,[zq3,zq3,zq0,zq0]),(65,256,[dT,vD 45,aw,aw])]++fS,46,90,860) (xd++[(12,45,0,1)])=true:=by decide +kernel
theorem yY (B:LWB p l e s m args below meth c T0 Z a0 h0 n0 L0 90 860)(D0:D 0=0)(Q:QM D)(J:JM D J0 J1)(V:Jvm.FP.Core.DInt (iW (D 30)).toInt (D 1)∧Jvm.FP.Core.DInt (iW (D 31)).toInt (D 2))(H1:PI (iW (D 35)) (iW (D 36)))(z1:(cmpValue (FP.dcmp (FP.i2d (iW (D 36))) (D 0)) .l).toInt≠0)(H2:PI (iW (D 40)) (iW (D 41)))(z2:(cmpValue (FP.dcmp (FP.i2d (iW (D 41))) (D 0)) .l).toInt≠0)(HT:bl l Z n0 (iW (D 26)).toInt (iW (D 27)).toInt (iW (D 28)).toInt (iW (D 29)).toInt W lu)(Y:Yf Z n0 h0 (an A K D W 0 ci++lu)):Go p e below (bw s (aV n0) 192 1792) T0 (mkF m 682 (dL A D W (bm (sI 2) (sI 0) (sI 0))) []):=by
 refine goE (aY GR (scS cS (scS cT (scS ng (scS dW (scS dY (scS Fp sc0)))))) B (y13 Y) D0 (by decide) ⟨trivial,trivial,z1,trivial,trivial,z2,trivial⟩ ?_) rfl
 intro T1 h1 L1 A1 K1 B1 hA1 Kp f1 Y1
 have Y2:YgF Z n0 h1 A1 K1 (ac [D 0,D 1,D 2,FP.i2d (iW (D 35)),FP.i2d (iW (D 36)),FP.i2d (iW (D 40)),FP.i2d (iW (D 41))]) W (dE jT++[(1,0,rS 8 3++[vI 2]),(65,2,[vD 5,vD 6]),(66,2,[vI 1,vI 1]),(64,16,[vI 0,vI 1]++rp 14 (vI 0)),(67,2,[vU 23,vU 24]),(68,2,[vU 25,vU 26])]):=YgF.congr Y1 rfl
 refine goE (d9 Y Y2 B1 hA1 Kp f1 rfl (fun rest n1 YS=>Gx (A:=A1) (K:=K1) (D:=(ac [D 0,D 1,D 2,FP.i2d (iW (D 35)),FP.i2d (iW (D 36)),FP.i2d (iW (D 40)),FP.i2d (iW (D 41))])) ⟨B1.2.2.2.2.2.2.2.2.1,HT,n1,D0,V.1,V.2,J⟩ H1.pb H2.pb YS) ?_) rfl
 intro T2 h2 L2 pr kp kv kf y0 y1 C0 C1 B2 YE HR F0 F1 bC0 bC1
 exact goE (p6 (A:=cA pr A1) (K:=cK kp kv kf K1) (D:=ac (gE D++[y0,y1])) (W:=W) B2 (Yf.to YE rfl) D0 Q J H1 H2 HR F0 F1 bC0 bC1) rfl
def xe:AD:=(64,17,[zq0,zq3,zq3]++rp 14 zq0)
theorem GS:ai (run (tb 0) ap 53 (8,192,1792,192) 752 38 [gR,gQ,GN,iO,iN,(tV,[1,2,3,4,7,8,10],[0,44,45],uS 0 8++i_++uS 8 15++rp 16 zq0++[dU]++rp 15 aw++rp 16 zq0++[bO]++rp 14 zq0)] [] (682,bm (sI 2) (sI 0) (sI 0),[],ci,42,90,860)) (752,bm (sI 2) (sI 0) (sI 0),d_,[aL,iP,gN,xb,xe,oS,(65,256,[dT,aw,aw,aw])]++fS,46,90,860) (xd++[(12,45,0,0)])=true:=by decide +kernel
theorem yZ (B:LWB p l e s m args below meth c T0 Z a0 h0 n0 L0 90 860)(D0:D 0=0)(Q:QM D)(J:JM D J0 J1)(V:Jvm.FP.Core.DInt (iW (D 30)).toInt (D 1)∧Jvm.FP.Core.DInt (iW (D 31)).toInt (D 2))(H1:PI (iW (D 35)) (iW (D 36)))(z1:(cmpValue (FP.dcmp (FP.i2d (iW (D 36))) (D 0)) .l).toInt≠0)(H2:PI (iW (D 40)) (iW (D 41)))(z2:(cmpValue (FP.dcmp (FP.i2d (iW (D 41))) (D 0)) .l).toInt=0)(HT:bl l Z n0 (iW (D 26)).toInt (iW (D 27)).toInt (iW (D 28)).toInt (iW (D 29)).toInt W lu)(Y:Yf Z n0 h0 (an A K D W 0 ci++lu)):Go p e below (bw s (aV n0) 192 1792) T0 (mkF m 682 (dL A D W (bm (sI 2) (sI 0) (sI 0))) []):=by
 have hz2:(iW (D 41)).toInt=0:=by
  rcases aq (ak.mpr H2.pb.2.2.2) D0 with ⟨q,-⟩|⟨-,q⟩
  ·exact q
  ·exact absurd z2 q
 refine goE (aY GS (scS cS (scS cT (scS ng (scS dW (scS dY (scS Fq sc0)))))) B (y13 Y) D0 (by decide) ⟨trivial,trivial,z1,trivial,trivial,z2,trivial⟩ ?_) rfl
 intro T1 h1 L1 A1 K1 B1 hA1 Kp f1 Y1
 have Y2:YgF Z n0 h1 A1 K1 (ac [D 0,D 1,D 2,FP.i2d (iW (D 35)),FP.i2d (iW (D 36)),FP.i2d (iW (D 40)),FP.i2d (iW (D 41))]) W (dE jU++[(1,0,rS 8 3++[vI 2]),(65,2,[vD 5,vD 6]),(66,2,[vI 1,vI 1]),(64,16,[vI 0,vI 1]++rp 14 (vI 0)),(67,2,[vU 23,vU 24]),(68,2,[vU 25,vU 26])]):=YgF.congr Y1 rfl
 refine goE (d9 Y Y2 B1 hA1 Kp f1 rfl (fun rest n1 YS=>Gy (A:=A1) (K:=K1) (D:=(ac [D 0,D 1,D 2,FP.i2d (iW (D 35)),FP.i2d (iW (D 36)),FP.i2d (iW (D 40)),FP.i2d (iW (D 41))])) ⟨B1.2.2.2.2.2.2.2.2.1,HT,n1,D0,V.1,V.2,J⟩ H1.pb H2.pb hz2 YS) ?_) rfl
 intro T2 h2 L2 pr kp kv kf y0 y1 C0 C1 B2 YE HR F0 F1 bC0 bC1
 exact goE (p6 (A:=cA pr A1) (K:=cK kp kv kf K1) (D:=ac (gE D++[y0,y1])) (W:=W) B2 (Yf.to YE rfl) D0 Q J H1 H2 HR F0 F1 bC0 bC1) rfl
def xf:AD:=(65,16,[dU,vD 45]++rp 14 aw)
theorem GT:ai (run (tb 0) ap 53 (8,192,1792,192) 752 38 [gR,gQ,GN,iO,iN,(tW,[1,2,3,4,5,6,7,8,10],[0,44,45],uS 0 23++rp 16 zq0++[dU]++rp 15 aw++rp 16 zq0++[zq3,zq0,zq0,zq0,dT,aw,aw,aw,bO]++rp 14 zq0)] [] (682,bm (sI 2) (sI 0) (sI 1),[],ci,42,90,860)) (752,bm (sI 2) (sI 0) (sI 1),d_,[aL,iP,yX,xf,xc,oS,(65,256,[dT,vD 44,aw,aw])]++fS,46,90,860) (xd++[(12,44,0,1)])=true:=by decide +kernel
theorem y2 (B:LWB p l e s m args below meth c T0 Z a0 h0 n0 L0 90 860)(D0:D 0=0)(Q:QM D)(J:JM D J0 J1)(V:Jvm.FP.Core.DInt (iW (D 30)).toInt (D 1)∧Jvm.FP.Core.DInt (iW (D 31)).toInt (D 2))(H1:PI (iW (D 35)) (iW (D 36)))(z1:(cmpValue (FP.dcmp (FP.i2d (iW (D 36))) (D 0)) .l).toInt≠0)(H2:PI (iW (D 41)) (iW (D 40)))(z2:(cmpValue (FP.dcmp (FP.i2d (iW (D 40))) (D 0)) .l).toInt≠0)(HT:bl l Z n0 (iW (D 26)).toInt (iW (D 27)).toInt (iW (D 28)).toInt (iW (D 29)).toInt W lu)(Y:Yf Z n0 h0 (an A K D W 0 ci++lu)):Go p e below (bw s (aV n0) 192 1792) T0 (mkF m 682 (dL A D W (bm (sI 2) (sI 0) (sI 1))) []):=by
 refine goE (aY GT (scS cS (scS cT (scS ng (scS dW (scS dY (scS Ft sc0)))))) B (y13 Y) D0 (by decide) ⟨trivial,trivial,z1,trivial,trivial,z2,trivial⟩ ?_) rfl
 intro T1 h1 L1 A1 K1 B1 hA1 Kp f1 Y1
 have Y2:YgF Z n0 h1 A1 K1 (ac [D 0,D 1,D 2,FP.i2d (iW (D 35)),FP.i2d (iW (D 36)),FP.i2d (iW (D 41)),FP.i2d (iW (D 40))]) W (dE jV++[(1,0,rS 8 3++[vI 2]),(65,2,[vD 6,vD 5]),(66,2,[vI 1,vI 1]),(64,16,[vI 0,vI 1]++rp 14 (vI 0)),(67,2,[vU 23,vU 24]),(68,2,[vU 25,vU 26])]):=YgF.congr Y1 rfl
 refine goE (d9 Y Y2 B1 hA1 Kp f1 rfl (fun rest n1 YS=>Gz (A:=A1) (K:=K1) (D:=(ac [D 0,D 1,D 2,FP.i2d (iW (D 35)),FP.i2d (iW (D 36)),FP.i2d (iW (D 41)),FP.i2d (iW (D 40))])) ⟨B1.2.2.2.2.2.2.2.2.1,HT,n1,D0,V.1,V.2,J⟩ H1.pb H2.pb YS) ?_) rfl
 intro T2 h2 L2 pr kp kv kf y0 y1 C0 C1 B2 YE HR F0 F1 bC0 bC1
 exact goE (p7 (A:=cA pr A1) (K:=cK kp kv kf K1) (D:=ac (gE D++[y0,y1])) (W:=W) B2 (Yf.to YE rfl) D0 Q J H1 H2 HR F0 F1 bC0 bC1) rfl
theorem GU:ai (run (tb 0) ap 53 (8,192,1792,192) 752 38 [gR,gQ,GN,iO,iN,(tX,[1,2,3,4,7,8,10],[0,44,45],uS 0 8++i_++uS 8 15++rp 16 zq0++[dU]++rp 15 aw++rp 16 zq0++[bO]++rp 14 zq0)] [] (682,bm (sI 2) (sI 0) (sI 1),[],ci,42,90,860)) (752,bm (sI 2) (sI 0) (sI 1),d_,[aL,iP,yX,xf,xe,oS,(65,256,[dT,aw,aw,aw])]++fS,46,90,860) (xd++[(12,44,0,0)])=true:=by decide +kernel
theorem y3 (B:LWB p l e s m args below meth c T0 Z a0 h0 n0 L0 90 860)(D0:D 0=0)(Q:QM D)(J:JM D J0 J1)(V:Jvm.FP.Core.DInt (iW (D 30)).toInt (D 1)∧Jvm.FP.Core.DInt (iW (D 31)).toInt (D 2))(H1:PI (iW (D 35)) (iW (D 36)))(z1:(cmpValue (FP.dcmp (FP.i2d (iW (D 36))) (D 0)) .l).toInt≠0)(H2:PI (iW (D 41)) (iW (D 40)))(z2:(cmpValue (FP.dcmp (FP.i2d (iW (D 40))) (D 0)) .l).toInt=0)(HT:bl l Z n0 (iW (D 26)).toInt (iW (D 27)).toInt (iW (D 28)).toInt (iW (D 29)).toInt W lu)(Y:Yf Z n0 h0 (an A K D W 0 ci++lu)):Go p e below (bw s (aV n0) 192 1792) T0 (mkF m 682 (dL A D W (bm (sI 2) (sI 0) (sI 1))) []):=by
 have hz2:(iW (D 40)).toInt=0:=by
  rcases aq (ak.mpr H2.pb.2.2.2) D0 with ⟨q,-⟩|⟨-,q⟩
  ·exact q
  ·exact absurd z2 q
 refine goE (aY GU (scS cS (scS cT (scS ng (scS dW (scS dY (scS Fu sc0)))))) B (y13 Y) D0 (by decide) ⟨trivial,trivial,z1,trivial,trivial,z2,trivial⟩ ?_) rfl
 intro T1 h1 L1 A1 K1 B1 hA1 Kp f1 Y1
 have Y2:YgF Z n0 h1 A1 K1 (ac [D 0,D 1,D 2,FP.i2d (iW (D 35)),FP.i2d (iW (D 36)),FP.i2d (iW (D 41)),FP.i2d (iW (D 40))]) W (dE jW++[(1,0,rS 8 3++[vI 2]),(65,2,[vD 6,vD 5]),(66,2,[vI 1,vI 1]),(64,16,[vI 0,vI 1]++rp 14 (vI 0)),(67,2,[vU 23,vU 24]),(68,2,[vU 25,vU 26])]):=YgF.congr Y1 rfl
 refine goE (d9 Y Y2 B1 hA1 Kp f1 rfl (fun rest n1 YS=>GA (A:=A1) (K:=K1) (D:=(ac [D 0,D 1,D 2,FP.i2d (iW (D 35)),FP.i2d (iW (D 36)),FP.i2d (iW (D 41)),FP.i2d (iW (D 40))])) ⟨B1.2.2.2.2.2.2.2.2.1,HT,n1,D0,V.1,V.2,J⟩ H1.pb H2.pb hz2 YS) ?_) rfl
 intro T2 h2 L2 pr kp kv kf y0 y1 C0 C1 B2 YE HR F0 F1 bC0 bC1
 exact goE (p7 (A:=cA pr A1) (K:=cK kp kv kf K1) (D:=ac (gE D++[y0,y1])) (W:=W) B2 (Yf.to YE rfl) D0 Q J H1 H2 HR F0 F1 bC0 bC1) rfl
def xg:AD:=(64,17,[zq0,zq0,zq3]++rp 14 zq0)
def xh:List Op:=[gu,gr,(12,43,0,0),lN,lM]
theorem GV:ai (run (tb 0) ap 53 (8,192,1792,192) 752 38 [gR,gQ,GO,iO,iN,(tY,[1,2,3,4,5,6,7,8,10],[0,44,45],uS 0 23++rp 16 zq0++[dU]++rp 15 aw++rp 20 zq0++oR++rp 14 zq0)] [] (682,bm (sI 2) (sI 0) (sI 0),[],ci,42,90,860)) (752,bm (sI 2) (sI 0) (sI 0),d_,[aL,iP,gN,xb,xg,oS,(65,256,[vD 45,aw,aw,aw])]++fS,46,90,860) (xh++[(12,45,0,1)])=true:=by decide +kernel
theorem y4 (B:LWB p l e s m args below meth c T0 Z a0 h0 n0 L0 90 860)(D0:D 0=0)(Q:QM D)(J:JM D J0 J1)(V:Jvm.FP.Core.DInt (iW (D 30)).toInt (D 1)∧Jvm.FP.Core.DInt (iW (D 31)).toInt (D 2))(H1:PI (iW (D 35)) (iW (D 36)))(z1:(cmpValue (FP.dcmp (FP.i2d (iW (D 36))) (D 0)) .l).toInt=0)(H2:PI (iW (D 40)) (iW (D 41)))(z2:(cmpValue (FP.dcmp (FP.i2d (iW (D 41))) (D 0)) .l).toInt≠0)(HT:bl l Z n0 (iW (D 26)).toInt (iW (D 27)).toInt (iW (D 28)).toInt (iW (D 29)).toInt W lu)(Y:Yf Z n0 h0 (an A K D W 0 ci++lu)):Go p e below (bw s (aV n0) 192 1792) T0 (mkF m 682 (dL A D W (bm (sI 2) (sI 0) (sI 0))) []):=by
 have hz1:(iW (D 36)).toInt=0:=by
  rcases aq (ak.mpr H1.pb.2.2.2) D0 with ⟨q,-⟩|⟨-,q⟩
  ·exact q
  ·exact absurd z1 q
 refine goE (aY GV (scS cS (scS cT (scS nh (scS dW (scS dY (scS Fv sc0)))))) B (y13 Y) D0 (by decide) ⟨trivial,trivial,z1,trivial,trivial,z2,trivial⟩ ?_) rfl
 intro T1 h1 L1 A1 K1 B1 hA1 Kp f1 Y1
 have Y2:YgF Z n0 h1 A1 K1 (ac [D 0,D 1,D 2,FP.i2d (iW (D 35)),FP.i2d (iW (D 36)),FP.i2d (iW (D 40)),FP.i2d (iW (D 41))]) W (dE jX++[(1,0,rS 8 3++[vI 2]),(65,2,[vD 5,vD 6]),(66,2,[vI 1,vI 1]),(64,16,[vI 0,vI 1]++rp 14 (vI 0)),(67,2,[vU 23,vU 24]),(68,2,[vU 25,vU 26])]):=YgF.congr Y1 rfl
 refine goE (d9 Y Y2 B1 hA1 Kp f1 rfl (fun rest n1 YS=>GB (A:=A1) (K:=K1) (D:=(ac [D 0,D 1,D 2,FP.i2d (iW (D 35)),FP.i2d (iW (D 36)),FP.i2d (iW (D 40)),FP.i2d (iW (D 41))])) ⟨B1.2.2.2.2.2.2.2.2.1,HT,n1,D0,V.1,V.2,J⟩ H1.pb hz1 H2.pb YS) ?_) rfl
 intro T2 h2 L2 pr kp kv kf y0 y1 C0 C1 B2 YE HR F0 F1 bC0 bC1
 exact goE (p6 (A:=cA pr A1) (K:=cK kp kv kf K1) (D:=ac (gE D++[y0,y1])) (W:=W) B2 (Yf.to YE rfl) D0 Q J H1 H2 HR F0 F1 bC0 bC1) rfl
theorem GW:ai (run (tb 0) ap 53 (8,192,1792,192) 752 38 [gR,gQ,GO,iO,iN,(tZ,[1,2,3,4,7,8,10],[0,44,45],uS 0 8++i_++uS 8 15++rp 16 zq0++[dU]++rp 15 aw++rp 16 zq0++[bO]++rp 14 zq0)] [] (682,bm (sI 2) (sI 0) (sI 0),[],ci,42,90,860)) (752,bm (sI 2) (sI 0) (sI 0),d_,[aL,iP,gN,xb,qP,jC,qO]++fS,46,90,860) (xh++[(12,45,0,0)])=true:=by decide +kernel
theorem y5 (B:LWB p l e s m args below meth c T0 Z a0 h0 n0 L0 90 860)(D0:D 0=0)(Q:QM D)(J:JM D J0 J1)(V:Jvm.FP.Core.DInt (iW (D 30)).toInt (D 1)∧Jvm.FP.Core.DInt (iW (D 31)).toInt (D 2))(H1:PI (iW (D 35)) (iW (D 36)))(z1:(cmpValue (FP.dcmp (FP.i2d (iW (D 36))) (D 0)) .l).toInt=0)(H2:PI (iW (D 40)) (iW (D 41)))(z2:(cmpValue (FP.dcmp (FP.i2d (iW (D 41))) (D 0)) .l).toInt=0)(HT:bl l Z n0 (iW (D 26)).toInt (iW (D 27)).toInt (iW (D 28)).toInt (iW (D 29)).toInt W lu)(Y:Yf Z n0 h0 (an A K D W 0 ci++lu)):Go p e below (bw s (aV n0) 192 1792) T0 (mkF m 682 (dL A D W (bm (sI 2) (sI 0) (sI 0))) []):=by
 have hz1:(iW (D 36)).toInt=0:=by
  rcases aq (ak.mpr H1.pb.2.2.2) D0 with ⟨q,-⟩|⟨-,q⟩
  ·exact q
  ·exact absurd z1 q
 have hz2:(iW (D 41)).toInt=0:=by
  rcases aq (ak.mpr H2.pb.2.2.2) D0 with ⟨q,-⟩|⟨-,q⟩
  ·exact q
  ·exact absurd z2 q
 refine goE (aY GW (scS cS (scS cT (scS nh (scS dW (scS dY (scS Fw sc0)))))) B (y13 Y) D0 (by decide) ⟨trivial,trivial,z1,trivial,trivial,z2,trivial⟩ ?_) rfl
 intro T1 h1 L1 A1 K1 B1 hA1 Kp f1 Y1
 have Y2:YgF Z n0 h1 A1 K1 (ac [D 0,D 1,D 2,FP.i2d (iW (D 35)),FP.i2d (iW (D 36)),FP.i2d (iW (D 40)),FP.i2d (iW (D 41))]) W (dE jY++[(1,0,rS 8 3++[vI 2]),(65,2,[vD 5,vD 6]),(66,2,[vI 1,vI 1]),(64,16,[vI 0,vI 1]++rp 14 (vI 0)),(67,2,[vU 23,vU 24]),(68,2,[vU 25,vU 26])]):=YgF.congr Y1 rfl
 refine goE (d9 Y Y2 B1 hA1 Kp f1 rfl (fun rest n1 YS=>GC (A:=A1) (K:=K1) (D:=(ac [D 0,D 1,D 2,FP.i2d (iW (D 35)),FP.i2d (iW (D 36)),FP.i2d (iW (D 40)),FP.i2d (iW (D 41))])) ⟨B1.2.2.2.2.2.2.2.2.1,HT,n1,D0,V.1,V.2,J⟩ H1.pb hz1 H2.pb hz2 YS) ?_) rfl
 intro T2 h2 L2 pr kp kv kf y0 y1 C0 C1 B2 YE HR F0 F1 bC0 bC1
 exact goE (p6 (A:=cA pr A1) (K:=cK kp kv kf K1) (D:=ac (gE D++[y0,y1])) (W:=W) B2 (Yf.to YE rfl) D0 Q J H1 H2 HR F0 F1 bC0 bC1) rfl
theorem GX:ai (run (tb 0) ap 53 (8,192,1792,192) 752 38 [gR,gQ,GO,iO,iN,(t6,[1,2,3,4,5,6,7,8,10],[0,44,45],uS 0 23++rp 16 zq0++[dU]++rp 15 aw++rp 20 zq0++oR++rp 14 zq0)] [] (682,bm (sI 2) (sI 0) (sI 1),[],ci,42,90,860)) (752,bm (sI 2) (sI 0) (sI 1),d_,[aL,iP,yX,xf,xg,jC,(65,256,[vD 44,aw,aw,aw])]++fS,46,90,860) (xh++[(12,44,0,1)])=true:=by decide +kernel
theorem y6 (B:LWB p l e s m args below meth c T0 Z a0 h0 n0 L0 90 860)(D0:D 0=0)(Q:QM D)(J:JM D J0 J1)(V:Jvm.FP.Core.DInt (iW (D 30)).toInt (D 1)∧Jvm.FP.Core.DInt (iW (D 31)).toInt (D 2))(H1:PI (iW (D 35)) (iW (D 36)))(z1:(cmpValue (FP.dcmp (FP.i2d (iW (D 36))) (D 0)) .l).toInt=0)(H2:PI (iW (D 41)) (iW (D 40)))(z2:(cmpValue (FP.dcmp (FP.i2d (iW (D 40))) (D 0)) .l).toInt≠0)(HT:bl l Z n0 (iW (D 26)).toInt (iW (D 27)).toInt (iW (D 28)).toInt (iW (D 29)).toInt W lu)(Y:Yf Z n0 h0 (an A K D W 0 ci++lu)):Go p e below (bw s (aV n0) 192 1792) T0 (mkF m 682 (dL A D W (bm (sI 2) (sI 0) (sI 1))) []):=by
 have hz1:(iW (D 36)).toInt=0:=by
  rcases aq (ak.mpr H1.pb.2.2.2) D0 with ⟨q,-⟩|⟨-,q⟩
  ·exact q
  ·exact absurd z1 q
 refine goE (aY GX (scS cS (scS cT (scS nh (scS dW (scS dY (scS Fx sc0)))))) B (y13 Y) D0 (by decide) ⟨trivial,trivial,z1,trivial,trivial,z2,trivial⟩ ?_) rfl
 intro T1 h1 L1 A1 K1 B1 hA1 Kp f1 Y1
 have Y2:YgF Z n0 h1 A1 K1 (ac [D 0,D 1,D 2,FP.i2d (iW (D 35)),FP.i2d (iW (D 36)),FP.i2d (iW (D 41)),FP.i2d (iW (D 40))]) W (dE jZ++[(1,0,rS 8 3++[vI 2]),(65,2,[vD 6,vD 5]),(66,2,[vI 1,vI 1]),(64,16,[vI 0,vI 1]++rp 14 (vI 0)),(67,2,[vU 23,vU 24]),(68,2,[vU 25,vU 26])]):=YgF.congr Y1 rfl
 refine goE (d9 Y Y2 B1 hA1 Kp f1 rfl (fun rest n1 YS=>GD (A:=A1) (K:=K1) (D:=(ac [D 0,D 1,D 2,FP.i2d (iW (D 35)),FP.i2d (iW (D 36)),FP.i2d (iW (D 41)),FP.i2d (iW (D 40))])) ⟨B1.2.2.2.2.2.2.2.2.1,HT,n1,D0,V.1,V.2,J⟩ H1.pb hz1 H2.pb YS) ?_) rfl
 intro T2 h2 L2 pr kp kv kf y0 y1 C0 C1 B2 YE HR F0 F1 bC0 bC1
 exact goE (p7 (A:=cA pr A1) (K:=cK kp kv kf K1) (D:=ac (gE D++[y0,y1])) (W:=W) B2 (Yf.to YE rfl) D0 Q J H1 H2 HR F0 F1 bC0 bC1) rfl
theorem GY:ai (run (tb 0) ap 53 (8,192,1792,192) 752 38 [gR,gQ,GO,iO,iN,(t7,[1,2,3,4,7,8,10],[0,44,45],uS 0 8++i_++uS 8 15++rp 16 zq0++[dU]++rp 15 aw++rp 16 zq0++[bO]++rp 14 zq0)] [] (682,bm (sI 2) (sI 0) (sI 1),[],ci,42,90,860)) (752,bm (sI 2) (sI 0) (sI 1),d_,[aL,iP,yX,xf,qP,jC,qO]++fS,46,90,860) (xh++[(12,44,0,0)])=true:=by decide +kernel
theorem y7 (B:LWB p l e s m args below meth c T0 Z a0 h0 n0 L0 90 860)(D0:D 0=0)(Q:QM D)(J:JM D J0 J1)(V:Jvm.FP.Core.DInt (iW (D 30)).toInt (D 1)∧Jvm.FP.Core.DInt (iW (D 31)).toInt (D 2))(H1:PI (iW (D 35)) (iW (D 36)))(z1:(cmpValue (FP.dcmp (FP.i2d (iW (D 36))) (D 0)) .l).toInt=0)(H2:PI (iW (D 41)) (iW (D 40)))(z2:(cmpValue (FP.dcmp (FP.i2d (iW (D 40))) (D 0)) .l).toInt=0)(HT:bl l Z n0 (iW (D 26)).toInt (iW (D 27)).toInt (iW (D 28)).toInt (iW (D 29)).toInt W lu)(Y:Yf Z n0 h0 (an A K D W 0 ci++lu)):Go p e below (bw s (aV n0) 192 1792) T0 (mkF m 682 (dL A D W (bm (sI 2) (sI 0) (sI 1))) []):=by
 have hz1:(iW (D 36)).toInt=0:=by
  rcases aq (ak.mpr H1.pb.2.2.2) D0 with ⟨q,-⟩|⟨-,q⟩
  ·exact q
  ·exact absurd z1 q
 have hz2:(iW (D 40)).toInt=0:=by
  rcases aq (ak.mpr H2.pb.2.2.2) D0 with ⟨q,-⟩|⟨-,q⟩
  ·exact q
  ·exact absurd z2 q
 refine goE (aY GY (scS cS (scS cT (scS nh (scS dW (scS dY (scS Fy sc0)))))) B (y13 Y) D0 (by decide) ⟨trivial,trivial,z1,trivial,trivial,z2,trivial⟩ ?_) rfl
 intro T1 h1 L1 A1 K1 B1 hA1 Kp f1 Y1
 have Y2:YgF Z n0 h1 A1 K1 (ac [D 0,D 1,D 2,FP.i2d (iW (D 35)),FP.i2d (iW (D 36)),FP.i2d (iW (D 41)),FP.i2d (iW (D 40))]) W (dE j6++[(1,0,rS 8 3++[vI 2]),(65,2,[vD 6,vD 5]),(66,2,[vI 1,vI 1]),(64,16,[vI 0,vI 1]++rp 14 (vI 0)),(67,2,[vU 23,vU 24]),(68,2,[vU 25,vU 26])]):=YgF.congr Y1 rfl
 refine goE (d9 Y Y2 B1 hA1 Kp f1 rfl (fun rest n1 YS=>GE (A:=A1) (K:=K1) (D:=(ac [D 0,D 1,D 2,FP.i2d (iW (D 35)),FP.i2d (iW (D 36)),FP.i2d (iW (D 41)),FP.i2d (iW (D 40))])) ⟨B1.2.2.2.2.2.2.2.2.1,HT,n1,D0,V.1,V.2,J⟩ H1.pb hz1 H2.pb hz2 YS) ?_) rfl
 intro T2 h2 L2 pr kp kv kf y0 y1 C0 C1 B2 YE HR F0 F1 bC0 bC1
 exact goE (p7 (A:=cA pr A1) (K:=cK kp kv kf K1) (D:=ac (gE D++[y0,y1])) (W:=W) B2 (Yf.to YE rfl) D0 Q J H1 H2 HR F0 F1 bC0 bC1) rfl
def xi:AD:=(65,16,[dT,vD 44]++rp 14 aw)
def xj:List Op:=[gu,gr,(12,42,0,1),lN,lM]
theorem GZ:ai (run (tb 0) ap 53 (8,192,1792,192) 752 38 [gR,gQ,GP,iO,iN,(tU,[1,2,3,4,5,6,7,8,10],[0,44,45],uS 0 23++[zq3]++rp 15 zq0++[dT]++rp 15 aw++rp 20 zq0++[dU,aw,aw,aw,bO]++rp 14 zq0)] [] (682,bm (sI 2) (sI 1) (sI 0),[],ci,42,90,860)) (752,bm (sI 2) (sI 1) (sI 0),d_,[aL,iP,oT,xi,xc,(64,256,[zq0,zq3,zq0,zq0]),(65,256,[dU,vD 45,aw,aw])]++fS,46,90,860) (xj++[(12,45,0,1)])=true:=by decide +kernel
theorem y8 (B:LWB p l e s m args below meth c T0 Z a0 h0 n0 L0 90 860)(D0:D 0=0)(Q:QM D)(J:JM D J0 J1)(V:Jvm.FP.Core.DInt (iW (D 30)).toInt (D 1)∧Jvm.FP.Core.DInt (iW (D 31)).toInt (D 2))(H1:PI (iW (D 36)) (iW (D 35)))(z1:(cmpValue (FP.dcmp (FP.i2d (iW (D 35))) (D 0)) .l).toInt≠0)(H2:PI (iW (D 40)) (iW (D 41)))(z2:(cmpValue (FP.dcmp (FP.i2d (iW (D 41))) (D 0)) .l).toInt≠0)(HT:bl l Z n0 (iW (D 26)).toInt (iW (D 27)).toInt (iW (D 28)).toInt (iW (D 29)).toInt W lu)(Y:Yf Z n0 h0 (an A K D W 0 ci++lu)):Go p e below (bw s (aV n0) 192 1792) T0 (mkF m 682 (dL A D W (bm (sI 2) (sI 1) (sI 0))) []):=by
 refine goE (aY GZ (scS cS (scS cT (scS ni (scS dW (scS dY (scS Fp sc0)))))) B (y13 Y) D0 (by decide) ⟨trivial,trivial,z1,trivial,trivial,z2,trivial⟩ ?_) rfl
 intro T1 h1 L1 A1 K1 B1 hA1 Kp f1 Y1
 have Y2:YgF Z n0 h1 A1 K1 (ac [D 0,D 1,D 2,FP.i2d (iW (D 36)),FP.i2d (iW (D 35)),FP.i2d (iW (D 40)),FP.i2d (iW (D 41))]) W (dE j7++[(1,0,rS 8 3++[vI 2]),(65,2,[vD 5,vD 6]),(66,2,[vI 1,vI 1]),(64,16,[vI 0,vI 1]++rp 14 (vI 0)),(67,2,[vU 23,vU 24]),(68,2,[vU 25,vU 26])]):=YgF.congr Y1 rfl
 refine goE (d9 Y Y2 B1 hA1 Kp f1 rfl (fun rest n1 YS=>GF (A:=A1) (K:=K1) (D:=(ac [D 0,D 1,D 2,FP.i2d (iW (D 36)),FP.i2d (iW (D 35)),FP.i2d (iW (D 40)),FP.i2d (iW (D 41))])) ⟨B1.2.2.2.2.2.2.2.2.1,HT,n1,D0,V.1,V.2,J⟩ H1.pb H2.pb YS) ?_) rfl
 intro T2 h2 L2 pr kp kv kf y0 y1 C0 C1 B2 YE HR F0 F1 bC0 bC1
 exact goE (p8 (A:=cA pr A1) (K:=cK kp kv kf K1) (D:=ac (gE D++[y0,y1])) (W:=W) B2 (Yf.to YE rfl) D0 Q J H1 H2 HR F0 F1 bC0 bC1) rfl
theorem G0:ai (run (tb 0) ap 53 (8,192,1792,192) 752 38 [gR,gQ,GP,iO,iN,(tV,[1,2,3,4,7,8,10],[0,44,45],uS 0 8++i_++uS 8 15++[zq3]++rp 15 zq0++[dT]++rp 15 aw++rp 16 zq0++[bO]++rp 14 zq0)] [] (682,bm (sI 2) (sI 1) (sI 0),[],ci,42,90,860)) (752,bm (sI 2) (sI 1) (sI 0),d_,[aL,iP,oT,xi,xe,jC,(65,256,[dU,aw,aw,aw])]++fS,46,90,860) (xj++[(12,45,0,0)])=true:=by decide +kernel
theorem y9 (B:LWB p l e s m args below meth c T0 Z a0 h0 n0 L0 90 860)(D0:D 0=0)(Q:QM D)(J:JM D J0 J1)(V:Jvm.FP.Core.DInt (iW (D 30)).toInt (D 1)∧Jvm.FP.Core.DInt (iW (D 31)).toInt (D 2))(H1:PI (iW (D 36)) (iW (D 35)))(z1:(cmpValue (FP.dcmp (FP.i2d (iW (D 35))) (D 0)) .l).toInt≠0)(H2:PI (iW (D 40)) (iW (D 41)))(z2:(cmpValue (FP.dcmp (FP.i2d (iW (D 41))) (D 0)) .l).toInt=0)(HT:bl l Z n0 (iW (D 26)).toInt (iW (D 27)).toInt (iW (D 28)).toInt (iW (D 29)).toInt W lu)(Y:Yf Z n0 h0 (an A K D W 0 ci++lu)):Go p e below (bw s (aV n0) 192 1792) T0 (mkF m 682 (dL A D W (bm (sI 2) (sI 1) (sI 0))) []):=by
 have hz2:(iW (D 41)).toInt=0:=by
  rcases aq (ak.mpr H2.pb.2.2.2) D0 with ⟨q,-⟩|⟨-,q⟩
  ·exact q
  ·exact absurd z2 q
 refine goE (aY G0 (scS cS (scS cT (scS ni (scS dW (scS dY (scS Fq sc0)))))) B (y13 Y) D0 (by decide) ⟨trivial,trivial,z1,trivial,trivial,z2,trivial⟩ ?_) rfl
 intro T1 h1 L1 A1 K1 B1 hA1 Kp f1 Y1
 have Y2:YgF Z n0 h1 A1 K1 (ac [D 0,D 1,D 2,FP.i2d (iW (D 36)),FP.i2d (iW (D 35)),FP.i2d (iW (D 40)),FP.i2d (iW (D 41))]) W (dE j8++[(1,0,rS 8 3++[vI 2]),(65,2,[vD 5,vD 6]),(66,2,[vI 1,vI 1]),(64,16,[vI 0,vI 1]++rp 14 (vI 0)),(67,2,[vU 23,vU 24]),(68,2,[vU 25,vU 26])]):=YgF.congr Y1 rfl
 refine goE (d9 Y Y2 B1 hA1 Kp f1 rfl (fun rest n1 YS=>GG (A:=A1) (K:=K1) (D:=(ac [D 0,D 1,D 2,FP.i2d (iW (D 36)),FP.i2d (iW (D 35)),FP.i2d (iW (D 40)),FP.i2d (iW (D 41))])) ⟨B1.2.2.2.2.2.2.2.2.1,HT,n1,D0,V.1,V.2,J⟩ H1.pb H2.pb hz2 YS) ?_) rfl
 intro T2 h2 L2 pr kp kv kf y0 y1 C0 C1 B2 YE HR F0 F1 bC0 bC1
 exact goE (p8 (A:=cA pr A1) (K:=cK kp kv kf K1) (D:=ac (gE D++[y0,y1])) (W:=W) B2 (Yf.to YE rfl) D0 Q J H1 H2 HR F0 F1 bC0 bC1) rfl
def xk:AD:=(65,16,[dT,vD 45]++rp 14 aw)
def xl:AD:=(64,16,[zq3,zq3]++rp 14 zq0)
theorem G1:ai (run (tb 0) ap 53 (8,192,1792,192) 752 38 [gR,gQ,GP,iO,iN,(tW,[1,2,3,4,5,6,7,8,10],[0,44,45],uS 0 23++[zq3]++rp 15 zq0++[dT]++rp 15 aw++rp 20 zq0++[dU,aw,aw,aw,bO]++rp 14 zq0)] [] (682,bm (sI 2) (sI 1) (sI 1),[],ci,42,90,860)) (752,bm (sI 2) (sI 1) (sI 1),d_,[aL,iP,xl,xk,xc,jC,(65,256,[dU,vD 44,aw,aw])]++fS,46,90,860) (xj++[(12,44,0,1)])=true:=by decide +kernel
theorem y_ (B:LWB p l e s m args below meth c T0 Z a0 h0 n0 L0 90 860)(D0:D 0=0)(Q:QM D)(J:JM D J0 J1)(V:Jvm.FP.Core.DInt (iW (D 30)).toInt (D 1)∧Jvm.FP.Core.DInt (iW (D 31)).toInt (D 2))(H1:PI (iW (D 36)) (iW (D 35)))(z1:(cmpValue (FP.dcmp (FP.i2d (iW (D 35))) (D 0)) .l).toInt≠0)(H2:PI (iW (D 41)) (iW (D 40)))(z2:(cmpValue (FP.dcmp (FP.i2d (iW (D 40))) (D 0)) .l).toInt≠0)(HT:bl l Z n0 (iW (D 26)).toInt (iW (D 27)).toInt (iW (D 28)).toInt (iW (D 29)).toInt W lu)(Y:Yf Z n0 h0 (an A K D W 0 ci++lu)):Go p e below (bw s (aV n0) 192 1792) T0 (mkF m 682 (dL A D W (bm (sI 2) (sI 1) (sI 1))) []):=by
 refine goE (aY G1 (scS cS (scS cT (scS ni (scS dW (scS dY (scS Ft sc0)))))) B (y13 Y) D0 (by decide) ⟨trivial,trivial,z1,trivial,trivial,z2,trivial⟩ ?_) rfl
 intro T1 h1 L1 A1 K1 B1 hA1 Kp f1 Y1
 have Y2:YgF Z n0 h1 A1 K1 (ac [D 0,D 1,D 2,FP.i2d (iW (D 36)),FP.i2d (iW (D 35)),FP.i2d (iW (D 41)),FP.i2d (iW (D 40))]) W (dE j_++[(1,0,rS 8 3++[vI 2]),(65,2,[vD 6,vD 5]),(66,2,[vI 1,vI 1]),(64,16,[vI 0,vI 1]++rp 14 (vI 0)),(67,2,[vU 23,vU 24]),(68,2,[vU 25,vU 26])]):=YgF.congr Y1 rfl
 refine goE (d9 Y Y2 B1 hA1 Kp f1 rfl (fun rest n1 YS=>GH (A:=A1) (K:=K1) (D:=(ac [D 0,D 1,D 2,FP.i2d (iW (D 36)),FP.i2d (iW (D 35)),FP.i2d (iW (D 41)),FP.i2d (iW (D 40))])) ⟨B1.2.2.2.2.2.2.2.2.1,HT,n1,D0,V.1,V.2,J⟩ H1.pb H2.pb YS) ?_) rfl
 intro T2 h2 L2 pr kp kv kf y0 y1 C0 C1 B2 YE HR F0 F1 bC0 bC1
 exact goE (p9 (A:=cA pr A1) (K:=cK kp kv kf K1) (D:=ac (gE D++[y0,y1])) (W:=W) B2 (Yf.to YE rfl) D0 Q J H1 H2 HR F0 F1 bC0 bC1) rfl
theorem G2:ai (run (tb 0) ap 53 (8,192,1792,192) 752 38 [gR,gQ,GP,iO,iN,(tX,[1,2,3,4,7,8,10],[0,44,45],uS 0 8++i_++uS 8 15++[zq3]++rp 15 zq0++[dT]++rp 15 aw++rp 16 zq0++[bO]++rp 14 zq0)] [] (682,bm (sI 2) (sI 1) (sI 1),[],ci,42,90,860)) (752,bm (sI 2) (sI 1) (sI 1),d_,[aL,iP,xl,xk,xe,jC,(65,256,[dU,aw,aw,aw])]++fS,46,90,860) (xj++[(12,44,0,0)])=true:=by decide +kernel
theorem zb (B:LWB p l e s m args below meth c T0 Z a0 h0 n0 L0 90 860)(D0:D 0=0)(Q:QM D)(J:JM D J0 J1)(V:Jvm.FP.Core.DInt (iW (D 30)).toInt (D 1)∧Jvm.FP.Core.DInt (iW (D 31)).toInt (D 2))(H1:PI (iW (D 36)) (iW (D 35)))(z1:(cmpValue (FP.dcmp (FP.i2d (iW (D 35))) (D 0)) .l).toInt≠0)(H2:PI (iW (D 41)) (iW (D 40)))(z2:(cmpValue (FP.dcmp (FP.i2d (iW (D 40))) (D 0)) .l).toInt=0)(HT:bl l Z n0 (iW (D 26)).toInt (iW (D 27)).toInt (iW (D 28)).toInt (iW (D 29)).toInt W lu)(Y:Yf Z n0 h0 (an A K D W 0 ci++lu)):Go p e below (bw s (aV n0) 192 1792) T0 (mkF m 682 (dL A D W (bm (sI 2) (sI 1) (sI 1))) []):=by
 have hz2:(iW (D 40)).toInt=0:=by
  rcases aq (ak.mpr H2.pb.2.2.2) D0 with ⟨q,-⟩|⟨-,q⟩
  ·exact q
  ·exact absurd z2 q
 refine goE (aY G2 (scS cS (scS cT (scS ni (scS dW (scS dY (scS Fu sc0)))))) B (y13 Y) D0 (by decide) ⟨trivial,trivial,z1,trivial,trivial,z2,trivial⟩ ?_) rfl
 intro T1 h1 L1 A1 K1 B1 hA1 Kp f1 Y1
 have Y2:YgF Z n0 h1 A1 K1 (ac [D 0,D 1,D 2,FP.i2d (iW (D 36)),FP.i2d (iW (D 35)),FP.i2d (iW (D 41)),FP.i2d (iW (D 40))]) W (dE ka++[(1,0,rS 8 3++[vI 2]),(65,2,[vD 6,vD 5]),(66,2,[vI 1,vI 1]),(64,16,[vI 0,vI 1]++rp 14 (vI 0)),(67,2,[vU 23,vU 24]),(68,2,[vU 25,vU 26])]):=YgF.congr Y1 rfl
 refine goE (d9 Y Y2 B1 hA1 Kp f1 rfl (fun rest n1 YS=>GI (A:=A1) (K:=K1) (D:=(ac [D 0,D 1,D 2,FP.i2d (iW (D 36)),FP.i2d (iW (D 35)),FP.i2d (iW (D 41)),FP.i2d (iW (D 40))])) ⟨B1.2.2.2.2.2.2.2.2.1,HT,n1,D0,V.1,V.2,J⟩ H1.pb H2.pb hz2 YS) ?_) rfl
 intro T2 h2 L2 pr kp kv kf y0 y1 C0 C1 B2 YE HR F0 F1 bC0 bC1
 exact goE (p9 (A:=cA pr A1) (K:=cK kp kv kf K1) (D:=ac (gE D++[y0,y1])) (W:=W) B2 (Yf.to YE rfl) D0 Q J H1 H2 HR F0 F1 bC0 bC1) rfl
def xm:List Op:=[gu,gr,(12,42,0,0),lN,lM]
theorem G3:ai (run (tb 0) ap 53 (8,192,1792,192) 752 38 [gR,gQ,GQ,iO,iN,(tY,[1,2,3,4,5,6,7,8,10],[0,44,45],uS 0 23++[zq3]++rp 15 zq0++[dT]++rp 15 aw++rp 20 zq0++oR++rp 14 zq0)] [] (682,bm (sI 2) (sI 1) (sI 0),[],ci,42,90,860)) (752,bm (sI 2) (sI 1) (sI 0),d_,[aL,iP,oT,xi,xg,oS,(65,256,[vD 45,aw,aw,aw])]++fS,46,90,860) (xm++[(12,45,0,1)])=true:=by decide +kernel
theorem zc (B:LWB p l e s m args below meth c T0 Z a0 h0 n0 L0 90 860)(D0:D 0=0)(Q:QM D)(J:JM D J0 J1)(V:Jvm.FP.Core.DInt (iW (D 30)).toInt (D 1)∧Jvm.FP.Core.DInt (iW (D 31)).toInt (D 2))(H1:PI (iW (D 36)) (iW (D 35)))(z1:(cmpValue (FP.dcmp (FP.i2d (iW (D 35))) (D 0)) .l).toInt=0)(H2:PI (iW (D 40)) (iW (D 41)))(z2:(cmpValue (FP.dcmp (FP.i2d (iW (D 41))) (D 0)) .l).toInt≠0)(HT:bl l Z n0 (iW (D 26)).toInt (iW (D 27)).toInt (iW (D 28)).toInt (iW (D 29)).toInt W lu)(Y:Yf Z n0 h0 (an A K D W 0 ci++lu)):Go p e below (bw s (aV n0) 192 1792) T0 (mkF m 682 (dL A D W (bm (sI 2) (sI 1) (sI 0))) []):=by
 have hz1:(iW (D 35)).toInt=0:=by
  rcases aq (ak.mpr H1.pb.2.2.2) D0 with ⟨q,-⟩|⟨-,q⟩
  ·exact q
  ·exact absurd z1 q
 refine goE (aY G3 (scS cS (scS cT (scS nj (scS dW (scS dY (scS Fv sc0)))))) B (y13 Y) D0 (by decide) ⟨trivial,trivial,z1,trivial,trivial,z2,trivial⟩ ?_) rfl
 intro T1 h1 L1 A1 K1 B1 hA1 Kp f1 Y1
 have Y2:YgF Z n0 h1 A1 K1 (ac [D 0,D 1,D 2,FP.i2d (iW (D 36)),FP.i2d (iW (D 35)),FP.i2d (iW (D 40)),FP.i2d (iW (D 41))]) W (dE kb++[(1,0,rS 8 3++[vI 2]),(65,2,[vD 5,vD 6]),(66,2,[vI 1,vI 1]),(64,16,[vI 0,vI 1]++rp 14 (vI 0)),(67,2,[vU 23,vU 24]),(68,2,[vU 25,vU 26])]):=YgF.congr Y1 rfl
 refine goE (d9 Y Y2 B1 hA1 Kp f1 rfl (fun rest n1 YS=>GJ (A:=A1) (K:=K1) (D:=(ac [D 0,D 1,D 2,FP.i2d (iW (D 36)),FP.i2d (iW (D 35)),FP.i2d (iW (D 40)),FP.i2d (iW (D 41))])) ⟨B1.2.2.2.2.2.2.2.2.1,HT,n1,D0,V.1,V.2,J⟩ H1.pb hz1 H2.pb YS) ?_) rfl
 intro T2 h2 L2 pr kp kv kf y0 y1 C0 C1 B2 YE HR F0 F1 bC0 bC1
 exact goE (p8 (A:=cA pr A1) (K:=cK kp kv kf K1) (D:=ac (gE D++[y0,y1])) (W:=W) B2 (Yf.to YE rfl) D0 Q J H1 H2 HR F0 F1 bC0 bC1) rfl
theorem G4:ai (run (tb 0) ap 53 (8,192,1792,192) 752 38 [gR,gQ,GQ,iO,iN,(tZ,[1,2,3,4,7,8,10],[0,44,45],uS 0 8++i_++uS 8 15++[zq3]++rp 15 zq0++[dT]++rp 15 aw++rp 16 zq0++[bO]++rp 14 zq0)] [] (682,bm (sI 2) (sI 1) (sI 0),[],ci,42,90,860)) (752,bm (sI 2) (sI 1) (sI 0),d_,[aL,iP,oT,xi,qP,jC,qO]++fS,46,90,860) (xm++[(12,45,0,0)])=true:=by decide +kernel
theorem ze (B:LWB p l e s m args below meth c T0 Z a0 h0 n0 L0 90 860)(D0:D 0=0)(Q:QM D)(J:JM D J0 J1)(V:Jvm.FP.Core.DInt (iW (D 30)).toInt (D 1)∧Jvm.FP.Core.DInt (iW (D 31)).toInt (D 2))(H1:PI (iW (D 36)) (iW (D 35)))(z1:(cmpValue (FP.dcmp (FP.i2d (iW (D 35))) (D 0)) .l).toInt=0)(H2:PI (iW (D 40)) (iW (D 41)))(z2:(cmpValue (FP.dcmp (FP.i2d (iW (D 41))) (D 0)) .l).toInt=0)(HT:bl l Z n0 (iW (D 26)).toInt (iW (D 27)).toInt (iW (D 28)).toInt (iW (D 29)).toInt W lu)(Y:Yf Z n0 h0 (an A K D W 0 ci++lu)):Go p e below (bw s (aV n0) 192 1792) T0 (mkF m 682 (dL A D W (bm (sI 2) (sI 1) (sI 0))) []):=by
 have hz1:(iW (D 35)).toInt=0:=by
  rcases aq (ak.mpr H1.pb.2.2.2) D0 with ⟨q,-⟩|⟨-,q⟩
  ·exact q
  ·exact absurd z1 q
 have hz2:(iW (D 41)).toInt=0:=by
  rcases aq (ak.mpr H2.pb.2.2.2) D0 with ⟨q,-⟩|⟨-,q⟩
  ·exact q
  ·exact absurd z2 q
 refine goE (aY G4 (scS cS (scS cT (scS nj (scS dW (scS dY (scS Fw sc0)))))) B (y13 Y) D0 (by decide) ⟨trivial,trivial,z1,trivial,trivial,z2,trivial⟩ ?_) rfl
 intro T1 h1 L1 A1 K1 B1 hA1 Kp f1 Y1
 have Y2:YgF Z n0 h1 A1 K1 (ac [D 0,D 1,D 2,FP.i2d (iW (D 36)),FP.i2d (iW (D 35)),FP.i2d (iW (D 40)),FP.i2d (iW (D 41))]) W (dE kc++[(1,0,rS 8 3++[vI 2]),(65,2,[vD 5,vD 6]),(66,2,[vI 1,vI 1]),(64,16,[vI 0,vI 1]++rp 14 (vI 0)),(67,2,[vU 23,vU 24]),(68,2,[vU 25,vU 26])]):=YgF.congr Y1 rfl
 refine goE (d9 Y Y2 B1 hA1 Kp f1 rfl (fun rest n1 YS=>GK (A:=A1) (K:=K1) (D:=(ac [D 0,D 1,D 2,FP.i2d (iW (D 36)),FP.i2d (iW (D 35)),FP.i2d (iW (D 40)),FP.i2d (iW (D 41))])) ⟨B1.2.2.2.2.2.2.2.2.1,HT,n1,D0,V.1,V.2,J⟩ H1.pb hz1 H2.pb hz2 YS) ?_) rfl
 intro T2 h2 L2 pr kp kv kf y0 y1 C0 C1 B2 YE HR F0 F1 bC0 bC1
 exact goE (p8 (A:=cA pr A1) (K:=cK kp kv kf K1) (D:=ac (gE D++[y0,y1])) (W:=W) B2 (Yf.to YE rfl) D0 Q J H1 H2 HR F0 F1 bC0 bC1) rfl
theorem G5:ai (run (tb 0) ap 53 (8,192,1792,192) 752 38 [gR,gQ,GQ,iO,iN,(t6,[1,2,3,4,5,6,7,8,10],[0,44,45],uS 0 23++[zq3]++rp 15 zq0++[dT]++rp 15 aw++rp 20 zq0++oR++rp 14 zq0)] [] (682,bm (sI 2) (sI 1) (sI 1),[],ci,42,90,860)) (752,bm (sI 2) (sI 1) (sI 1),d_,[aL,iP,xl,xk,xg,jC,(65,256,[vD 44,aw,aw,aw])]++fS,46,90,860) (xm++[(12,44,0,1)])=true:=by decide +kernel
theorem zf (B:LWB p l e s m args below meth c T0 Z a0 h0 n0 L0 90 860)(D0:D 0=0)(Q:QM D)(J:JM D J0 J1)(V:Jvm.FP.Core.DInt (iW (D 30)).toInt (D 1)∧Jvm.FP.Core.DInt (iW (D 31)).toInt (D 2))(H1:PI (iW (D 36)) (iW (D 35)))(z1:(cmpValue (FP.dcmp (FP.i2d (iW (D 35))) (D 0)) .l).toInt=0)(H2:PI (iW (D 41)) (iW (D 40)))(z2:(cmpValue (FP.dcmp (FP.i2d (iW (D 40))) (D 0)) .l).toInt≠0)(HT:bl l Z n0 (iW (D 26)).toInt (iW (D 27)).toInt (iW (D 28)).toInt (iW (D 29)).toInt W lu)(Y:Yf Z n0 h0 (an A K D W 0 ci++lu)):Go p e below (bw s (aV n0) 192 1792) T0 (mkF m 682 (dL A D W (bm (sI 2) (sI 1) (sI 1))) []):=by
 have hz1:(iW (D 35)).toInt=0:=by
  rcases aq (ak.mpr H1.pb.2.2.2) D0 with ⟨q,-⟩|⟨-,q⟩
  ·exact q
  ·exact absurd z1 q
 refine goE (aY G5 (scS cS (scS cT (scS nj (scS dW (scS dY (scS Fx sc0)))))) B (y13 Y) D0 (by decide) ⟨trivial,trivial,z1,trivial,trivial,z2,trivial⟩ ?_) rfl
 intro T1 h1 L1 A1 K1 B1 hA1 Kp f1 Y1
 have Y2:YgF Z n0 h1 A1 K1 (ac [D 0,D 1,D 2,FP.i2d (iW (D 36)),FP.i2d (iW (D 35)),FP.i2d (iW (D 41)),FP.i2d (iW (D 40))]) W (dE ke++[(1,0,rS 8 3++[vI 2]),(65,2,[vD 6,vD 5]),(66,2,[vI 1,vI 1]),(64,16,[vI 0,vI 1]++rp 14 (vI 0)),(67,2,[vU 23,vU 24]),(68,2,[vU 25,vU 26])]):=YgF.congr Y1 rfl
 refine goE (d9 Y Y2 B1 hA1 Kp f1 rfl (fun rest n1 YS=>GL (A:=A1) (K:=K1) (D:=(ac [D 0,D 1,D 2,FP.i2d (iW (D 36)),FP.i2d (iW (D 35)),FP.i2d (iW (D 41)),FP.i2d (iW (D 40))])) ⟨B1.2.2.2.2.2.2.2.2.1,HT,n1,D0,V.1,V.2,J⟩ H1.pb hz1 H2.pb YS) ?_) rfl
 intro T2 h2 L2 pr kp kv kf y0 y1 C0 C1 B2 YE HR F0 F1 bC0 bC1
 exact goE (p9 (A:=cA pr A1) (K:=cK kp kv kf K1) (D:=ac (gE D++[y0,y1])) (W:=W) B2 (Yf.to YE rfl) D0 Q J H1 H2 HR F0 F1 bC0 bC1) rfl
theorem G6:ai (run (tb 0) ap 53 (8,192,1792,192) 752 38 [gR,gQ,GQ,iO,iN,(t7,[1,2,3,4,7,8,10],[0,44,45],uS 0 8++i_++uS 8 15++[zq3]++rp 15 zq0++[dT]++rp 15 aw++rp 16 zq0++[bO]++rp 14 zq0)] [] (682,bm (sI 2) (sI 1) (sI 1),[],ci,42,90,860)) (752,bm (sI 2) (sI 1) (sI 1),d_,[aL,iP,xl,xk,qP,jC,qO]++fS,46,90,860) (xm++[(12,44,0,0)])=true:=by decide +kernel
theorem zg (B:LWB p l e s m args below meth c T0 Z a0 h0 n0 L0 90 860)(D0:D 0=0)(Q:QM D)(J:JM D J0 J1)(V:Jvm.FP.Core.DInt (iW (D 30)).toInt (D 1)∧Jvm.FP.Core.DInt (iW (D 31)).toInt (D 2))(H1:PI (iW (D 36)) (iW (D 35)))(z1:(cmpValue (FP.dcmp (FP.i2d (iW (D 35))) (D 0)) .l).toInt=0)(H2:PI (iW (D 41)) (iW (D 40)))(z2:(cmpValue (FP.dcmp (FP.i2d (iW (D 40))) (D 0)) .l).toInt=0)(HT:bl l Z n0 (iW (D 26)).toInt (iW (D 27)).toInt (iW (D 28)).toInt (iW (D 29)).toInt W lu)(Y:Yf Z n0 h0 (an A K D W 0 ci++lu)):Go p e below (bw s (aV n0) 192 1792) T0 (mkF m 682 (dL A D W (bm (sI 2) (sI 1) (sI 1))) []):=by
 have hz1:(iW (D 35)).toInt=0:=by
  rcases aq (ak.mpr H1.pb.2.2.2) D0 with ⟨q,-⟩|⟨-,q⟩
  ·exact q
  ·exact absurd z1 q
 have hz2:(iW (D 40)).toInt=0:=by
  rcases aq (ak.mpr H2.pb.2.2.2) D0 with ⟨q,-⟩|⟨-,q⟩
  ·exact q
  ·exact absurd z2 q
 refine goE (aY G6 (scS cS (scS cT (scS nj (scS dW (scS dY (scS Fy sc0)))))) B (y13 Y) D0 (by decide) ⟨trivial,trivial,z1,trivial,trivial,z2,trivial⟩ ?_) rfl
 intro T1 h1 L1 A1 K1 B1 hA1 Kp f1 Y1
 have Y2:YgF Z n0 h1 A1 K1 (ac [D 0,D 1,D 2,FP.i2d (iW (D 36)),FP.i2d (iW (D 35)),FP.i2d (iW (D 41)),FP.i2d (iW (D 40))]) W (dE kg++[(1,0,rS 8 3++[vI 2]),(65,2,[vD 6,vD 5]),(66,2,[vI 1,vI 1]),(64,16,[vI 0,vI 1]++rp 14 (vI 0)),(67,2,[vU 23,vU 24]),(68,2,[vU 25,vU 26])]):=YgF.congr Y1 rfl
 refine goE (d9 Y Y2 B1 hA1 Kp f1 rfl (fun rest n1 YS=>GM (A:=A1) (K:=K1) (D:=(ac [D 0,D 1,D 2,FP.i2d (iW (D 36)),FP.i2d (iW (D 35)),FP.i2d (iW (D 41)),FP.i2d (iW (D 40))])) ⟨B1.2.2.2.2.2.2.2.2.1,HT,n1,D0,V.1,V.2,J⟩ H1.pb hz1 H2.pb hz2 YS) ?_) rfl
 intro T2 h2 L2 pr kp kv kf y0 y1 C0 C1 B2 YE HR F0 F1 bC0 bC1
 exact goE (p9 (A:=cA pr A1) (K:=cK kp kv kf K1) (D:=ac (gE D++[y0,y1])) (W:=W) B2 (Yf.to YE rfl) D0 Q J H1 H2 HR F0 F1 bC0 bC1) rfl
def G7:Op:=(23,14,1099511627777,0)
def G8:Op:=(23,12,1099511627777,0)
theorem RZ:∀b1 b2 b3 b4:Bool,ai (run (tb 0) ap 53 (8,192,1792,192) 67 42 [] [(bif b1 then 1 else 0),(bif b2 then 1 else 0),(bif b3 then 1 else 0),(bif b4 then 1 else 0)] (0,#[sF 1,sF 2,sF 3,sF 4,sF 5,sF 6,sU,sU,sU,sU,sU,sU,sU,sU,sU,sU,sU,sU,sU,sU,sU,sU,sU,sU,sU,sU,sU,sU,sU,sU,sU,sU,sU,sU,sU,sU,sU,sU,sU,sU,sU,sU,sU,sU,sU,sU,sU,sU,sU,sU,sU,sU,sU],[],[],7,0,0)) (67,#[sF 1,sF 2,sF 3,sF 4,sF 5,sF 6,sF 7,(bif b1 then sI (-1) else sI 1),(bif b2 then sI (-1) else sI 1),(bif b3 then sI (-1) else sI 1),(bif b4 then sI (-1) else sI 1),sU,sU,sU,sU,sU,sU,sU,sU,sU,sU,sU,sU,sU,sU,sU,sU,sU,sU,sU,sU,sU,sU,sU,sU,sU,sU,sU,sU,sU,sU,sU,sU,sU,sU,sU,sU,sU,sU,sU,sU,sU,sU],[],[],16,0,0) [(23,1,1099511627783,0),(26,1,1099511627779,0),(23,8,1099511627777,0),(13,9,0,(bif b1 then 1 else 0)),(26,1,1099511627780,0),(23,10,1099511627777,0),(13,11,0,(bif b2 then 1 else 0)),(26,1,1099511627781,0),G8,(13,13,0,(bif b3 then 1 else 0)),(26,1,1099511627782,0),G7,(13,15,0,(bif b4 then 1 else 0))]=true:=by decide +kernel
theorem Rs:∀b1 b2 b4:Bool,ai (run (tb 0) ap 53 (8,192,1792,192) 154 59 [(FA,[],[0,17],[])] [(bif b1 then 1 else 0),(bif b2 then 1 else 0),(bif b4 then 1 else 0)] (67,#[sF 1,sF 2,sF 3,sF 4,sF 5,sF 6,sF 7,sF 8,sF 9,sF 10,sF 11,sU,sU,sU,sU,sU,sU,sU,sU,sU,sU,sU,sU,sU,sU,sU,sU,sU,sU,sU,sU,sU,sU,sU,sU,sU,sU,sU,sU,sU,sU,sU,sU,sU,sU,sU,sU,sU,sU,sU,sU,sU,sU],[],[],12,0,0)) (154,#[sF 1,sF 2,sF 3,sF 4,sF 5,sF 6,sF 7,sF 8,sF 9,sF 10,sF 11,(bif b1 then sI 1 else sI 0),(bif b2 then sI 1 else sI 0),sF 17,(bif b4 then sI 1 else sI 0),sF 20,sF 22,sF 24,sF 26,sU,sU,sU,sU,sU,sU,sU,sU,sU,sU,sU,sU,sU,sU,sU,sU,sU,sU,sU,sU,sU,sU,sU,sU,sU,sU,sU,sU,sU,sU,sU,sU,sU,sU],[],[],27,0,0) [(26,1,1099511627783,0),G8,(13,13,0,(bif b1 then 1 else 0)),(26,1,1099511627784,0),G7,(13,15,0,(bif b2 then 1 else 0)),(26,1,1099511627785,0),(23,16,1099511627779,0),(15,17,1099511627778,1),(26,1,1099511627787,0),(23,18,1099511627777,0),(13,19,0,(bif b4 then 1 else 0)),(23,2,1099511627779,0),(26,2,1099511627778,0),(23,21,1099511627779,0),(26,2,1099511627780,0),(23,23,1099511627779,0),(26,2,1099511627782,0),(23,25,1099511627779,0)]=true:=by decide +kernel
theorem Rt:∀b1 b2 b4:Bool,ai (run (tb 0) ap 53 (8,192,1792,192) 154 59 [(FC,[],[0,17],[])] [(bif b1 then 1 else 0),(bif b2 then 1 else 0),(bif b4 then 1 else 0)] (67,#[sF 1,sF 2,sF 3,sF 4,sF 5,sF 6,sF 7,sF 8,sF 9,sF 10,sF 11,sU,sU,sU,sU,sU,sU,sU,sU,sU,sU,sU,sU,sU,sU,sU,sU,sU,sU,sU,sU,sU,sU,sU,sU,sU,sU,sU,sU,sU,sU,sU,sU,sU,sU,sU,sU,sU,sU,sU,sU,sU,sU],[],[],12,0,0)) (154,#[sF 1,sF 2,sF 3,sF 4,sF 5,sF 6,sF 7,sF 8,sF 9,sF 10,sF 11,(bif b1 then sI 1 else sI 0),(bif b2 then sI 1 else sI 0),sI 2,(bif b4 then sI 1 else sI 0),sF 20,sF 22,sF 24,sF 26,sU,sU,sU,sU,sU,sU,sU,sU,sU,sU,sU,sU,sU,sU,sU,sU,sU,sU,sU,sU,sU,sU,sU,sU,sU,sU,sU,sU,sU,sU,sU,sU,sU,sU],[],[],27,0,0) [(26,1,1099511627783,0),G8,(13,13,0,(bif b1 then 1 else 0)),(26,1,1099511627784,0),G7,(13,15,0,(bif b2 then 1 else 0)),(26,1,1099511627785,0),(23,16,1099511627779,0),(15,17,1099511627778,0),(26,1,1099511627787,0),(23,18,1099511627777,0),(13,19,0,(bif b4 then 1 else 0)),(23,2,1099511627779,0),(26,2,1099511627778,0),(23,21,1099511627779,0),(26,2,1099511627780,0),(23,23,1099511627779,0),(26,2,1099511627782,0),(23,25,1099511627779,0)]=true:=by decide +kernel
def s6:Op:=(24,1099511627777,18,0)
def s7:Op:=(24,1099511627777,17,0)
def oU:Op:=(24,1099511627777,16,0)
def nH:Op:=(20,17,18,0)
def xn:Op:=(24,1099511627777,32,0)
def xo:List Op:=[(22,8,21,0),s7,(22,9,23,0),s6,(22,10,25,0),(22,8,9,0),(22,27,10,0)]
theorem OY:ai (run (tb 0) ap 53 (8,192,1792,192) 345 53 [(t8,[],[0,16,20],[])] [] (154,#[sF 1,sF 2,sF 3,sF 4,sF 5,sF 6,sI 0,sF 8,sF 9,sF 10,sF 11,sF 12,sF 13,sF 14,sF 15,sF 16,sF 17,sF 18,sF 19,sU,sU,sU,sU,sU,sU,sU,sU,sU,sU,sU,sU,sU,sU,sU,sU,sU,sU,sU,sU,sU,sU,sU,sU,sU,sU,sU,sU,sU,sU,sU,sU,sU,sU],[],[],20,0,0)) (345,#[sF 1,sF 2,sF 3,sF 4,sF 5,sF 6,sI 0,sF 8,sF 9,sF 10,sF 11,sF 12,sF 13,sF 14,sF 15,sF 16,sF 17,sF 18,sF 19,sF 22,sF 24,sF 26,sF 34,sF 16,sF 29,sU,sU,sU,sU,sU,sU,sU,sU,sU,sU,sU,sU,sU,sU,sU,sU,sU,sU,sU,sU,sU,sU,sU,sU,sU,sU,sU,sU],[],[],35,0,0) ([nH,(15,16,20,1),oU]++xo++[(22,28,1103806595071,0),nH,(21,30,16,0),(20,31,1099511627776,0),xn,(22,29,33,0)])=true:=by decide +kernel
def M8:List Op:=[nH,(15,16,20,0),(24,1099511627777,20,0)]
theorem OZ:ai (run (tb 0) ap 53 (8,192,1792,192) 345 53 [(t9,[],[0,16,20],[])] [] (154,#[sF 1,sF 2,sF 3,sF 4,sF 5,sF 6,sI 0,sF 8,sF 9,sF 10,sF 11,sF 12,sF 13,sF 14,sF 15,sF 16,sF 17,sF 18,sF 19,sU,sU,sU,sU,sU,sU,sU,sU,sU,sU,sU,sU,sU,sU,sU,sU,sU,sU,sU,sU,sU,sU,sU,sU,sU,sU,sU,sU,sU,sU,sU,sU,sU,sU],[],[],20,0,0)) (345,#[sF 1,sF 2,sF 3,sF 4,sF 5,sF 6,sI 0,sF 8,sF 9,sF 10,sF 11,sF 12,sF 13,sF 14,sF 15,sF 16,sF 17,sF 18,sF 19,sF 22,sF 24,sF 26,sF 34,sF 20,sF 29,sU,sU,sU,sU,sU,sU,sU,sU,sU,sU,sU,sU,sU,sU,sU,sU,sU,sU,sU,sU,sU,sU,sU,sU,sU,sU,sU,sU],[],[],35,0,0) (M8++xo++[(22,28,1103806595071,0),nH,(21,30,20,0),(20,31,1099511627776,0),xn,(22,29,33,0)])=true:=by decide +kernel
theorem O0:ai (run (tb 0) ap 53 (8,192,1792,192) 345 54 [(t8,[],[0,16,20],[])] [] (154,#[sF 1,sF 2,sF 3,sF 4,sF 5,sF 6,sI 1,sF 8,sF 9,sF 10,sF 11,sF 12,sF 13,sF 14,sF 15,sF 16,sF 17,sF 18,sF 19,sU,sU,sU,sU,sU,sU,sU,sU,sU,sU,sU,sU,sU,sU,sU,sU,sU,sU,sU,sU,sU,sU,sU,sU,sU,sU,sU,sU,sU,sU,sU,sU,sU,sU],[],[],20,0,0)) (345,#[sF 1,sF 2,sF 3,sF 4,sF 5,sF 6,sI 1,sF 8,sF 9,sF 10,sF 11,sF 12,sF 13,sF 14,sF 15,sF 16,sF 17,sF 18,sF 19,sF 22,sF 24,sF 26,sF 34,sF 16,sF 29,sU,sU,sU,sU,sU,sU,sU,sU,sU,sU,sU,sU,sU,sU,sU,sU,sU,sU,sU,sU,sU,sU,sU,sU,sU,sU,sU,sU],[],[],35,0,0) ([nH,(15,16,20,1),oU]++xo++[(22,28,1099511627777,0),nH,(21,30,16,0),(20,31,1099511627777,0),xn,(22,29,33,0)])=true:=by decide +kernel
theorem O1:ai (run (tb 0) ap 53 (8,192,1792,192) 345 54 [(t9,[],[0,16,20],[])] [] (154,#[sF 1,sF 2,sF 3,sF 4,sF 5,sF 6,sI 1,sF 8,sF 9,sF 10,sF 11,sF 12,sF 13,sF 14,sF 15,sF 16,sF 17,sF 18,sF 19,sU,sU,sU,sU,sU,sU,sU,sU,sU,sU,sU,sU,sU,sU,sU,sU,sU,sU,sU,sU,sU,sU,sU,sU,sU,sU,sU,sU,sU,sU,sU,sU,sU,sU],[],[],20,0,0)) (345,#[sF 1,sF 2,sF 3,sF 4,sF 5,sF 6,sI 1,sF 8,sF 9,sF 10,sF 11,sF 12,sF 13,sF 14,sF 15,sF 16,sF 17,sF 18,sF 19,sF 22,sF 24,sF 26,sF 34,sF 20,sF 29,sU,sU,sU,sU,sU,sU,sU,sU,sU,sU,sU,sU,sU,sU,sU,sU,sU,sU,sU,sU,sU,sU,sU,sU,sU,sU,sU,sU],[],[],35,0,0) (M8++xo++[(22,28,1099511627777,0),nH,(21,30,20,0),(20,31,1099511627777,0),xn,(22,29,33,0)])=true:=by decide +kernel
def xp:Op:=(24,1099511627777,19,0)
theorem Ru:ai (run (tb 0) ap 53 (8,192,1792,192) 345 47 [] [] (154,#[sF 1,sF 2,sF 3,sF 4,sF 5,sF 6,sI 2,sF 8,sF 9,sF 10,sF 11,sF 12,sF 13,sF 14,sF 15,sF 16,sF 17,sF 18,sF 19,sU,sU,sU,sU,sU,sU,sU,sU,sU,sU,sU,sU,sU,sU,sU,sU,sU,sU,sU,sU,sU,sU,sU,sU,sU,sU,sU,sU,sU,sU,sU,sU,sU,sU],[],[],20,0,0)) (345,#[sF 1,sF 2,sF 3,sF 4,sF 5,sF 6,sI 2,sF 8,sF 9,sF 10,sF 11,sF 12,sF 13,sF 14,sF 15,sF 16,sF 17,sF 18,sF 19,sF 21,sF 23,sI 0,sF 25,sU,sU,sU,sU,sU,sU,sU,sU,sU,sU,sU,sU,sU,sU,sU,sU,sU,sU,sU,sU,sU,sU,sU,sU,sU,sU,sU,sU,sU,sU],[],[],26,0,0) [oU,(22,8,20,0),s7,(22,9,22,0),xp,(22,11,24,0)]=true:=by decide +kernel
theorem Rv:ai (run (tb 0) ap 53 (8,192,1792,192) 345 47 [] [] (154,#[sF 1,sF 2,sF 3,sF 4,sF 5,sF 6,sI 3,sF 8,sF 9,sF 10,sF 11,sF 12,sF 13,sF 14,sF 15,sF 16,sF 17,sF 18,sF 19,sU,sU,sU,sU,sU,sU,sU,sU,sU,sU,sU,sU,sU,sU,sU,sU,sU,sU,sU,sU,sU,sU,sU,sU,sU,sU,sU,sU,sU,sU,sU,sU,sU,sU],[],[],20,0,0)) (345,#[sF 1,sF 2,sF 3,sF 4,sF 5,sF 6,sI 3,sF 8,sF 9,sF 10,sF 11,sF 12,sF 13,sF 14,sF 15,sF 16,sF 17,sF 18,sF 19,sF 21,sI 0,sF 23,sF 25,sU,sU,sU,sU,sU,sU,sU,sU,sU,sU,sU,sU,sU,sU,sU,sU,sU,sU,sU,sU,sU,sU,sU,sU,sU,sU,sU,sU,sU,sU],[],[],26,0,0) [oU,(22,8,20,0),s6,(22,10,22,0),xp,(22,11,24,0)]=true:=by decide +kernel
theorem Rw:ai (run (tb 0) ap 53 (8,192,1792,192) 345 47 [] [] (154,#[sF 1,sF 2,sF 3,sF 4,sF 5,sF 6,sI 4,sF 8,sF 9,sF 10,sF 11,sF 12,sF 13,sF 14,sF 15,sF 16,sF 17,sF 18,sF 19,sU,sU,sU,sU,sU,sU,sU,sU,sU,sU,sU,sU,sU,sU,sU,sU,sU,sU,sU,sU,sU,sU,sU,sU,sU,sU,sU,sU,sU,sU,sU,sU,sU,sU],[],[],20,0,0)) (345,#[sF 1,sF 2,sF 3,sF 4,sF 5,sF 6,sI 4,sF 8,sF 9,sF 10,sF 11,sF 12,sF 13,sF 14,sF 15,sF 16,sF 17,sF 18,sF 19,sF 21,sI 0,sI 0,sF 23,sU,sU,sU,sU,sU,sU,sU,sU,sU,sU,sU,sU,sU,sU,sU,sU,sU,sU,sU,sU,sU,sU,sU,sU,sU,sU,sU,sU,sU,sU],[],[],24,0,0) [oU,(22,8,20,0),xp,(22,11,22,0)]=true:=by decide +kernel
theorem Rx:ai (run (tb 0) ap 53 (8,192,1792,192) 345 47 [] [] (154,#[sF 1,sF 2,sF 3,sF 4,sF 5,sF 6,sI 5,sF 8,sF 9,sF 10,sF 11,sF 12,sF 13,sF 14,sF 15,sF 16,sF 17,sF 18,sF 19,sU,sU,sU,sU,sU,sU,sU,sU,sU,sU,sU,sU,sU,sU,sU,sU,sU,sU,sU,sU,sU,sU,sU,sU,sU,sU,sU,sU,sU,sU,sU,sU,sU,sU],[],[],20,0,0)) (345,#[sF 1,sF 2,sF 3,sF 4,sF 5,sF 6,sI 5,sF 8,sF 9,sF 10,sF 11,sF 12,sF 13,sF 14,sF 15,sF 16,sF 17,sF 18,sF 19,sI 0,sF 21,sF 23,sF 25,sU,sU,sU,sU,sU,sU,sU,sU,sU,sU,sU,sU,sU,sU,sU,sU,sU,sU,sU,sU,sU,sU,sU,sU,sU,sU,sU,sU,sU,sU],[],[],26,0,0) [s7,(22,9,20,0),s6,(22,10,22,0),xp,(22,11,24,0)]=true:=by decide +kernel
theorem Ry:ai (run (tb 0) ap 53 (8,192,1792,192) 345 47 [] [] (154,#[sF 1,sF 2,sF 3,sF 4,sF 5,sF 6,sI 6,sF 8,sF 9,sF 10,sF 11,sF 12,sF 13,sF 14,sF 15,sF 16,sF 17,sF 18,sF 19,sU,sU,sU,sU,sU,sU,sU,sU,sU,sU,sU,sU,sU,sU,sU,sU,sU,sU,sU,sU,sU,sU,sU,sU,sU,sU,sU,sU,sU,sU,sU,sU,sU,sU],[],[],20,0,0)) (345,#[sF 1,sF 2,sF 3,sF 4,sF 5,sF 6,sI 6,sF 8,sF 9,sF 10,sF 11,sF 12,sF 13,sF 14,sF 15,sF 16,sF 17,sF 18,sF 19,sF 21,sF 23,sF 25,sI 0,sU,sU,sU,sU,sU,sU,sU,sU,sU,sU,sU,sU,sU,sU,sU,sU,sU,sU,sU,sU,sU,sU,sU,sU,sU,sU,sU,sU,sU,sU],[],[],26,0,0) [oU,(22,8,20,0),s7,(22,9,22,0),s6,(22,10,24,0)]=true:=by decide +kernel
theorem Rz:ai (run (tb 0) ap 53 (8,192,1792,192) 345 47 [] [] (154,#[sF 1,sF 2,sF 3,sF 4,sF 5,sF 6,sI 7,sF 8,sF 9,sF 10,sF 11,sF 12,sF 13,sF 14,sF 15,sF 16,sF 17,sF 18,sF 19,sU,sU,sU,sU,sU,sU,sU,sU,sU,sU,sU,sU,sU,sU,sU,sU,sU,sU,sU,sU,sU,sU,sU,sU,sU,sU,sU,sU,sU,sU,sU,sU,sU,sU],[],[],20,0,0)) (345,#[sF 1,sF 2,sF 3,sF 4,sF 5,sF 6,sI 7,sF 8,sF 9,sF 10,sF 11,sF 12,sF 13,sF 14,sF 15,sF 16,sF 17,sF 18,sF 19,sI 0,sF 21,sF 23,sI 0,sU,sU,sU,sU,sU,sU,sU,sU,sU,sU,sU,sU,sU,sU,sU,sU,sU,sU,sU,sU,sU,sU,sU,sU,sU,sU,sU,sU,sU,sU],[],[],24,0,0) [s7,(22,9,20,0),s6,(22,10,22,0)]=true:=by decide +kernel
theorem RA:∀b1 b2:Bool,ai (run (tb 0) ap 53 (8,192,1792,192) 411 34 [] [(bif b1 then 1 else 0),(bif b2 then 1 else 0)] (345,#[sF 5,sF 6,sF 7,sF 8,sF 9,sF 10,sF 11,sF 12,sF 13,sF 14,sF 15,sF 16,sF 17,sF 18,sF 19,sF 20,sF 21,sF 22,sF 23,sF 1,sF 2,sF 3,sF 4,sU,sU,sU,sU,sU,sU,sU,sU,sU,sU,sU,sU,sU,sU,sU,sU,sU,sU,sU,sU,sU,sU,sU,sU,sU,sU,sU,sU,sU,sU],[],[],26,0,0)) (411,#[sF 5,sF 6,sF 7,sF 8,sF 9,sF 10,sF 11,sF 12,sF 13,sF 14,sF 15,sF 16,sF 17,sF 18,sF 19,sF 20,sF 21,sF 22,sF 23,sF 1,sF 2,sF 3,sF 4,(bif b1 then (bif b2 then sF 4 else sF 3) else (bif b2 then sF 2 else sF 1)),(bif b1 then (bif b2 then sF 3 else sF 4) else (bif b2 then sF 1 else sF 2)),(bif b1 then (bif b2 then sF 2 else sF 1) else (bif b2 then sF 4 else sF 3)),(bif b1 then (bif b2 then sF 1 else sF 2) else (bif b2 then sF 3 else sF 4)),(bif b1 then (bif b2 then sF 3 else sU) else (bif b2 then sF 1 else sU)),(bif b1 then (bif b2 then sF 1 else sU) else (bif b2 then sF 3 else sU)),sU,sU,sU,sU,sU,sU,sU,sU,sU,sU,sU,sU,sU,sU,sU,sU,sU,sU,sU,sU,sU,sU,sU,sU],[],[],26,0,0) [(13,16,0,(bif b1 then 1 else 0)),(13,17,0,(bif b2 then 1 else 0))]=true:=by decide +kernel
theorem RB:∀b1 b2:Bool,ai (run (tb 0) ap 53 (8,192,1792,192) 411 34 [] [(bif b1 then 1 else 0),(bif b2 then 1 else 0)] (345,#[sF 5,sF 6,sF 7,sF 8,sF 9,sF 10,sF 11,sF 12,sF 13,sF 14,sF 15,sF 16,sF 17,sF 18,sF 19,sF 20,sF 21,sF 22,sF 23,sF 1,sF 2,sF 3,sF 4,sF 24,sF 25,sU,sU,sU,sU,sU,sU,sU,sU,sU,sU,sU,sU,sU,sU,sU,sU,sU,sU,sU,sU,sU,sU,sU,sU,sU,sU,sU,sU],[],[],26,0,0)) (411,#[sF 5,sF 6,sF 7,sF 8,sF 9,sF 10,sF 11,sF 12,sF 13,sF 14,sF 15,sF 16,sF 17,sF 18,sF 19,sF 20,sF 21,sF 22,sF 23,sF 1,sF 2,sF 3,sF 4,(bif b1 then (bif b2 then sF 4 else sF 3) else (bif b2 then sF 2 else sF 1)),(bif b1 then (bif b2 then sF 3 else sF 4) else (bif b2 then sF 1 else sF 2)),(bif b1 then (bif b2 then sF 2 else sF 1) else (bif b2 then sF 4 else sF 3)),(bif b1 then (bif b2 then sF 1 else sF 2) else (bif b2 then sF 3 else sF 4)),(bif b1 then (bif b2 then sF 3 else sU) else (bif b2 then sF 1 else sU)),(bif b1 then (bif b2 then sF 1 else sU) else (bif b2 then sF 3 else sU)),sU,sU,sU,sU,sU,sU,sU,sU,sU,sU,sU,sU,sU,sU,sU,sU,sU,sU,sU,sU,sU,sU,sU,sU],[],[],26,0,0) [(13,16,0,(bif b1 then 1 else 0)),(13,17,0,(bif b2 then 1 else 0))]=true:=by decide +kernel
def xq:AD:=aD [32,33]
theorem R3:∀b1 b2 b3 b4:Bool,ai (run (tb 0) ap 53 (8,192,1792,192) 648 105 [] [(bif b1 then 1 else 0),(bif b2 then 1 else 0),(bif b2 then 1 else 0),(bif b3 then 1 else 0),(bif b4 then 1 else 0),(bif b4 then 1 else 0)] (471,#[sF 5,sF 6,sF 7,sF 8,sF 9,sF 10,sF 11,sF 12,sF 13,sF 14,sF 15,sF 16,sF 17,sF 18,sF 19,sF 20,sF 21,sF 22,sF 23,sF 24,sF 25,sF 26,sF 27,sF 1,sF 2,sF 3,sF 4,sR 0,sR 1,sU,sU,sU,sU,sU,sU,sU,sU,sU,sU,sU,sU,sU,sU,sU,sU,sU,sU,sU,sU,sU,sU,sU,sU],[],[aU 67 0 2,aU 68 2 2],28,6,12)) (648,#[sF 5,sF 6,sF 7,sF 8,sF 9,sF 10,sF 11,sF 12,sF 13,sF 14,sF 15,sF 16,sF 17,sF 18,sF 19,sF 20,sF 21,sF 22,sF 23,sF 24,sF 25,sF 26,sF 27,sF 1,sF 2,sF 3,sF 4,sR 0,sR 1,sF 29,sF 31,sR 2,sF 34,sF 40,sF 43,(bif b2 then sF 43 else sF 40),(bif b2 then sF 40 else sF 43),sF 44,sF 50,sF 53,(bif b4 then sF 53 else sF 50),(bif b4 then sF 50 else sF 53),sU,sU,sU,sU,sU,sU,sU,sU,sU,sU,sU],[],[aU 67 0 2,aU 68 2 2,xq],54,7,14) [(24,7,1099511627791,0),(25,28,1099511627791,0),(24,8,1099511627791,0),(25,30,1099511627791,0),oQ,sX,(23,9,1099511627777,0),(26,9,1099511627777,0),(23,35,1099511627777,0),(13,36,0,(bif b1 then 1 else 0)),(26,9,1099511627778,0),(23,37,1099511627779,0),(24,1099511627777,38,0),(22,(bif b1 then 1103806595071 else 1099511627777),39,0),(26,9,1099511627780,0),(23,41,1099511627807,0),(21,42,1099511627792,0),(13,34,0,(bif b2 then 1 else 0)),(13,34,0,(bif b2 then 1 else 0)),(23,10,1099511627777,0),(26,10,1099511627777,0),(23,45,1099511627777,0),(13,46,0,(bif b3 then 1 else 0)),(26,10,1099511627778,0),(23,47,1099511627779,0),(24,1099511627777,48,0),(22,(bif b3 then 1103806595071 else 1099511627777),49,0),(26,10,1099511627780,0),(23,51,1099511627807,0),(21,52,1099511627792,0),(13,44,0,(bif b4 then 1 else 0)),(13,44,0,(bif b4 then 1 else 0))]=true:=by decide +kernel
theorem p_ (x r:Int32)(h:x&&&(3:Int32)=r):r=0∨r=1∨r=2∨r=3:=by
 have:=c_mask x 3 2 (by decide) (by decide)
 have e:((2 ^ 2:Nat):Int)=4:=rfl
 rw[e,h] at this
 have q:r.toInt=0∨r.toInt=1∨r.toInt=2∨r.toInt=3:=by omega
 rcases q with q|q|q|q
 ·exact Or.inl (Int32.toInt_inj.mp (q.trans (by decide)))
 ·exact Or.inr (Or.inl (Int32.toInt_inj.mp (q.trans (by decide))))
 ·exact Or.inr (Or.inr (Or.inl (Int32.toInt_inj.mp (q.trans (by decide)))))
 ·exact Or.inr (Or.inr (Or.inr (Int32.toInt_inj.mp (q.trans (by decide)))))
theorem xr (x r:Int32)(h:x&&&(1:Int32)=r):r=0∨r=1:=by
 have:=c_mask x 1 1 (by decide) (by decide)
 have e:((2 ^ 1:Nat):Int)=2:=rfl
 rw[e,h] at this
 have q:r.toInt=0∨r.toInt=1:=by omega
 rcases q with q|q
 ·exact Or.inl (Int32.toInt_inj.mp (q.trans (by decide)))
 ·exact Or.inr (Int32.toInt_inj.mp (q.trans (by decide)))
theorem xt (x:Int32)(b:Bool):∀a:Int32,(bif b then (-1:Int32) else 1)*((1:Int32)<<<((x&&&3)&&&31))=a→(a.toInt=1∨a.toInt=-1∨a.toInt=2∨a.toInt=-2∨a.toInt=4∨a.toInt=-4∨a.toInt=8∨a.toInt=-8):=by
 intro a h
 generalize hr:x&&&3=r at h
 subst h
 rcases p_ x r hr with rfl|rfl|rfl|rfl<;>cases b<;>decide
theorem xu (x:Int32):-16≤((x&&&31)-16).toInt∧((x&&&31)-16).toInt≤16:=by
 have h1:=c_mask x 31 5 (by decide) (by decide)
 have e:((2 ^ 5:Nat):Int)=32:=rfl
 rw[e] at h1
 have h3:=c_isub (x&&&31) 16
 have e2:(16:Int32).toInt=16:=by decide
 rw[e2] at h3
 have r:=rng32 ((x&&&31)-16)
 omega
theorem xv (x:Int32):-65536≤(x>>>((15:Int32)&&&31)).toInt∧(x>>>((15:Int32)&&&31)).toInt≤65536:=by
 have e:(x>>>((15:Int32)&&&31)).toInt=x.toInt>>>15:=by
  show (BitVec.sshiftRight' x.toBitVec (((15:Int32)&&&31).toBitVec.smod 32)).toInt=_
  rw[BitVec.toInt_sshiftRight']
  rfl
 rw[e,Int.shiftRight_eq_div_pow]
 have r:=rng32 x
 have e2:((2 ^ 15:Nat):Int)=32768:=rfl
 rw[e2]
 omega
theorem cU (x:Int32):∃b:Bool,(if (bif b then (1:Int32) else 0)=0 then x.toInt=0 else x.toInt≠0):=by
 by_cases h:x.toInt=0
 ·exact⟨false,by simpa using h⟩
 ·exact⟨true,by simpa using h⟩
def gf (D:Nat→UInt64)(c27 c28:Addr):Array Slot:=#[.val (.int (iW (D 5))),.val (.int (iW (D 6))),.val (.int (iW (D 7))),.val (.int (iW (D 8))),.val (.int (iW (D 9))),.val (.int (iW (D 10))),.val (.int (iW (D 11))),.val (.int (iW (D 12))),.val (.int (iW (D 13))),.val (.int (iW (D 14))),.val (.int (iW (D 15))),.val (.int (iW (D 16))),.val (.int (iW (D 17))),.val (.int (iW (D 18))),.val (.int (iW (D 19))),.val (.int (iW (D 20))),.val (.int (iW (D 21))),.val (.int (iW (D 22))),.val (.int (iW (D 23))),.val (.int (iW (D 24))),.val (.int (iW (D 25))),.val (.int (iW (D 26))),.val (.int (iW (D 27))),.val (.int (iW (D 1))),.val (.int (iW (D 2))),.val (.int (iW (D 3))),.val (.int (iW (D 4))),.val (.ref c27),.val (.ref c28),.unset,.unset,.unset,.unset,.unset,.unset,.unset,.unset,.unset,.unset,.unset,.unset,.unset,.unset,.unset,.unset,.unset,.unset,.unset,.unset,.unset,.unset,.unset,.unset]
def gg (D:Nat→UInt64)(c27 c28 vv:Addr)(w29 w30 w32 w33 w34 w35 w36 w37 w38 w39 w40 w41:UInt64):Array Slot:=#[.val (.int (iW (D 5))),.val (.int (iW (D 6))),.val (.int (iW (D 7))),.val (.int (iW (D 8))),.val (.int (iW (D 9))),.val (.int (iW (D 10))),.val (.int (iW (D 11))),.val (.int (iW (D 12))),.val (.int (iW (D 13))),.val (.int (iW (D 14))),.val (.int (iW (D 15))),.val (.int (iW (D 16))),.val (.int (iW (D 17))),.val (.int (iW (D 18))),.val (.int (iW (D 19))),.val (.int (iW (D 20))),.val (.int (iW (D 21))),.val (.int (iW (D 22))),.val (.int (iW (D 23))),.val (.int (iW (D 24))),.val (.int (iW (D 25))),.val (.int (iW (D 26))),.val (.int (iW (D 27))),.val (.int (iW (D 1))),.val (.int (iW (D 2))),.val (.int (iW (D 3))),.val (.int (iW (D 4))),.val (.ref c27),.val (.ref c28),.val (.int (iW w29)),.val (.int (iW w30)),.val (.ref vv),.val (.int (iW w32)),.val (.int (iW w33)),.val (.int (iW w34)),.val (.int (iW w35)),.val (.int (iW w36)),.val (.int (iW w37)),.val (.int (iW w38)),.val (.int (iW w39)),.val (.int (iW w40)),.val (.int (iW w41)),.unset,.unset,.unset,.unset,.unset,.unset,.unset,.unset,.unset,.unset,.unset]
def VF (w29 w30 w32 w35 w36 w37 w40 w41:UInt64):Prop:=(-65536≤(iW w29).toInt∧(iW w29).toInt≤65536)∧(-65536≤(iW w30).toInt∧(iW w30).toInt≤65536)∧((iW w32=0∧PI (iW w35) (iW w36))∨(iW w32=1∧PI (iW w36) (iW w35)))∧((iW w37=0∧PI (iW w40) (iW w41))∨(iW w37=1∧PI (iW w41) (iW w40)))
theorem eQ {c27 c28:Addr}{k27 k28:ClassId}{x0 x1 x2 x3:Value}{rest:List OB}(B:LWB p l e s m args below meth c T0 Z a0 h0 n0 L0 6 12)(D0:D 0=0)(Y:Yf Z n0 h0 ([(c27,k27,67,2,[x0,x1]),(c28,k28,68,2,[x2,x3])]++rest))(KK:∀(T1:State)(h1:Heap)(L1:List Loc)(vv:Addr)(kv:ClassId)(w29 w30 w32 w33 w34 w35 w36 w37 w38 w39 w40 w41:UInt64),LWB p l e s m args below meth c T1 Z a0 h1 n0 L1 7 14→Yf Z n0 h1 ([(c27,k27,67,2,[x0,x1]),(c28,k28,68,2,[x2,x3]),(vv,kv,65,2,[.double (FP.i2d (iW w29)),.double (FP.i2d (iW w30))])]++rest)→VF w29 w30 w32 w35 w36 w37 w40 w41→Go p e below Ev T1 (mkF m 648 (gg D c27 c28 vv w29 w30 w32 w33 w34 w35 w36 w37 w38 w39 w40 w41) [])):Go p e below Ev T0 (mkF m 471 (gf D c27 c28) []):=by
 obtain⟨b1,hb1⟩:=cU (iW (ab (aa 23 (iW (ab (aa 26 (iW (D 9)) (iW 1099511627777)))) (iW 1099511627777))))
 obtain⟨b2,hb2⟩:=cU (iW (ab (aa 23 (iW (D 9)) (iW 1099511627777))))
 obtain⟨b3,hb3⟩:=cU (iW (ab (aa 23 (iW (ab (aa 26 (iW (D 10)) (iW 1099511627777)))) (iW 1099511627777))))
 obtain⟨b4,hb4⟩:=cU (iW (ab (aa 23 (iW (D 10)) (iW 1099511627777))))
 have YY:YgF Z n0 h0 (aP [c27,c28]) (aQ [k27,k28]) D (rG [x0,x1,x2,x3]) [aU 67 0 2,aU 68 2 2]:=Yf.to (Yf.pick (os':=an (aP [c27,c28]) (aQ [k27,k28]) D (rG [x0,x1,x2,x3]) 0 [aU 67 0 2,aU 68 2 2]) Y [0,1] (by decide) rfl) rfl
 have P1:PI (iW (ab (aa 22 (iW (bif b1 then (1103806595071:UInt64) else 1099511627777)) (iW (ab (aa 24 (iW 1099511627777) (iW (ab (aa 23 (iW (ab (aa 26 (iW (D 9)) (iW 1099511627778)))) (iW 1099511627779)))))))))) (iW (ab (aa 21 (iW (ab (aa 23 (iW (ab (aa 26 (iW (D 9)) (iW 1099511627780)))) (iW 1099511627807)))) (iW 1099511627792)))):=⟨xt _ b1 _ (by simp only[be];cases b1<;>rfl),by simp only[be];exact xu _⟩
 have P2:PI (iW (ab (aa 22 (iW (bif b3 then (1103806595071:UInt64) else 1099511627777)) (iW (ab (aa 24 (iW 1099511627777) (iW (ab (aa 23 (iW (ab (aa 26 (iW (D 10)) (iW 1099511627778)))) (iW 1099511627779)))))))))) (iW (ab (aa 21 (iW (ab (aa 23 (iW (ab (aa 26 (iW (D 10)) (iW 1099511627780)))) (iW 1099511627807)))) (iW 1099511627792)))):=⟨xt _ b3 _ (by simp only[be];cases b3<;>rfl),by simp only[be];exact xu _⟩
 have p1:iW (ab (aa 23 (iW (D 9)) (iW 1099511627777)))=0∨iW (ab (aa 23 (iW (D 9)) (iW 1099511627777)))=1:=xr _ _ (be _).symm
 have p2:iW (ab (aa 23 (iW (D 10)) (iW 1099511627777)))=0∨iW (ab (aa 23 (iW (D 10)) (iW 1099511627777)))=1:=xr _ _ (be _).symm
 refine goE (aY (R3 b1 b2 b3 b4) sc0 B YY D0 (by decide) ⟨trivial,trivial,trivial,trivial,trivial,trivial,trivial,trivial,trivial,hb1,trivial,trivial,trivial,trivial,trivial,trivial,trivial,hb2,hb2,trivial,trivial,trivial,hb3,trivial,trivial,trivial,trivial,trivial,trivial,trivial,hb4,hb4,trivial⟩ ?_) rfl
 intro T1 h1 L1 A1 K1 B1 hA1 Kp f1 Y1
 have YJ:=Yf.segj (A:=aP [c27,c28]) (K:=aQ [k27,k28]) (D:=D) (W:=rG [x0,x1,x2,x3]) (ds:=[aU 67 0 2,aU 68 2 2]) (os2:=rest) Y Y1 Kp hA1 f1
 have a0':A1 0=c27:=(hA1 0 (by decide)).1
 have a1':A1 1=c28:=(hA1 1 (by decide)).1
 have k0':K1 0=k27:=(hA1 0 (by decide)).2
 have k1':K1 1=k28:=(hA1 1 (by decide)).2
 have YK:Yf Z n0 h1 ([(A1 0,K1 0,67,2,[x0,x1]),(A1 1,K1 1,68,2,[x2,x3]),(A1 2,K1 2,65,2,[.double (FP.i2d (iW (ab (aa 25 (iW (ab (aa 24 (iW (D 7)) (iW 1099511627791)))) (iW 1099511627791))))),.double (FP.i2d (iW (ab (aa 25 (iW (ab (aa 24 (iW (D 8)) (iW 1099511627791)))) (iW 1099511627791)))))])]++rest):=YJ
 rw[a0',a1',k0',k1'] at YK
 have V:VF (ab (aa 25 (iW (ab (aa 24 (iW (D 7)) (iW 1099511627791)))) (iW 1099511627791))) (ab (aa 25 (iW (ab (aa 24 (iW (D 8)) (iW 1099511627791)))) (iW 1099511627791))) (ab (aa 23 (iW (D 9)) (iW 1099511627777))) (bif b2 then (ab (aa 21 (iW (ab (aa 23 (iW (ab (aa 26 (iW (D 9)) (iW 1099511627780)))) (iW 1099511627807)))) (iW 1099511627792))) else (ab (aa 22 (iW (bif b1 then (1103806595071:UInt64) else 1099511627777)) (iW (ab (aa 24 (iW 1099511627777) (iW (ab (aa 23 (iW (ab (aa 26 (iW (D 9)) (iW 1099511627778)))) (iW 1099511627779)))))))))) (bif b2 then (ab (aa 22 (iW (bif b1 then (1103806595071:UInt64) else 1099511627777)) (iW (ab (aa 24 (iW 1099511627777) (iW (ab (aa 23 (iW (ab (aa 26 (iW (D 9)) (iW 1099511627778)))) (iW 1099511627779))))))))) else (ab (aa 21 (iW (ab (aa 23 (iW (ab (aa 26 (iW (D 9)) (iW 1099511627780)))) (iW 1099511627807)))) (iW 1099511627792)))) (ab (aa 23 (iW (D 10)) (iW 1099511627777))) (bif b4 then (ab (aa 21 (iW (ab (aa 23 (iW (ab (aa 26 (iW (D 10)) (iW 1099511627780)))) (iW 1099511627807)))) (iW 1099511627792))) else (ab (aa 22 (iW (bif b3 then (1103806595071:UInt64) else 1099511627777)) (iW (ab (aa 24 (iW 1099511627777) (iW (ab (aa 23 (iW (ab (aa 26 (iW (D 10)) (iW 1099511627778)))) (iW 1099511627779)))))))))) (bif b4 then (ab (aa 22 (iW (bif b3 then (1103806595071:UInt64) else 1099511627777)) (iW (ab (aa 24 (iW 1099511627777) (iW (ab (aa 23 (iW (ab (aa 26 (iW (D 10)) (iW 1099511627778)))) (iW 1099511627779))))))))) else (ab (aa 21 (iW (ab (aa 23 (iW (ab (aa 26 (iW (D 10)) (iW 1099511627780)))) (iW 1099511627807)))) (iW 1099511627792)))):=by
  refine⟨by simp only[be];exact xv _,by simp only[be];exact xv _,?_,?_⟩
  ·cases b2
   ·exact Or.inl ⟨p1.elim id (fun q=>by rw[q] at hb2;exact absurd hb2 (by decide)),P1⟩
   ·exact Or.inr ⟨p1.elim (fun q=>by rw[q] at hb2;exact absurd hb2 (by decide)) id,P1⟩
  ·cases b4
   ·exact Or.inl ⟨p2.elim id (fun q=>by rw[q] at hb4;exact absurd hb4 (by decide)),P2⟩
   ·exact Or.inr ⟨p2.elim (fun q=>by rw[q] at hb4;exact absurd hb4 (by decide)) id,P2⟩
 have G:=KK T1 h1 L1 (A1 2) (K1 2) (ab (aa 25 (iW (ab (aa 24 (iW (D 7)) (iW 1099511627791)))) (iW 1099511627791))) (ab (aa 25 (iW (ab (aa 24 (iW (D 8)) (iW 1099511627791)))) (iW 1099511627791))) (ab (aa 23 (iW (D 9)) (iW 1099511627777))) (ab (aa 22 (iW (bif b1 then (1103806595071:UInt64) else 1099511627777)) (iW (ab (aa 24 (iW 1099511627777) (iW (ab (aa 23 (iW (ab (aa 26 (iW (D 9)) (iW 1099511627778)))) (iW 1099511627779))))))))) (ab (aa 21 (iW (ab (aa 23 (iW (ab (aa 26 (iW (D 9)) (iW 1099511627780)))) (iW 1099511627807)))) (iW 1099511627792))) (bif b2 then (ab (aa 21 (iW (ab (aa 23 (iW (ab (aa 26 (iW (D 9)) (iW 1099511627780)))) (iW 1099511627807)))) (iW 1099511627792))) else (ab (aa 22 (iW (bif b1 then (1103806595071:UInt64) else 1099511627777)) (iW (ab (aa 24 (iW 1099511627777) (iW (ab (aa 23 (iW (ab (aa 26 (iW (D 9)) (iW 1099511627778)))) (iW 1099511627779)))))))))) (bif b2 then (ab (aa 22 (iW (bif b1 then (1103806595071:UInt64) else 1099511627777)) (iW (ab (aa 24 (iW 1099511627777) (iW (ab (aa 23 (iW (ab (aa 26 (iW (D 9)) (iW 1099511627778)))) (iW 1099511627779))))))))) else (ab (aa 21 (iW (ab (aa 23 (iW (ab (aa 26 (iW (D 9)) (iW 1099511627780)))) (iW 1099511627807)))) (iW 1099511627792)))) (ab (aa 23 (iW (D 10)) (iW 1099511627777))) (ab (aa 22 (iW (bif b3 then (1103806595071:UInt64) else 1099511627777)) (iW (ab (aa 24 (iW 1099511627777) (iW (ab (aa 23 (iW (ab (aa 26 (iW (D 10)) (iW 1099511627778)))) (iW 1099511627779))))))))) (ab (aa 21 (iW (ab (aa 23 (iW (ab (aa 26 (iW (D 10)) (iW 1099511627780)))) (iW 1099511627807)))) (iW 1099511627792))) (bif b4 then (ab (aa 21 (iW (ab (aa 23 (iW (ab (aa 26 (iW (D 10)) (iW 1099511627780)))) (iW 1099511627807)))) (iW 1099511627792))) else (ab (aa 22 (iW (bif b3 then (1103806595071:UInt64) else 1099511627777)) (iW (ab (aa 24 (iW 1099511627777) (iW (ab (aa 23 (iW (ab (aa 26 (iW (D 10)) (iW 1099511627778)))) (iW 1099511627779)))))))))) (bif b4 then (ab (aa 22 (iW (bif b3 then (1103806595071:UInt64) else 1099511627777)) (iW (ab (aa 24 (iW 1099511627777) (iW (ab (aa 23 (iW (ab (aa 26 (iW (D 10)) (iW 1099511627778)))) (iW 1099511627779))))))))) else (ab (aa 21 (iW (ab (aa 23 (iW (ab (aa 26 (iW (D 10)) (iW 1099511627780)))) (iW 1099511627807)))) (iW 1099511627792)))) B1 YK V
 rw[←a0',←a1'] at G
 exact goE G (by cases b1<;>cases b2<;>cases b3<;>cases b4<;>rfl)
def bK (D:Nat→UInt64)(A:Nat→Addr):Array Slot:=#[.val (.int (iW (D 3))),.val (.int (iW (D 4))),.val (.int (iW (D 5))),.val (.int (iW (D 6))),.val (.int (iW (D 7))),.val (.int (iW (D 8))),.val (.int (iW (D 9))),.val (.int (iW (D 10))),.val (.int (iW (D 11))),.val (.int (iW (D 12))),.val (.int (iW (D 13))),.val (.int (iW (D 14))),.val (.int (iW (D 15))),.val (.int (iW (D 16))),.val (.int (iW (D 17))),.val (.int (iW (D 18))),.val (.int (iW (D 19))),.val (.int (iW (D 20))),.val (.int (iW (D 21))),.val (.int (iW (D 22))),.val (.int (iW (D 23))),.val (.int (iW (D 24))),.val (.int (iW (D 25))),.val (.int (iW (D 26))),.val (.int (iW (D 27))),.val (.int (iW (D 28))),.val (.int (iW (D 29))),.val (.ref (A 11)),.val (.ref (A 12)),.val (.int (iW (D 30))),.val (.int (iW (D 31))),.val (.ref (A 0)),.val (.int (iW (D 32))),.val (.int (iW (D 33))),.val (.int (iW (D 34))),.val (.int (iW (D 35))),.val (.int (iW (D 36))),.val (.int (iW (D 37))),.val (.int (iW (D 38))),.val (.int (iW (D 39))),.val (.int (iW (D 40))),.val (.int (iW (D 41))),.val (.ref (A 1)),.val (.ref (A 7)),.unset,.unset,.unset,.unset,.unset,.unset,.unset,.unset,.unset]
theorem gv (B:LWB p l e s m args below meth c T0 Z a0 h0 n0 L0 90 860)(D0:D 0=0)(Q:QM D)(J:JM D J0 J1)(V0:Jvm.FP.Core.DInt (iW (D 30)).toInt (D 1)∧Jvm.FP.Core.DInt (iW (D 31)).toInt (D 2))(het:iW (D 16)=0∨iW (D 16)=1∨iW (D 16)=2)(V:VF (D 30) (D 31) (D 32) (D 35) (D 36) (D 37) (D 40) (D 41))(HT:bl l Z n0 (iW (D 26)).toInt (iW (D 27)).toInt (iW (D 28)).toInt (iW (D 29)).toInt W lu)(Y:Yf Z n0 h0 (an A K D W 0 ci++lu)):Go p e below (bw s (aV n0) 192 1792) T0 (mkF m 682 (bK D A) []):=by
 obtain⟨bv0,bv1,P1_,P2_⟩:=V
 rcases het with h16|h16|h16
 ·skip
  exact goE (Ro (D:=D) B D0 Q J V0 HT Y) (by simp only[bK];rw[h16];rfl)
 ·skip
  rcases P1_ with ⟨h32,H1⟩|⟨h32,H1⟩
  ·rcases aq (ak.mpr H1.pb.2.2.2) D0 with ⟨-,z1⟩|⟨-,z1⟩
   ·skip
    exact goE (IJ (D:=D) B D0 Q J V0 H1 z1 HT Y) (by simp only[bK];rw[h16,h32];rfl)
   ·skip
    exact goE (IH (D:=D) B D0 Q J V0 H1 z1 HT Y) (by simp only[bK];rw[h16,h32];rfl)
  ·rcases aq (ak.mpr H1.pb.2.2.2) D0 with ⟨-,z1⟩|⟨-,z1⟩
   ·skip
    exact goE (IL (D:=D) B D0 Q J V0 H1 z1 HT Y) (by simp only[bK];rw[h16,h32];rfl)
   ·skip
    exact goE (IK (D:=D) B D0 Q J V0 H1 z1 HT Y) (by simp only[bK];rw[h16,h32];rfl)
 ·skip
  rcases P1_ with ⟨h32,H1⟩|⟨h32,H1⟩
  ·rcases aq (ak.mpr H1.pb.2.2.2) D0 with ⟨-,z1⟩|⟨-,z1⟩
   ·skip
    rcases P2_ with ⟨h37,H2⟩|⟨h37,H2⟩
    ·rcases aq (ak.mpr H2.pb.2.2.2) D0 with ⟨-,z2⟩|⟨-,z2⟩
     ·skip
      exact goE (y5 (D:=D) B D0 Q J V0 H1 z1 H2 z2 HT Y) (by simp only[bK];rw[h16,h32,h37];rfl)
     ·skip
      exact goE (y4 (D:=D) B D0 Q J V0 H1 z1 H2 z2 HT Y) (by simp only[bK];rw[h16,h32,h37];rfl)
    ·rcases aq (ak.mpr H2.pb.2.2.2) D0 with ⟨-,z2⟩|⟨-,z2⟩
     ·skip
      exact goE (y7 (D:=D) B D0 Q J V0 H1 z1 H2 z2 HT Y) (by simp only[bK];rw[h16,h32,h37];rfl)
     ·skip
      exact goE (y6 (D:=D) B D0 Q J V0 H1 z1 H2 z2 HT Y) (by simp only[bK];rw[h16,h32,h37];rfl)
   ·skip
    rcases P2_ with ⟨h37,H2⟩|⟨h37,H2⟩
    ·rcases aq (ak.mpr H2.pb.2.2.2) D0 with ⟨-,z2⟩|⟨-,z2⟩
     ·skip
      exact goE (yZ (D:=D) B D0 Q J V0 H1 z1 H2 z2 HT Y) (by simp only[bK];rw[h16,h32,h37];rfl)
     ·skip
      exact goE (yY (D:=D) B D0 Q J V0 H1 z1 H2 z2 HT Y) (by simp only[bK];rw[h16,h32,h37];rfl)
    ·rcases aq (ak.mpr H2.pb.2.2.2) D0 with ⟨-,z2⟩|⟨-,z2⟩
     ·skip
      exact goE (y3 (D:=D) B D0 Q J V0 H1 z1 H2 z2 HT Y) (by simp only[bK];rw[h16,h32,h37];rfl)
     ·skip
      exact goE (y2 (D:=D) B D0 Q J V0 H1 z1 H2 z2 HT Y) (by simp only[bK];rw[h16,h32,h37];rfl)
  ·rcases aq (ak.mpr H1.pb.2.2.2) D0 with ⟨-,z1⟩|⟨-,z1⟩
   ·skip
    rcases P2_ with ⟨h37,H2⟩|⟨h37,H2⟩
    ·rcases aq (ak.mpr H2.pb.2.2.2) D0 with ⟨-,z2⟩|⟨-,z2⟩
     ·skip
      exact goE (ze (D:=D) B D0 Q J V0 H1 z1 H2 z2 HT Y) (by simp only[bK];rw[h16,h32,h37];rfl)
     ·skip
      exact goE (zc (D:=D) B D0 Q J V0 H1 z1 H2 z2 HT Y) (by simp only[bK];rw[h16,h32,h37];rfl)
    ·rcases aq (ak.mpr H2.pb.2.2.2) D0 with ⟨-,z2⟩|⟨-,z2⟩
     ·skip
      exact goE (zg (D:=D) B D0 Q J V0 H1 z1 H2 z2 HT Y) (by simp only[bK];rw[h16,h32,h37];rfl)
     ·skip
      exact goE (zf (D:=D) B D0 Q J V0 H1 z1 H2 z2 HT Y) (by simp only[bK];rw[h16,h32,h37];rfl)
   ·skip
    rcases P2_ with ⟨h37,H2⟩|⟨h37,H2⟩
    ·rcases aq (ak.mpr H2.pb.2.2.2) D0 with ⟨-,z2⟩|⟨-,z2⟩
     ·skip
      exact goE (y9 (D:=D) B D0 Q J V0 H1 z1 H2 z2 HT Y) (by simp only[bK];rw[h16,h32,h37];rfl)
     ·skip
      exact goE (y8 (D:=D) B D0 Q J V0 H1 z1 H2 z2 HT Y) (by simp only[bK];rw[h16,h32,h37];rfl)
    ·rcases aq (ak.mpr H2.pb.2.2.2) D0 with ⟨-,z2⟩|⟨-,z2⟩
     ·skip
      exact goE (zb (D:=D) B D0 Q J V0 H1 z1 H2 z2 HT Y) (by simp only[bK];rw[h16,h32,h37];rfl)
     ·skip
      exact goE (y_ (D:=D) B D0 Q J V0 H1 z1 H2 z2 HT Y) (by simp only[bK];rw[h16,h32,h37];rfl)
def cH (D:Nat→UInt64)(bs:Bool):Array Slot:=#[.val (.int (iW (D 5))),.val (.int (iW (D 6))),.val (.int (iW (D 7))),.val (.int (iW (D 8))),.val (.int (iW (D 9))),.val (.int (iW (D 10))),.val (.int (iW (D 11))),.val (.int (iW (D 12))),.val (.int (iW (D 13))),.val (.int (iW (D 14))),.val (.int (iW (D 15))),.val (.int (iW (D 16))),.val (.int (iW (D 17))),.val (.int (iW (D 18))),.val (.int (iW (D 19))),.val (.int (iW (D 20))),.val (.int (iW (D 21))),.val (.int (iW (D 22))),.val (.int (iW (D 23))),.val (.int (iW (D 24))),.val (.int (iW (D 25))),.val (.int (iW (D 26))),.val (.int (iW (D 27))),.val (.int (iW (D 1))),.val (.int (iW (D 2))),.val (.int (iW (D 3))),.val (.int (iW (D 4))),(bif bs then .val (.int (iW (D 28))) else .unset),(bif bs then .val (.int (iW (D 29))) else .unset),.unset,.unset,.unset,.unset,.unset,.unset,.unset,.unset,.unset,.unset,.unset,.unset,.unset,.unset,.unset,.unset,.unset,.unset,.unset,.unset,.unset,.unset,.unset,.unset]
def fG (D:Nat→UInt64)(w29 w30 w32 w33 w34 w35 w36 w37 w38 w39 w40 w41:UInt64):Nat→UInt64:=ac [0,FP.i2d (iW w29),FP.i2d (iW w30),D 5,D 6,D 7,D 8,D 9,D 10,D 11,D 12,D 13,D 14,D 15,D 16,D 17,D 18,D 19,D 20,D 21,D 22,D 23,D 24,D 25,D 26,D 27,D 1,D 2,D 3,D 4,w29,w30,w32,w33,w34,w35,w36,w37,w38,w39,w40,w41]
def aJ (J:List Nat)(A:Nat→Addr):Nat→Addr:=aP (J.map A)
def bC (J:List Nat)(K:Nat→ClassId):Nat→ClassId:=aQ (J.map K)
def bD (J:List Nat)(A:Nat→Addr):Nat→Value:=fun k => .ref (aJ J A k)
def QM4 (D:Nat→UInt64):Prop:=(-128≤(iW (D 1)).toInt∧(iW (D 1)).toInt≤128)∧(-128≤(iW (D 2)).toInt∧(iW (D 2)).toInt≤128)∧(-128≤(iW (D 3)).toInt∧(iW (D 3)).toInt≤128)∧(-128≤(iW (D 4)).toInt∧(iW (D 4)).toInt≤128)
def cO:Op:=(13,3,0,1)
def dI:AD:=aD [30]
def iy:Op:=(7,3,0,0)
theorem O2:∀bs:Bool,ai (run (tb 0) ap 53 (8,192,1792,192) 471 36 [(NS,[],[0,1,2,19],[]),(NT,[],[0,3,4,19],[]),(NU,[],[0,1,2,19],[]),(NV,[],[0,3,4,19],[])] [] (411,#[sF 5,sF 6,sF 7,sF 8,sF 9,sF 10,sF 11,sF 12,sF 13,sF 14,sF 15,sF 16,sF 17,sF 18,sF 19,sF 20,sF 21,sF 22,sF 23,sF 24,sF 25,sF 26,sF 27,sF 1,sF 2,sF 3,sF 4,(bif bs then sF 28 else sU),(bif bs then sF 29 else sU),sU,sU,sU,sU,sU,sU,sU,sU,sU,sU,sU,sU,sU,sU,sU,sU,sU,sU,sU,sU,sU,sU,sU,sU],[],[],30,0,0)) (471,#[sF 5,sF 6,sF 7,sF 8,sF 9,sF 10,sF 11,sF 12,sF 13,sF 14,sF 15,sF 16,sF 17,sF 18,sF 19,sF 20,sF 21,sF 22,sF 23,sF 24,sF 25,sF 26,sF 27,sF 1,sF 2,sF 3,sF 4,sR 0,sR 3,sU,sU,sU,sU,sU,sU,sU,sU,sU,sU,sU,sU,sU,sU,sU,sU,sU,sU,sU,sU,sU,sU,sU,sU],[],[bE,aE,aF,bN,dI,aD [31]],32,6,8) [dr,dr,cO,(13,4,0,0),cO,dr,dr,fK,cO,(13,4,0,0),cO,iy]=true:=by decide +kernel
def R4:AD:=(2,0,[zq1,ax,vR 47,vR 48])
def R5:AD:=(1,0,rS 50 3++[zq0])
def R6:AD:=(1,0,rS 43 3++[zq0])
def R7:AD:=(1,0,rS 39 3++[zq0])
def R8:AD:=(1,0,rS 35 3++[zq0])
def R9:AD:=(1,0,rS 31 3++[zq0])
def gw:AD:=aR 68 [59,61]
def gS:AD:=aR 67 [63,64]
def gx:AD:=aR 67 [58,60]
def oV:AD:=(4,0,rS 72 4)
def oW:AD:=(4,0,rS 67 4)
def G9:List Value:=[bF,vR 38,vR 42,vR 46,zq0]
def M9:AD:=(3,0,[vR 7]++rS 54 4++[vR 62,vR 66,vR 71,vR 76,zq0,zq0])
def gy:List AD:=[R9,jB,jf,gN,R8,jB,jf,gN,R7,jB,jf,gN,R6,jB,jf,gN,R4,ay,jf,R5,jB,jf,gN]
def M_:List AD:=[bN,dI,aD [31],xa,(0,0,rS 8 13++[ax]++rS 21 10++G9)]
def O3:List AD:=[bE,aE,aF]++M_++f8++[za9,za4,aD [31,30],bv,bv,bv,bv,za9,za4]++gy++([M9,gx,gw,ay,ay,aE,dI,aF,aD [31],gS,aE,aF,bM,oW,za7,za2,fC,za2,oV]++vt)
def gT:Op:=(4,30,0,0)
def gz:Op:=(4,31,0,0)
def G_:Op:=(2,4591870180066957722,52,0)
def xw:List Op:=[gz,(11,46,4472406533629990549,1),gz,(5,0,47,0),(2,4591870180066957722,48,0),(10,46,49,1),gT,(11,50,4472406533629990549,1),gT,(5,0,51,0),G_,(10,50,53,1)]
def kh:Sc:=(P_,[7],[0],rp 13 (.null)++[zq0]++rp 14 (.null)++[zq0])
def ki:Sc:=(yr,[49],[0],qQ)
def kj:List Value:=[vR 30,bF,vR 38,vR 42,vR 46]
def km:List Value:=[aw,aw,zq0,zq0,zq0,zq0]
theorem O4:ai (run (tb 0) ap 53 (8,192,1792,192) 682 17 [kh,ki,(JU,[0,1,2,3,4,5,7,12,14,21,22,23,24,25,26,27,28,29],[0,30,31],rS 8 4++[d5]++rS 15 6++kj++rp 5 zq0++km)] [] (648,#[sF 5,sF 6,sF 7,sF 8,sF 9,sF 10,sF 11,sF 12,sF 13,sF 14,sF 15,sF 16,sF 17,sF 18,sF 19,sF 20,sF 21,sF 22,sF 23,sF 24,sF 25,sF 26,sF 27,sF 1,sF 2,sF 3,sF 4,sR 0,sR 3,sF 32,sF 33,sR 6,sF 34,sF 35,sF 36,sF 37,sF 38,sF 39,sF 40,sF 41,sF 42,sF 43,sU,sU,sU,sU,sU,sU,sU,sU,sU,sU,sU],[],[bE,aE,aF,bN,dI,aD [31],xa],46,7,14)) (682,#[sF 5,sF 6,sF 7,sF 8,sF 9,sF 10,sF 11,sF 12,sF 13,sF 14,sF 15,sF 16,sF 17,sF 18,sF 19,sF 20,sF 21,sF 22,sF 23,sF 24,sF 25,sF 26,sF 27,sF 1,sF 2,sF 3,sF 4,sR 0,sR 3,sF 32,sF 33,sR 6,sF 34,sF 35,sF 36,sF 37,sF 38,sF 39,sF 40,sF 41,sF 42,sF 43,sR 7,sR 49,sU,sU,sU,sU,sU,sU,sU,sU,sU],[],O3,54,79,817) xw=true:=by decide +kernel
def xx (D:Nat→UInt64)(w29 w30 w32 w33 w34 w35 w36 w37 w38 w39 w40 w41:UInt64):Nat→UInt64:=ac [0,D 1,D 2,D 3,D 4,D 5,D 6,D 7,D 8,D 9,D 10,D 11,D 12,D 13,D 14,D 15,D 16,D 17,D 18,D 19,D 20,D 21,D 22,D 23,D 24,D 25,D 26,D 27,0,0,FP.i2d (iW (D 2)),FP.i2d (iW (D 3)),w29,w30,w32,w33,w34,w35,w36,w37,w38,w39,w40,w41,FP.i2d (iW w29),FP.i2d (iW w30)]
theorem Ha {a u Lq Dd:Int}(bs:Bool)(B:LWB p l e s m args below meth c T0 Z a0 h0 n0 L0 0 0)(D0:D 0=0)(z0:(iW (D 1)).toInt=0)(z1:(iW (D 2)).toInt≠0)(z2:(iW (D 3)).toInt≠0)(z3:(iW (D 4)).toInt=0)(Q:QM4 D)(het:iW (D 18)=0∨iW (D 18)=1∨iW (D 18)=2)(hJ:∀i0 i1:Int,(-65536≤i0∧i0≤65536)→(-65536≤i1∧i1≤65536)→∃J0 J1,JT (iW (D 1)).toInt (iW (D 2)).toInt (iW (D 3)).toInt (iW (D 4)).toInt J0 J1 i0 i1)(S:S7 (u=0) (Lq=0) a u Lq Dd (iW (D 3)).toInt (iW (D 4)).toInt (iW (D 1)).toInt (iW (D 2)).toInt (FP.i2d (iW (D 3))) (FP.i2d (iW (D 2))))(hv:∀w29 w30 w32 w33 w34 w35 w36 w37 w38 w39 w40 w41:UInt64,okv xw 46 (xx D w29 w30 w32 w33 w34 w35 w36 w37 w38 w39 w40 w41)):Go p e below (bw s (aV n0) 192 1792) T0 (mkF m 411 (cH D bs) []):=by
 refine goE (aY (A:=fun _=>0) (K:=fun _=>0) (D:=D) (W:=fun _ => .null) (O2 bs) (scS PV (scS PX (scS PZ (scS P4 sc0)))) B YgF.nil D0 (by decide) ⟨z0,z0,z2,z3,z2,z0,z0,trivial,z2,z3,z2,trivial,trivial⟩ ?_) (by cases bs<;>(simp only[cH];rfl))
 intro T1 h1 L1 A1 K1 B1 hA1 Kp1 f1 Y1
 have YA:Yf Z n0 h1 ([(A1 0,K1 0,67,2,[.ref (A1 1),.ref (A1 2)]),(A1 3,K1 3,68,2,[.ref (A1 4),.ref (A1 5)])]++[(A1 1,K1 1,64,1,[.int 1]),(A1 2,K1 2,64,1,[.int 0]),(A1 4,K1 4,65,1,[.double (FP.i2d (iW (D 2)))]),(A1 5,K1 5,65,1,[.double (FP.i2d (iW (D 3)))])]):=Yf.pick Y1.fl [0,3,1,2,4,5] (by decide) rfl
 refine goE (eQ (D:=D) (B1.more (by decide) (by decide)) D0 YA ?_) (by simp only[gf];rfl)
 intro T2 h2 L2 vv kv w29 w30 w32 w33 w34 w35 w36 w37 w38 w39 w40 w41 B2 Y2 V
 have YB:YgF Z n0 h2 (aP [A1 0,A1 1,A1 2,A1 3,A1 4,A1 5,vv]) (aQ [K1 0,K1 1,K1 2,K1 3,K1 4,K1 5,kv]) (xx D w29 w30 w32 w33 w34 w35 w36 w37 w38 w39 w40 w41) (fun _ => .null) [aR 67 [1,2],aI [1],aI [0],aR 68 [4,5],aD [30],aD [31],aD [44,45]]:=Yf.to (Yf.pick (os':=an (aP [A1 0,A1 1,A1 2,A1 3,A1 4,A1 5,vv]) (aQ [K1 0,K1 1,K1 2,K1 3,K1 4,K1 5,kv]) (xx D w29 w30 w32 w33 w34 w35 w36 w37 w38 w39 w40 w41) (fun _ => .null) 0 [aR 67 [1,2],aI [1],aI [0],aR 68 [4,5],aD [30],aD [31],aD [44,45]]) Y2 [0,3,4,1,5,6,2] (by decide) rfl) rfl
 refine goE (aY (A:=(aP [A1 0,A1 1,A1 2,A1 3,A1 4,A1 5,vv])) (K:=(aQ [K1 0,K1 1,K1 2,K1 3,K1 4,K1 5,kv])) (D:=(xx D w29 w30 w32 w33 w34 w35 w36 w37 w38 w39 w40 w41)) (W:=fun _ => .null) O4 (scS jD (scS h_ (scS Qs sc0))) B2 YB rfl (by decide) (hv w29 w30 w32 w33 w34 w35 w36 w37 w38 w39 w40 w41) ?_) (by simp only[gg];rfl)
 intro T3 h3 L3 A3 K3 B3 hA3 Kp3 f3 Y3
 have HT:=Rd (l:=l) (Z:=Z) (n0:=n0) (la:=(aJ [21,22,23,24,8,9,27,14,15] A3)) (kl:=(bC [21,22,23,24,8,9,27,14,15] K3)) (g:=(bD [8,9,10,11,12,13,14,15,0,21,22,23,24,25,26,27,28,29,30,34,38,42,46,1,2,4,5] A3)) S
 obtain⟨J0,J1,J⟩:=hJ (iW w29).toInt (iW w30).toInt V.1 V.2.1
 exact goE (gv (A:=aJ [6,7,16,17,18,19,20,49,50,51,52,0,3] A3) (K:=bC [6,7,16,17,18,19,20,49,50,51,52,0,3] K3) (D:=(fG D w29 w30 w32 w33 w34 w35 w36 w37 w38 w39 w40 w41)) (W:=tmL (bD [8,9,10,11,12,13,14,15,0,21,22,23,24,25,26,27,28,29,30,34,38,42,46,1,2,4,5] A3) (aJ [21,22,23,24,8,9,27,14,15] A3)) (J0:=J0) (J1:=J1) (B3.more (by decide) (by decide)) rfl Q J ⟨Jvm.FP.Core.i2d_int _,Jvm.FP.Core.i2d_int _⟩ het V HT (Yf.pick Y3.fl [6,7,16,17,18,19,20,49,50,51,52,0,3,21,22,23,24,8,9,27,14,15] (by decide) rfl)) (by simp only[bK];rfl)
def fT:AD:=aD [31,32]
def fU:Op:=(13,4,0,1)
def iz:Op:=(7,4,0,0)
def xy:Sc:=(BK,[],[0,3,4],[])
def xz:Sc:=(BI,[],[0,3,4],[])
theorem Hb:∀bs:Bool,ai (run (tb 0) ap 53 (8,192,1792,192) 471 36 [(BH,[],[0,1,2],[]),xz,(BJ,[],[0,1,2],[]),xy] [] (411,#[sF 5,sF 6,sF 7,sF 8,sF 9,sF 10,sF 11,sF 12,sF 13,sF 14,sF 15,sF 16,sF 17,sF 18,sI 0,sF 20,sF 21,sF 22,sF 23,sF 24,sF 25,sF 26,sF 27,sF 1,sF 2,sF 3,sF 4,(bif bs then sF 28 else sU),(bif bs then sF 29 else sU),sU,sU,sU,sU,sU,sU,sU,sU,sU,sU,sU,sU,sU,sU,sU,sU,sU,sU,sU,sU,sU,sU,sU,sU],[],[],30,0,0)) (471,#[sF 5,sF 6,sF 7,sF 8,sF 9,sF 10,sF 11,sF 12,sF 13,sF 14,sF 15,sF 16,sF 17,sF 18,sI 0,sF 20,sF 21,sF 22,sF 23,sF 24,sF 25,sF 26,sF 27,sF 1,sF 2,sF 3,sF 4,sR 0,sR 3,sU,sU,sU,sU,sU,sU,sU,sU,sU,sU,sU,sU,sU,sU,sU,sU,sU,sU,sU,sU,sU,sU,sU,sU],[],[bE,aE,za4,bN,dI,fT],33,6,10) [dr,dr,cO,fU,dr,dr,fK,cO,fU,iy,iz]=true:=by decide +kernel
def s9:AD:=(0,0,[vR 77,vR 78,dt,vR 11,vR 79,vR 80]++rS 14 7++[ax]++rS 21 10++G9)
def s_:AD:=(3,0,[vR 7]++rS 54 4++[vR 62,vR 66,vR 71,vR 76,zq3,zq0])
def fV:AD:=aD [45,46]
def lO:List AD:=[oW,za7,za2,za2,za2,oV,za7,za2,za2,za2,za2]
def Hc:List AD:=[bE,aE,za4,bN,dI,fT,fV,s9]++f8++[za9,za4,aD [31,30],dV,bv,ix,bv,za9,za4]++gy++([s_,gx,gw,za4,ay,aE,dI,bM,aD [32,32],gS,aE,za4,d6]++lO++[za9,aD [32,0],ay,aD [32,0],za4,ay])
def Na:Op:=(11,53,4472406533629990549,1)
def Nb:Op:=(11,47,4472406533629990549,1)
def Nc:Op:=(2,4591870180066957722,55,0)
def Nd:Op:=(2,4591870180066957722,51,0)
def lP:Op:=(4,32,0,0)
def Ne:Op:=(10,53,56,1)
def Nf:Op:=(10,47,52,1)
def Ng:Op:=(5,49,50,0)
def Nh:Op:=(5,0,54,0)
def Ni:Op:=(5,0,48,0)
def xB:List Op:=[Nb,gz,Ni,lP,Ng,Nd,Nf,gT,Na,gT,Nh,Nc,Ne]
def oY:List Op:=[gz]++xB
def lQ:List Value:=[dt,vR 11]
theorem Hd:ai (run (tb 0) ap 53 (8,192,1792,192) 682 17 [kh,ki,(K6,[0,1,2,3,4,5,7,8,9,12,13,14,21,22,23,24,25,26,27,28,29],[0,30,31,32],lQ++rS 15 6++kj++rp 5 zq0++km)] [] (648,#[sF 5,sF 6,sF 7,sF 8,sF 9,sF 10,sF 11,sF 12,sF 13,sF 14,sF 15,sF 16,sF 17,sF 18,sI 0,sF 20,sF 21,sF 22,sF 23,sF 24,sF 25,sF 26,sF 27,sF 1,sF 2,sF 3,sF 4,sR 0,sR 3,sF 33,sF 34,sR 6,sF 35,sF 36,sF 37,sF 38,sF 39,sF 40,sF 41,sF 42,sF 43,sF 44,sU,sU,sU,sU,sU,sU,sU,sU,sU,sU,sU],[],[bE,aE,za4,bN,dI,fT,fV],47,7,14)) (682,#[sF 5,sF 6,sF 7,sF 8,sF 9,sF 10,sF 11,sF 12,sF 13,sF 14,sF 15,sF 16,sF 17,sF 18,sI 0,sF 20,sF 21,sF 22,sF 23,sF 24,sF 25,sF 26,sF 27,sF 1,sF 2,sF 3,sF 4,sR 0,sR 3,sF 33,sF 34,sR 6,sF 35,sF 36,sF 37,sF 38,sF 39,sF 40,sF 41,sF 42,sF 43,sF 44,sR 7,sR 49,sU,sU,sU,sU,sU,sU,sU,sU,sU],[],Hc,57,83,828) oY=true:=by decide +kernel
def l8 (D:Nat→UInt64)(w29 w30 w32 w33 w34 w35 w36 w37 w38 w39 w40 w41:UInt64):Nat→UInt64:=ac [0,D 1,D 2,D 3,D 4,D 5,D 6,D 7,D 8,D 9,D 10,D 11,D 12,D 13,D 14,D 15,D 16,D 17,D 18,D 19,D 20,D 21,D 22,D 23,D 24,D 25,D 26,D 27,0,0,FP.i2d (iW (D 2)),FP.i2d (iW (D 3)),FP.i2d (iW (D 4)),w29,w30,w32,w33,w34,w35,w36,w37,w38,w39,w40,w41,FP.i2d (iW w29),FP.i2d (iW w30)]
theorem un {a u Lq Dd:Int}(bs:Bool)(B:LWB p l e s m args below meth c T0 Z a0 h0 n0 L0 0 0)(D0:D 0=0)(hrev:iW (D 19)=0)(z0:(iW (D 1)).toInt=0)(z1:(iW (D 2)).toInt≠0)(z2:(iW (D 3)).toInt≠0)(z3:(iW (D 4)).toInt≠0)(Q:QM4 D)(het:iW (D 18)=0∨iW (D 18)=1∨iW (D 18)=2)(hJ:∀i0 i1:Int,(-65536≤i0∧i0≤65536)→(-65536≤i1∧i1≤65536)→∃J0 J1,JT (iW (D 1)).toInt (iW (D 2)).toInt (iW (D 3)).toInt (iW (D 4)).toInt J0 J1 i0 i1)(S:S7 (ah u 0 (FP.i2d (iW (D 4)))) (Lq=0) a u Lq Dd (iW (D 3)).toInt (iW (D 4)).toInt (iW (D 1)).toInt (iW (D 2)).toInt (FP.i2d (iW (D 3))) (FP.i2d (iW (D 2))))(hv:∀w29 w30 w32 w33 w34 w35 w36 w37 w38 w39 w40 w41:UInt64,okv oY 47 (l8 D w29 w30 w32 w33 w34 w35 w36 w37 w38 w39 w40 w41)):Go p e below (bw s (aV n0) 192 1792) T0 (mkF m 411 (cH D bs) []):=by
 refine goE (aY (A:=fun _=>0) (K:=fun _=>0) (D:=D) (W:=fun _ => .null) (Hb bs) (scS JX (scS kZ (scS J2 (scS k_ sc0)))) B YgF.nil D0 (by decide) ⟨z0,z0,z2,z3,z0,z0,trivial,z2,z3,trivial,trivial,trivial⟩ ?_) (by cases bs<;>(simp only[cH];rw[hrev];rfl))
 intro T1 h1 L1 A1 K1 B1 hA1 Kp1 f1 Y1
 have YA:Yf Z n0 h1 ([(A1 0,K1 0,67,2,[.ref (A1 1),.ref (A1 2)]),(A1 3,K1 3,68,2,[.ref (A1 4),.ref (A1 5)])]++[(A1 1,K1 1,64,1,[.int 1]),(A1 2,K1 2,64,2,[.int 0,.int 1]),(A1 4,K1 4,65,1,[.double (FP.i2d (iW (D 2)))]),(A1 5,K1 5,65,2,[.double (FP.i2d (iW (D 3))),.double (FP.i2d (iW (D 4)))])]):=Yf.pick Y1.fl [0,3,1,2,4,5] (by decide) rfl
 refine goE (eQ (D:=D) (B1.more (by decide) (by decide)) D0 YA ?_) (by simp only[gf];rw[hrev];rfl)
 intro T2 h2 L2 vv kv w29 w30 w32 w33 w34 w35 w36 w37 w38 w39 w40 w41 B2 Y2 V
 have YB:YgF Z n0 h2 (aP [A1 0,A1 1,A1 2,A1 3,A1 4,A1 5,vv]) (aQ [K1 0,K1 1,K1 2,K1 3,K1 4,K1 5,kv]) (l8 D w29 w30 w32 w33 w34 w35 w36 w37 w38 w39 w40 w41) (fun _ => .null) [aR 67 [1,2],aI [1],aI [0,1],aR 68 [4,5],aD [30],aD [31,32],aD [45,46]]:=Yf.to (Yf.pick (os':=an (aP [A1 0,A1 1,A1 2,A1 3,A1 4,A1 5,vv]) (aQ [K1 0,K1 1,K1 2,K1 3,K1 4,K1 5,kv]) (l8 D w29 w30 w32 w33 w34 w35 w36 w37 w38 w39 w40 w41) (fun _ => .null) 0 [aR 67 [1,2],aI [1],aI [0,1],aR 68 [4,5],aD [30],aD [31,32],aD [45,46]]) Y2 [0,3,4,1,5,6,2] (by decide) rfl) rfl
 refine goE (aY (A:=(aP [A1 0,A1 1,A1 2,A1 3,A1 4,A1 5,vv])) (K:=(aQ [K1 0,K1 1,K1 2,K1 3,K1 4,K1 5,kv])) (D:=(l8 D w29 w30 w32 w33 w34 w35 w36 w37 w38 w39 w40 w41)) (W:=fun _ => .null) Hd (scS jD (scS h_ (scS QH sc0))) B2 YB rfl (by decide) (hv w29 w30 w32 w33 w34 w35 w36 w37 w38 w39 w40 w41) ?_) (by simp only[gg];rw[hrev];rfl)
 intro T3 h3 L3 A3 K3 B3 hA3 Kp3 f3 Y3
 have HT:=FW (l:=l) (Z:=Z) (n0:=n0) (la:=(aJ [21,22,23,24,77,78,27,14,15] A3)) (kl:=(bC [21,22,23,24,77,78,27,14,15] K3)) (g:=(bD [77,78,10,11,79,80,14,15,0,21,22,23,24,25,26,27,28,29,30,34,38,42,46,1,2,4,5] A3)) S
 obtain⟨J0,J1,J⟩:=hJ (iW w29).toInt (iW w30).toInt V.1 V.2.1
 exact goE (gv (A:=aJ [6,7,16,17,18,19,20,49,50,51,52,0,3] A3) (K:=bC [6,7,16,17,18,19,20,49,50,51,52,0,3] K3) (D:=(fG D w29 w30 w32 w33 w34 w35 w36 w37 w38 w39 w40 w41)) (W:=tmL (bD [77,78,10,11,79,80,14,15,0,21,22,23,24,25,26,27,28,29,30,34,38,42,46,1,2,4,5] A3) (aJ [21,22,23,24,77,78,27,14,15] A3)) (J0:=J0) (J1:=J1) (B3.more (by decide) (by decide)) rfl Q J ⟨Jvm.FP.Core.i2d_int _,Jvm.FP.Core.i2d_int _⟩ het V HT (Yf.pick Y3.fl [6,7,16,17,18,19,20,49,50,51,52,0,3,21,22,23,24,77,78,27,14,15] (by decide) rfl)) (by simp only[bK];rw[show iW ((fG D w29 w30 w32 w33 w34 w35 w36 w37 w38 w39 w40 w41) 17)=0 from hrev];rfl)
def xC:Sc:=(B7,[],[0,3,4],[])
def xD:Sc:=(B5,[],[0,3,4],[])
theorem He:∀bs:Bool,ai (run (tb 0) ap 53 (8,192,1792,192) 471 36 [(B4,[],[0,1,2],[]),xD,(B6,[],[0,1,2],[]),xC] [] (411,#[sF 5,sF 6,sF 7,sF 8,sF 9,sF 10,sF 11,sF 12,sF 13,sF 14,sF 15,sF 16,sF 17,sF 18,sI 1,sF 20,sF 21,sF 22,sF 23,sF 24,sF 25,sF 26,sF 27,sF 1,sF 2,sF 3,sF 4,(bif bs then sF 28 else sU),(bif bs then sF 29 else sU),sU,sU,sU,sU,sU,sU,sU,sU,sU,sU,sU,sU,sU,sU,sU,sU,sU,sU,sU,sU,sU,sU,sU,sU],[],[],30,0,0)) (471,#[sF 5,sF 6,sF 7,sF 8,sF 9,sF 10,sF 11,sF 12,sF 13,sF 14,sF 15,sF 16,sF 17,sF 18,sI 1,sF 20,sF 21,sF 22,sF 23,sF 24,sF 25,sF 26,sF 27,sF 1,sF 2,sF 3,sF 4,sR 0,sR 3,sU,sU,sU,sU,sU,sU,sU,sU,sU,sU,sU,sU,sU,sU,sU,sU,sU,sU,sU,sU,sU,sU,sU,sU],[],[bE,aE,za9,bN,dI,fT],33,6,10) [dr,dr,cO,fU,dr,dr,fK,cO,fU,iz,iy]=true:=by decide +kernel
def ja:AD:=aD [31,0]
def Hf:List AD:=[bE,aE,za9,bN,dI,fT,fV,s9]++f8++[za9,za4,aD [32,30],dV,bv,ix,bv,za9,za4]++gy++([s_,gx,gw,za4,ay,aE,dI,za9,fT,gS,aE,za4,d6]++lO++[za9,ja,ay,ja,za4,ay])
def oZ:List Op:=[lP]++xB
theorem Hg:ai (run (tb 0) ap 53 (8,192,1792,192) 682 17 [kh,ki,(Lr,[0,1,2,3,4,5,7,8,9,12,13,14,21,22,23,24,25,26,27,28,29],[0,30,31,32],lQ++rS 15 6++kj++rp 5 zq0++km)] [] (648,#[sF 5,sF 6,sF 7,sF 8,sF 9,sF 10,sF 11,sF 12,sF 13,sF 14,sF 15,sF 16,sF 17,sF 18,sI 1,sF 20,sF 21,sF 22,sF 23,sF 24,sF 25,sF 26,sF 27,sF 1,sF 2,sF 3,sF 4,sR 0,sR 3,sF 33,sF 34,sR 6,sF 35,sF 36,sF 37,sF 38,sF 39,sF 40,sF 41,sF 42,sF 43,sF 44,sU,sU,sU,sU,sU,sU,sU,sU,sU,sU,sU],[],[bE,aE,za9,bN,dI,fT,fV],47,7,14)) (682,#[sF 5,sF 6,sF 7,sF 8,sF 9,sF 10,sF 11,sF 12,sF 13,sF 14,sF 15,sF 16,sF 17,sF 18,sI 1,sF 20,sF 21,sF 22,sF 23,sF 24,sF 25,sF 26,sF 27,sF 1,sF 2,sF 3,sF 4,sR 0,sR 3,sF 33,sF 34,sR 6,sF 35,sF 36,sF 37,sF 38,sF 39,sF 40,sF 41,sF 42,sF 43,sF 44,sR 7,sR 49,sU,sU,sU,sU,sU,sU,sU,sU,sU],[],Hf,57,83,828) oZ=true:=by decide +kernel
def l9 (D:Nat→UInt64)(w29 w30 w32 w33 w34 w35 w36 w37 w38 w39 w40 w41:UInt64):Nat→UInt64:=ac [0,D 1,D 2,D 3,D 4,D 5,D 6,D 7,D 8,D 9,D 10,D 11,D 12,D 13,D 14,D 15,D 16,D 17,D 18,D 19,D 20,D 21,D 22,D 23,D 24,D 25,D 26,D 27,0,0,FP.i2d (iW (D 2)),FP.i2d (iW (D 4)),FP.i2d (iW (D 3)),w29,w30,w32,w33,w34,w35,w36,w37,w38,w39,w40,w41,FP.i2d (iW w29),FP.i2d (iW w30)]
theorem uo {a u Lq Dd:Int}(bs:Bool)(B:LWB p l e s m args below meth c T0 Z a0 h0 n0 L0 0 0)(D0:D 0=0)(hrev:iW (D 19)=1)(z0:(iW (D 1)).toInt=0)(z1:(iW (D 2)).toInt≠0)(z2:(iW (D 3)).toInt≠0)(z3:(iW (D 4)).toInt≠0)(Q:QM4 D)(het:iW (D 18)=0∨iW (D 18)=1∨iW (D 18)=2)(hJ:∀i0 i1:Int,(-65536≤i0∧i0≤65536)→(-65536≤i1∧i1≤65536)→∃J0 J1,JT (iW (D 1)).toInt (iW (D 2)).toInt (iW (D 3)).toInt (iW (D 4)).toInt J0 J1 i0 i1)(S:S7 (ah u 0 (FP.i2d (iW (D 4)))) (Lq=0) a u Lq Dd (iW (D 3)).toInt (iW (D 4)).toInt (iW (D 1)).toInt (iW (D 2)).toInt (FP.i2d (iW (D 3))) (FP.i2d (iW (D 2))))(hv:∀w29 w30 w32 w33 w34 w35 w36 w37 w38 w39 w40 w41:UInt64,okv oZ 47 (l9 D w29 w30 w32 w33 w34 w35 w36 w37 w38 w39 w40 w41)):Go p e below (bw s (aV n0) 192 1792) T0 (mkF m 411 (cH D bs) []):=by
 refine goE (aY (A:=fun _=>0) (K:=fun _=>0) (D:=D) (W:=fun _ => .null) (He bs) (scS K9 (scS lx (scS Lc (scS ly sc0)))) B YgF.nil D0 (by decide) ⟨z0,z0,z2,z3,z0,z0,trivial,z2,z3,trivial,trivial,trivial⟩ ?_) (by cases bs<;>(simp only[cH];rw[hrev];rfl))
 intro T1 h1 L1 A1 K1 B1 hA1 Kp1 f1 Y1
 have YA:Yf Z n0 h1 ([(A1 0,K1 0,67,2,[.ref (A1 1),.ref (A1 2)]),(A1 3,K1 3,68,2,[.ref (A1 4),.ref (A1 5)])]++[(A1 1,K1 1,64,1,[.int 1]),(A1 2,K1 2,64,2,[.int 1,.int 0]),(A1 4,K1 4,65,1,[.double (FP.i2d (iW (D 2)))]),(A1 5,K1 5,65,2,[.double (FP.i2d (iW (D 4))),.double (FP.i2d (iW (D 3)))])]):=Yf.pick Y1.fl [0,3,1,2,4,5] (by decide) rfl
 refine goE (eQ (D:=D) (B1.more (by decide) (by decide)) D0 YA ?_) (by simp only[gf];rw[hrev];rfl)
 intro T2 h2 L2 vv kv w29 w30 w32 w33 w34 w35 w36 w37 w38 w39 w40 w41 B2 Y2 V
 have YB:YgF Z n0 h2 (aP [A1 0,A1 1,A1 2,A1 3,A1 4,A1 5,vv]) (aQ [K1 0,K1 1,K1 2,K1 3,K1 4,K1 5,kv]) (l9 D w29 w30 w32 w33 w34 w35 w36 w37 w38 w39 w40 w41) (fun _ => .null) [aR 67 [1,2],aI [1],aI [1,0],aR 68 [4,5],aD [30],aD [31,32],aD [45,46]]:=Yf.to (Yf.pick (os':=an (aP [A1 0,A1 1,A1 2,A1 3,A1 4,A1 5,vv]) (aQ [K1 0,K1 1,K1 2,K1 3,K1 4,K1 5,kv]) (l9 D w29 w30 w32 w33 w34 w35 w36 w37 w38 w39 w40 w41) (fun _ => .null) 0 [aR 67 [1,2],aI [1],aI [1,0],aR 68 [4,5],aD [30],aD [31,32],aD [45,46]]) Y2 [0,3,4,1,5,6,2] (by decide) rfl) rfl
 refine goE (aY (A:=(aP [A1 0,A1 1,A1 2,A1 3,A1 4,A1 5,vv])) (K:=(aQ [K1 0,K1 1,K1 2,K1 3,K1 4,K1 5,kv])) (D:=(l9 D w29 w30 w32 w33 w34 w35 w36 w37 w38 w39 w40 w41)) (W:=fun _ => .null) Hg (scS jD (scS h_ (scS QL sc0))) B2 YB rfl (by decide) (hv w29 w30 w32 w33 w34 w35 w36 w37 w38 w39 w40 w41) ?_) (by simp only[gg];rw[hrev];rfl)
 intro T3 h3 L3 A3 K3 B3 hA3 Kp3 f3 Y3
 have HT:=FW (l:=l) (Z:=Z) (n0:=n0) (la:=(aJ [21,22,23,24,77,78,27,14,15] A3)) (kl:=(bC [21,22,23,24,77,78,27,14,15] K3)) (g:=(bD [77,78,10,11,79,80,14,15,0,21,22,23,24,25,26,27,28,29,30,34,38,42,46,1,2,4,5] A3)) S
 obtain⟨J0,J1,J⟩:=hJ (iW w29).toInt (iW w30).toInt V.1 V.2.1
 exact goE (gv (A:=aJ [6,7,16,17,18,19,20,49,50,51,52,0,3] A3) (K:=bC [6,7,16,17,18,19,20,49,50,51,52,0,3] K3) (D:=(fG D w29 w30 w32 w33 w34 w35 w36 w37 w38 w39 w40 w41)) (W:=tmL (bD [77,78,10,11,79,80,14,15,0,21,22,23,24,25,26,27,28,29,30,34,38,42,46,1,2,4,5] A3) (aJ [21,22,23,24,77,78,27,14,15] A3)) (J0:=J0) (J1:=J1) (B3.more (by decide) (by decide)) rfl Q J ⟨Jvm.FP.Core.i2d_int _,Jvm.FP.Core.i2d_int _⟩ het V HT (Yf.pick Y3.fl [6,7,16,17,18,19,20,49,50,51,52,0,3,21,22,23,24,77,78,27,14,15] (by decide) rfl)) (by simp only[bK];rw[show iW ((fG D w29 w30 w32 w33 w34 w35 w36 w37 w38 w39 w40 w41) 17)=1 from hrev];rfl)
def h9:Op:=(13,3,0,0)
theorem O5:∀bs:Bool,ai (run (tb 0) ap 53 (8,192,1792,192) 471 36 [(NT,[],[0,1,2,19],[]),(NS,[],[0,3,4,19],[]),(NV,[],[0,1,2,19],[]),(NU,[],[0,3,4,19],[])] [] (411,#[sF 5,sF 6,sF 7,sF 8,sF 9,sF 10,sF 11,sF 12,sF 13,sF 14,sF 15,sF 16,sF 17,sF 18,sF 19,sF 20,sF 21,sF 22,sF 23,sF 24,sF 25,sF 26,sF 27,sF 1,sF 2,sF 3,sF 4,(bif bs then sF 28 else sU),(bif bs then sF 29 else sU),sU,sU,sU,sU,sU,sU,sU,sU,sU,sU,sU,sU,sU,sU,sU,sU,sU,sU,sU,sU,sU,sU,sU,sU],[],[],30,0,0)) (471,#[sF 5,sF 6,sF 7,sF 8,sF 9,sF 10,sF 11,sF 12,sF 13,sF 14,sF 15,sF 16,sF 17,sF 18,sF 19,sF 20,sF 21,sF 22,sF 23,sF 24,sF 25,sF 26,sF 27,sF 1,sF 2,sF 3,sF 4,sR 0,sR 3,sU,sU,sU,sU,sU,sU,sU,sU,sU,sU,sU,sU,sU,sU,sU,sU,sU,sU,sU,sU,sU,sU,sU,sU],[],[bE,aF,aE,bN,dI,aD [31]],32,6,8) [cE,g8,cE,h9,h9,cE,g8,cE,fL,h9,h9,iz]=true:=by decide +kernel
def fh:AD:=aD [30,31]
def O6:List AD:=[bE,aF,aE]++M_++f8++[za4,za4,fh,bv,bv,bv,bv,za4,za4]++gy++([M9,gx,gw,ay,ay,aF,dI,aE,aD [31],gS,aF,aE,bM,oW,za7,fy,za2,za2,oV]++vt)
def xE:List Op:=[gT,(11,46,4472406533629990549,1),gT,(5,0,47,0),(2,4591870180066957722,48,0),(10,46,49,1),gz,(11,50,4472406533629990549,1),gz,(5,0,51,0),G_,(10,50,53,1)]
theorem O7:ai (run (tb 0) ap 53 (8,192,1792,192) 682 17 [kh,ki,(LN,[0,1,2,3,4,5,7,12,14,21,22,23,24,25,26,27,28,29],[0,30,31],rS 8 4++[d5]++rS 15 6++kj++rp 5 zq0++km)] [] (648,#[sF 5,sF 6,sF 7,sF 8,sF 9,sF 10,sF 11,sF 12,sF 13,sF 14,sF 15,sF 16,sF 17,sF 18,sF 19,sF 20,sF 21,sF 22,sF 23,sF 24,sF 25,sF 26,sF 27,sF 1,sF 2,sF 3,sF 4,sR 0,sR 3,sF 32,sF 33,sR 6,sF 34,sF 35,sF 36,sF 37,sF 38,sF 39,sF 40,sF 41,sF 42,sF 43,sU,sU,sU,sU,sU,sU,sU,sU,sU,sU,sU],[],[bE,aF,aE,bN,dI,aD [31],xa],46,7,14)) (682,#[sF 5,sF 6,sF 7,sF 8,sF 9,sF 10,sF 11,sF 12,sF 13,sF 14,sF 15,sF 16,sF 17,sF 18,sF 19,sF 20,sF 21,sF 22,sF 23,sF 24,sF 25,sF 26,sF 27,sF 1,sF 2,sF 3,sF 4,sR 0,sR 3,sF 32,sF 33,sR 6,sF 34,sF 35,sF 36,sF 37,sF 38,sF 39,sF 40,sF 41,sF 42,sF 43,sR 7,sR 49,sU,sU,sU,sU,sU,sU,sU,sU,sU],[],O6,54,79,817) xE=true:=by decide +kernel
def xF (D:Nat→UInt64)(w29 w30 w32 w33 w34 w35 w36 w37 w38 w39 w40 w41:UInt64):Nat→UInt64:=ac [0,D 1,D 2,D 3,D 4,D 5,D 6,D 7,D 8,D 9,D 10,D 11,D 12,D 13,D 14,D 15,D 16,D 17,D 18,D 19,D 20,D 21,D 22,D 23,D 24,D 25,D 26,D 27,0,0,FP.i2d (iW (D 1)),FP.i2d (iW (D 4)),w29,w30,w32,w33,w34,w35,w36,w37,w38,w39,w40,w41,FP.i2d (iW w29),FP.i2d (iW w30)]
theorem Hh {a u Lq Dd:Int}(bs:Bool)(B:LWB p l e s m args below meth c T0 Z a0 h0 n0 L0 0 0)(D0:D 0=0)(z0:(iW (D 1)).toInt≠0)(z1:(iW (D 2)).toInt=0)(z2:(iW (D 3)).toInt=0)(z3:(iW (D 4)).toInt≠0)(Q:QM4 D)(het:iW (D 18)=0∨iW (D 18)=1∨iW (D 18)=2)(hJ:∀i0 i1:Int,(-65536≤i0∧i0≤65536)→(-65536≤i1∧i1≤65536)→∃J0 J1,JT (iW (D 1)).toInt (iW (D 2)).toInt (iW (D 3)).toInt (iW (D 4)).toInt J0 J1 i0 i1)(S:S7 (u=0) (Lq=0) a u Lq Dd (iW (D 1)).toInt (iW (D 2)).toInt (iW (D 3)).toInt (iW (D 4)).toInt (FP.i2d (iW (D 1))) (FP.i2d (iW (D 4))))(hv:∀w29 w30 w32 w33 w34 w35 w36 w37 w38 w39 w40 w41:UInt64,okv xE 46 (xF D w29 w30 w32 w33 w34 w35 w36 w37 w38 w39 w40 w41)):Go p e below (bw s (aV n0) 192 1792) T0 (mkF m 411 (cH D bs) []):=by
 refine goE (aY (A:=fun _=>0) (K:=fun _=>0) (D:=D) (W:=fun _ => .null) (O5 bs) (scS PX (scS PV (scS P4 (scS PZ sc0)))) B YgF.nil D0 (by decide) ⟨z0,z1,z0,z2,z2,z0,z1,z0,trivial,z2,z2,trivial,trivial⟩ ?_) (by cases bs<;>(simp only[cH];rfl))
 intro T1 h1 L1 A1 K1 B1 hA1 Kp1 f1 Y1
 have YA:Yf Z n0 h1 ([(A1 0,K1 0,67,2,[.ref (A1 1),.ref (A1 2)]),(A1 3,K1 3,68,2,[.ref (A1 4),.ref (A1 5)])]++[(A1 1,K1 1,64,1,[.int 0]),(A1 2,K1 2,64,1,[.int 1]),(A1 4,K1 4,65,1,[.double (FP.i2d (iW (D 1)))]),(A1 5,K1 5,65,1,[.double (FP.i2d (iW (D 4)))])]):=Yf.pick Y1.fl [0,3,1,2,4,5] (by decide) rfl
 refine goE (eQ (D:=D) (B1.more (by decide) (by decide)) D0 YA ?_) (by simp only[gf];rfl)
 intro T2 h2 L2 vv kv w29 w30 w32 w33 w34 w35 w36 w37 w38 w39 w40 w41 B2 Y2 V
 have YB:YgF Z n0 h2 (aP [A1 0,A1 1,A1 2,A1 3,A1 4,A1 5,vv]) (aQ [K1 0,K1 1,K1 2,K1 3,K1 4,K1 5,kv]) (xF D w29 w30 w32 w33 w34 w35 w36 w37 w38 w39 w40 w41) (fun _ => .null) [aR 67 [1,2],aI [0],aI [1],aR 68 [4,5],aD [30],aD [31],aD [44,45]]:=Yf.to (Yf.pick (os':=an (aP [A1 0,A1 1,A1 2,A1 3,A1 4,A1 5,vv]) (aQ [K1 0,K1 1,K1 2,K1 3,K1 4,K1 5,kv]) (xF D w29 w30 w32 w33 w34 w35 w36 w37 w38 w39 w40 w41) (fun _ => .null) 0 [aR 67 [1,2],aI [0],aI [1],aR 68 [4,5],aD [30],aD [31],aD [44,45]]) Y2 [0,3,4,1,5,6,2] (by decide) rfl) rfl
 refine goE (aY (A:=(aP [A1 0,A1 1,A1 2,A1 3,A1 4,A1 5,vv])) (K:=(aQ [K1 0,K1 1,K1 2,K1 3,K1 4,K1 5,kv])) (D:=(xF D w29 w30 w32 w33 w34 w35 w36 w37 w38 w39 w40 w41)) (W:=fun _ => .null) O7 (scS jD (scS h_ (scS QS sc0))) B2 YB rfl (by decide) (hv w29 w30 w32 w33 w34 w35 w36 w37 w38 w39 w40 w41) ?_) (by simp only[gg];rfl)
 intro T3 h3 L3 A3 K3 B3 hA3 Kp3 f3 Y3
 have HT:=Rf (l:=l) (Z:=Z) (n0:=n0) (la:=(aJ [21,22,23,24,8,9,27,14,15] A3)) (kl:=(bC [21,22,23,24,8,9,27,14,15] K3)) (g:=(bD [8,9,10,11,12,13,14,15,0,21,22,23,24,25,26,27,28,29,30,34,38,42,46,1,2,4,5] A3)) S
 obtain⟨J0,J1,J⟩:=hJ (iW w29).toInt (iW w30).toInt V.1 V.2.1
 exact goE (gv (A:=aJ [6,7,16,17,18,19,20,49,50,51,52,0,3] A3) (K:=bC [6,7,16,17,18,19,20,49,50,51,52,0,3] K3) (D:=(fG D w29 w30 w32 w33 w34 w35 w36 w37 w38 w39 w40 w41)) (W:=tmL (bD [8,9,10,11,12,13,14,15,0,21,22,23,24,25,26,27,28,29,30,34,38,42,46,1,2,4,5] A3) (aJ [21,22,23,24,8,9,27,14,15] A3)) (J0:=J0) (J1:=J1) (B3.more (by decide) (by decide)) rfl Q J ⟨Jvm.FP.Core.i2d_int _,Jvm.FP.Core.i2d_int _⟩ het V HT (Yf.pick Y3.fl [6,7,16,17,18,19,20,49,50,51,52,0,3,21,22,23,24,8,9,27,14,15] (by decide) rfl)) (by simp only[bK];rfl)
theorem Hi:∀bs:Bool,ai (run (tb 0) ap 53 (8,192,1792,192) 471 36 [(Ce,[],[0,1,2],[]),xz,(Cf,[],[0,1,2],[]),xy] [] (411,#[sF 5,sF 6,sF 7,sF 8,sF 9,sF 10,sF 11,sF 12,sF 13,sF 14,sF 15,sF 16,sF 17,sF 18,sI 0,sF 20,sF 21,sF 22,sF 23,sF 24,sF 25,sF 26,sF 27,sF 1,sF 2,sF 3,sF 4,(bif bs then sF 28 else sU),(bif bs then sF 29 else sU),sU,sU,sU,sU,sU,sU,sU,sU,sU,sU,sU,sU,sU,sU,sU,sU,sU,sU,sU,sU,sU,sU,sU,sU],[],[],30,0,0)) (471,#[sF 5,sF 6,sF 7,sF 8,sF 9,sF 10,sF 11,sF 12,sF 13,sF 14,sF 15,sF 16,sF 17,sF 18,sI 0,sF 20,sF 21,sF 22,sF 23,sF 24,sF 25,sF 26,sF 27,sF 1,sF 2,sF 3,sF 4,sR 0,sR 3,sU,sU,sU,sU,sU,sU,sU,sU,sU,sU,sU,sU,sU,sU,sU,sU,sU,sU,sU,sU,sU,sU,sU,sU],[],[bE,aF,za4,bN,dI,fT],33,6,10) [cE,g8,cE,cO,fU,cE,g8,cE,fL,cO,fU,iy,iz]=true:=by decide +kernel
def Hj:List AD:=[bE,aF,za4,bN,dI,fT,fV,s9]++f8++[za9,za9,aD [32,30],dV,bv,dV,bv,za9,za9]++gy++([s_,gx,gw,za4,ay,aF,dI,za4,fT,gS,za4,aE,d7]++lO++[ay,ja,ay,ja,bM,ay])
def o0:List Op:=[lP]++xB
theorem Hk:ai (run (tb 0) ap 53 (8,192,1792,192) 682 17 [kh,ki,(Cz,[0,1,2,3,4,5,7,8,9,12,13,14,21,22,23,24,25,26,27,28,29],[0,30,31,32],lQ++rS 15 6++kj++rp 5 zq0++km)] [] (648,#[sF 5,sF 6,sF 7,sF 8,sF 9,sF 10,sF 11,sF 12,sF 13,sF 14,sF 15,sF 16,sF 17,sF 18,sI 0,sF 20,sF 21,sF 22,sF 23,sF 24,sF 25,sF 26,sF 27,sF 1,sF 2,sF 3,sF 4,sR 0,sR 3,sF 33,sF 34,sR 6,sF 35,sF 36,sF 37,sF 38,sF 39,sF 40,sF 41,sF 42,sF 43,sF 44,sU,sU,sU,sU,sU,sU,sU,sU,sU,sU,sU],[],[bE,aF,za4,bN,dI,fT,fV],47,7,14)) (682,#[sF 5,sF 6,sF 7,sF 8,sF 9,sF 10,sF 11,sF 12,sF 13,sF 14,sF 15,sF 16,sF 17,sF 18,sI 0,sF 20,sF 21,sF 22,sF 23,sF 24,sF 25,sF 26,sF 27,sF 1,sF 2,sF 3,sF 4,sR 0,sR 3,sF 33,sF 34,sR 6,sF 35,sF 36,sF 37,sF 38,sF 39,sF 40,sF 41,sF 42,sF 43,sF 44,sR 7,sR 49,sU,sU,sU,sU,sU,sU,sU,sU,sU],[],Hj,57,83,828) o0=true:=by decide +kernel
def l_ (D:Nat→UInt64)(w29 w30 w32 w33 w34 w35 w36 w37 w38 w39 w40 w41:UInt64):Nat→UInt64:=ac [0,D 1,D 2,D 3,D 4,D 5,D 6,D 7,D 8,D 9,D 10,D 11,D 12,D 13,D 14,D 15,D 16,D 17,D 18,D 19,D 20,D 21,D 22,D 23,D 24,D 25,D 26,D 27,0,0,FP.i2d (iW (D 1)),FP.i2d (iW (D 3)),FP.i2d (iW (D 4)),w29,w30,w32,w33,w34,w35,w36,w37,w38,w39,w40,w41,FP.i2d (iW w29),FP.i2d (iW w30)]
theorem uq {a u Lq Dd:Int}(bs:Bool)(B:LWB p l e s m args below meth c T0 Z a0 h0 n0 L0 0 0)(D0:D 0=0)(hrev:iW (D 19)=0)(z0:(iW (D 1)).toInt≠0)(z1:(iW (D 2)).toInt=0)(z2:(iW (D 3)).toInt≠0)(z3:(iW (D 4)).toInt≠0)(Q:QM4 D)(het:iW (D 18)=0∨iW (D 18)=1∨iW (D 18)=2)(hJ:∀i0 i1:Int,(-65536≤i0∧i0≤65536)→(-65536≤i1∧i1≤65536)→∃J0 J1,JT (iW (D 1)).toInt (iW (D 2)).toInt (iW (D 3)).toInt (iW (D 4)).toInt J0 J1 i0 i1)(S:S7 (ah u 0 (FP.i2d (iW (D 3)))) (Lq=0) a u Lq Dd (iW (D 4)).toInt (iW (D 3)).toInt (iW (D 2)).toInt (iW (D 1)).toInt (FP.i2d (iW (D 4))) (FP.i2d (iW (D 1))))(hv:∀w29 w30 w32 w33 w34 w35 w36 w37 w38 w39 w40 w41:UInt64,okv o0 47 (l_ D w29 w30 w32 w33 w34 w35 w36 w37 w38 w39 w40 w41)):Go p e below (bw s (aV n0) 192 1792) T0 (mkF m 411 (cH D bs) []):=by
 refine goE (aY (A:=fun _=>0) (K:=fun _=>0) (D:=D) (W:=fun _ => .null) (Hi bs) (scS LP (scS kZ (scS LR (scS k_ sc0)))) B YgF.nil D0 (by decide) ⟨z0,z1,z0,z2,z3,z0,z1,z0,trivial,z2,z3,trivial,trivial,trivial⟩ ?_) (by cases bs<;>(simp only[cH];rw[hrev];rfl))
 intro T1 h1 L1 A1 K1 B1 hA1 Kp1 f1 Y1
 have YA:Yf Z n0 h1 ([(A1 0,K1 0,67,2,[.ref (A1 1),.ref (A1 2)]),(A1 3,K1 3,68,2,[.ref (A1 4),.ref (A1 5)])]++[(A1 1,K1 1,64,1,[.int 0]),(A1 2,K1 2,64,2,[.int 0,.int 1]),(A1 4,K1 4,65,1,[.double (FP.i2d (iW (D 1)))]),(A1 5,K1 5,65,2,[.double (FP.i2d (iW (D 3))),.double (FP.i2d (iW (D 4)))])]):=Yf.pick Y1.fl [0,3,1,2,4,5] (by decide) rfl
 refine goE (eQ (D:=D) (B1.more (by decide) (by decide)) D0 YA ?_) (by simp only[gf];rw[hrev];rfl)
 intro T2 h2 L2 vv kv w29 w30 w32 w33 w34 w35 w36 w37 w38 w39 w40 w41 B2 Y2 V
 have YB:YgF Z n0 h2 (aP [A1 0,A1 1,A1 2,A1 3,A1 4,A1 5,vv]) (aQ [K1 0,K1 1,K1 2,K1 3,K1 4,K1 5,kv]) (l_ D w29 w30 w32 w33 w34 w35 w36 w37 w38 w39 w40 w41) (fun _ => .null) [aR 67 [1,2],aI [0],aI [0,1],aR 68 [4,5],aD [30],aD [31,32],aD [45,46]]:=Yf.to (Yf.pick (os':=an (aP [A1 0,A1 1,A1 2,A1 3,A1 4,A1 5,vv]) (aQ [K1 0,K1 1,K1 2,K1 3,K1 4,K1 5,kv]) (l_ D w29 w30 w32 w33 w34 w35 w36 w37 w38 w39 w40 w41) (fun _ => .null) 0 [aR 67 [1,2],aI [0],aI [0,1],aR 68 [4,5],aD [30],aD [31,32],aD [45,46]]) Y2 [0,3,4,1,5,6,2] (by decide) rfl) rfl
 refine goE (aY (A:=(aP [A1 0,A1 1,A1 2,A1 3,A1 4,A1 5,vv])) (K:=(aQ [K1 0,K1 1,K1 2,K1 3,K1 4,K1 5,kv])) (D:=(l_ D w29 w30 w32 w33 w34 w35 w36 w37 w38 w39 w40 w41)) (W:=fun _ => .null) Hk (scS jD (scS h_ (scS NX sc0))) B2 YB rfl (by decide) (hv w29 w30 w32 w33 w34 w35 w36 w37 w38 w39 w40 w41) ?_) (by simp only[gg];rw[hrev];rfl)
 intro T3 h3 L3 A3 K3 B3 hA3 Kp3 f3 Y3
 have HT:=F9 (l:=l) (Z:=Z) (n0:=n0) (la:=(aJ [21,22,23,24,77,78,27,14,15] A3)) (kl:=(bC [21,22,23,24,77,78,27,14,15] K3)) (g:=(bD [77,78,10,11,79,80,14,15,0,21,22,23,24,25,26,27,28,29,30,34,38,42,46,1,2,4,5] A3)) S
 obtain⟨J0,J1,J⟩:=hJ (iW w29).toInt (iW w30).toInt V.1 V.2.1
 exact goE (gv (A:=aJ [6,7,16,17,18,19,20,49,50,51,52,0,3] A3) (K:=bC [6,7,16,17,18,19,20,49,50,51,52,0,3] K3) (D:=(fG D w29 w30 w32 w33 w34 w35 w36 w37 w38 w39 w40 w41)) (W:=tmL (bD [77,78,10,11,79,80,14,15,0,21,22,23,24,25,26,27,28,29,30,34,38,42,46,1,2,4,5] A3) (aJ [21,22,23,24,77,78,27,14,15] A3)) (J0:=J0) (J1:=J1) (B3.more (by decide) (by decide)) rfl Q J ⟨Jvm.FP.Core.i2d_int _,Jvm.FP.Core.i2d_int _⟩ het V HT (Yf.pick Y3.fl [6,7,16,17,18,19,20,49,50,51,52,0,3,21,22,23,24,77,78,27,14,15] (by decide) rfl)) (by simp only[bK];rw[show iW ((fG D w29 w30 w32 w33 w34 w35 w36 w37 w38 w39 w40 w41) 17)=0 from hrev];rfl)
theorem Hl:∀bs:Bool,ai (run (tb 0) ap 53 (8,192,1792,192) 471 36 [(tq,[],[0,1,2],[]),xD,(tr,[],[0,1,2],[]),xC] [] (411,#[sF 5,sF 6,sF 7,sF 8,sF 9,sF 10,sF 11,sF 12,sF 13,sF 14,sF 15,sF 16,sF 17,sF 18,sI 1,sF 20,sF 21,sF 22,sF 23,sF 24,sF 25,sF 26,sF 27,sF 1,sF 2,sF 3,sF 4,(bif bs then sF 28 else sU),(bif bs then sF 29 else sU),sU,sU,sU,sU,sU,sU,sU,sU,sU,sU,sU,sU,sU,sU,sU,sU,sU,sU,sU,sU,sU,sU,sU,sU],[],[],30,0,0)) (471,#[sF 5,sF 6,sF 7,sF 8,sF 9,sF 10,sF 11,sF 12,sF 13,sF 14,sF 15,sF 16,sF 17,sF 18,sI 1,sF 20,sF 21,sF 22,sF 23,sF 24,sF 25,sF 26,sF 27,sF 1,sF 2,sF 3,sF 4,sR 0,sR 3,sU,sU,sU,sU,sU,sU,sU,sU,sU,sU,sU,sU,sU,sU,sU,sU,sU,sU,sU,sU,sU,sU,sU,sU],[],[bE,aF,za9,bN,dI,fT],33,6,10) [cE,g8,cE,cO,fU,cE,g8,cE,fL,cO,fU,iz,iy]=true:=by decide +kernel
def Hm:List AD:=[bE,aF,za9,bN,dI,fT,fV,s9]++f8++[za9,za9,aD [31,30],dV,bv,dV,bv,za9,za9]++gy++([s_,gx,gw,za4,ay,aF,dI,ay,aD [32,32],gS,za4,aE,d7]++lO++[ay,aD [32,0],ay,aD [32,0],bM,ay])
def o2:List Op:=[gz]++xB
theorem Hn:ai (run (tb 0) ap 53 (8,192,1792,192) 682 17 [kh,ki,(CP,[0,1,2,3,4,5,7,8,9,12,13,14,21,22,23,24,25,26,27,28,29],[0,30,31,32],lQ++rS 15 6++kj++rp 5 zq0++km)] [] (648,#[sF 5,sF 6,sF 7,sF 8,sF 9,sF 10,sF 11,sF 12,sF 13,sF 14,sF 15,sF 16,sF 17,sF 18,sI 1,sF 20,sF 21,sF 22,sF 23,sF 24,sF 25,sF 26,sF 27,sF 1,sF 2,sF 3,sF 4,sR 0,sR 3,sF 33,sF 34,sR 6,sF 35,sF 36,sF 37,sF 38,sF 39,sF 40,sF 41,sF 42,sF 43,sF 44,sU,sU,sU,sU,sU,sU,sU,sU,sU,sU,sU],[],[bE,aF,za9,bN,dI,fT,fV],47,7,14)) (682,#[sF 5,sF 6,sF 7,sF 8,sF 9,sF 10,sF 11,sF 12,sF 13,sF 14,sF 15,sF 16,sF 17,sF 18,sI 1,sF 20,sF 21,sF 22,sF 23,sF 24,sF 25,sF 26,sF 27,sF 1,sF 2,sF 3,sF 4,sR 0,sR 3,sF 33,sF 34,sR 6,sF 35,sF 36,sF 37,sF 38,sF 39,sF 40,sF 41,sF 42,sF 43,sF 44,sR 7,sR 49,sU,sU,sU,sU,sU,sU,sU,sU,sU],[],Hm,57,83,828) o2=true:=by decide +kernel
def ma (D:Nat→UInt64)(w29 w30 w32 w33 w34 w35 w36 w37 w38 w39 w40 w41:UInt64):Nat→UInt64:=ac [0,D 1,D 2,D 3,D 4,D 5,D 6,D 7,D 8,D 9,D 10,D 11,D 12,D 13,D 14,D 15,D 16,D 17,D 18,D 19,D 20,D 21,D 22,D 23,D 24,D 25,D 26,D 27,0,0,FP.i2d (iW (D 1)),FP.i2d (iW (D 4)),FP.i2d (iW (D 3)),w29,w30,w32,w33,w34,w35,w36,w37,w38,w39,w40,w41,FP.i2d (iW w29),FP.i2d (iW w30)]
theorem ur {a u Lq Dd:Int}(bs:Bool)(B:LWB p l e s m args below meth c T0 Z a0 h0 n0 L0 0 0)(D0:D 0=0)(hrev:iW (D 19)=1)(z0:(iW (D 1)).toInt≠0)(z1:(iW (D 2)).toInt=0)(z2:(iW (D 3)).toInt≠0)(z3:(iW (D 4)).toInt≠0)(Q:QM4 D)(het:iW (D 18)=0∨iW (D 18)=1∨iW (D 18)=2)(hJ:∀i0 i1:Int,(-65536≤i0∧i0≤65536)→(-65536≤i1∧i1≤65536)→∃J0 J1,JT (iW (D 1)).toInt (iW (D 2)).toInt (iW (D 3)).toInt (iW (D 4)).toInt J0 J1 i0 i1)(S:S7 (ah u 0 (FP.i2d (iW (D 3)))) (Lq=0) a u Lq Dd (iW (D 4)).toInt (iW (D 3)).toInt (iW (D 2)).toInt (iW (D 1)).toInt (FP.i2d (iW (D 4))) (FP.i2d (iW (D 1))))(hv:∀w29 w30 w32 w33 w34 w35 w36 w37 w38 w39 w40 w41:UInt64,okv o2 47 (ma D w29 w30 w32 w33 w34 w35 w36 w37 w38 w39 w40 w41)):Go p e below (bw s (aV n0) 192 1792) T0 (mkF m 411 (cH D bs) []):=by
 refine goE (aY (A:=fun _=>0) (K:=fun _=>0) (D:=D) (W:=fun _ => .null) (Hl bs) (scS CB (scS lx (scS CD (scS ly sc0)))) B YgF.nil D0 (by decide) ⟨z0,z1,z0,z2,z3,z0,z1,z0,trivial,z2,z3,trivial,trivial,trivial⟩ ?_) (by cases bs<;>(simp only[cH];rw[hrev];rfl))
 intro T1 h1 L1 A1 K1 B1 hA1 Kp1 f1 Y1
 have YA:Yf Z n0 h1 ([(A1 0,K1 0,67,2,[.ref (A1 1),.ref (A1 2)]),(A1 3,K1 3,68,2,[.ref (A1 4),.ref (A1 5)])]++[(A1 1,K1 1,64,1,[.int 0]),(A1 2,K1 2,64,2,[.int 1,.int 0]),(A1 4,K1 4,65,1,[.double (FP.i2d (iW (D 1)))]),(A1 5,K1 5,65,2,[.double (FP.i2d (iW (D 4))),.double (FP.i2d (iW (D 3)))])]):=Yf.pick Y1.fl [0,3,1,2,4,5] (by decide) rfl
 refine goE (eQ (D:=D) (B1.more (by decide) (by decide)) D0 YA ?_) (by simp only[gf];rw[hrev];rfl)
 intro T2 h2 L2 vv kv w29 w30 w32 w33 w34 w35 w36 w37 w38 w39 w40 w41 B2 Y2 V
 have YB:YgF Z n0 h2 (aP [A1 0,A1 1,A1 2,A1 3,A1 4,A1 5,vv]) (aQ [K1 0,K1 1,K1 2,K1 3,K1 4,K1 5,kv]) (ma D w29 w30 w32 w33 w34 w35 w36 w37 w38 w39 w40 w41) (fun _ => .null) [aR 67 [1,2],aI [0],aI [1,0],aR 68 [4,5],aD [30],aD [31,32],aD [45,46]]:=Yf.to (Yf.pick (os':=an (aP [A1 0,A1 1,A1 2,A1 3,A1 4,A1 5,vv]) (aQ [K1 0,K1 1,K1 2,K1 3,K1 4,K1 5,kv]) (ma D w29 w30 w32 w33 w34 w35 w36 w37 w38 w39 w40 w41) (fun _ => .null) 0 [aR 67 [1,2],aI [0],aI [1,0],aR 68 [4,5],aD [30],aD [31,32],aD [45,46]]) Y2 [0,3,4,1,5,6,2] (by decide) rfl) rfl
 refine goE (aY (A:=(aP [A1 0,A1 1,A1 2,A1 3,A1 4,A1 5,vv])) (K:=(aQ [K1 0,K1 1,K1 2,K1 3,K1 4,K1 5,kv])) (D:=(ma D w29 w30 w32 w33 w34 w35 w36 w37 w38 w39 w40 w41)) (W:=fun _ => .null) Hn (scS jD (scS h_ (scS N5 sc0))) B2 YB rfl (by decide) (hv w29 w30 w32 w33 w34 w35 w36 w37 w38 w39 w40 w41) ?_) (by simp only[gg];rw[hrev];rfl)
 intro T3 h3 L3 A3 K3 B3 hA3 Kp3 f3 Y3
 have HT:=F9 (l:=l) (Z:=Z) (n0:=n0) (la:=(aJ [21,22,23,24,77,78,27,14,15] A3)) (kl:=(bC [21,22,23,24,77,78,27,14,15] K3)) (g:=(bD [77,78,10,11,79,80,14,15,0,21,22,23,24,25,26,27,28,29,30,34,38,42,46,1,2,4,5] A3)) S
 obtain⟨J0,J1,J⟩:=hJ (iW w29).toInt (iW w30).toInt V.1 V.2.1
 exact goE (gv (A:=aJ [6,7,16,17,18,19,20,49,50,51,52,0,3] A3) (K:=bC [6,7,16,17,18,19,20,49,50,51,52,0,3] K3) (D:=(fG D w29 w30 w32 w33 w34 w35 w36 w37 w38 w39 w40 w41)) (W:=tmL (bD [77,78,10,11,79,80,14,15,0,21,22,23,24,25,26,27,28,29,30,34,38,42,46,1,2,4,5] A3) (aJ [21,22,23,24,77,78,27,14,15] A3)) (J0:=J0) (J1:=J1) (B3.more (by decide) (by decide)) rfl Q J ⟨Jvm.FP.Core.i2d_int _,Jvm.FP.Core.i2d_int _⟩ het V HT (Yf.pick Y3.fl [6,7,16,17,18,19,20,49,50,51,52,0,3,21,22,23,24,77,78,27,14,15] (by decide) rfl)) (by simp only[bK];rw[show iW ((fG D w29 w30 w32 w33 w34 w35 w36 w37 w38 w39 w40 w41) 17)=1 from hrev];rfl)
def fW:AD:=aD [32]
def xG:Sc:=(BK,[],[0,1,2],[])
def xH:Sc:=(BI,[],[0,1,2],[])
theorem Ho:∀bs:Bool,ai (run (tb 0) ap 53 (8,192,1792,192) 471 36 [xH,(BH,[],[0,3,4],[]),xG,(BJ,[],[0,3,4],[])] [] (411,#[sF 5,sF 6,sF 7,sF 8,sF 9,sF 10,sF 11,sF 12,sF 13,sF 14,sF 15,sF 16,sF 17,sF 18,sI 0,sF 20,sF 21,sF 22,sF 23,sF 24,sF 25,sF 26,sF 27,sF 1,sF 2,sF 3,sF 4,(bif bs then sF 28 else sU),(bif bs then sF 29 else sU),sU,sU,sU,sU,sU,sU,sU,sU,sU,sU,sU,sU,sU,sU,sU,sU,sU,sU,sU,sU,sU,sU,sU,sU],[],[],30,0,0)) (471,#[sF 5,sF 6,sF 7,sF 8,sF 9,sF 10,sF 11,sF 12,sF 13,sF 14,sF 15,sF 16,sF 17,sF 18,sI 0,sF 20,sF 21,sF 22,sF 23,sF 24,sF 25,sF 26,sF 27,sF 1,sF 2,sF 3,sF 4,sR 0,sR 3,sU,sU,sU,sU,sU,sU,sU,sU,sU,sU,sU,sU,sU,sU,sU,sU,sU,sU,sU,sU,sU,sU,sU,sU],[],[bE,za4,aE,bN,fh,fW],33,6,10) [cE,eB,h9,h9,cE,eB,fL,fK,h9,h9,iz]=true:=by decide +kernel
def Hp:List AD:=[bE,za4,aE,bN,fh,fW,fV,s9]++f8++[za4,za4,aD [30,32],dV,bv,ix,bv,za4,za4]++gy++([s_,gx,gw,za9,ay,bM,aD [31,31],aE,fW,gS,aF,bM,d6]++lO++[za9,ja,ay,ja,za4,ay])
def xI:List Op:=[Nb,gT,Ni,gz,Ng,Nd,Nf,lP,Na,lP,Nh,Nc,Ne]
def o3:List Op:=[gT]++xI
theorem Hq:ai (run (tb 0) ap 53 (8,192,1792,192) 682 17 [kh,ki,(C6,[0,1,2,3,4,5,7,8,9,12,13,14,21,22,23,24,25,26,27,28,29],[0,30,31,32],lQ++rS 15 6++kj++rp 5 zq0++km)] [] (648,#[sF 5,sF 6,sF 7,sF 8,sF 9,sF 10,sF 11,sF 12,sF 13,sF 14,sF 15,sF 16,sF 17,sF 18,sI 0,sF 20,sF 21,sF 22,sF 23,sF 24,sF 25,sF 26,sF 27,sF 1,sF 2,sF 3,sF 4,sR 0,sR 3,sF 33,sF 34,sR 6,sF 35,sF 36,sF 37,sF 38,sF 39,sF 40,sF 41,sF 42,sF 43,sF 44,sU,sU,sU,sU,sU,sU,sU,sU,sU,sU,sU],[],[bE,za4,aE,bN,fh,fW,fV],47,7,14)) (682,#[sF 5,sF 6,sF 7,sF 8,sF 9,sF 10,sF 11,sF 12,sF 13,sF 14,sF 15,sF 16,sF 17,sF 18,sI 0,sF 20,sF 21,sF 22,sF 23,sF 24,sF 25,sF 26,sF 27,sF 1,sF 2,sF 3,sF 4,sR 0,sR 3,sF 33,sF 34,sR 6,sF 35,sF 36,sF 37,sF 38,sF 39,sF 40,sF 41,sF 42,sF 43,sF 44,sR 7,sR 49,sU,sU,sU,sU,sU,sU,sU,sU,sU],[],Hp,57,83,828) o3=true:=by decide +kernel
def mb (D:Nat→UInt64)(w29 w30 w32 w33 w34 w35 w36 w37 w38 w39 w40 w41:UInt64):Nat→UInt64:=ac [0,D 1,D 2,D 3,D 4,D 5,D 6,D 7,D 8,D 9,D 10,D 11,D 12,D 13,D 14,D 15,D 16,D 17,D 18,D 19,D 20,D 21,D 22,D 23,D 24,D 25,D 26,D 27,0,0,FP.i2d (iW (D 1)),FP.i2d (iW (D 2)),FP.i2d (iW (D 4)),w29,w30,w32,w33,w34,w35,w36,w37,w38,w39,w40,w41,FP.i2d (iW w29),FP.i2d (iW w30)]
theorem us {a u Lq Dd:Int}(bs:Bool)(B:LWB p l e s m args below meth c T0 Z a0 h0 n0 L0 0 0)(D0:D 0=0)(hrev:iW (D 19)=0)(z0:(iW (D 1)).toInt≠0)(z1:(iW (D 2)).toInt≠0)(z2:(iW (D 3)).toInt=0)(z3:(iW (D 4)).toInt≠0)(Q:QM4 D)(het:iW (D 18)=0∨iW (D 18)=1∨iW (D 18)=2)(hJ:∀i0 i1:Int,(-65536≤i0∧i0≤65536)→(-65536≤i1∧i1≤65536)→∃J0 J1,JT (iW (D 1)).toInt (iW (D 2)).toInt (iW (D 3)).toInt (iW (D 4)).toInt J0 J1 i0 i1)(S:S7 (ah u 0 (FP.i2d (iW (D 2)))) (Lq=0) a u Lq Dd (iW (D 1)).toInt (iW (D 2)).toInt (iW (D 3)).toInt (iW (D 4)).toInt (FP.i2d (iW (D 1))) (FP.i2d (iW (D 4))))(hv:∀w29 w30 w32 w33 w34 w35 w36 w37 w38 w39 w40 w41:UInt64,okv o3 47 (mb D w29 w30 w32 w33 w34 w35 w36 w37 w38 w39 w40 w41)):Go p e below (bw s (aV n0) 192 1792) T0 (mkF m 411 (cH D bs) []):=by
 refine goE (aY (A:=fun _=>0) (K:=fun _=>0) (D:=D) (W:=fun _ => .null) (Ho bs) (scS kZ (scS JX (scS k_ (scS J2 sc0)))) B YgF.nil D0 (by decide) ⟨z0,z1,z2,z2,z0,z1,trivial,trivial,z2,z2,trivial,trivial⟩ ?_) (by cases bs<;>(simp only[cH];rw[hrev];rfl))
 intro T1 h1 L1 A1 K1 B1 hA1 Kp1 f1 Y1
 have YA:Yf Z n0 h1 ([(A1 0,K1 0,67,2,[.ref (A1 1),.ref (A1 2)]),(A1 3,K1 3,68,2,[.ref (A1 4),.ref (A1 5)])]++[(A1 1,K1 1,64,2,[.int 0,.int 1]),(A1 2,K1 2,64,1,[.int 1]),(A1 4,K1 4,65,2,[.double (FP.i2d (iW (D 1))),.double (FP.i2d (iW (D 2)))]),(A1 5,K1 5,65,1,[.double (FP.i2d (iW (D 4)))])]):=Yf.pick Y1.fl [0,3,1,2,4,5] (by decide) rfl
 refine goE (eQ (D:=D) (B1.more (by decide) (by decide)) D0 YA ?_) (by simp only[gf];rw[hrev];rfl)
 intro T2 h2 L2 vv kv w29 w30 w32 w33 w34 w35 w36 w37 w38 w39 w40 w41 B2 Y2 V
 have YB:YgF Z n0 h2 (aP [A1 0,A1 1,A1 2,A1 3,A1 4,A1 5,vv]) (aQ [K1 0,K1 1,K1 2,K1 3,K1 4,K1 5,kv]) (mb D w29 w30 w32 w33 w34 w35 w36 w37 w38 w39 w40 w41) (fun _ => .null) [aR 67 [1,2],aI [0,1],aI [1],aR 68 [4,5],aD [30,31],aD [32],aD [45,46]]:=Yf.to (Yf.pick (os':=an (aP [A1 0,A1 1,A1 2,A1 3,A1 4,A1 5,vv]) (aQ [K1 0,K1 1,K1 2,K1 3,K1 4,K1 5,kv]) (mb D w29 w30 w32 w33 w34 w35 w36 w37 w38 w39 w40 w41) (fun _ => .null) 0 [aR 67 [1,2],aI [0,1],aI [1],aR 68 [4,5],aD [30,31],aD [32],aD [45,46]]) Y2 [0,3,4,1,5,6,2] (by decide) rfl) rfl
 refine goE (aY (A:=(aP [A1 0,A1 1,A1 2,A1 3,A1 4,A1 5,vv])) (K:=(aQ [K1 0,K1 1,K1 2,K1 3,K1 4,K1 5,kv])) (D:=(mb D w29 w30 w32 w33 w34 w35 w36 w37 w38 w39 w40 w41)) (W:=fun _ => .null) Hq (scS jD (scS h_ (scS N9 sc0))) B2 YB rfl (by decide) (hv w29 w30 w32 w33 w34 w35 w36 w37 w38 w39 w40 w41) ?_) (by simp only[gg];rw[hrev];rfl)
 intro T3 h3 L3 A3 K3 B3 hA3 Kp3 f3 Y3
 have HT:=Gh (l:=l) (Z:=Z) (n0:=n0) (la:=(aJ [21,22,23,24,77,78,27,14,15] A3)) (kl:=(bC [21,22,23,24,77,78,27,14,15] K3)) (g:=(bD [77,78,10,11,79,80,14,15,0,21,22,23,24,25,26,27,28,29,30,34,38,42,46,1,2,4,5] A3)) S
 obtain⟨J0,J1,J⟩:=hJ (iW w29).toInt (iW w30).toInt V.1 V.2.1
 exact goE (gv (A:=aJ [6,7,16,17,18,19,20,49,50,51,52,0,3] A3) (K:=bC [6,7,16,17,18,19,20,49,50,51,52,0,3] K3) (D:=(fG D w29 w30 w32 w33 w34 w35 w36 w37 w38 w39 w40 w41)) (W:=tmL (bD [77,78,10,11,79,80,14,15,0,21,22,23,24,25,26,27,28,29,30,34,38,42,46,1,2,4,5] A3) (aJ [21,22,23,24,77,78,27,14,15] A3)) (J0:=J0) (J1:=J1) (B3.more (by decide) (by decide)) rfl Q J ⟨Jvm.FP.Core.i2d_int _,Jvm.FP.Core.i2d_int _⟩ het V HT (Yf.pick Y3.fl [6,7,16,17,18,19,20,49,50,51,52,0,3,21,22,23,24,77,78,27,14,15] (by decide) rfl)) (by simp only[bK];rw[show iW ((fG D w29 w30 w32 w33 w34 w35 w36 w37 w38 w39 w40 w41) 17)=0 from hrev];rfl)
def xJ:Sc:=(B7,[],[0,1,2],[])
def xL:Sc:=(B5,[],[0,1,2],[])
theorem Hr:∀bs:Bool,ai (run (tb 0) ap 53 (8,192,1792,192) 471 36 [xL,(B4,[],[0,3,4],[]),xJ,(B6,[],[0,3,4],[])] [] (411,#[sF 5,sF 6,sF 7,sF 8,sF 9,sF 10,sF 11,sF 12,sF 13,sF 14,sF 15,sF 16,sF 17,sF 18,sI 1,sF 20,sF 21,sF 22,sF 23,sF 24,sF 25,sF 26,sF 27,sF 1,sF 2,sF 3,sF 4,(bif bs then sF 28 else sU),(bif bs then sF 29 else sU),sU,sU,sU,sU,sU,sU,sU,sU,sU,sU,sU,sU,sU,sU,sU,sU,sU,sU,sU,sU,sU,sU,sU,sU],[],[],30,0,0)) (471,#[sF 5,sF 6,sF 7,sF 8,sF 9,sF 10,sF 11,sF 12,sF 13,sF 14,sF 15,sF 16,sF 17,sF 18,sI 1,sF 20,sF 21,sF 22,sF 23,sF 24,sF 25,sF 26,sF 27,sF 1,sF 2,sF 3,sF 4,sR 0,sR 3,sU,sU,sU,sU,sU,sU,sU,sU,sU,sU,sU,sU,sU,sU,sU,sU,sU,sU,sU,sU,sU,sU,sU,sU],[],[bE,za9,aE,bN,fh,fW],33,6,10) [cE,eB,h9,h9,cE,eB,fK,fL,h9,h9,iz]=true:=by decide +kernel
def Hs:List AD:=[bE,za9,aE,bN,fh,fW,fV,s9]++f8++[za4,za4,fT,dV,bv,ix,bv,za4,za4]++gy++([s_,gx,gw,za9,ay,za9,fh,aE,fW,gS,aF,bM,d6]++lO++[za9,aD [30,0],ay,aD [30,0],za4,ay])
def o4:List Op:=[gz]++xI
theorem Ht:ai (run (tb 0) ap 53 (8,192,1792,192) 682 17 [kh,ki,(Dg,[0,1,2,3,4,5,7,8,9,12,13,14,21,22,23,24,25,26,27,28,29],[0,30,31,32],lQ++rS 15 6++kj++rp 5 zq0++km)] [] (648,#[sF 5,sF 6,sF 7,sF 8,sF 9,sF 10,sF 11,sF 12,sF 13,sF 14,sF 15,sF 16,sF 17,sF 18,sI 1,sF 20,sF 21,sF 22,sF 23,sF 24,sF 25,sF 26,sF 27,sF 1,sF 2,sF 3,sF 4,sR 0,sR 3,sF 33,sF 34,sR 6,sF 35,sF 36,sF 37,sF 38,sF 39,sF 40,sF 41,sF 42,sF 43,sF 44,sU,sU,sU,sU,sU,sU,sU,sU,sU,sU,sU],[],[bE,za9,aE,bN,fh,fW,fV],47,7,14)) (682,#[sF 5,sF 6,sF 7,sF 8,sF 9,sF 10,sF 11,sF 12,sF 13,sF 14,sF 15,sF 16,sF 17,sF 18,sI 1,sF 20,sF 21,sF 22,sF 23,sF 24,sF 25,sF 26,sF 27,sF 1,sF 2,sF 3,sF 4,sR 0,sR 3,sF 33,sF 34,sR 6,sF 35,sF 36,sF 37,sF 38,sF 39,sF 40,sF 41,sF 42,sF 43,sF 44,sR 7,sR 49,sU,sU,sU,sU,sU,sU,sU,sU,sU],[],Hs,57,83,828) o4=true:=by decide +kernel
def md (D:Nat→UInt64)(w29 w30 w32 w33 w34 w35 w36 w37 w38 w39 w40 w41:UInt64):Nat→UInt64:=ac [0,D 1,D 2,D 3,D 4,D 5,D 6,D 7,D 8,D 9,D 10,D 11,D 12,D 13,D 14,D 15,D 16,D 17,D 18,D 19,D 20,D 21,D 22,D 23,D 24,D 25,D 26,D 27,0,0,FP.i2d (iW (D 2)),FP.i2d (iW (D 1)),FP.i2d (iW (D 4)),w29,w30,w32,w33,w34,w35,w36,w37,w38,w39,w40,w41,FP.i2d (iW w29),FP.i2d (iW w30)]
theorem ut {a u Lq Dd:Int}(bs:Bool)(B:LWB p l e s m args below meth c T0 Z a0 h0 n0 L0 0 0)(D0:D 0=0)(hrev:iW (D 19)=1)(z0:(iW (D 1)).toInt≠0)(z1:(iW (D 2)).toInt≠0)(z2:(iW (D 3)).toInt=0)(z3:(iW (D 4)).toInt≠0)(Q:QM4 D)(het:iW (D 18)=0∨iW (D 18)=1∨iW (D 18)=2)(hJ:∀i0 i1:Int,(-65536≤i0∧i0≤65536)→(-65536≤i1∧i1≤65536)→∃J0 J1,JT (iW (D 1)).toInt (iW (D 2)).toInt (iW (D 3)).toInt (iW (D 4)).toInt J0 J1 i0 i1)(S:S7 (ah u 0 (FP.i2d (iW (D 2)))) (Lq=0) a u Lq Dd (iW (D 1)).toInt (iW (D 2)).toInt (iW (D 3)).toInt (iW (D 4)).toInt (FP.i2d (iW (D 1))) (FP.i2d (iW (D 4))))(hv:∀w29 w30 w32 w33 w34 w35 w36 w37 w38 w39 w40 w41:UInt64,okv o4 47 (md D w29 w30 w32 w33 w34 w35 w36 w37 w38 w39 w40 w41)):Go p e below (bw s (aV n0) 192 1792) T0 (mkF m 411 (cH D bs) []):=by
 refine goE (aY (A:=fun _=>0) (K:=fun _=>0) (D:=D) (W:=fun _ => .null) (Hr bs) (scS lx (scS K9 (scS ly (scS Lc sc0)))) B YgF.nil D0 (by decide) ⟨z0,z1,z2,z2,z0,z1,trivial,trivial,z2,z2,trivial,trivial⟩ ?_) (by cases bs<;>(simp only[cH];rw[hrev];rfl))
 intro T1 h1 L1 A1 K1 B1 hA1 Kp1 f1 Y1
 have YA:Yf Z n0 h1 ([(A1 0,K1 0,67,2,[.ref (A1 1),.ref (A1 2)]),(A1 3,K1 3,68,2,[.ref (A1 4),.ref (A1 5)])]++[(A1 1,K1 1,64,2,[.int 1,.int 0]),(A1 2,K1 2,64,1,[.int 1]),(A1 4,K1 4,65,2,[.double (FP.i2d (iW (D 2))),.double (FP.i2d (iW (D 1)))]),(A1 5,K1 5,65,1,[.double (FP.i2d (iW (D 4)))])]):=Yf.pick Y1.fl [0,3,1,2,4,5] (by decide) rfl
 refine goE (eQ (D:=D) (B1.more (by decide) (by decide)) D0 YA ?_) (by simp only[gf];rw[hrev];rfl)
 intro T2 h2 L2 vv kv w29 w30 w32 w33 w34 w35 w36 w37 w38 w39 w40 w41 B2 Y2 V
 have YB:YgF Z n0 h2 (aP [A1 0,A1 1,A1 2,A1 3,A1 4,A1 5,vv]) (aQ [K1 0,K1 1,K1 2,K1 3,K1 4,K1 5,kv]) (md D w29 w30 w32 w33 w34 w35 w36 w37 w38 w39 w40 w41) (fun _ => .null) [aR 67 [1,2],aI [1,0],aI [1],aR 68 [4,5],aD [30,31],aD [32],aD [45,46]]:=Yf.to (Yf.pick (os':=an (aP [A1 0,A1 1,A1 2,A1 3,A1 4,A1 5,vv]) (aQ [K1 0,K1 1,K1 2,K1 3,K1 4,K1 5,kv]) (md D w29 w30 w32 w33 w34 w35 w36 w37 w38 w39 w40 w41) (fun _ => .null) 0 [aR 67 [1,2],aI [1,0],aI [1],aR 68 [4,5],aD [30,31],aD [32],aD [45,46]]) Y2 [0,3,4,1,5,6,2] (by decide) rfl) rfl
 refine goE (aY (A:=(aP [A1 0,A1 1,A1 2,A1 3,A1 4,A1 5,vv])) (K:=(aQ [K1 0,K1 1,K1 2,K1 3,K1 4,K1 5,kv])) (D:=(md D w29 w30 w32 w33 w34 w35 w36 w37 w38 w39 w40 w41)) (W:=fun _ => .null) Ht (scS jD (scS h_ (scS Oc sc0))) B2 YB rfl (by decide) (hv w29 w30 w32 w33 w34 w35 w36 w37 w38 w39 w40 w41) ?_) (by simp only[gg];rw[hrev];rfl)
 intro T3 h3 L3 A3 K3 B3 hA3 Kp3 f3 Y3
 have HT:=Gh (l:=l) (Z:=Z) (n0:=n0) (la:=(aJ [21,22,23,24,77,78,27,14,15] A3)) (kl:=(bC [21,22,23,24,77,78,27,14,15] K3)) (g:=(bD [77,78,10,11,79,80,14,15,0,21,22,23,24,25,26,27,28,29,30,34,38,42,46,1,2,4,5] A3)) S
 obtain⟨J0,J1,J⟩:=hJ (iW w29).toInt (iW w30).toInt V.1 V.2.1
 exact goE (gv (A:=aJ [6,7,16,17,18,19,20,49,50,51,52,0,3] A3) (K:=bC [6,7,16,17,18,19,20,49,50,51,52,0,3] K3) (D:=(fG D w29 w30 w32 w33 w34 w35 w36 w37 w38 w39 w40 w41)) (W:=tmL (bD [77,78,10,11,79,80,14,15,0,21,22,23,24,25,26,27,28,29,30,34,38,42,46,1,2,4,5] A3) (aJ [21,22,23,24,77,78,27,14,15] A3)) (J0:=J0) (J1:=J1) (B3.more (by decide) (by decide)) rfl Q J ⟨Jvm.FP.Core.i2d_int _,Jvm.FP.Core.i2d_int _⟩ het V HT (Yf.pick Y3.fl [6,7,16,17,18,19,20,49,50,51,52,0,3,21,22,23,24,77,78,27,14,15] (by decide) rfl)) (by simp only[bK];rw[show iW ((fG D w29 w30 w32 w33 w34 w35 w36 w37 w38 w39 w40 w41) 17)=1 from hrev];rfl)
theorem Hu:∀bs:Bool,ai (run (tb 0) ap 53 (8,192,1792,192) 471 36 [xH,(Ce,[],[0,3,4],[]),xG,(Cf,[],[0,3,4],[])] [] (411,#[sF 5,sF 6,sF 7,sF 8,sF 9,sF 10,sF 11,sF 12,sF 13,sF 14,sF 15,sF 16,sF 17,sF 18,sI 0,sF 20,sF 21,sF 22,sF 23,sF 24,sF 25,sF 26,sF 27,sF 1,sF 2,sF 3,sF 4,(bif bs then sF 28 else sU),(bif bs then sF 29 else sU),sU,sU,sU,sU,sU,sU,sU,sU,sU,sU,sU,sU,sU,sU,sU,sU,sU,sU,sU,sU,sU,sU,sU,sU],[],[],30,0,0)) (471,#[sF 5,sF 6,sF 7,sF 8,sF 9,sF 10,sF 11,sF 12,sF 13,sF 14,sF 15,sF 16,sF 17,sF 18,sI 0,sF 20,sF 21,sF 22,sF 23,sF 24,sF 25,sF 26,sF 27,sF 1,sF 2,sF 3,sF 4,sR 0,sR 3,sU,sU,sU,sU,sU,sU,sU,sU,sU,sU,sU,sU,sU,sU,sU,sU,sU,sU,sU,sU,sU,sU,sU,sU],[],[bE,za4,aF,bN,fh,fW],33,6,10) [cE,eB,cO,(13,4,0,0),cO,cE,eB,fL,fK,cO,(13,4,0,0),cO,iy]=true:=by decide +kernel
def Hv:List AD:=[bE,za4,aF,bN,fh,fW,fV,s9]++f8++[za4,za9,fT,dV,bv,dV,bv,za4,za9]++gy++([s_,gx,gw,za9,ay,za4,fh,aF,fW,gS,bM,aF,d7]++lO++[ay,aD [30,0],ay,aD [30,0],bM,ay])
def o5:List Op:=[gz]++xI
theorem Hw:ai (run (tb 0) ap 53 (8,192,1792,192) 682 17 [kh,ki,(DB,[0,1,2,3,4,5,7,8,9,12,13,14,21,22,23,24,25,26,27,28,29],[0,30,31,32],lQ++rS 15 6++kj++rp 5 zq0++km)] [] (648,#[sF 5,sF 6,sF 7,sF 8,sF 9,sF 10,sF 11,sF 12,sF 13,sF 14,sF 15,sF 16,sF 17,sF 18,sI 0,sF 20,sF 21,sF 22,sF 23,sF 24,sF 25,sF 26,sF 27,sF 1,sF 2,sF 3,sF 4,sR 0,sR 3,sF 33,sF 34,sR 6,sF 35,sF 36,sF 37,sF 38,sF 39,sF 40,sF 41,sF 42,sF 43,sF 44,sU,sU,sU,sU,sU,sU,sU,sU,sU,sU,sU],[],[bE,za4,aF,bN,fh,fW,fV],47,7,14)) (682,#[sF 5,sF 6,sF 7,sF 8,sF 9,sF 10,sF 11,sF 12,sF 13,sF 14,sF 15,sF 16,sF 17,sF 18,sI 0,sF 20,sF 21,sF 22,sF 23,sF 24,sF 25,sF 26,sF 27,sF 1,sF 2,sF 3,sF 4,sR 0,sR 3,sF 33,sF 34,sR 6,sF 35,sF 36,sF 37,sF 38,sF 39,sF 40,sF 41,sF 42,sF 43,sF 44,sR 7,sR 49,sU,sU,sU,sU,sU,sU,sU,sU,sU],[],Hv,57,83,828) o5=true:=by decide +kernel
def me (D:Nat→UInt64)(w29 w30 w32 w33 w34 w35 w36 w37 w38 w39 w40 w41:UInt64):Nat→UInt64:=ac [0,D 1,D 2,D 3,D 4,D 5,D 6,D 7,D 8,D 9,D 10,D 11,D 12,D 13,D 14,D 15,D 16,D 17,D 18,D 19,D 20,D 21,D 22,D 23,D 24,D 25,D 26,D 27,0,0,FP.i2d (iW (D 1)),FP.i2d (iW (D 2)),FP.i2d (iW (D 3)),w29,w30,w32,w33,w34,w35,w36,w37,w38,w39,w40,w41,FP.i2d (iW w29),FP.i2d (iW w30)]
theorem uu {a u Lq Dd:Int}(bs:Bool)(B:LWB p l e s m args below meth c T0 Z a0 h0 n0 L0 0 0)(D0:D 0=0)(hrev:iW (D 19)=0)(z0:(iW (D 1)).toInt≠0)(z1:(iW (D 2)).toInt≠0)(z2:(iW (D 3)).toInt≠0)(z3:(iW (D 4)).toInt=0)(Q:QM4 D)(het:iW (D 18)=0∨iW (D 18)=1∨iW (D 18)=2)(hJ:∀i0 i1:Int,(-65536≤i0∧i0≤65536)→(-65536≤i1∧i1≤65536)→∃J0 J1,JT (iW (D 1)).toInt (iW (D 2)).toInt (iW (D 3)).toInt (iW (D 4)).toInt J0 J1 i0 i1)(S:S7 (ah u 0 (FP.i2d (iW (D 1)))) (Lq=0) a u Lq Dd (iW (D 2)).toInt (iW (D 1)).toInt (iW (D 4)).toInt (iW (D 3)).toInt (FP.i2d (iW (D 2))) (FP.i2d (iW (D 3))))(hv:∀w29 w30 w32 w33 w34 w35 w36 w37 w38 w39 w40 w41:UInt64,okv o5 47 (me D w29 w30 w32 w33 w34 w35 w36 w37 w38 w39 w40 w41)):Go p e below (bw s (aV n0) 192 1792) T0 (mkF m 411 (cH D bs) []):=by
 refine goE (aY (A:=fun _=>0) (K:=fun _=>0) (D:=D) (W:=fun _ => .null) (Hu bs) (scS kZ (scS LP (scS k_ (scS LR sc0)))) B YgF.nil D0 (by decide) ⟨z0,z1,z2,z3,z2,z0,z1,trivial,trivial,z2,z3,z2,trivial,trivial⟩ ?_) (by cases bs<;>(simp only[cH];rw[hrev];rfl))
 intro T1 h1 L1 A1 K1 B1 hA1 Kp1 f1 Y1
 have YA:Yf Z n0 h1 ([(A1 0,K1 0,67,2,[.ref (A1 1),.ref (A1 2)]),(A1 3,K1 3,68,2,[.ref (A1 4),.ref (A1 5)])]++[(A1 1,K1 1,64,2,[.int 0,.int 1]),(A1 2,K1 2,64,1,[.int 0]),(A1 4,K1 4,65,2,[.double (FP.i2d (iW (D 1))),.double (FP.i2d (iW (D 2)))]),(A1 5,K1 5,65,1,[.double (FP.i2d (iW (D 3)))])]):=Yf.pick Y1.fl [0,3,1,2,4,5] (by decide) rfl
 refine goE (eQ (D:=D) (B1.more (by decide) (by decide)) D0 YA ?_) (by simp only[gf];rw[hrev];rfl)
 intro T2 h2 L2 vv kv w29 w30 w32 w33 w34 w35 w36 w37 w38 w39 w40 w41 B2 Y2 V
 have YB:YgF Z n0 h2 (aP [A1 0,A1 1,A1 2,A1 3,A1 4,A1 5,vv]) (aQ [K1 0,K1 1,K1 2,K1 3,K1 4,K1 5,kv]) (me D w29 w30 w32 w33 w34 w35 w36 w37 w38 w39 w40 w41) (fun _ => .null) [aR 67 [1,2],aI [0,1],aI [0],aR 68 [4,5],aD [30,31],aD [32],aD [45,46]]:=Yf.to (Yf.pick (os':=an (aP [A1 0,A1 1,A1 2,A1 3,A1 4,A1 5,vv]) (aQ [K1 0,K1 1,K1 2,K1 3,K1 4,K1 5,kv]) (me D w29 w30 w32 w33 w34 w35 w36 w37 w38 w39 w40 w41) (fun _ => .null) 0 [aR 67 [1,2],aI [0,1],aI [0],aR 68 [4,5],aD [30,31],aD [32],aD [45,46]]) Y2 [0,3,4,1,5,6,2] (by decide) rfl) rfl
 refine goE (aY (A:=(aP [A1 0,A1 1,A1 2,A1 3,A1 4,A1 5,vv])) (K:=(aQ [K1 0,K1 1,K1 2,K1 3,K1 4,K1 5,kv])) (D:=(me D w29 w30 w32 w33 w34 w35 w36 w37 w38 w39 w40 w41)) (W:=fun _ => .null) Hw (scS jD (scS h_ (scS Oh sc0))) B2 YB rfl (by decide) (hv w29 w30 w32 w33 w34 w35 w36 w37 w38 w39 w40 w41) ?_) (by simp only[gg];rw[hrev];rfl)
 intro T3 h3 L3 A3 K3 B3 hA3 Kp3 f3 Y3
 have HT:=Gr (l:=l) (Z:=Z) (n0:=n0) (la:=(aJ [21,22,23,24,77,78,27,14,15] A3)) (kl:=(bC [21,22,23,24,77,78,27,14,15] K3)) (g:=(bD [77,78,10,11,79,80,14,15,0,21,22,23,24,25,26,27,28,29,30,34,38,42,46,1,2,4,5] A3)) S
 obtain⟨J0,J1,J⟩:=hJ (iW w29).toInt (iW w30).toInt V.1 V.2.1
 exact goE (gv (A:=aJ [6,7,16,17,18,19,20,49,50,51,52,0,3] A3) (K:=bC [6,7,16,17,18,19,20,49,50,51,52,0,3] K3) (D:=(fG D w29 w30 w32 w33 w34 w35 w36 w37 w38 w39 w40 w41)) (W:=tmL (bD [77,78,10,11,79,80,14,15,0,21,22,23,24,25,26,27,28,29,30,34,38,42,46,1,2,4,5] A3) (aJ [21,22,23,24,77,78,27,14,15] A3)) (J0:=J0) (J1:=J1) (B3.more (by decide) (by decide)) rfl Q J ⟨Jvm.FP.Core.i2d_int _,Jvm.FP.Core.i2d_int _⟩ het V HT (Yf.pick Y3.fl [6,7,16,17,18,19,20,49,50,51,52,0,3,21,22,23,24,77,78,27,14,15] (by decide) rfl)) (by simp only[bK];rw[show iW ((fG D w29 w30 w32 w33 w34 w35 w36 w37 w38 w39 w40 w41) 17)=0 from hrev];rfl)
theorem Hx:∀bs:Bool,ai (run (tb 0) ap 53 (8,192,1792,192) 471 36 [xL,(tq,[],[0,3,4],[]),xJ,(tr,[],[0,3,4],[])] [] (411,#[sF 5,sF 6,sF 7,sF 8,sF 9,sF 10,sF 11,sF 12,sF 13,sF 14,sF 15,sF 16,sF 17,sF 18,sI 1,sF 20,sF 21,sF 22,sF 23,sF 24,sF 25,sF 26,sF 27,sF 1,sF 2,sF 3,sF 4,(bif bs then sF 28 else sU),(bif bs then sF 29 else sU),sU,sU,sU,sU,sU,sU,sU,sU,sU,sU,sU,sU,sU,sU,sU,sU,sU,sU,sU,sU,sU,sU,sU,sU],[],[],30,0,0)) (471,#[sF 5,sF 6,sF 7,sF 8,sF 9,sF 10,sF 11,sF 12,sF 13,sF 14,sF 15,sF 16,sF 17,sF 18,sI 1,sF 20,sF 21,sF 22,sF 23,sF 24,sF 25,sF 26,sF 27,sF 1,sF 2,sF 3,sF 4,sR 0,sR 3,sU,sU,sU,sU,sU,sU,sU,sU,sU,sU,sU,sU,sU,sU,sU,sU,sU,sU,sU,sU,sU,sU,sU,sU],[],[bE,za9,aF,bN,fh,fW],33,6,10) [cE,eB,cO,(13,4,0,0),cO,cE,eB,fK,fL,cO,(13,4,0,0),cO,iy]=true:=by decide +kernel
def Hy:List AD:=[bE,za9,aF,bN,fh,fW,fV,s9]++f8++[za4,za9,aD [30,32],dV,bv,dV,bv,za4,za9]++gy++([s_,gx,gw,za9,ay,ay,aD [31,31],aF,fW,gS,bM,aF,d7]++lO++[ay,ja,ay,ja,bM,ay])
def o6:List Op:=[gT]++xI
theorem Hz:ai (run (tb 0) ap 53 (8,192,1792,192) 682 17 [kh,ki,(DO,[0,1,2,3,4,5,7,8,9,12,13,14,21,22,23,24,25,26,27,28,29],[0,30,31,32],lQ++rS 15 6++kj++rp 5 zq0++km)] [] (648,#[sF 5,sF 6,sF 7,sF 8,sF 9,sF 10,sF 11,sF 12,sF 13,sF 14,sF 15,sF 16,sF 17,sF 18,sI 1,sF 20,sF 21,sF 22,sF 23,sF 24,sF 25,sF 26,sF 27,sF 1,sF 2,sF 3,sF 4,sR 0,sR 3,sF 33,sF 34,sR 6,sF 35,sF 36,sF 37,sF 38,sF 39,sF 40,sF 41,sF 42,sF 43,sF 44,sU,sU,sU,sU,sU,sU,sU,sU,sU,sU,sU],[],[bE,za9,aF,bN,fh,fW,fV],47,7,14)) (682,#[sF 5,sF 6,sF 7,sF 8,sF 9,sF 10,sF 11,sF 12,sF 13,sF 14,sF 15,sF 16,sF 17,sF 18,sI 1,sF 20,sF 21,sF 22,sF 23,sF 24,sF 25,sF 26,sF 27,sF 1,sF 2,sF 3,sF 4,sR 0,sR 3,sF 33,sF 34,sR 6,sF 35,sF 36,sF 37,sF 38,sF 39,sF 40,sF 41,sF 42,sF 43,sF 44,sR 7,sR 49,sU,sU,sU,sU,sU,sU,sU,sU,sU],[],Hy,57,83,828) o6=true:=by decide +kernel
def mf (D:Nat→UInt64)(w29 w30 w32 w33 w34 w35 w36 w37 w38 w39 w40 w41:UInt64):Nat→UInt64:=ac [0,D 1,D 2,D 3,D 4,D 5,D 6,D 7,D 8,D 9,D 10,D 11,D 12,D 13,D 14,D 15,D 16,D 17,D 18,D 19,D 20,D 21,D 22,D 23,D 24,D 25,D 26,D 27,0,0,FP.i2d (iW (D 2)),FP.i2d (iW (D 1)),FP.i2d (iW (D 3)),w29,w30,w32,w33,w34,w35,w36,w37,w38,w39,w40,w41,FP.i2d (iW w29),FP.i2d (iW w30)]
theorem uw {a u Lq Dd:Int}(bs:Bool)(B:LWB p l e s m args below meth c T0 Z a0 h0 n0 L0 0 0)(D0:D 0=0)(hrev:iW (D 19)=1)(z0:(iW (D 1)).toInt≠0)(z1:(iW (D 2)).toInt≠0)(z2:(iW (D 3)).toInt≠0)(z3:(iW (D 4)).toInt=0)(Q:QM4 D)(het:iW (D 18)=0∨iW (D 18)=1∨iW (D 18)=2)(hJ:∀i0 i1:Int,(-65536≤i0∧i0≤65536)→(-65536≤i1∧i1≤65536)→∃J0 J1,JT (iW (D 1)).toInt (iW (D 2)).toInt (iW (D 3)).toInt (iW (D 4)).toInt J0 J1 i0 i1)(S:S7 (ah u 0 (FP.i2d (iW (D 1)))) (Lq=0) a u Lq Dd (iW (D 2)).toInt (iW (D 1)).toInt (iW (D 4)).toInt (iW (D 3)).toInt (FP.i2d (iW (D 2))) (FP.i2d (iW (D 3))))(hv:∀w29 w30 w32 w33 w34 w35 w36 w37 w38 w39 w40 w41:UInt64,okv o6 47 (mf D w29 w30 w32 w33 w34 w35 w36 w37 w38 w39 w40 w41)):Go p e below (bw s (aV n0) 192 1792) T0 (mkF m 411 (cH D bs) []):=by
 refine goE (aY (A:=fun _=>0) (K:=fun _=>0) (D:=D) (W:=fun _ => .null) (Hx bs) (scS lx (scS CB (scS ly (scS CD sc0)))) B YgF.nil D0 (by decide) ⟨z0,z1,z2,z3,z2,z0,z1,trivial,trivial,z2,z3,z2,trivial,trivial⟩ ?_) (by cases bs<;>(simp only[cH];rw[hrev];rfl))
 intro T1 h1 L1 A1 K1 B1 hA1 Kp1 f1 Y1
 have YA:Yf Z n0 h1 ([(A1 0,K1 0,67,2,[.ref (A1 1),.ref (A1 2)]),(A1 3,K1 3,68,2,[.ref (A1 4),.ref (A1 5)])]++[(A1 1,K1 1,64,2,[.int 1,.int 0]),(A1 2,K1 2,64,1,[.int 0]),(A1 4,K1 4,65,2,[.double (FP.i2d (iW (D 2))),.double (FP.i2d (iW (D 1)))]),(A1 5,K1 5,65,1,[.double (FP.i2d (iW (D 3)))])]):=Yf.pick Y1.fl [0,3,1,2,4,5] (by decide) rfl
 refine goE (eQ (D:=D) (B1.more (by decide) (by decide)) D0 YA ?_) (by simp only[gf];rw[hrev];rfl)
 intro T2 h2 L2 vv kv w29 w30 w32 w33 w34 w35 w36 w37 w38 w39 w40 w41 B2 Y2 V
 have YB:YgF Z n0 h2 (aP [A1 0,A1 1,A1 2,A1 3,A1 4,A1 5,vv]) (aQ [K1 0,K1 1,K1 2,K1 3,K1 4,K1 5,kv]) (mf D w29 w30 w32 w33 w34 w35 w36 w37 w38 w39 w40 w41) (fun _ => .null) [aR 67 [1,2],aI [1,0],aI [0],aR 68 [4,5],aD [30,31],aD [32],aD [45,46]]:=Yf.to (Yf.pick (os':=an (aP [A1 0,A1 1,A1 2,A1 3,A1 4,A1 5,vv]) (aQ [K1 0,K1 1,K1 2,K1 3,K1 4,K1 5,kv]) (mf D w29 w30 w32 w33 w34 w35 w36 w37 w38 w39 w40 w41) (fun _ => .null) 0 [aR 67 [1,2],aI [1,0],aI [0],aR 68 [4,5],aD [30,31],aD [32],aD [45,46]]) Y2 [0,3,4,1,5,6,2] (by decide) rfl) rfl
 refine goE (aY (A:=(aP [A1 0,A1 1,A1 2,A1 3,A1 4,A1 5,vv])) (K:=(aQ [K1 0,K1 1,K1 2,K1 3,K1 4,K1 5,kv])) (D:=(mf D w29 w30 w32 w33 w34 w35 w36 w37 w38 w39 w40 w41)) (W:=fun _ => .null) Hz (scS jD (scS h_ (scS Om sc0))) B2 YB rfl (by decide) (hv w29 w30 w32 w33 w34 w35 w36 w37 w38 w39 w40 w41) ?_) (by simp only[gg];rw[hrev];rfl)
 intro T3 h3 L3 A3 K3 B3 hA3 Kp3 f3 Y3
 have HT:=Gr (l:=l) (Z:=Z) (n0:=n0) (la:=(aJ [21,22,23,24,77,78,27,14,15] A3)) (kl:=(bC [21,22,23,24,77,78,27,14,15] K3)) (g:=(bD [77,78,10,11,79,80,14,15,0,21,22,23,24,25,26,27,28,29,30,34,38,42,46,1,2,4,5] A3)) S
 obtain⟨J0,J1,J⟩:=hJ (iW w29).toInt (iW w30).toInt V.1 V.2.1
 exact goE (gv (A:=aJ [6,7,16,17,18,19,20,49,50,51,52,0,3] A3) (K:=bC [6,7,16,17,18,19,20,49,50,51,52,0,3] K3) (D:=(fG D w29 w30 w32 w33 w34 w35 w36 w37 w38 w39 w40 w41)) (W:=tmL (bD [77,78,10,11,79,80,14,15,0,21,22,23,24,25,26,27,28,29,30,34,38,42,46,1,2,4,5] A3) (aJ [21,22,23,24,77,78,27,14,15] A3)) (J0:=J0) (J1:=J1) (B3.more (by decide) (by decide)) rfl Q J ⟨Jvm.FP.Core.i2d_int _,Jvm.FP.Core.i2d_int _⟩ het V HT (Yf.pick Y3.fl [6,7,16,17,18,19,20,49,50,51,52,0,3,21,22,23,24,77,78,27,14,15] (by decide) rfl)) (by simp only[bK];rw[show iW ((fG D w29 w30 w32 w33 w34 w35 w36 w37 w38 w39 w40 w41) 17)=1 from hrev];rfl)
def o7:List AD:=[bE,za4,za4,bN,fh,xq]
theorem zh:∀bs:Bool,ai (run (tb 0) ap 53 (8,192,1792,192) 471 36 [xH,xz,xG,xy] [] (411,#[sF 5,sF 6,sF 7,sF 8,sF 9,sF 10,sF 11,sF 12,sF 13,sF 14,sF 15,sF 16,sF 17,sF 18,sI 0,sF 20,sF 21,sF 22,sF 23,sF 24,sF 25,sF 26,sF 27,sF 1,sF 2,sF 3,sF 4,(bif bs then sF 28 else sU),(bif bs then sF 29 else sU),sU,sU,sU,sU,sU,sU,sU,sU,sU,sU,sU,sU,sU,sU,sU,sU,sU,sU,sU,sU,sU,sU,sU,sU],[],[],30,0,0)) (471,#[sF 5,sF 6,sF 7,sF 8,sF 9,sF 10,sF 11,sF 12,sF 13,sF 14,sF 15,sF 16,sF 17,sF 18,sI 0,sF 20,sF 21,sF 22,sF 23,sF 24,sF 25,sF 26,sF 27,sF 1,sF 2,sF 3,sF 4,sR 0,sR 3,sU,sU,sU,sU,sU,sU,sU,sU,sU,sU,sU,sU,sU,sU,sU,sU,sU,sU,sU,sU,sU,sU,sU,sU],[],o7,34,6,12) [cE,eB,cO,fU,cE,eB,fL,fK,cO,fU,iy,iz]=true:=by decide +kernel
def xM:AD:=(0,0,rS 77 8++rS 16 5++[ax]++rS 21 10++G9)
def xN:AD:=(3,0,[vR 7]++rS 54 4++[vR 62,vR 66,vR 71,vR 76,zq3,zq3])
def lR:AD:=aD [46,47]
def Nj:List AD:=[aD [56,33],gS,za4,bM,f_,oW,za7,fy,za2,za2,oV,za7,fy,za2,za2,za2,za9]
def zi:List AD:=o7++[lR,xM]++f8++[za4,za4,aD [30,56],dV,dV,ix,ix,za4,za4]++gy++([xN,gx,gw,za9,ay,bM,aD [31,31],bM]++Nj++[ja,za9,aD [54,0],ay,ja,ay,aD [54,0],za4,za4])
def RC:Op:=(11,48,4472406533629990549,1)
def Nk:List Op:=[(4,55,0,0),(5,58,59,0),(2,4397347889687374747,60,0),(11,57,61,1),(4,56,0,0),(11,62,4472406533629990549,1),(4,56,0,0),(5,0,63,0),(2,4591870180066957722,64,0),(10,62,65,1)]
def xO:List Op:=[RC,gT,(5,0,49,0),gz,(5,50,51,0),G_]
def nI:List Op:=[gT]++xO++[(10,48,53,1),(3,32,30,0),(2,54,31,0),(1,33,55,0),(4,56,0,0),(4,33,0,0)]++Nk
theorem zj:ai (run (tb 0) ap 53 (8,192,1792,192) 682 17 [kh,ki,(Em,[0,1,2,3,4,5,7,8,9,10,11,12,13,14,15,21,22,23,24,25,26,27,28,29],[0,30,31,32,33],rS 16 5++kj++rp 5 zq0++km)] [] (648,#[sF 5,sF 6,sF 7,sF 8,sF 9,sF 10,sF 11,sF 12,sF 13,sF 14,sF 15,sF 16,sF 17,sF 18,sI 0,sF 20,sF 21,sF 22,sF 23,sF 24,sF 25,sF 26,sF 27,sF 1,sF 2,sF 3,sF 4,sR 0,sR 3,sF 34,sF 35,sR 6,sF 36,sF 37,sF 38,sF 39,sF 40,sF 41,sF 42,sF 43,sF 44,sF 45,sU,sU,sU,sU,sU,sU,sU,sU,sU,sU,sU],[],o7++[lR],48,7,14)) (682,#[sF 5,sF 6,sF 7,sF 8,sF 9,sF 10,sF 11,sF 12,sF 13,sF 14,sF 15,sF 16,sF 17,sF 18,sI 0,sF 20,sF 21,sF 22,sF 23,sF 24,sF 25,sF 26,sF 27,sF 1,sF 2,sF 3,sF 4,sR 0,sR 3,sF 34,sF 35,sR 6,sF 36,sF 37,sF 38,sF 39,sF 40,sF 41,sF 42,sF 43,sF 44,sF 45,sR 7,sR 49,sU,sU,sU,sU,sU,sU,sU,sU,sU],[],zi,66,87,839) nI=true:=by decide +kernel
def ko (D:Nat→UInt64)(w29 w30 w32 w33 w34 w35 w36 w37 w38 w39 w40 w41:UInt64):Nat→UInt64:=ac [0,D 1,D 2,D 3,D 4,D 5,D 6,D 7,D 8,D 9,D 10,D 11,D 12,D 13,D 14,D 15,D 16,D 17,D 18,D 19,D 20,D 21,D 22,D 23,D 24,D 25,D 26,D 27,0,0,FP.i2d (iW (D 1)),FP.i2d (iW (D 2)),FP.i2d (iW (D 3)),FP.i2d (iW (D 4)),w29,w30,w32,w33,w34,w35,w36,w37,w38,w39,w40,w41,FP.i2d (iW w29),FP.i2d (iW w30)]
theorem ta {a u Lq Dd:Int}(bs:Bool)(B:LWB p l e s m args below meth c T0 Z a0 h0 n0 L0 0 0)(D0:D 0=0)(hrev:iW (D 19)=0)(z0:(iW (D 1)).toInt≠0)(z1:(iW (D 2)).toInt≠0)(z2:(iW (D 3)).toInt≠0)(z3:(iW (D 4)).toInt≠0)(Q:QM4 D)(het:iW (D 18)=0∨iW (D 18)=1∨iW (D 18)=2)(hJ:∀i0 i1:Int,(-65536≤i0∧i0≤65536)→(-65536≤i1∧i1≤65536)→∃J0 J1,JT (iW (D 1)).toInt (iW (D 2)).toInt (iW (D 3)).toInt (iW (D 4)).toInt J0 J1 i0 i1)(S:S7 (ah u 0 (FP.i2d (iW (D 2)))) (ah Lq 7 (FP.ddiv (FP.i2d (iW (D 3))) (FP.i2d (iW (D 1))))) a u Lq Dd (iW (D 1)).toInt (iW (D 2)).toInt (iW (D 3)).toInt (iW (D 4)).toInt (FP.i2d (iW (D 1))) (FP.dsub (FP.i2d (iW (D 4))) (FP.dmul (FP.ddiv (FP.i2d (iW (D 3))) (FP.i2d (iW (D 1)))) (FP.i2d (iW (D 2))))))(hv:∀w29 w30 w32 w33 w34 w35 w36 w37 w38 w39 w40 w41:UInt64,okv nI 48 (ko D w29 w30 w32 w33 w34 w35 w36 w37 w38 w39 w40 w41)):Go p e below (bw s (aV n0) 192 1792) T0 (mkF m 411 (cH D bs) []):=by
 refine goE (aY (A:=fun _=>0) (K:=fun _=>0) (D:=D) (W:=fun _ => .null) (zh bs) (scS kZ (scS kZ (scS k_ (scS k_ sc0)))) B YgF.nil D0 (by decide) ⟨z0,z1,z2,z3,z0,z1,trivial,trivial,z2,z3,trivial,trivial,trivial⟩ ?_) (by cases bs<;>(simp only[cH];rw[hrev];rfl))
 intro T1 h1 L1 A1 K1 B1 hA1 Kp1 f1 Y1
 have YA:Yf Z n0 h1 ([(A1 0,K1 0,67,2,[.ref (A1 1),.ref (A1 2)]),(A1 3,K1 3,68,2,[.ref (A1 4),.ref (A1 5)])]++[(A1 1,K1 1,64,2,[.int 0,.int 1]),(A1 2,K1 2,64,2,[.int 0,.int 1]),(A1 4,K1 4,65,2,[.double (FP.i2d (iW (D 1))),.double (FP.i2d (iW (D 2)))]),(A1 5,K1 5,65,2,[.double (FP.i2d (iW (D 3))),.double (FP.i2d (iW (D 4)))])]):=Yf.pick Y1.fl [0,3,1,2,4,5] (by decide) rfl
 refine goE (eQ (D:=D) (B1.more (by decide) (by decide)) D0 YA ?_) (by simp only[gf];rw[hrev];rfl)
 intro T2 h2 L2 vv kv w29 w30 w32 w33 w34 w35 w36 w37 w38 w39 w40 w41 B2 Y2 V
 have YB:YgF Z n0 h2 (aP [A1 0,A1 1,A1 2,A1 3,A1 4,A1 5,vv]) (aQ [K1 0,K1 1,K1 2,K1 3,K1 4,K1 5,kv]) (ko D w29 w30 w32 w33 w34 w35 w36 w37 w38 w39 w40 w41) (fun _ => .null) [aR 67 [1,2],aI [0,1],aI [0,1],aR 68 [4,5],aD [30,31],aD [32,33],aD [46,47]]:=Yf.to (Yf.pick (os':=an (aP [A1 0,A1 1,A1 2,A1 3,A1 4,A1 5,vv]) (aQ [K1 0,K1 1,K1 2,K1 3,K1 4,K1 5,kv]) (ko D w29 w30 w32 w33 w34 w35 w36 w37 w38 w39 w40 w41) (fun _ => .null) 0 [aR 67 [1,2],aI [0,1],aI [0,1],aR 68 [4,5],aD [30,31],aD [32,33],aD [46,47]]) Y2 [0,3,4,1,5,6,2] (by decide) rfl) rfl
 refine goE (aY (A:=(aP [A1 0,A1 1,A1 2,A1 3,A1 4,A1 5,vv])) (K:=(aQ [K1 0,K1 1,K1 2,K1 3,K1 4,K1 5,kv])) (D:=(ko D w29 w30 w32 w33 w34 w35 w36 w37 w38 w39 w40 w41)) (W:=fun _ => .null) zj (scS jD (scS h_ (scS Ou sc0))) B2 YB rfl (by decide) (hv w29 w30 w32 w33 w34 w35 w36 w37 w38 w39 w40 w41) ?_) (by simp only[gg];rw[hrev];rfl)
 intro T3 h3 L3 A3 K3 B3 hA3 Kp3 f3 Y3
 have HT:=wM (l:=l) (Z:=Z) (n0:=n0) (la:=(aJ [21,22,23,24,77,78,27,83,84] A3)) (kl:=(bC [21,22,23,24,77,78,27,83,84] K3)) (g:=(bD [77,78,79,80,81,82,83,84,0,21,22,23,24,25,26,27,28,29,30,34,38,42,46,1,2,4,5] A3)) S
 obtain⟨J0,J1,J⟩:=hJ (iW w29).toInt (iW w30).toInt V.1 V.2.1
 exact goE (gv (A:=aJ [6,7,16,17,18,19,20,49,50,51,52,0,3] A3) (K:=bC [6,7,16,17,18,19,20,49,50,51,52,0,3] K3) (D:=(fG D w29 w30 w32 w33 w34 w35 w36 w37 w38 w39 w40 w41)) (W:=tmL (bD [77,78,79,80,81,82,83,84,0,21,22,23,24,25,26,27,28,29,30,34,38,42,46,1,2,4,5] A3) (aJ [21,22,23,24,77,78,27,83,84] A3)) (J0:=J0) (J1:=J1) (B3.more (by decide) (by decide)) rfl Q J ⟨Jvm.FP.Core.i2d_int _,Jvm.FP.Core.i2d_int _⟩ het V HT (Yf.pick Y3.fl [6,7,16,17,18,19,20,49,50,51,52,0,3,21,22,23,24,77,78,27,83,84] (by decide) rfl)) (by simp only[bK];rw[show iW ((fG D w29 w30 w32 w33 w34 w35 w36 w37 w38 w39 w40 w41) 17)=0 from hrev];rfl)
def o8:List AD:=[bE,za9,za9,bN,fh,xq]
theorem zk:∀bs:Bool,ai (run (tb 0) ap 53 (8,192,1792,192) 471 36 [xL,xD,xJ,xC] [] (411,#[sF 5,sF 6,sF 7,sF 8,sF 9,sF 10,sF 11,sF 12,sF 13,sF 14,sF 15,sF 16,sF 17,sF 18,sI 1,sF 20,sF 21,sF 22,sF 23,sF 24,sF 25,sF 26,sF 27,sF 1,sF 2,sF 3,sF 4,(bif bs then sF 28 else sU),(bif bs then sF 29 else sU),sU,sU,sU,sU,sU,sU,sU,sU,sU,sU,sU,sU,sU,sU,sU,sU,sU,sU,sU,sU,sU,sU,sU,sU],[],[],30,0,0)) (471,#[sF 5,sF 6,sF 7,sF 8,sF 9,sF 10,sF 11,sF 12,sF 13,sF 14,sF 15,sF 16,sF 17,sF 18,sI 1,sF 20,sF 21,sF 22,sF 23,sF 24,sF 25,sF 26,sF 27,sF 1,sF 2,sF 3,sF 4,sR 0,sR 3,sU,sU,sU,sU,sU,sU,sU,sU,sU,sU,sU,sU,sU,sU,sU,sU,sU,sU,sU,sU,sU,sU,sU,sU],[],o8,34,6,12) [cE,eB,cO,fU,cE,eB,fK,fL,cO,fU,iz,iy]=true:=by decide +kernel
def zl:List AD:=o8++[lR,xM]++f8++[za4,za4,aD [31,56],dV,dV,ix,ix,za4,za4]++gy++([xN,gx,gw,za9,ay,za9,fh,za9]++Nj++[aD [30,0],za9,aD [54,0],ay,aD [30,0],ay,aD [54,0],za4,za4])
def nJ:List Op:=[gz]++xO++[(10,48,53,1),(3,33,31,0),(2,54,30,0),(1,32,55,0),(4,56,0,0),lP]++Nk
theorem zm:ai (run (tb 0) ap 53 (8,192,1792,192) 682 17 [kh,ki,(Ey,[0,1,2,3,4,5,7,8,9,10,11,12,13,14,15,21,22,23,24,25,26,27,28,29],[0,30,31,32,33],rS 16 5++kj++rp 5 zq0++km)] [] (648,#[sF 5,sF 6,sF 7,sF 8,sF 9,sF 10,sF 11,sF 12,sF 13,sF 14,sF 15,sF 16,sF 17,sF 18,sI 1,sF 20,sF 21,sF 22,sF 23,sF 24,sF 25,sF 26,sF 27,sF 1,sF 2,sF 3,sF 4,sR 0,sR 3,sF 34,sF 35,sR 6,sF 36,sF 37,sF 38,sF 39,sF 40,sF 41,sF 42,sF 43,sF 44,sF 45,sU,sU,sU,sU,sU,sU,sU,sU,sU,sU,sU],[],o8++[lR],48,7,14)) (682,#[sF 5,sF 6,sF 7,sF 8,sF 9,sF 10,sF 11,sF 12,sF 13,sF 14,sF 15,sF 16,sF 17,sF 18,sI 1,sF 20,sF 21,sF 22,sF 23,sF 24,sF 25,sF 26,sF 27,sF 1,sF 2,sF 3,sF 4,sR 0,sR 3,sF 34,sF 35,sR 6,sF 36,sF 37,sF 38,sF 39,sF 40,sF 41,sF 42,sF 43,sF 44,sF 45,sR 7,sR 49,sU,sU,sU,sU,sU,sU,sU,sU,sU],[],zl,66,87,839) nJ=true:=by decide +kernel
def kt (D:Nat→UInt64)(w29 w30 w32 w33 w34 w35 w36 w37 w38 w39 w40 w41:UInt64):Nat→UInt64:=ac [0,D 1,D 2,D 3,D 4,D 5,D 6,D 7,D 8,D 9,D 10,D 11,D 12,D 13,D 14,D 15,D 16,D 17,D 18,D 19,D 20,D 21,D 22,D 23,D 24,D 25,D 26,D 27,0,0,FP.i2d (iW (D 2)),FP.i2d (iW (D 1)),FP.i2d (iW (D 4)),FP.i2d (iW (D 3)),w29,w30,w32,w33,w34,w35,w36,w37,w38,w39,w40,w41,FP.i2d (iW w29),FP.i2d (iW w30)]
theorem tc {a u Lq Dd:Int}(bs:Bool)(B:LWB p l e s m args below meth c T0 Z a0 h0 n0 L0 0 0)(D0:D 0=0)(hrev:iW (D 19)=1)(z0:(iW (D 1)).toInt≠0)(z1:(iW (D 2)).toInt≠0)(z2:(iW (D 3)).toInt≠0)(z3:(iW (D 4)).toInt≠0)(Q:QM4 D)(het:iW (D 18)=0∨iW (D 18)=1∨iW (D 18)=2)(hJ:∀i0 i1:Int,(-65536≤i0∧i0≤65536)→(-65536≤i1∧i1≤65536)→∃J0 J1,JT (iW (D 1)).toInt (iW (D 2)).toInt (iW (D 3)).toInt (iW (D 4)).toInt J0 J1 i0 i1)(S:S7 (ah u 0 (FP.i2d (iW (D 2)))) (ah Lq 7 (FP.ddiv (FP.i2d (iW (D 3))) (FP.i2d (iW (D 1))))) a u Lq Dd (iW (D 1)).toInt (iW (D 2)).toInt (iW (D 3)).toInt (iW (D 4)).toInt (FP.i2d (iW (D 1))) (FP.dsub (FP.i2d (iW (D 4))) (FP.dmul (FP.ddiv (FP.i2d (iW (D 3))) (FP.i2d (iW (D 1)))) (FP.i2d (iW (D 2))))))(hv:∀w29 w30 w32 w33 w34 w35 w36 w37 w38 w39 w40 w41:UInt64,okv nJ 48 (kt D w29 w30 w32 w33 w34 w35 w36 w37 w38 w39 w40 w41)):Go p e below (bw s (aV n0) 192 1792) T0 (mkF m 411 (cH D bs) []):=by
 refine goE (aY (A:=fun _=>0) (K:=fun _=>0) (D:=D) (W:=fun _ => .null) (zk bs) (scS lx (scS lx (scS ly (scS ly sc0)))) B YgF.nil D0 (by decide) ⟨z0,z1,z2,z3,z0,z1,trivial,trivial,z2,z3,trivial,trivial,trivial⟩ ?_) (by cases bs<;>(simp only[cH];rw[hrev];rfl))
 intro T1 h1 L1 A1 K1 B1 hA1 Kp1 f1 Y1
 have YA:Yf Z n0 h1 ([(A1 0,K1 0,67,2,[.ref (A1 1),.ref (A1 2)]),(A1 3,K1 3,68,2,[.ref (A1 4),.ref (A1 5)])]++[(A1 1,K1 1,64,2,[.int 1,.int 0]),(A1 2,K1 2,64,2,[.int 1,.int 0]),(A1 4,K1 4,65,2,[.double (FP.i2d (iW (D 2))),.double (FP.i2d (iW (D 1)))]),(A1 5,K1 5,65,2,[.double (FP.i2d (iW (D 4))),.double (FP.i2d (iW (D 3)))])]):=Yf.pick Y1.fl [0,3,1,2,4,5] (by decide) rfl
 refine goE (eQ (D:=D) (B1.more (by decide) (by decide)) D0 YA ?_) (by simp only[gf];rw[hrev];rfl)
 intro T2 h2 L2 vv kv w29 w30 w32 w33 w34 w35 w36 w37 w38 w39 w40 w41 B2 Y2 V
 have YB:YgF Z n0 h2 (aP [A1 0,A1 1,A1 2,A1 3,A1 4,A1 5,vv]) (aQ [K1 0,K1 1,K1 2,K1 3,K1 4,K1 5,kv]) (kt D w29 w30 w32 w33 w34 w35 w36 w37 w38 w39 w40 w41) (fun _ => .null) [aR 67 [1,2],aI [1,0],aI [1,0],aR 68 [4,5],aD [30,31],aD [32,33],aD [46,47]]:=Yf.to (Yf.pick (os':=an (aP [A1 0,A1 1,A1 2,A1 3,A1 4,A1 5,vv]) (aQ [K1 0,K1 1,K1 2,K1 3,K1 4,K1 5,kv]) (kt D w29 w30 w32 w33 w34 w35 w36 w37 w38 w39 w40 w41) (fun _ => .null) 0 [aR 67 [1,2],aI [1,0],aI [1,0],aR 68 [4,5],aD [30,31],aD [32,33],aD [46,47]]) Y2 [0,3,4,1,5,6,2] (by decide) rfl) rfl
 refine goE (aY (A:=(aP [A1 0,A1 1,A1 2,A1 3,A1 4,A1 5,vv])) (K:=(aQ [K1 0,K1 1,K1 2,K1 3,K1 4,K1 5,kv])) (D:=(kt D w29 w30 w32 w33 w34 w35 w36 w37 w38 w39 w40 w41)) (W:=fun _ => .null) zm (scS jD (scS h_ (scS Ox sc0))) B2 YB rfl (by decide) (hv w29 w30 w32 w33 w34 w35 w36 w37 w38 w39 w40 w41) ?_) (by simp only[gg];rw[hrev];rfl)
 intro T3 h3 L3 A3 K3 B3 hA3 Kp3 f3 Y3
 have HT:=wM (l:=l) (Z:=Z) (n0:=n0) (la:=(aJ [21,22,23,24,77,78,27,83,84] A3)) (kl:=(bC [21,22,23,24,77,78,27,83,84] K3)) (g:=(bD [77,78,79,80,81,82,83,84,0,21,22,23,24,25,26,27,28,29,30,34,38,42,46,1,2,4,5] A3)) S
 obtain⟨J0,J1,J⟩:=hJ (iW w29).toInt (iW w30).toInt V.1 V.2.1
 exact goE (gv (A:=aJ [6,7,16,17,18,19,20,49,50,51,52,0,3] A3) (K:=bC [6,7,16,17,18,19,20,49,50,51,52,0,3] K3) (D:=(fG D w29 w30 w32 w33 w34 w35 w36 w37 w38 w39 w40 w41)) (W:=tmL (bD [77,78,79,80,81,82,83,84,0,21,22,23,24,25,26,27,28,29,30,34,38,42,46,1,2,4,5] A3) (aJ [21,22,23,24,77,78,27,83,84] A3)) (J0:=J0) (J1:=J1) (B3.more (by decide) (by decide)) rfl Q J ⟨Jvm.FP.Core.i2d_int _,Jvm.FP.Core.i2d_int _⟩ het V HT (Yf.pick Y3.fl [6,7,16,17,18,19,20,49,50,51,52,0,3,21,22,23,24,77,78,27,83,84] (by decide) rfl)) (by simp only[bK];rw[show iW ((fG D w29 w30 w32 w33 w34 w35 w36 w37 w38 w39 w40 w41) 17)=1 from hrev];rfl)
theorem zn:∀bs:Bool,ai (run (tb 0) ap 53 (8,192,1792,192) 471 36 [xH,xz,xG,xy] [] (411,#[sF 5,sF 6,sF 7,sF 8,sF 9,sF 10,sF 11,sF 12,sF 13,sF 14,sF 15,sF 16,sF 17,sF 18,sI 0,sF 20,sF 21,sF 22,sF 23,sF 24,sF 25,sF 26,sF 27,sF 1,sF 2,sF 3,sF 4,(bif bs then sF 28 else sU),(bif bs then sF 29 else sU),sU,sU,sU,sU,sU,sU,sU,sU,sU,sU,sU,sU,sU,sU,sU,sU,sU,sU,sU,sU,sU,sU,sU,sU],[],[],30,0,0)) (471,#[sF 5,sF 6,sF 7,sF 8,sF 9,sF 10,sF 11,sF 12,sF 13,sF 14,sF 15,sF 16,sF 17,sF 18,sI 0,sF 20,sF 21,sF 22,sF 23,sF 24,sF 25,sF 26,sF 27,sF 1,sF 2,sF 3,sF 4,sR 0,sR 3,sU,sU,sU,sU,sU,sU,sU,sU,sU,sU,sU,sU,sU,sU,sU,sU,sU,sU,sU,sU,sU,sU,sU,sU],[],o7,34,6,12) [cE,eB,cO,fU,cE,eB,fL,fK,cO,fU,iy,iz]=true:=by decide +kernel
def zo:List AD:=o7++[lR,xM]++f8++[za9,za4,aD [32,62],dV,dV,ix,dV,za9,za4]++gy++[xN,gx,gw,za4,ay,bM,aD [62,31],bM,aD [33,33],gS,za4,za4,f_,oW,za7,za2,fC,za2,oV,za7,fy,za2,za2,za2,za9,aD [33,0],ay,aD [60,0],ay,aD [33,0],ay,aD [60,0],za4,bM]
def Nl:List Op:=[(4,61,0,0),(5,64,65,0),(2,4397347889687374747,66,0),(11,63,67,1),(4,62,0,0),(11,68,4472406533629990549,1),(4,62,0,0),(5,0,69,0),(2,4591870180066957722,70,0),(10,68,71,1)]
def Nm:List Op:=[(11,54,4472406533629990549,1),lP,(5,0,55,0),(4,33,0,0),(5,56,57,0),(2,4591870180066957722,58,0),(10,54,59,1)]
def nK:List Op:=[gT]++xO++[(10,48,53,(-1)),lP]++Nm++[(3,30,32,0),(2,60,33,0),(1,31,61,0),(4,62,0,0),gz]++Nl
theorem zp:ai (run (tb 0) ap 53 (8,192,1792,192) 682 17 [kh,ki,(ES,[0,1,2,3,4,5,7,8,9,10,11,12,13,14,15,21,22,23,24,25,26,27,28,29],[0,30,31,32,33],rS 16 5++kj++rp 5 zq0++km)] [] (648,#[sF 5,sF 6,sF 7,sF 8,sF 9,sF 10,sF 11,sF 12,sF 13,sF 14,sF 15,sF 16,sF 17,sF 18,sI 0,sF 20,sF 21,sF 22,sF 23,sF 24,sF 25,sF 26,sF 27,sF 1,sF 2,sF 3,sF 4,sR 0,sR 3,sF 34,sF 35,sR 6,sF 36,sF 37,sF 38,sF 39,sF 40,sF 41,sF 42,sF 43,sF 44,sF 45,sU,sU,sU,sU,sU,sU,sU,sU,sU,sU,sU],[],o7++[lR],48,7,14)) (682,#[sF 5,sF 6,sF 7,sF 8,sF 9,sF 10,sF 11,sF 12,sF 13,sF 14,sF 15,sF 16,sF 17,sF 18,sI 0,sF 20,sF 21,sF 22,sF 23,sF 24,sF 25,sF 26,sF 27,sF 1,sF 2,sF 3,sF 4,sR 0,sR 3,sF 34,sF 35,sR 6,sF 36,sF 37,sF 38,sF 39,sF 40,sF 41,sF 42,sF 43,sF 44,sF 45,sR 7,sR 49,sU,sU,sU,sU,sU,sU,sU,sU,sU],[],zo,72,87,839) nK=true:=by decide +kernel
def ku (D:Nat→UInt64)(w29 w30 w32 w33 w34 w35 w36 w37 w38 w39 w40 w41:UInt64):Nat→UInt64:=ac [0,D 1,D 2,D 3,D 4,D 5,D 6,D 7,D 8,D 9,D 10,D 11,D 12,D 13,D 14,D 15,D 16,D 17,D 18,D 19,D 20,D 21,D 22,D 23,D 24,D 25,D 26,D 27,0,0,FP.i2d (iW (D 1)),FP.i2d (iW (D 2)),FP.i2d (iW (D 3)),FP.i2d (iW (D 4)),w29,w30,w32,w33,w34,w35,w36,w37,w38,w39,w40,w41,FP.i2d (iW w29),FP.i2d (iW w30)]
theorem td {a u Lq Dd:Int}(bs:Bool)(B:LWB p l e s m args below meth c T0 Z a0 h0 n0 L0 0 0)(D0:D 0=0)(hrev:iW (D 19)=0)(z0:(iW (D 1)).toInt≠0)(z1:(iW (D 2)).toInt≠0)(z2:(iW (D 3)).toInt≠0)(z3:(iW (D 4)).toInt≠0)(Q:QM4 D)(het:iW (D 18)=0∨iW (D 18)=1∨iW (D 18)=2)(hJ:∀i0 i1:Int,(-65536≤i0∧i0≤65536)→(-65536≤i1∧i1≤65536)→∃J0 J1,JT (iW (D 1)).toInt (iW (D 2)).toInt (iW (D 3)).toInt (iW (D 4)).toInt J0 J1 i0 i1)(S:S7 (ah u 0 (FP.i2d (iW (D 4)))) (ah Lq 7 (FP.ddiv (FP.i2d (iW (D 1))) (FP.i2d (iW (D 3))))) a u Lq Dd (iW (D 3)).toInt (iW (D 4)).toInt (iW (D 1)).toInt (iW (D 2)).toInt (FP.i2d (iW (D 3))) (FP.dsub (FP.i2d (iW (D 2))) (FP.dmul (FP.ddiv (FP.i2d (iW (D 1))) (FP.i2d (iW (D 3)))) (FP.i2d (iW (D 4))))))(hv:∀w29 w30 w32 w33 w34 w35 w36 w37 w38 w39 w40 w41:UInt64,okv nK 48 (ku D w29 w30 w32 w33 w34 w35 w36 w37 w38 w39 w40 w41)):Go p e below (bw s (aV n0) 192 1792) T0 (mkF m 411 (cH D bs) []):=by
 refine goE (aY (A:=fun _=>0) (K:=fun _=>0) (D:=D) (W:=fun _ => .null) (zn bs) (scS kZ (scS kZ (scS k_ (scS k_ sc0)))) B YgF.nil D0 (by decide) ⟨z0,z1,z2,z3,z0,z1,trivial,trivial,z2,z3,trivial,trivial,trivial⟩ ?_) (by cases bs<;>(simp only[cH];rw[hrev];rfl))
 intro T1 h1 L1 A1 K1 B1 hA1 Kp1 f1 Y1
 have YA:Yf Z n0 h1 ([(A1 0,K1 0,67,2,[.ref (A1 1),.ref (A1 2)]),(A1 3,K1 3,68,2,[.ref (A1 4),.ref (A1 5)])]++[(A1 1,K1 1,64,2,[.int 0,.int 1]),(A1 2,K1 2,64,2,[.int 0,.int 1]),(A1 4,K1 4,65,2,[.double (FP.i2d (iW (D 1))),.double (FP.i2d (iW (D 2)))]),(A1 5,K1 5,65,2,[.double (FP.i2d (iW (D 3))),.double (FP.i2d (iW (D 4)))])]):=Yf.pick Y1.fl [0,3,1,2,4,5] (by decide) rfl
 refine goE (eQ (D:=D) (B1.more (by decide) (by decide)) D0 YA ?_) (by simp only[gf];rw[hrev];rfl)
 intro T2 h2 L2 vv kv w29 w30 w32 w33 w34 w35 w36 w37 w38 w39 w40 w41 B2 Y2 V
 have YB:YgF Z n0 h2 (aP [A1 0,A1 1,A1 2,A1 3,A1 4,A1 5,vv]) (aQ [K1 0,K1 1,K1 2,K1 3,K1 4,K1 5,kv]) (ku D w29 w30 w32 w33 w34 w35 w36 w37 w38 w39 w40 w41) (fun _ => .null) [aR 67 [1,2],aI [0,1],aI [0,1],aR 68 [4,5],aD [30,31],aD [32,33],aD [46,47]]:=Yf.to (Yf.pick (os':=an (aP [A1 0,A1 1,A1 2,A1 3,A1 4,A1 5,vv]) (aQ [K1 0,K1 1,K1 2,K1 3,K1 4,K1 5,kv]) (ku D w29 w30 w32 w33 w34 w35 w36 w37 w38 w39 w40 w41) (fun _ => .null) 0 [aR 67 [1,2],aI [0,1],aI [0,1],aR 68 [4,5],aD [30,31],aD [32,33],aD [46,47]]) Y2 [0,3,4,1,5,6,2] (by decide) rfl) rfl
 refine goE (aY (A:=(aP [A1 0,A1 1,A1 2,A1 3,A1 4,A1 5,vv])) (K:=(aQ [K1 0,K1 1,K1 2,K1 3,K1 4,K1 5,kv])) (D:=(ku D w29 w30 w32 w33 w34 w35 w36 w37 w38 w39 w40 w41)) (W:=fun _ => .null) zp (scS jD (scS h_ (scS OE sc0))) B2 YB rfl (by decide) (hv w29 w30 w32 w33 w34 w35 w36 w37 w38 w39 w40 w41) ?_) (by simp only[gg];rw[hrev];rfl)
 intro T3 h3 L3 A3 K3 B3 hA3 Kp3 f3 Y3
 have HT:=wN (l:=l) (Z:=Z) (n0:=n0) (la:=(aJ [21,22,23,24,77,78,27,83,84] A3)) (kl:=(bC [21,22,23,24,77,78,27,83,84] K3)) (g:=(bD [77,78,79,80,81,82,83,84,0,21,22,23,24,25,26,27,28,29,30,34,38,42,46,1,2,4,5] A3)) S
 obtain⟨J0,J1,J⟩:=hJ (iW w29).toInt (iW w30).toInt V.1 V.2.1
 exact goE (gv (A:=aJ [6,7,16,17,18,19,20,49,50,51,52,0,3] A3) (K:=bC [6,7,16,17,18,19,20,49,50,51,52,0,3] K3) (D:=(fG D w29 w30 w32 w33 w34 w35 w36 w37 w38 w39 w40 w41)) (W:=tmL (bD [77,78,79,80,81,82,83,84,0,21,22,23,24,25,26,27,28,29,30,34,38,42,46,1,2,4,5] A3) (aJ [21,22,23,24,77,78,27,83,84] A3)) (J0:=J0) (J1:=J1) (B3.more (by decide) (by decide)) rfl Q J ⟨Jvm.FP.Core.i2d_int _,Jvm.FP.Core.i2d_int _⟩ het V HT (Yf.pick Y3.fl [6,7,16,17,18,19,20,49,50,51,52,0,3,21,22,23,24,77,78,27,83,84] (by decide) rfl)) (by simp only[bK];rw[show iW ((fG D w29 w30 w32 w33 w34 w35 w36 w37 w38 w39 w40 w41) 17)=0 from hrev];rfl)
theorem zq:∀bs:Bool,ai (run (tb 0) ap 53 (8,192,1792,192) 471 36 [xL,xD,xJ,xC] [] (411,#[sF 5,sF 6,sF 7,sF 8,sF 9,sF 10,sF 11,sF 12,sF 13,sF 14,sF 15,sF 16,sF 17,sF 18,sI 1,sF 20,sF 21,sF 22,sF 23,sF 24,sF 25,sF 26,sF 27,sF 1,sF 2,sF 3,sF 4,(bif bs then sF 28 else sU),(bif bs then sF 29 else sU),sU,sU,sU,sU,sU,sU,sU,sU,sU,sU,sU,sU,sU,sU,sU,sU,sU,sU,sU,sU,sU,sU,sU,sU],[],[],30,0,0)) (471,#[sF 5,sF 6,sF 7,sF 8,sF 9,sF 10,sF 11,sF 12,sF 13,sF 14,sF 15,sF 16,sF 17,sF 18,sI 1,sF 20,sF 21,sF 22,sF 23,sF 24,sF 25,sF 26,sF 27,sF 1,sF 2,sF 3,sF 4,sR 0,sR 3,sU,sU,sU,sU,sU,sU,sU,sU,sU,sU,sU,sU,sU,sU,sU,sU,sU,sU,sU,sU,sU,sU,sU,sU],[],o8,34,6,12) [cE,eB,cO,fU,cE,eB,fK,fL,cO,fU,iz,iy]=true:=by decide +kernel
def zr:List AD:=o8++[lR,xM]++f8++[za9,za4,aD [33,62],dV,dV,ix,dV,za9,za4]++gy++[xN,gx,gw,za4,ay,za9,aD [62,31],za9,xq,gS,za4,za4,f_,oW,za7,za2,fC,za2,oV,za7,fy,za2,za2,za2,za9,aD [32,0],ay,aD [60,0],ay,aD [32,0],ay,aD [60,0],za4,bM]
def nL:List Op:=[gz]++xO++[(10,48,53,(-1)),(4,33,0,0)]++Nm++[(3,31,33,0),(2,60,32,0),(1,30,61,0),(4,62,0,0),gT]++Nl
theorem zt:ai (run (tb 0) ap 53 (8,192,1792,192) 682 17 [kh,ki,(EY,[0,1,2,3,4,5,7,8,9,10,11,12,13,14,15,21,22,23,24,25,26,27,28,29],[0,30,31,32,33],rS 16 5++kj++rp 5 zq0++km)] [] (648,#[sF 5,sF 6,sF 7,sF 8,sF 9,sF 10,sF 11,sF 12,sF 13,sF 14,sF 15,sF 16,sF 17,sF 18,sI 1,sF 20,sF 21,sF 22,sF 23,sF 24,sF 25,sF 26,sF 27,sF 1,sF 2,sF 3,sF 4,sR 0,sR 3,sF 34,sF 35,sR 6,sF 36,sF 37,sF 38,sF 39,sF 40,sF 41,sF 42,sF 43,sF 44,sF 45,sU,sU,sU,sU,sU,sU,sU,sU,sU,sU,sU],[],o8++[lR],48,7,14)) (682,#[sF 5,sF 6,sF 7,sF 8,sF 9,sF 10,sF 11,sF 12,sF 13,sF 14,sF 15,sF 16,sF 17,sF 18,sI 1,sF 20,sF 21,sF 22,sF 23,sF 24,sF 25,sF 26,sF 27,sF 1,sF 2,sF 3,sF 4,sR 0,sR 3,sF 34,sF 35,sR 6,sF 36,sF 37,sF 38,sF 39,sF 40,sF 41,sF 42,sF 43,sF 44,sF 45,sR 7,sR 49,sU,sU,sU,sU,sU,sU,sU,sU,sU],[],zr,72,87,839) nL=true:=by decide +kernel
def kw (D:Nat→UInt64)(w29 w30 w32 w33 w34 w35 w36 w37 w38 w39 w40 w41:UInt64):Nat→UInt64:=ac [0,D 1,D 2,D 3,D 4,D 5,D 6,D 7,D 8,D 9,D 10,D 11,D 12,D 13,D 14,D 15,D 16,D 17,D 18,D 19,D 20,D 21,D 22,D 23,D 24,D 25,D 26,D 27,0,0,FP.i2d (iW (D 2)),FP.i2d (iW (D 1)),FP.i2d (iW (D 4)),FP.i2d (iW (D 3)),w29,w30,w32,w33,w34,w35,w36,w37,w38,w39,w40,w41,FP.i2d (iW w29),FP.i2d (iW w30)]
theorem te {a u Lq Dd:Int}(bs:Bool)(B:LWB p l e s m args below meth c T0 Z a0 h0 n0 L0 0 0)(D0:D 0=0)(hrev:iW (D 19)=1)(z0:(iW (D 1)).toInt≠0)(z1:(iW (D 2)).toInt≠0)(z2:(iW (D 3)).toInt≠0)(z3:(iW (D 4)).toInt≠0)(Q:QM4 D)(het:iW (D 18)=0∨iW (D 18)=1∨iW (D 18)=2)(hJ:∀i0 i1:Int,(-65536≤i0∧i0≤65536)→(-65536≤i1∧i1≤65536)→∃J0 J1,JT (iW (D 1)).toInt (iW (D 2)).toInt (iW (D 3)).toInt (iW (D 4)).toInt J0 J1 i0 i1)(S:S7 (ah u 0 (FP.i2d (iW (D 4)))) (ah Lq 7 (FP.ddiv (FP.i2d (iW (D 1))) (FP.i2d (iW (D 3))))) a u Lq Dd (iW (D 3)).toInt (iW (D 4)).toInt (iW (D 1)).toInt (iW (D 2)).toInt (FP.i2d (iW (D 3))) (FP.dsub (FP.i2d (iW (D 2))) (FP.dmul (FP.ddiv (FP.i2d (iW (D 1))) (FP.i2d (iW (D 3)))) (FP.i2d (iW (D 4))))))(hv:∀w29 w30 w32 w33 w34 w35 w36 w37 w38 w39 w40 w41:UInt64,okv nL 48 (kw D w29 w30 w32 w33 w34 w35 w36 w37 w38 w39 w40 w41)):Go p e below (bw s (aV n0) 192 1792) T0 (mkF m 411 (cH D bs) []):=by
 refine goE (aY (A:=fun _=>0) (K:=fun _=>0) (D:=D) (W:=fun _ => .null) (zq bs) (scS lx (scS lx (scS ly (scS ly sc0)))) B YgF.nil D0 (by decide) ⟨z0,z1,z2,z3,z0,z1,trivial,trivial,z2,z3,trivial,trivial,trivial⟩ ?_) (by cases bs<;>(simp only[cH];rw[hrev];rfl))
 intro T1 h1 L1 A1 K1 B1 hA1 Kp1 f1 Y1
 have YA:Yf Z n0 h1 ([(A1 0,K1 0,67,2,[.ref (A1 1),.ref (A1 2)]),(A1 3,K1 3,68,2,[.ref (A1 4),.ref (A1 5)])]++[(A1 1,K1 1,64,2,[.int 1,.int 0]),(A1 2,K1 2,64,2,[.int 1,.int 0]),(A1 4,K1 4,65,2,[.double (FP.i2d (iW (D 2))),.double (FP.i2d (iW (D 1)))]),(A1 5,K1 5,65,2,[.double (FP.i2d (iW (D 4))),.double (FP.i2d (iW (D 3)))])]):=Yf.pick Y1.fl [0,3,1,2,4,5] (by decide) rfl
 refine goE (eQ (D:=D) (B1.more (by decide) (by decide)) D0 YA ?_) (by simp only[gf];rw[hrev];rfl)
 intro T2 h2 L2 vv kv w29 w30 w32 w33 w34 w35 w36 w37 w38 w39 w40 w41 B2 Y2 V
 have YB:YgF Z n0 h2 (aP [A1 0,A1 1,A1 2,A1 3,A1 4,A1 5,vv]) (aQ [K1 0,K1 1,K1 2,K1 3,K1 4,K1 5,kv]) (kw D w29 w30 w32 w33 w34 w35 w36 w37 w38 w39 w40 w41) (fun _ => .null) [aR 67 [1,2],aI [1,0],aI [1,0],aR 68 [4,5],aD [30,31],aD [32,33],aD [46,47]]:=Yf.to (Yf.pick (os':=an (aP [A1 0,A1 1,A1 2,A1 3,A1 4,A1 5,vv]) (aQ [K1 0,K1 1,K1 2,K1 3,K1 4,K1 5,kv]) (kw D w29 w30 w32 w33 w34 w35 w36 w37 w38 w39 w40 w41) (fun _ => .null) 0 [aR 67 [1,2],aI [1,0],aI [1,0],aR 68 [4,5],aD [30,31],aD [32,33],aD [46,47]]) Y2 [0,3,4,1,5,6,2] (by decide) rfl) rfl
 refine goE (aY (A:=(aP [A1 0,A1 1,A1 2,A1 3,A1 4,A1 5,vv])) (K:=(aQ [K1 0,K1 1,K1 2,K1 3,K1 4,K1 5,kv])) (D:=(kw D w29 w30 w32 w33 w34 w35 w36 w37 w38 w39 w40 w41)) (W:=fun _ => .null) zt (scS jD (scS h_ (scS OI sc0))) B2 YB rfl (by decide) (hv w29 w30 w32 w33 w34 w35 w36 w37 w38 w39 w40 w41) ?_) (by simp only[gg];rw[hrev];rfl)
 intro T3 h3 L3 A3 K3 B3 hA3 Kp3 f3 Y3
 have HT:=wN (l:=l) (Z:=Z) (n0:=n0) (la:=(aJ [21,22,23,24,77,78,27,83,84] A3)) (kl:=(bC [21,22,23,24,77,78,27,83,84] K3)) (g:=(bD [77,78,79,80,81,82,83,84,0,21,22,23,24,25,26,27,28,29,30,34,38,42,46,1,2,4,5] A3)) S
 obtain⟨J0,J1,J⟩:=hJ (iW w29).toInt (iW w30).toInt V.1 V.2.1
 exact goE (gv (A:=aJ [6,7,16,17,18,19,20,49,50,51,52,0,3] A3) (K:=bC [6,7,16,17,18,19,20,49,50,51,52,0,3] K3) (D:=(fG D w29 w30 w32 w33 w34 w35 w36 w37 w38 w39 w40 w41)) (W:=tmL (bD [77,78,79,80,81,82,83,84,0,21,22,23,24,25,26,27,28,29,30,34,38,42,46,1,2,4,5] A3) (aJ [21,22,23,24,77,78,27,83,84] A3)) (J0:=J0) (J1:=J1) (B3.more (by decide) (by decide)) rfl Q J ⟨Jvm.FP.Core.i2d_int _,Jvm.FP.Core.i2d_int _⟩ het V HT (Yf.pick Y3.fl [6,7,16,17,18,19,20,49,50,51,52,0,3,21,22,23,24,77,78,27,83,84] (by decide) rfl)) (by simp only[bK];rw[show iW ((fG D w29 w30 w32 w33 w34 w35 w36 w37 w38 w39 w40 w41) 17)=1 from hrev];rfl)
def iA (x:Int32):Int32:=(1:Int32)<<<(x&&&31)
def iK (a b:Int32):Int32:=if a.toInt≤b.toInt then a else b
def aC (s sa sb sc sd ea eb ec ed:Int32):Int32×Int32×Int32×Int32 :=
 if s.toInt≤1 then (sa*iA (iK ea (eb+ec)),sb*iA eb,sc*iA ec,(sa*sb*sc*(if s=1 then 1 else -1))*iA (eb+ec-iK ea (eb+ec)+s))
 else ((if s=5∨s=7 then 0 else sa*iA ea),(if s=3∨s=4 then 0 else sb*iA eb),(if s=2∨s=4 then 0 else sc*iA ec),(if s=6∨s=7 then 0 else sd*iA ed))
def O8 (rs cs:Bool)(M:Int32×Int32×Int32×Int32):Int32×Int32×Int32×Int32 :=
 bif rs then (bif cs then (M.2.2.2,M.2.2.1,M.2.1,M.1) else (M.2.2.1,M.2.2.2,M.1,M.2.1)) else (bif cs then (M.2.1,M.1,M.2.2.2,M.2.2.1) else M)
def bn:List Int32:=[1,-1]
def bo:List Int32:=[0,1,2,3]
def kN (M:Int32×Int32×Int32×Int32):Prop:=∃s∈([0,1,2,3,4,5,6,7]:List Int32),∃sa∈bn,∃sb∈bn,∃sc∈bn,∃sd∈bn,∃ea∈bo,∃eb∈bo,∃ec∈bo,∃ed∈bo,M=aC s sa sb sc sd ea eb ec ed
def O9 (M:Int32×Int32×Int32×Int32):Prop:=∃(rs cs:Bool)(N:Int32×Int32×Int32×Int32),kN N∧M=O8 rs cs N
def PR4 (D:Nat→UInt64):Prop:=(iW (D 8)∈bn∧iW (D 9)∈bn∧iW (D 10)∈bn∧iW (D 11)∈bn)∧(iW (D 14)=0∨iW (D 14)=1∨iW (D 14)=2)∧(iW (D 15)=0∨iW (D 15)=1)∧(iW (D 16)∈bo∧iW (D 17)∈bo∧iW (D 18)∈bo∧iW (D 19)∈bo)
theorem O_ (x r:Int32)(h:x&&&(7:Int32)=r):r=0∨r=1∨r=2∨r=3∨r=4∨r=5∨r=6∨r=7:=by
 have:=c_mask x 7 3 (by decide) (by decide)
 have e:((2 ^ 3:Nat):Int)=8:=rfl
 rw[e,h] at this
 have q:r.toInt=0∨r.toInt=1∨r.toInt=2∨r.toInt=3∨r.toInt=4∨r.toInt=5∨r.toInt=6∨r.toInt=7:=by omega
 rcases q with q|q|q|q|q|q|q|q
 ·exact Or.inl (Int32.toInt_inj.mp (q.trans (by decide)))
 ·exact Or.inr (Or.inl (Int32.toInt_inj.mp (q.trans (by decide))))
 ·exact Or.inr (Or.inr (Or.inl (Int32.toInt_inj.mp (q.trans (by decide)))))
 ·exact Or.inr (Or.inr (Or.inr (Or.inl (Int32.toInt_inj.mp (q.trans (by decide))))))
 ·exact Or.inr (Or.inr (Or.inr (Or.inr (Or.inl (Int32.toInt_inj.mp (q.trans (by decide)))))))
 ·exact Or.inr (Or.inr (Or.inr (Or.inr (Or.inr (Or.inl (Int32.toInt_inj.mp (q.trans (by decide))))))))
 ·exact Or.inr (Or.inr (Or.inr (Or.inr (Or.inr (Or.inr (Or.inl (Int32.toInt_inj.mp (q.trans (by decide)))))))))
 ·exact Or.inr (Or.inr (Or.inr (Or.inr (Or.inr (Or.inr (Or.inr (Int32.toInt_inj.mp (q.trans (by decide)))))))))
def RD (D:Nat→UInt64)(bt:Bool):Array Slot:=#[.val (.int (iW (D 5))),.val (.int (iW (D 6))),.val (.int (iW (D 7))),.val (.int (iW (D 8))),.val (.int (iW (D 9))),.val (.int (iW (D 10))),.val (.int (iW (D 11))),.val (.int (iW (D 12))),.val (.int (iW (D 13))),.val (.int (iW (D 14))),.val (.int (iW (D 15))),.val (.int (iW (D 16))),.val (.int (iW (D 17))),.val (.int (iW (D 18))),.val (.int (iW (D 19))),.val (.int (iW (D 20))),.val (.int (iW (D 21))),.val (.int (iW (D 22))),.val (.int (iW (D 23))),.val (.int (iW (D 1))),.val (.int (iW (D 2))),.val (.int (iW (D 3))),.val (.int (iW (D 4))),(bif bt then .val (.int (iW (D 24))) else .unset),(bif bt then .val (.int (iW (D 25))) else .unset),.unset,.unset,.unset,.unset,.unset,.unset,.unset,.unset,.unset,.unset,.unset,.unset,.unset,.unset,.unset,.unset,.unset,.unset,.unset,.unset,.unset,.unset,.unset,.unset,.unset,.unset,.unset,.unset]
def iB (D:Nat→UInt64):Array Slot:=#[.val (.int (iW (D 1))),.val (.int (iW (D 2))),.val (.int (iW (D 3))),.val (.int (iW (D 4))),.val (.int (iW (D 5))),.val (.int (iW (D 6))),.val (.int (iW (D 7))),.val (.int (iW (D 8))),.val (.int (iW (D 9))),.val (.int (iW (D 10))),.val (.int (iW (D 11))),.val (.int (iW (D 12))),.val (.int (iW (D 13))),.val (.int (iW (D 14))),.val (.int (iW (D 15))),.val (.int (iW (D 16))),.val (.int (iW (D 17))),.val (.int (iW (D 18))),.val (.int (iW (D 19))),.unset,.unset,.unset,.unset,.unset,.unset,.unset,.unset,.unset,.unset,.unset,.unset,.unset,.unset,.unset,.unset,.unset,.unset,.unset,.unset,.unset,.unset,.unset,.unset,.unset,.unset,.unset,.unset,.unset,.unset,.unset,.unset,.unset,.unset]
def fr0 (D:Nat→UInt64):Array Slot:=#[.val (.int (iW (D 1))),.val (.int (iW (D 2))),.val (.int (iW (D 3))),.val (.int (iW (D 4))),.val (.int (iW (D 5))),.val (.int (iW (D 6))),.unset,.unset,.unset,.unset,.unset,.unset,.unset,.unset,.unset,.unset,.unset,.unset,.unset,.unset,.unset,.unset,.unset,.unset,.unset,.unset,.unset,.unset,.unset,.unset,.unset,.unset,.unset,.unset,.unset,.unset,.unset,.unset,.unset,.unset,.unset,.unset,.unset,.unset,.unset,.unset,.unset,.unset,.unset,.unset,.unset,.unset,.unset]
theorem HC {a b c d e q:Int}(he:a*d-b*c=e)(hq:q*e=128)(ba:-(8*e.natAbs:Int)≤a∧a≤8*e.natAbs)(bb:-(8*e.natAbs:Int)≤b∧b≤8*e.natAbs)(bc:-(8*e.natAbs:Int)≤c∧c≤8*e.natAbs)(bd:-(8*e.natAbs:Int)≤d∧d≤8*e.natAbs)(i0 i1:Int)(h0:-65536≤i0∧i0≤65536)(h1:-65536≤i1∧i1≤65536):∃J0 J1,JT a b c d J0 J1 i0 i1:=by
 have e128:q.natAbs*e.natAbs=128:=by rw[←Int.natAbs_mul,hq];rfl
 have bnd:∀x y:Int,(-(8*e.natAbs:Int)≤x∧x≤8*e.natAbs)→(-(8*e.natAbs:Int)≤y∧y≤8*e.natAbs)→∀i j:Int,(-65536≤i∧i≤65536)→(-65536≤j∧j≤65536)→(-134217728≤q*(x*i-y*j)∧q*(x*i-y*j)≤134217728):=by
  intro x y hx hy i j hi hj
  have p1:=cv hx hi
  have p2:=cv hy hj
  have p3:(q*(x*i-y*j)).natAbs≤q.natAbs*(e.natAbs*1048576):=by
   rw[Int.natAbs_mul]
   exact Nat.mul_le_mul_left _ (by omega)
  rw[←Nat.mul_assoc,e128] at p3
  omega
 refine⟨q*(d*i0-c*i1),q*(a*i1-b*i0),?_,?_,bnd d c bd bc i0 i1 h0 h1,bnd a b ba bb i1 i0 h1 h0,h0,h1⟩
 ·have:a*(q*(d*i0-c*i1))+c*(q*(a*i1-b*i0))=q*(a*d-b*c)*i0:=by
   simp only[Int.mul_sub,Int.sub_mul,Int.mul_assoc]
   rw[Int.mul_left_comm a q,Int.mul_left_comm a q,Int.mul_left_comm c q,Int.mul_left_comm c q,Int.mul_left_comm c a,Int.mul_left_comm c b]
   rw[Int.mul_left_comm a c]
   omega
  rw[this,he,hq]
 ·have:b*(q*(d*i0-c*i1))+d*(q*(a*i1-b*i0))=q*(a*d-b*c)*i1:=by
   simp only[Int.mul_sub,Int.sub_mul,Int.mul_assoc]
   rw[Int.mul_left_comm b q,Int.mul_left_comm b q,Int.mul_left_comm d q,Int.mul_left_comm d q,Int.mul_left_comm d a,Int.mul_left_comm d b]
   omega
  rw[this,he,hq]
theorem gF {a u d m10:Int}{ad dd:UInt64}(ha:a=1∨a=-1∨a=2∨a=-2∨a=4∨a=-4∨a=8∨a=-8∨a=16∨a=-16∨a=32∨a=-32∨a=64∨a=-64∨a=128∨a=-128)(hu:-128≤u∧u≤128)(hd:d≠0)(hm:m10=0)(fa:Jvm.FP.Core.DInt a ad)(fd:Jvm.FP.Core.DInt d dd){Du:Prop}(du:Du):S7 Du (0=(0:Int)) a u 0 (2*d) a u m10 d ad dd:=⟨ha,hu,by decide,by omega,ak.mpr fa,du,rfl,aG 1 2 (ak.mpr fd) rfl (by omega),rfl,rfl,by rw[hm,Int.zero_mul];rfl,by rw[Int.zero_mul];omega⟩
theorem Pa {a u c d e Lq Dd:Int}{ad ud cd dd:UInt64}(ha:a=1∨a=-1∨a=2∨a=-2∨a=4∨a=-4∨a=8∨a=-8∨a=16∨a=-16∨a=32∨a=-32∨a=64∨a=-64∨a=128∨a=-128)(hu:-128≤u∧u≤128)(hd:-128≤d∧d≤128)(hL:-2048≤Lq∧Lq≤2048)(h0:Dd≠0)(e1:128*c=Lq*a)(e2:128*d=64*Dd+Lq*u)(fa:Jvm.FP.Core.DInt a ad)(fu:Jvm.FP.Core.DInt u ud)(fc:Jvm.FP.Core.DInt c cd)(fd:Jvm.FP.Core.DInt d dd):S7 (ah u 0 ud) (ah Lq 7 (FP.ddiv cd ad)) a u Lq Dd a u c d ad (FP.dsub dd (FP.dmul (FP.ddiv cd ad) ud)):=by
 have hz:a≠0:=by omega
 have fl:ah Lq 7 (FP.ddiv cd ad):=gY (ak.mpr fc) (ak.mpr fa) hz (M:=7) (by rw[show ((2 ^ (0+7):Nat):Int)=128 from rfl,show ((2 ^ 0:Nat):Int)=1 from rfl,←e1];omega) (cp (by omega)) (by decide)
 have bp:=cv hL hu
 have fm:ah (Lq*u) 7 (FP.dmul (FP.ddiv cd ad) ud):=dF (k:=7) (l:=0) fl (ak.mpr fu) (cp (by omega)) (by decide)
 have fs:=gX (aG 7 128 (ak.mpr fd) rfl (Int.mul_comm _ _):ah (128*d) 7 dd) fm (cp (by omega)) (by decide)
 rw[show 128*d-Lq*u=Dd*((2 ^ 6:Nat):Int) by rw[show ((2 ^ 6:Nat):Int)=64 from rfl];omega] at fs
 exact⟨ha,hu,hL,h0,ak.mpr fa,ak.mpr fu,fl,jO (k:=1) 6 fs,rfl,rfl,e1,e2⟩
open Jvm.Free.Fl (NoNaN64)
abbrev mg (x:UInt64):UInt64:=x&&&0x7fffffffffffffff
abbrev iC (x y:UInt64):UInt64:=Jvm.Native.java_lang_Math.nans.pick64 true x y
def eu:List UInt64:=[4571153621781053440,4575657221408423936,4580160821035794432,4584664420663164928,4589168020290535424,4593671619917905920,4598175219545276416,4602678819172646912,4607182418800017408,4611686018427387904,4616189618054758400,4620693217682128896,4625196817309499392,4629700416936869888,4634204016564240384,4638707616191610880,4643211215818981376,4647714815446351872,4652218415073722368,4656722014701092864,4661225614328463360,4665729213955833856,4670232813583204352]
def nM:List (Nat×UInt64):=[(1,4607182418800017408),(2,4611686018427387904),(4,4616189618054758400),(8,4620693217682128896),(16,4625196817309499392),(32,4629700416936869888),(64,4634204016564240384),(128,4638707616191610880)]
def ux:List (Int×UInt64):=[(1,4575657221408423936),(-1,13799029258263199744),(2,4580160821035794432),(-2,13803532857890570240),(4,4584664420663164928),(-4,13808036457517940736),(8,4589168020290535424),(-8,13812540057145311232),(16,4593671619917905920),(-16,13817043656772681728),(32,4598175219545276416),(-32,13821547256400052224),(64,4602678819172646912),(-64,13826050856027422720),(128,4607182418800017408),(-128,13830554455654793216),(256,4611686018427387904),(-256,13835058055282163712),(512,4616189618054758400),(-512,13839561654909534208),(1024,4620693217682128896),(-1024,13844065254536904704),(2048,4625196817309499392),(-2048,13848568854164275200)]
def uy:List (Int×UInt64):=[(1,4575657221408423936),(-1,13799029258263199744),(2,4580160821035794432),(-2,13803532857890570240),(4,4584664420663164928),(-4,13808036457517940736),(8,4589168020290535424),(-8,13812540057145311232),(16,4593671619917905920),(-16,13817043656772681728),(32,4598175219545276416),(-32,13821547256400052224),(64,4602678819172646912),(-64,13826050856027422720),(128,4607182418800017408),(-128,13830554455654793216),(256,4611686018427387904),(-256,13835058055282163712),(512,4616189618054758400),(-512,13839561654909534208),(1024,4620693217682128896),(-1024,13844065254536904704),(2048,4625196817309499392),(-2048,13848568854164275200),(4096,4629700416936869888),(-4096,13853072453791645696),(8192,4634204016564240384),(-8192,13857576053419016192),(16384,4638707616191610880),(-16384,13862079653046386688),(32768,4643211215818981376),(-32768,13866583252673757184),(65536,4647714815446351872),(-65536,13871086852301127680),(131072,4652218415073722368),(-131072,13875590451928498176),(262144,4656722014701092864),(-262144,13880094051555868672)]
def bz:List Int32:=[1,-1,2,-2,4,-4,8,-8,16,-16,32,-32,64,-64,128,-128]
theorem kx {x:UInt64}(h:mg x≤0x7ff0000000000000):NoNaN64 (mg x):=by
 show (x&&&0x7fffffffffffffff)&&&0x7fffffffffffffff≤0x7ff0000000000000
 rw[UInt64.and_assoc,UInt64.and_self]
 exact h
abbrev Bq1 (y:UInt64):Prop:=y≤0x7ff0000000000000∧cmpValue (FP.dcmp y 4472406533629990549) .g=1∧FP.dmul 4591870180066957722 (iC 0 y)&&&0x7fffffffffffffff≤0x7ff0000000000000∧cmpValue (FP.dcmp y (FP.dmul 4591870180066957722 (iC 0 y))) .l=1
theorem gh:∀y∈eu,Bq1 y:=by decide +kernel
def B1 (x:UInt64):Prop:=NoNaN64 x∧cmpValue (FP.dcmp (mg x) 4472406533629990549) .g=1∧NoNaN64 x∧(NoNaN64 0∧NoNaN64 (mg x))∧NoNaN64 (FP.dmul 4591870180066957722 (iC 0 (mg x)))∧cmpValue (FP.dcmp (mg x) (FP.dmul 4591870180066957722 (iC 0 (mg x)))) .l=1
theorem nN {x:UInt64}(h:mg x∈eu):B1 x:=by
 obtain⟨h1,h2,h3,h4⟩:=gh _ h
 exact⟨h1,h2,h1,⟨by decide,kx h1⟩,h3,h4⟩
abbrev Bq2 (p x y:UInt64)(z:Int32):Prop:=p≤0x7ff0000000000000∧cmpValue (FP.dcmp p 4472406533629990549) .g=1∧x≤0x7ff0000000000000∧y≤0x7ff0000000000000∧iC 0 x&&&0x7fffffffffffffff≤0x7ff0000000000000∧FP.dmul 4591870180066957722 (iC (iC 0 x) y)&&&0x7fffffffffffffff≤0x7ff0000000000000∧cmpValue (FP.dcmp p (FP.dmul 4591870180066957722 (iC (iC 0 x) y))) .l=z
theorem xP:∀a∈nM,∀b∈nM,if 16*a.1≤b.1 then Bq2 a.2 a.2 b.2 (-1)∧Bq2 a.2 b.2 a.2 (-1) else Bq2 a.2 a.2 b.2 1∧Bq2 a.2 b.2 a.2 1:=by decide +kernel
def B2 (p x y:UInt64)(z:Int32):Prop:=NoNaN64 p∧cmpValue (FP.dcmp (mg p) 4472406533629990549) .g=1∧NoNaN64 x∧(NoNaN64 0∧NoNaN64 (mg x))∧NoNaN64 y∧(NoNaN64 (iC 0 (mg x))∧NoNaN64 (mg y))∧NoNaN64 (FP.dmul 4591870180066957722 (iC (iC 0 (mg x)) (mg y)))∧cmpValue (FP.dcmp (mg p) (FP.dmul 4591870180066957722 (iC (iC 0 (mg x)) (mg y)))) .l=z
theorem mh {p x y:UInt64}{z:Int32}(h:Bq2 (mg p) (mg x) (mg y) z):B2 p x y z:=by
 obtain⟨h1,h2,h3,h4,h5,h6,h7⟩:=h
 exact⟨h1,h2,h3,⟨by decide,kx h3⟩,h4,⟨h5,kx h4⟩,h6,h7⟩
theorem iL:∀x∈bz,∃q∈nM,x.toInt.natAbs=q.1∧mg (FP.i2d x)=q.2:=by decide +kernel
theorem xQ:∀q∈nM,q.2∈eu:=by decide +kernel
theorem ek {x:Int32}(h:x∈bz):B1 (FP.i2d x):=by
 obtain⟨q,hq,-,e⟩:=iL x h
 exact nN (by rw[e];exact xQ q hq)
theorem el {x y:Int32}(hx:x∈bz)(hy:y∈bz)(h:¬16*x.toInt.natAbs≤y.toInt.natAbs):B2 (FP.i2d x) (FP.i2d x) (FP.i2d y) 1∧B2 (FP.i2d x) (FP.i2d y) (FP.i2d x) 1:=by
 obtain⟨q,hq,e1,e2⟩:=iL x hx
 obtain⟨r,hr,e3,e4⟩:=iL y hy
 have k:=xP q hq r hr
 rw[e1,e3] at h
 rw[if_neg h,←e2,←e4] at k
 exact⟨mh k.1,mh k.2⟩
theorem xR {x y:Int32}(hx:x∈bz)(hy:y∈bz)(h:16*x.toInt.natAbs≤y.toInt.natAbs):B2 (FP.i2d x) (FP.i2d x) (FP.i2d y) (-1)∧B2 (FP.i2d x) (FP.i2d y) (FP.i2d x) (-1):=by
 obtain⟨q,hq,e1,e2⟩:=iL x hx
 obtain⟨r,hr,e3,e4⟩:=iL y hy
 have k:=xP q hq r hr
 rw[e1,e3] at h
 rw[if_pos h,←e2,←e4] at k
 exact⟨mh k.1,mh k.2⟩
theorem IM:∀a∈nM,∀w∈eu,iC a.2 w∈eu:=by decide +kernel
theorem IN:∀w∈eu,∀d∈eu,d≤0x7ff0000000000000∧FP.dmul 4397347889687374747 w&&&0x7fffffffffffffff≤0x7ff0000000000000∧cmpValue (FP.dcmp d (FP.dmul 4397347889687374747 w)) .g=1:=by decide +kernel
def B3 (D d m:UInt64):Prop:=NoNaN64 D∧NoNaN64 d∧NoNaN64 m∧(NoNaN64 (mg d)∧NoNaN64 (mg m))∧NoNaN64 (FP.dmul 4397347889687374747 (iC (mg d) (mg m)))∧cmpValue (FP.dcmp (mg D) (FP.dmul 4397347889687374747 (iC (mg d) (mg m)))) .g=1
theorem qd {D m:UInt64}{x:Int32}(hD:mg D∈eu)(hm:mg m∈eu)(hx:x∈bz):B3 D (FP.i2d x) m:=by
 obtain⟨q,hq,-,e⟩:=iL x hx
 have hw:=IM q hq _ hm
 rw[←e] at hw
 obtain⟨h1,h2,h3⟩:=IN _ hw _ hD
 have n2:=(gh _ (xQ q hq)).1
 rw[←e] at n2
 have n3:=(gh _ hm).1
 exact⟨h1,n2,n3,⟨kx n2,kx n3⟩,h2,h3⟩
theorem Pb:∀c∈bz,∀a∈bz,c.toInt.natAbs≤16*a.toInt.natAbs→∃q∈ux,q.1*a.toInt=128*c.toInt∧FP.ddiv (FP.i2d c) (FP.i2d a)=q.2:=by decide +kernel
theorem IP:∀q∈ux,q.2&&&0x7fffffffffffffff≤0x7ff0000000000000:=by decide +kernel
theorem Pc:∀q∈ux,∀u∈bz,∃r∈uy,r.1=q.1*u.toInt∧FP.dmul q.2 (FP.i2d u)=r.2:=by decide +kernel
theorem IQ:∀r∈uy,mg r.2∈eu:=by decide +kernel
theorem Pd:∀d∈bz,∀r∈uy,128*d.toInt-r.1≠0→16384 % (128*d.toInt-r.1).natAbs=0→mg (FP.dsub (FP.i2d d) r.2)∈eu:=by decide +kernel
theorem HD {a u c d:Int32}{Lq Dd:Int}(ha:a∈bz)(hu:u∈bz)(hc:c∈bz)(hd:d∈bz)(h:c.toInt.natAbs≤16*a.toInt.natAbs)(za:a.toInt≠0)(e1:128*c.toInt=Lq*a.toInt)(e2:128*d.toInt=64*Dd+Lq*u.toInt)(h0:Dd≠0)(hD:256 % Dd.natAbs=0):NoNaN64 (FP.ddiv (FP.i2d c) (FP.i2d a))∧mg (FP.dmul (FP.ddiv (FP.i2d c) (FP.i2d a)) (FP.i2d u))∈eu∧mg (FP.dsub (FP.i2d d) (FP.dmul (FP.ddiv (FP.i2d c) (FP.i2d a)) (FP.i2d u)))∈eu:=by
 obtain⟨q,hq,q1,q2⟩:=Pb c hc a ha h
 have eq:q.1=Lq:=Int.eq_of_mul_eq_mul_right za (q1.trans e1)
 obtain⟨r,hr,r1,r2⟩:=Pc q hq u hu
 rw[eq] at r1
 have ey:128*d.toInt-r.1=64*Dd:=by rw[r1];omega
 have k:=Pd d hd r hr (by rw[ey];omega) (by
  rw[ey,Int.natAbs_mul]
  show 64*256 % (64*Dd.natAbs)=0
  rw[Nat.mul_mod_mul_left,hD])
 rw[q2,r2]
 exact⟨IP q hq,IQ r hr,k⟩
def uz (f:Int32×Int32×Int32×Int32→Bool):Bool:=(bn.all fun sa=>bn.all fun sb=>bn.all fun sc=>bo.all fun ea=>bo.all fun eb=>bo.all fun ec=>f (aC 0 sa sb sc 1 ea eb ec 0))&&((bn.all fun sa=>bn.all fun sb=>bn.all fun sc=>bo.all fun ea=>bo.all fun eb=>bo.all fun ec=>f (aC 1 sa sb sc 1 ea eb ec 0))&&((bn.all fun sa=>bn.all fun sb=>bn.all fun sd=>bo.all fun ea=>bo.all fun eb=>bo.all fun ed=>f (aC 2 sa sb 1 sd ea eb 0 ed))&&((bn.all fun sa=>bn.all fun sc=>bn.all fun sd=>bo.all fun ea=>bo.all fun ec=>bo.all fun ed=>f (aC 3 sa 1 sc sd ea 0 ec ed))&&((bn.all fun sa=>bn.all fun sd=>bo.all fun ea=>bo.all fun ed=>f (aC 4 sa 1 1 sd ea 0 0 ed))&&((bn.all fun sb=>bn.all fun sc=>bn.all fun sd=>bo.all fun eb=>bo.all fun ec=>bo.all fun ed=>f (aC 5 1 sb sc sd 0 eb ec ed))&&((bn.all fun sa=>bn.all fun sb=>bn.all fun sc=>bo.all fun ea=>bo.all fun eb=>bo.all fun ec=>f (aC 6 sa sb sc 1 ea eb ec 0))&&((bn.all fun sb=>bn.all fun sc=>bo.all fun eb=>bo.all fun ec=>f (aC 7 1 sb sc 1 0 eb ec 0)))))))))
theorem IR (sa sb sc sd ea eb ec ed:Int32):aC 0 sa sb sc sd ea eb ec ed=aC 0 sa sb sc 1 ea eb ec 0:=by simp +decide only[aC,if_true,if_false]
theorem IS (sa sb sc sd ea eb ec ed:Int32):aC 1 sa sb sc sd ea eb ec ed=aC 1 sa sb sc 1 ea eb ec 0:=by simp +decide only[aC,if_true,if_false]
theorem IT (sa sb sc sd ea eb ec ed:Int32):aC 2 sa sb sc sd ea eb ec ed=aC 2 sa sb 1 sd ea eb 0 ed:=by simp +decide only[aC,if_true,if_false]
theorem IU (sa sb sc sd ea eb ec ed:Int32):aC 3 sa sb sc sd ea eb ec ed=aC 3 sa 1 sc sd ea 0 ec ed:=by simp +decide only[aC,if_true,if_false]
theorem IV (sa sb sc sd ea eb ec ed:Int32):aC 4 sa sb sc sd ea eb ec ed=aC 4 sa 1 1 sd ea 0 0 ed:=by simp +decide only[aC,if_true,if_false]
theorem IW (sa sb sc sd ea eb ec ed:Int32):aC 5 sa sb sc sd ea eb ec ed=aC 5 1 sb sc sd 0 eb ec ed:=by simp +decide only[aC,if_true,if_false]
theorem IX (sa sb sc sd ea eb ec ed:Int32):aC 6 sa sb sc sd ea eb ec ed=aC 6 sa sb sc 1 ea eb ec 0:=by simp +decide only[aC,if_true,if_false]
theorem IY (sa sb sc sd ea eb ec ed:Int32):aC 7 sa sb sc sd ea eb ec ed=aC 7 1 sb sc 1 0 eb ec 0:=by simp +decide only[aC,if_true,if_false]
theorem HE {f:Int32×Int32×Int32×Int32→Bool}(h:uz f=true){M:Int32×Int32×Int32×Int32}(F:kN M):f M=true:=by
 obtain⟨s,hs,sa,ha,sb,hb,sc,hc,sd,hd,ea,h1,eb,h2,ec,h3,ed,h4,rfl⟩:=F
 have L0:∀{l:List Int32} {g:Int32→Bool} (_:l.all g=true) (x:Int32) (_:x∈l),g x=true:=fun h=>List.all_eq_true.mp h
 unfold uz at h
 simp only[Bool.and_eq_true] at h
 obtain⟨c0,c1,c2,c3,c4,c5,c6,c7⟩:=h
 simp only[List.mem_cons,List.not_mem_nil,or_false] at hs
 rcases hs with rfl|rfl|rfl|rfl|rfl|rfl|rfl|rfl
 ·rw[IR];exact (L0 (L0 (L0 (L0 (L0 (L0 c0 sa ha) sb hb) sc hc) ea h1) eb h2) ec h3)
 ·rw[IS];exact (L0 (L0 (L0 (L0 (L0 (L0 c1 sa ha) sb hb) sc hc) ea h1) eb h2) ec h3)
 ·rw[IT];exact (L0 (L0 (L0 (L0 (L0 (L0 c2 sa ha) sb hb) sd hd) ea h1) eb h2) ed h4)
 ·rw[IU];exact (L0 (L0 (L0 (L0 (L0 (L0 c3 sa ha) sc hc) sd hd) ea h1) ec h3) ed h4)
 ·rw[IV];exact (L0 (L0 (L0 (L0 c4 sa ha) sd hd) ea h1) ed h4)
 ·rw[IW];exact (L0 (L0 (L0 (L0 (L0 (L0 c5 sb hb) sc hc) sd hd) eb h2) ec h3) ed h4)
 ·rw[IX];exact (L0 (L0 (L0 (L0 (L0 (L0 c6 sa ha) sb hb) sc hc) ea h1) eb h2) ec h3)
 ·rw[IY];exact (L0 (L0 (L0 (L0 c7 sb hb) sc hc) eb h2) ec h3)
def eR (x:Int32):Bool:=decide (x=0)||decide (x∈bz)
def g7 (a b c d e:Nat):Bool:=if 16*a≤b then decide (a≤16*c)&&(decide (128*a % c=0)&&(decide (2*e % c=0)&&decide (¬16*c≤d))) else decide (c≤16*a)&&(decide (128*c % a=0)&&decide (2*e % a=0))
def HF (a b c d e:Nat):Bool:=decide (e≠0)&&(decide (128 % e=0)&&(decide (a≤8*e)&&(decide (b≤8*e)&&(decide (c≤8*e)&&(decide (d≤8*e)&&(if a=0∨b=0∨c=0∨d=0 then decide (a≤8)&&(decide (b≤8)&&(decide (c≤8)&&decide (d≤8))) else g7 a b c d e&&(g7 c d a b e&&(g7 b a d c e&&g7 d c b a e))))))))
def HG (M:Int32×Int32×Int32×Int32):Bool:=eR M.1&&(eR M.2.1&&(eR M.2.2.1&&(eR M.2.2.2&&HF M.1.toInt.natAbs M.2.1.toInt.natAbs M.2.2.1.toInt.natAbs M.2.2.2.toInt.natAbs (M.1.toInt*M.2.2.2.toInt-M.2.1.toInt*M.2.2.1.toInt).natAbs)))
theorem IZ:uz HG=true:=by decide +kernel
def CK (a b c d:Int32):Prop:=(eR a=true∧eR b=true∧eR c=true∧eR d=true)∧(∃e:Int,a.toInt*d.toInt-b.toInt*c.toInt=e∧e≠0∧128 % e.natAbs=0∧(a.toInt.natAbs≤8*e.natAbs∧b.toInt.natAbs≤8*e.natAbs∧c.toInt.natAbs≤8*e.natAbs∧d.toInt.natAbs≤8*e.natAbs)∧((a.toInt=0∨b.toInt=0∨c.toInt=0∨d.toInt=0)→a.toInt.natAbs≤8∧b.toInt.natAbs≤8∧c.toInt.natAbs≤8∧d.toInt.natAbs≤8)∧(¬(a.toInt=0∨b.toInt=0∨c.toInt=0∨d.toInt=0)→g7 a.toInt.natAbs b.toInt.natAbs c.toInt.natAbs d.toInt.natAbs e.natAbs=true∧g7 c.toInt.natAbs d.toInt.natAbs a.toInt.natAbs b.toInt.natAbs e.natAbs=true∧g7 b.toInt.natAbs a.toInt.natAbs d.toInt.natAbs c.toInt.natAbs e.natAbs=true∧g7 d.toInt.natAbs c.toInt.natAbs b.toInt.natAbs a.toInt.natAbs e.natAbs=true))
theorem CK.rs {a b c d:Int32}(h:CK a b c d):CK c d a b:=by
 obtain⟨⟨z1,z2,z3,z4⟩,e,h1,h2,h3,⟨b1,b2,b3,b4⟩,h5,h6⟩:=h
 refine⟨⟨z3,z4,z1,z2⟩,-e,?_,by omega,by rw[Int.natAbs_neg];exact h3,?_,fun q=>?_,fun q=>?_⟩
 ·rw[←h1,Int.mul_comm c.toInt,Int.mul_comm d.toInt];omega
 ·rw[Int.natAbs_neg];exact⟨b3,b4,b1,b2⟩
 ·have:=h5 (by omega)
  omega
 ·rw[Int.natAbs_neg]
  obtain⟨k1,k2,k3,k4⟩:=h6 (by omega)
  exact⟨k2,k1,k4,k3⟩
theorem CK.cs {a b c d:Int32}(h:CK a b c d):CK b a d c:=by
 obtain⟨⟨z1,z2,z3,z4⟩,e,h1,h2,h3,⟨b1,b2,b3,b4⟩,h5,h6⟩:=h
 refine⟨⟨z2,z1,z4,z3⟩,-e,by omega,by omega,by rw[Int.natAbs_neg];exact h3,?_,fun q=>?_,fun q=>?_⟩
 ·rw[Int.natAbs_neg];exact⟨b2,b1,b4,b3⟩
 ·have:=h5 (by omega)
  omega
 ·rw[Int.natAbs_neg]
  obtain⟨k1,k2,k3,k4⟩:=h6 (by omega)
  exact⟨k3,k4,k1,k2⟩
theorem zu {a b c d:Int32}(F:O9 (a,b,c,d)):CK a b c d:=by
 obtain⟨rs,cs,⟨x,y,z,w⟩,hN,hM⟩:=F
 have k:=HE IZ hN
 have K:CK x y z w:=by
  unfold HG HF at k
  simp only[Bool.and_eq_true,decide_eq_true_eq] at k
  obtain⟨z1,z2,z3,z4,h1,h2,h3,h4,h5,h6,h7⟩:=k
  refine⟨⟨z1,z2,z3,z4⟩,_,rfl,fun q=>h1 (by rw[q];rfl),h2,⟨h3,h4,h5,h6⟩,fun q=>?_,fun q=>?_⟩
  ·rw[if_pos (by omega)] at h7
   simp only[Bool.and_eq_true,decide_eq_true_eq] at h7
   exact h7
  ·rw[if_neg (by omega)] at h7
   simp only[Bool.and_eq_true] at h7
   exact h7
 cases rs<;>cases cs
 ·have:=Prod.mk.inj hM;have q1:=this.1;have q2:=Prod.mk.inj this.2;have q3:=Prod.mk.inj q2.2;rw[q1,q2.1,q3.1,q3.2];exact K
 ·have:=Prod.mk.inj hM;have q1:=this.1;have q2:=Prod.mk.inj this.2;have q3:=Prod.mk.inj q2.2;rw[q1,q2.1,q3.1,q3.2];exact K.cs
 ·have:=Prod.mk.inj hM;have q1:=this.1;have q2:=Prod.mk.inj this.2;have q3:=Prod.mk.inj q2.2;rw[q1,q2.1,q3.1,q3.2];exact K.rs
 ·have:=Prod.mk.inj hM;have q1:=this.1;have q2:=Prod.mk.inj this.2;have q3:=Prod.mk.inj q2.2;rw[q1,q2.1,q3.1,q3.2];exact K.rs.cs
theorem cj {x:Int32}(h:eR x=true):x.toInt=0∨x∈bz:=by
 unfold eR at h
 rw[Bool.or_eq_true,decide_eq_true_eq,decide_eq_true_eq] at h
 rcases h with h|h
 ·exact Or.inl (by rw[h];rfl)
 ·exact Or.inr h
theorem de:∀x∈bz,x.toInt=1∨x.toInt=-1∨x.toInt=2∨x.toInt=-2∨x.toInt=4∨x.toInt=-4∨x.toInt=8∨x.toInt=-8∨x.toInt=16∨x.toInt=-16∨x.toInt=32∨x.toInt=-32∨x.toInt=64∨x.toInt=-64∨x.toInt=128∨x.toInt=-128:=by decide +kernel
theorem aS {x:Int32}(h:x∈bz):x.toInt≠0∧(-128≤x.toInt∧x.toInt≤128):=by
 have:=de x h
 omega
theorem qe {x:Int32}(h:eR x=true):-128≤x.toInt∧x.toInt≤128:=by
 rcases cj h with h|h
 ·omega
 ·exact (aS h).2
theorem bf (x:Int32):Jvm.FP.Core.DInt x.toInt (FP.i2d x):=Jvm.FP.Core.i2d_int x
theorem qf {a u c d:Int32}{E e:Int}(ha:a∈bz)(hu:u∈bz)(hc:c∈bz)(hd:d∈bz)(he:a.toInt*d.toInt-u.toInt*c.toInt=E)(hE:E.natAbs=e.natAbs)(e0:e≠0)(e128:128 % e.natAbs=0)(h1:c.toInt.natAbs≤16*a.toInt.natAbs)(h2:128*c.toInt.natAbs % a.toInt.natAbs=0)(h3:2*e.natAbs % a.toInt.natAbs=0):∃Lq Dd,S7 (ah u.toInt 0 (FP.i2d u)) (ah Lq 7 (FP.ddiv (FP.i2d c) (FP.i2d a))) a.toInt u.toInt Lq Dd a.toInt u.toInt c.toInt d.toInt (FP.i2d a) (FP.dsub (FP.i2d d) (FP.dmul (FP.ddiv (FP.i2d c) (FP.i2d a)) (FP.i2d u)))∧Jvm.Free.Fl.NoNaN64 (FP.ddiv (FP.i2d c) (FP.i2d a))∧mg (FP.dmul (FP.ddiv (FP.i2d c) (FP.i2d a)) (FP.i2d u))∈eu∧mg (FP.dsub (FP.i2d d) (FP.dmul (FP.ddiv (FP.i2d c) (FP.i2d a)) (FP.i2d u)))∈eu:=by
 obtain⟨za,ba⟩:=aS ha
 obtain⟨Lq,eL⟩:a.toInt∣128*c.toInt:=Int.natAbs_dvd_natAbs.mp (by rw[Int.natAbs_mul];exact Nat.dvd_of_mod_eq_zero h2)
 obtain⟨Dd,eD⟩:a.toInt∣2*E:=Int.natAbs_dvd_natAbs.mp (by rw[Int.natAbs_mul,hE];exact Nat.dvd_of_mod_eq_zero h3)
 rw[Int.mul_comm a.toInt] at eD
 have e1:128*c.toInt=Lq*a.toInt:=by rw[eL,Int.mul_comm]
 have e2:128*d.toInt=64*Dd+Lq*u.toInt:=by
  refine Int.eq_of_mul_eq_mul_right za ?_
  have q1:u.toInt*c.toInt*128=Lq*a.toInt*u.toInt:=by rw[←e1,Int.mul_assoc,Int.mul_comm c.toInt,Int.mul_comm]
  have q2:Lq*a.toInt*u.toInt=Lq*u.toInt*a.toInt:=by rw[Int.mul_assoc,Int.mul_comm a.toInt,←Int.mul_assoc]
  rw[Int.add_mul,←q2,←q1,Int.mul_assoc 64,←eD,←he,Int.mul_assoc 128,Int.mul_comm d.toInt]
  omega
 have h0:Dd≠0:=by
  intro q
  rw[q,Int.zero_mul] at eD
  omega
 have bL:-2048≤Lq∧Lq≤2048:=by
  have q:Lq.natAbs*a.toInt.natAbs=128*c.toInt.natAbs:=by rw[←Int.natAbs_mul,←e1,Int.natAbs_mul];rfl
  have q3:Lq.natAbs*a.toInt.natAbs≤2048*a.toInt.natAbs:=by omega
  have:=Nat.le_of_mul_le_mul_right q3 (by omega)
  omega
 have hD:256 % Dd.natAbs=0:=by
  have q:Dd.natAbs*a.toInt.natAbs=2*e.natAbs:=by rw[←Int.natAbs_mul,←eD,Int.natAbs_mul,hE];rfl
  exact Nat.mod_eq_zero_of_dvd (Nat.dvd_trans ⟨_,q.symm⟩ (show 2*e.natAbs∣2*128 from Nat.mul_dvd_mul_left 2 (Nat.dvd_of_mod_eq_zero e128)))
 exact⟨Lq,Dd,Pa (e:=E) (de a ha) (aS hu).2 (aS hd).2 bL h0 e1 e2 (bf a) (bf u) (bf c) (bf d),HD ha hu hc hd h1 za e1 e2 h0 hD⟩
theorem Nn (bs:Bool)(B:LWB p l e s m args below meth c T0 Z a0 h0 n0 L0 0 0)(D0:D 0=0)(het:iW (D 18)=0∨iW (D 18)=1∨iW (D 18)=2)(hrev:iW (D 19)=0∨iW (D 19)=1)(F:O9 (iW (D 1),iW (D 2),iW (D 3),iW (D 4))):Go p e below (bw s (aV n0) 192 1792) T0 (mkF m 411 (cH D bs) []):=by
 obtain⟨⟨z1,z2,z3,z4⟩,e,he,e0,e128,⟨b1,b2,b3,b4⟩,hs,hf⟩:=zu F
 have Q:QM4 D:=⟨qe z1,qe z2,qe z3,qe z4⟩
 have hq:128 / e*e=128:=Int.ediv_mul_cancel (Int.natAbs_dvd_natAbs.mp (Nat.dvd_of_mod_eq_zero e128))
 have hJ:=HC he hq (by omega) (by omega) (by omega) (by omega)
 rcases cj z1 with a1|a1
 ·rcases cj z2 with a2|a2
  ·rcases cj z3 with a3|a3
   ·rcases cj z4 with a4|a4
    ·exact absurd (by rw[←he,a1,a2];simp:e=0) e0
    ·exact absurd (by rw[←he,a1,a2];simp:e=0) e0
   ·rcases cj z4 with a4|a4
    ·exact absurd (by rw[←he,a1,a2];simp:e=0) e0
    ·exact absurd (by rw[←he,a1,a2];simp:e=0) e0
  ·rcases cj z3 with a3|a3
   ·rcases cj z4 with a4|a4
    ·exact absurd (by rw[←he,a1,a3];simp:e=0) e0
    ·exact absurd (by rw[←he,a1,a3];simp:e=0) e0
   ·rcases cj z4 with a4|a4
    ·have n1:=a1
     have n2:=(aS a2).1
     have n3:=(aS a3).1
     have n4:=a4
     obtain⟨t1,t2,t3,t4⟩:=hs (by omega)
     have S:=gF (de _ a3) (u:=(iW (D 4)).toInt) (by omega) n2 n1 (bf _) (bf _) (Du:=(iW (D 4)).toInt=0) n4
     obtain⟨x1_1,x1_2,x1_3,x1_4,x1_5,x1_6⟩:=ek a3
     obtain⟨x2_1,x2_2,x2_3,x2_4,x2_5,x2_6⟩:=ek a2
     exact Ha bs B D0 n1 n2 n3 n4 Q het hJ S (fun _ _ _ _ _ _ _ _ _ _ _ _=>⟨x1_1,x1_2,x1_3,x1_4,x1_5,x1_6,x2_1,x2_2,x2_3,x2_4,x2_5,x2_6,trivial⟩)
    ·have n1:=a1
     have n2:=(aS a2).1
     have n3:=(aS a3).1
     have n4:=(aS a4).1
     obtain⟨t1,t2,t3,t4⟩:=hs (by omega)
     rcases hrev with hr|hr
     ·have S:=gF (de _ a3) (u:=(iW (D 4)).toInt) (by omega) n2 n1 (bf _) (bf _) (Du:=ah (iW (D 4)).toInt 0 (FP.i2d (iW (D 4)))) (ak.mpr (bf _))
      obtain⟨x1_1,x1_2,x1_3,x1_4,x1_5,x1_6,x1_7,x1_8⟩:=(el a3 a4 (by omega)).1
      obtain⟨x2_1,x2_2,x2_3,x2_4,x2_5,x2_6⟩:=ek a2
      exact un bs B D0 hr n1 n2 n3 n4 Q het hJ S (fun _ _ _ _ _ _ _ _ _ _ _ _=>⟨x1_1,x1_2,x1_3,x1_4,x1_5,x1_6,x1_7,x1_8,x2_1,x2_2,x2_3,x2_4,x2_5,x2_6,trivial⟩)
     ·have S:=gF (de _ a3) (u:=(iW (D 4)).toInt) (by omega) n2 n1 (bf _) (bf _) (Du:=ah (iW (D 4)).toInt 0 (FP.i2d (iW (D 4)))) (ak.mpr (bf _))
      obtain⟨x1_1,x1_2,x1_3,x1_4,x1_5,x1_6,x1_7,x1_8⟩:=(el a3 a4 (by omega)).2
      obtain⟨x2_1,x2_2,x2_3,x2_4,x2_5,x2_6⟩:=ek a2
      exact uo bs B D0 hr n1 n2 n3 n4 Q het hJ S (fun _ _ _ _ _ _ _ _ _ _ _ _=>⟨x1_1,x1_2,x1_3,x1_4,x1_5,x1_6,x1_7,x1_8,x2_1,x2_2,x2_3,x2_4,x2_5,x2_6,trivial⟩)
 ·rcases cj z2 with a2|a2
  ·rcases cj z3 with a3|a3
   ·rcases cj z4 with a4|a4
    ·exact absurd (by rw[←he,a4,a2];simp:e=0) e0
    ·have n1:=(aS a1).1
     have n2:=a2
     have n3:=a3
     have n4:=(aS a4).1
     obtain⟨t1,t2,t3,t4⟩:=hs (by omega)
     have S:=gF (de _ a1) (u:=(iW (D 2)).toInt) (by omega) n4 n3 (bf _) (bf _) (Du:=(iW (D 2)).toInt=0) n2
     obtain⟨x1_1,x1_2,x1_3,x1_4,x1_5,x1_6⟩:=ek a1
     obtain⟨x2_1,x2_2,x2_3,x2_4,x2_5,x2_6⟩:=ek a4
     exact Hh bs B D0 n1 n2 n3 n4 Q het hJ S (fun _ _ _ _ _ _ _ _ _ _ _ _=>⟨x1_1,x1_2,x1_3,x1_4,x1_5,x1_6,x2_1,x2_2,x2_3,x2_4,x2_5,x2_6,trivial⟩)
   ·rcases cj z4 with a4|a4
    ·exact absurd (by rw[←he,a4,a2];simp:e=0) e0
    ·have n1:=(aS a1).1
     have n2:=a2
     have n3:=(aS a3).1
     have n4:=(aS a4).1
     obtain⟨t1,t2,t3,t4⟩:=hs (by omega)
     rcases hrev with hr|hr
     ·have S:=gF (de _ a4) (u:=(iW (D 3)).toInt) (by omega) n1 n2 (bf _) (bf _) (Du:=ah (iW (D 3)).toInt 0 (FP.i2d (iW (D 3)))) (ak.mpr (bf _))
      obtain⟨x1_1,x1_2,x1_3,x1_4,x1_5,x1_6,x1_7,x1_8⟩:=(el a4 a3 (by omega)).2
      obtain⟨x2_1,x2_2,x2_3,x2_4,x2_5,x2_6⟩:=ek a1
      exact uq bs B D0 hr n1 n2 n3 n4 Q het hJ S (fun _ _ _ _ _ _ _ _ _ _ _ _=>⟨x1_1,x1_2,x1_3,x1_4,x1_5,x1_6,x1_7,x1_8,x2_1,x2_2,x2_3,x2_4,x2_5,x2_6,trivial⟩)
     ·have S:=gF (de _ a4) (u:=(iW (D 3)).toInt) (by omega) n1 n2 (bf _) (bf _) (Du:=ah (iW (D 3)).toInt 0 (FP.i2d (iW (D 3)))) (ak.mpr (bf _))
      obtain⟨x1_1,x1_2,x1_3,x1_4,x1_5,x1_6,x1_7,x1_8⟩:=(el a4 a3 (by omega)).1
      obtain⟨x2_1,x2_2,x2_3,x2_4,x2_5,x2_6⟩:=ek a1
      exact ur bs B D0 hr n1 n2 n3 n4 Q het hJ S (fun _ _ _ _ _ _ _ _ _ _ _ _=>⟨x1_1,x1_2,x1_3,x1_4,x1_5,x1_6,x1_7,x1_8,x2_1,x2_2,x2_3,x2_4,x2_5,x2_6,trivial⟩)
  ·rcases cj z3 with a3|a3
   ·rcases cj z4 with a4|a4
    ·exact absurd (by rw[←he,a4,a3];simp:e=0) e0
    ·have n1:=(aS a1).1
     have n2:=(aS a2).1
     have n3:=a3
     have n4:=(aS a4).1
     obtain⟨t1,t2,t3,t4⟩:=hs (by omega)
     rcases hrev with hr|hr
     ·have S:=gF (de _ a1) (u:=(iW (D 2)).toInt) (by omega) n4 n3 (bf _) (bf _) (Du:=ah (iW (D 2)).toInt 0 (FP.i2d (iW (D 2)))) (ak.mpr (bf _))
      obtain⟨x1_1,x1_2,x1_3,x1_4,x1_5,x1_6,x1_7,x1_8⟩:=(el a1 a2 (by omega)).1
      obtain⟨x2_1,x2_2,x2_3,x2_4,x2_5,x2_6⟩:=ek a4
      exact us bs B D0 hr n1 n2 n3 n4 Q het hJ S (fun _ _ _ _ _ _ _ _ _ _ _ _=>⟨x1_1,x1_2,x1_3,x1_4,x1_5,x1_6,x1_7,x1_8,x2_1,x2_2,x2_3,x2_4,x2_5,x2_6,trivial⟩)
     ·have S:=gF (de _ a1) (u:=(iW (D 2)).toInt) (by omega) n4 n3 (bf _) (bf _) (Du:=ah (iW (D 2)).toInt 0 (FP.i2d (iW (D 2)))) (ak.mpr (bf _))
      obtain⟨x1_1,x1_2,x1_3,x1_4,x1_5,x1_6,x1_7,x1_8⟩:=(el a1 a2 (by omega)).2
      obtain⟨x2_1,x2_2,x2_3,x2_4,x2_5,x2_6⟩:=ek a4
      exact ut bs B D0 hr n1 n2 n3 n4 Q het hJ S (fun _ _ _ _ _ _ _ _ _ _ _ _=>⟨x1_1,x1_2,x1_3,x1_4,x1_5,x1_6,x1_7,x1_8,x2_1,x2_2,x2_3,x2_4,x2_5,x2_6,trivial⟩)
   ·rcases cj z4 with a4|a4
    ·have n1:=(aS a1).1
     have n2:=(aS a2).1
     have n3:=(aS a3).1
     have n4:=a4
     obtain⟨t1,t2,t3,t4⟩:=hs (by omega)
     rcases hrev with hr|hr
     ·have S:=gF (de _ a2) (u:=(iW (D 1)).toInt) (by omega) n3 n4 (bf _) (bf _) (Du:=ah (iW (D 1)).toInt 0 (FP.i2d (iW (D 1)))) (ak.mpr (bf _))
      obtain⟨x1_1,x1_2,x1_3,x1_4,x1_5,x1_6,x1_7,x1_8⟩:=(el a2 a1 (by omega)).2
      obtain⟨x2_1,x2_2,x2_3,x2_4,x2_5,x2_6⟩:=ek a3
      exact uu bs B D0 hr n1 n2 n3 n4 Q het hJ S (fun _ _ _ _ _ _ _ _ _ _ _ _=>⟨x1_1,x1_2,x1_3,x1_4,x1_5,x1_6,x1_7,x1_8,x2_1,x2_2,x2_3,x2_4,x2_5,x2_6,trivial⟩)
     ·have S:=gF (de _ a2) (u:=(iW (D 1)).toInt) (by omega) n3 n4 (bf _) (bf _) (Du:=ah (iW (D 1)).toInt 0 (FP.i2d (iW (D 1)))) (ak.mpr (bf _))
      obtain⟨x1_1,x1_2,x1_3,x1_4,x1_5,x1_6,x1_7,x1_8⟩:=(el a2 a1 (by omega)).1
      obtain⟨x2_1,x2_2,x2_3,x2_4,x2_5,x2_6⟩:=ek a3
      exact uw bs B D0 hr n1 n2 n3 n4 Q het hJ S (fun _ _ _ _ _ _ _ _ _ _ _ _=>⟨x1_1,x1_2,x1_3,x1_4,x1_5,x1_6,x1_7,x1_8,x2_1,x2_2,x2_3,x2_4,x2_5,x2_6,trivial⟩)
    ·have n1:=(aS a1).1
     have n2:=(aS a2).1
     have n3:=(aS a3).1
     have n4:=(aS a4).1
     have k1:=(hf (by omega)).1
     unfold g7 at k1
     by_cases sp:16*(iW (D 1)).toInt.natAbs≤(iW (D 2)).toInt.natAbs
     ·rw[if_pos sp] at k1
      simp only[Bool.and_eq_true,decide_eq_true_eq] at k1
      obtain⟨f1,f2,f3,f4⟩:=k1
      rcases hrev with hr|hr
      ·obtain⟨Lq,Dd,S,l1,l2,l3⟩:=qf a3 a4 a1 a2 (E:=-e) (by rw[Int.mul_comm (iW (D 3)).toInt,Int.mul_comm (iW (D 4)).toInt];omega) (by omega) e0 e128 f1 f2 f3
       obtain⟨x1_1,x1_2,x1_3,x1_4,x1_5,x1_6,x1_7,x1_8⟩:=(xR a1 a2 sp).1
       obtain⟨x2_1,x2_2,x2_3,x2_4,x2_5,x2_6,x2_7,x2_8⟩:=(el a3 a4 f4).1
       obtain⟨x4_1,x4_2,x4_3,x4_4,x4_5,x4_6⟩:=qd l3 l2 a2
       obtain⟨x5_1,x5_2,x5_3,x5_4,x5_5,x5_6⟩:=nN l3
       exact td bs B D0 hr n1 n2 n3 n4 Q het hJ S (fun _ _ _ _ _ _ _ _ _ _ _ _=>⟨x1_1,x1_2,x1_3,x1_4,x1_5,x1_6,x1_7,x1_8,x2_1,x2_2,x2_3,x2_4,x2_5,x2_6,x2_7,x2_8,l1,(gh _ l2).1,(gh _ l3).1,x4_1,x4_2,x4_3,x4_4,x4_5,x4_6,x5_1,x5_2,x5_3,x5_4,x5_5,x5_6,trivial⟩)
      ·obtain⟨Lq,Dd,S,l1,l2,l3⟩:=qf a3 a4 a1 a2 (E:=-e) (by rw[Int.mul_comm (iW (D 3)).toInt,Int.mul_comm (iW (D 4)).toInt];omega) (by omega) e0 e128 f1 f2 f3
       obtain⟨x1_1,x1_2,x1_3,x1_4,x1_5,x1_6,x1_7,x1_8⟩:=(xR a1 a2 sp).2
       obtain⟨x2_1,x2_2,x2_3,x2_4,x2_5,x2_6,x2_7,x2_8⟩:=(el a3 a4 f4).2
       obtain⟨x4_1,x4_2,x4_3,x4_4,x4_5,x4_6⟩:=qd l3 l2 a2
       obtain⟨x5_1,x5_2,x5_3,x5_4,x5_5,x5_6⟩:=nN l3
       exact te bs B D0 hr n1 n2 n3 n4 Q het hJ S (fun _ _ _ _ _ _ _ _ _ _ _ _=>⟨x1_1,x1_2,x1_3,x1_4,x1_5,x1_6,x1_7,x1_8,x2_1,x2_2,x2_3,x2_4,x2_5,x2_6,x2_7,x2_8,l1,(gh _ l2).1,(gh _ l3).1,x4_1,x4_2,x4_3,x4_4,x4_5,x4_6,x5_1,x5_2,x5_3,x5_4,x5_5,x5_6,trivial⟩)
     ·rw[if_neg sp] at k1
      simp only[Bool.and_eq_true,decide_eq_true_eq] at k1
      obtain⟨f1,f2,f3⟩:=k1
      rcases hrev with hr|hr
      ·obtain⟨Lq,Dd,S,l1,l2,l3⟩:=qf a1 a2 a3 a4 (E:=e) (by exact he) (by rfl) e0 e128 f1 f2 f3
       obtain⟨x1_1,x1_2,x1_3,x1_4,x1_5,x1_6,x1_7,x1_8⟩:=(el a1 a2 sp).1
       obtain⟨x3_1,x3_2,x3_3,x3_4,x3_5,x3_6⟩:=qd l3 l2 a4
       obtain⟨x4_1,x4_2,x4_3,x4_4,x4_5,x4_6⟩:=nN l3
       exact ta bs B D0 hr n1 n2 n3 n4 Q het hJ S (fun _ _ _ _ _ _ _ _ _ _ _ _=>⟨x1_1,x1_2,x1_3,x1_4,x1_5,x1_6,x1_7,x1_8,l1,(gh _ l2).1,(gh _ l3).1,x3_1,x3_2,x3_3,x3_4,x3_5,x3_6,x4_1,x4_2,x4_3,x4_4,x4_5,x4_6,trivial⟩)
      ·obtain⟨Lq,Dd,S,l1,l2,l3⟩:=qf a1 a2 a3 a4 (E:=e) (by exact he) (by rfl) e0 e128 f1 f2 f3
       obtain⟨x1_1,x1_2,x1_3,x1_4,x1_5,x1_6,x1_7,x1_8⟩:=(el a1 a2 sp).2
       obtain⟨x3_1,x3_2,x3_3,x3_4,x3_5,x3_6⟩:=qd l3 l2 a4
       obtain⟨x4_1,x4_2,x4_3,x4_4,x4_5,x4_6⟩:=nN l3
       exact tc bs B D0 hr n1 n2 n3 n4 Q het hJ S (fun _ _ _ _ _ _ _ _ _ _ _ _=>⟨x1_1,x1_2,x1_3,x1_4,x1_5,x1_6,x1_7,x1_8,l1,(gh _ l2).1,(gh _ l3).1,x3_1,x3_2,x3_3,x3_4,x3_5,x3_6,x4_1,x4_2,x4_3,x4_4,x4_5,x4_6,trivial⟩)
theorem jb (bt:Bool)(B:LWB p l e s m args below meth c T0 Z a0 h0 n0 L0 0 0)(D0:D 0=0)(het:iW (D 18)=0∨iW (D 18)=1∨iW (D 18)=2)(hrev:iW (D 19)=0∨iW (D 19)=1)(F:kN (iW (D 1),iW (D 2),iW (D 3),iW (D 4))):Go p e below (bw s (aV n0) 192 1792) T0 (mkF m 345 (RD D bt) []):=by
 obtain⟨b1,hb1⟩:=cU (iW (D 16))
 obtain⟨b2,hb2⟩:=cU (iW (D 17))
 have FF:O9 (iW (bif b1 then (bif b2 then D 4 else D 3) else (bif b2 then D 2 else D 1)),iW (bif b1 then (bif b2 then D 3 else D 4) else (bif b2 then D 1 else D 2)),iW (bif b1 then (bif b2 then D 2 else D 1) else (bif b2 then D 4 else D 3)),iW (bif b1 then (bif b2 then D 1 else D 2) else (bif b2 then D 3 else D 4))):=⟨b1,b2,_,F,by cases b1<;>cases b2<;>rfl⟩
 cases bt
 ·refine goE (aY (A:=fun _=>0) (K:=fun _=>0) (W:=fun _ => .null) (D:=D) (RA b1 b2) sc0 B YgF.nil D0 (by decide) ⟨hb1,hb2,trivial⟩ ?_) rfl
  intro T1 h1 L1 A1 K1 B1 hA1 Kp1 f1 Y1
  exact goE (Nn (D:=(ac [0,(bif b1 then (bif b2 then D 4 else D 3) else (bif b2 then D 2 else D 1)),(bif b1 then (bif b2 then D 3 else D 4) else (bif b2 then D 1 else D 2)),(bif b1 then (bif b2 then D 2 else D 1) else (bif b2 then D 4 else D 3)),(bif b1 then (bif b2 then D 1 else D 2) else (bif b2 then D 3 else D 4)),D 5,D 6,D 7,D 8,D 9,D 10,D 11,D 12,D 13,D 14,D 15,D 16,D 17,D 18,D 19,D 20,D 21,D 22,D 23,D 1,D 2,D 3,D 4,(bif b1 then D 3 else D 1),(bif b1 then D 1 else D 3)])) b2 B1 rfl het hrev FF) (by cases b1<;>cases b2<;>rfl)
 ·refine goE (aY (A:=fun _=>0) (K:=fun _=>0) (W:=fun _ => .null) (D:=D) (RB b1 b2) sc0 B YgF.nil D0 (by decide) ⟨hb1,hb2,trivial⟩ ?_) rfl
  intro T1 h1 L1 A1 K1 B1 hA1 Kp1 f1 Y1
  exact goE (Nn (D:=(ac [0,(bif b1 then (bif b2 then D 4 else D 3) else (bif b2 then D 2 else D 1)),(bif b1 then (bif b2 then D 3 else D 4) else (bif b2 then D 1 else D 2)),(bif b1 then (bif b2 then D 2 else D 1) else (bif b2 then D 4 else D 3)),(bif b1 then (bif b2 then D 1 else D 2) else (bif b2 then D 3 else D 4)),D 5,D 6,D 7,D 8,D 9,D 10,D 11,D 12,D 13,D 14,D 15,D 16,D 17,D 18,D 19,D 20,D 21,D 22,D 23,D 1,D 2,D 3,D 4,(bif b1 then D 3 else D 1),(bif b1 then D 1 else D 3)])) b2 B1 rfl het hrev FF) (by cases b1<;>cases b2<;>rfl)
theorem No (B:LWB p l e s m args below meth c T0 Z a0 h0 n0 L0 0 0)(D0:D 0=0)(hs:iW (D 7)=0∨iW (D 7)=1∨iW (D 7)=2∨iW (D 7)=3∨iW (D 7)=4∨iW (D 7)=5∨iW (D 7)=6∨iW (D 7)=7)(Pr:PR4 D):Go p e below (bw s (aV n0) 192 1792) T0 (mkF m 154 (iB D) []):=by
 obtain⟨⟨ga,gb,gc,gd⟩,het,hrev,gea,geb,gec,ged⟩:=Pr
 rcases hs with h|h|h|h|h|h|h|h
 ·by_cases hm:(iW (D 16)).toInt≤(iW (ab (aa 20 (iW (D 17)) (iW (D 18))))).toInt
  ·have F:kN (iW (ab (aa 22 (iW (D 8)) (iW (ab (aa 24 (iW 1099511627777) (iW (D 16))))))),iW (ab (aa 22 (iW (D 9)) (iW (ab (aa 24 (iW 1099511627777) (iW (D 17))))))),iW (ab (aa 22 (iW (D 10)) (iW (ab (aa 24 (iW 1099511627777) (iW (D 18))))))),iW (ab (aa 22 (iW (ab (aa 22 (iW (ab (aa 22 (iW (ab (aa 22 (iW (D 8)) (iW (D 9))))) (iW (D 10))))) (iW 1103806595071)))) (iW (ab (aa 24 (iW 1099511627777) (iW (ab (aa 20 (iW (ab (aa 21 (iW (ab (aa 20 (iW (D 17)) (iW (D 18))))) (iW (D 16))))) (iW 1099511627776)))))))))):=⟨0,by decide,_,ga,_,gb,_,gc,_,gd,_,gea,_,geb,_,gec,_,ged,by have hm':=hm;simp only[be] at hm';have e0:iK (iW (D 16)) (iW (D 17)+iW (D 18))=iW (D 16):=if_pos hm';simp only[be];unfold aC;rw[e0];rfl⟩
   refine goE (aY (A:=fun _=>0) (K:=fun _=>0) (W:=fun _ => .null) (D:=D) OY (scS FE sc0) B YgF.nil D0 (by decide) ⟨trivial,hm,trivial,trivial,trivial,trivial,trivial,trivial,trivial,trivial,trivial,trivial,trivial,trivial,trivial,trivial,trivial⟩ ?_) (by simp only[iB];rw[h];rfl)
   intro T1 h1 L1 A1 K1 B1 hA1 Kp1 f1 Y1
   exact goE (jb (D:=(ac [0,(ab (aa 22 (iW (D 8)) (iW (ab (aa 24 (iW 1099511627777) (iW (D 16))))))),(ab (aa 22 (iW (D 9)) (iW (ab (aa 24 (iW 1099511627777) (iW (D 17))))))),(ab (aa 22 (iW (D 10)) (iW (ab (aa 24 (iW 1099511627777) (iW (D 18))))))),(ab (aa 22 (iW (ab (aa 22 (iW (ab (aa 22 (iW (ab (aa 22 (iW (D 8)) (iW (D 9))))) (iW (D 10))))) (iW 1103806595071)))) (iW (ab (aa 24 (iW 1099511627777) (iW (ab (aa 20 (iW (ab (aa 21 (iW (ab (aa 20 (iW (D 17)) (iW (D 18))))) (iW (D 16))))) (iW 1099511627776))))))))),D 1,D 2,D 3,D 4,D 5,D 6,0,D 8,D 9,D 10,D 11,D 12,D 13,D 14,D 15,D 16,D 17,D 18,D 19,(D 16),(ab (aa 22 (iW (ab (aa 22 (iW (ab (aa 22 (iW (D 8)) (iW (D 9))))) (iW (D 10))))) (iW 1103806595071)))])) true B1 rfl het hrev F) rfl
  ·have F:kN (iW (ab (aa 22 (iW (D 8)) (iW (ab (aa 24 (iW 1099511627777) (iW (ab (aa 20 (iW (D 17)) (iW (D 18)))))))))),iW (ab (aa 22 (iW (D 9)) (iW (ab (aa 24 (iW 1099511627777) (iW (D 17))))))),iW (ab (aa 22 (iW (D 10)) (iW (ab (aa 24 (iW 1099511627777) (iW (D 18))))))),iW (ab (aa 22 (iW (ab (aa 22 (iW (ab (aa 22 (iW (ab (aa 22 (iW (D 8)) (iW (D 9))))) (iW (D 10))))) (iW 1103806595071)))) (iW (ab (aa 24 (iW 1099511627777) (iW (ab (aa 20 (iW (ab (aa 21 (iW (ab (aa 20 (iW (D 17)) (iW (D 18))))) (iW (ab (aa 20 (iW (D 17)) (iW (D 18)))))))) (iW 1099511627776)))))))))):=⟨0,by decide,_,ga,_,gb,_,gc,_,gd,_,gea,_,geb,_,gec,_,ged,by have hm':=hm;simp only[be] at hm';have e0:iK (iW (D 16)) (iW (D 17)+iW (D 18))=iW (D 17)+iW (D 18):=if_neg hm';simp only[be];unfold aC;rw[e0];rfl⟩
   refine goE (aY (A:=fun _=>0) (K:=fun _=>0) (W:=fun _ => .null) (D:=D) OZ (scS FH sc0) B YgF.nil D0 (by decide) ⟨trivial,(Int.not_le.mp hm),trivial,trivial,trivial,trivial,trivial,trivial,trivial,trivial,trivial,trivial,trivial,trivial,trivial,trivial,trivial⟩ ?_) (by simp only[iB];rw[h];rfl)
   intro T1 h1 L1 A1 K1 B1 hA1 Kp1 f1 Y1
   exact goE (jb (D:=(ac [0,(ab (aa 22 (iW (D 8)) (iW (ab (aa 24 (iW 1099511627777) (iW (ab (aa 20 (iW (D 17)) (iW (D 18)))))))))),(ab (aa 22 (iW (D 9)) (iW (ab (aa 24 (iW 1099511627777) (iW (D 17))))))),(ab (aa 22 (iW (D 10)) (iW (ab (aa 24 (iW 1099511627777) (iW (D 18))))))),(ab (aa 22 (iW (ab (aa 22 (iW (ab (aa 22 (iW (ab (aa 22 (iW (D 8)) (iW (D 9))))) (iW (D 10))))) (iW 1103806595071)))) (iW (ab (aa 24 (iW 1099511627777) (iW (ab (aa 20 (iW (ab (aa 21 (iW (ab (aa 20 (iW (D 17)) (iW (D 18))))) (iW (ab (aa 20 (iW (D 17)) (iW (D 18)))))))) (iW 1099511627776))))))))),D 1,D 2,D 3,D 4,D 5,D 6,0,D 8,D 9,D 10,D 11,D 12,D 13,D 14,D 15,D 16,D 17,D 18,D 19,(ab (aa 20 (iW (D 17)) (iW (D 18)))),(ab (aa 22 (iW (ab (aa 22 (iW (ab (aa 22 (iW (D 8)) (iW (D 9))))) (iW (D 10))))) (iW 1103806595071)))])) true B1 rfl het hrev F) rfl
 ·by_cases hm:(iW (D 16)).toInt≤(iW (ab (aa 20 (iW (D 17)) (iW (D 18))))).toInt
  ·have F:kN (iW (ab (aa 22 (iW (D 8)) (iW (ab (aa 24 (iW 1099511627777) (iW (D 16))))))),iW (ab (aa 22 (iW (D 9)) (iW (ab (aa 24 (iW 1099511627777) (iW (D 17))))))),iW (ab (aa 22 (iW (D 10)) (iW (ab (aa 24 (iW 1099511627777) (iW (D 18))))))),iW (ab (aa 22 (iW (ab (aa 22 (iW (ab (aa 22 (iW (ab (aa 22 (iW (D 8)) (iW (D 9))))) (iW (D 10))))) (iW 1099511627777)))) (iW (ab (aa 24 (iW 1099511627777) (iW (ab (aa 20 (iW (ab (aa 21 (iW (ab (aa 20 (iW (D 17)) (iW (D 18))))) (iW (D 16))))) (iW 1099511627777)))))))))):=⟨1,by decide,_,ga,_,gb,_,gc,_,gd,_,gea,_,geb,_,gec,_,ged,by have hm':=hm;simp only[be] at hm';have e0:iK (iW (D 16)) (iW (D 17)+iW (D 18))=iW (D 16):=if_pos hm';simp only[be];unfold aC;rw[e0];rfl⟩
   refine goE (aY (A:=fun _=>0) (K:=fun _=>0) (W:=fun _ => .null) (D:=D) O0 (scS FE sc0) B YgF.nil D0 (by decide) ⟨trivial,hm,trivial,trivial,trivial,trivial,trivial,trivial,trivial,trivial,trivial,trivial,trivial,trivial,trivial,trivial,trivial⟩ ?_) (by simp only[iB];rw[h];rfl)
   intro T1 h1 L1 A1 K1 B1 hA1 Kp1 f1 Y1
   exact goE (jb (D:=(ac [0,(ab (aa 22 (iW (D 8)) (iW (ab (aa 24 (iW 1099511627777) (iW (D 16))))))),(ab (aa 22 (iW (D 9)) (iW (ab (aa 24 (iW 1099511627777) (iW (D 17))))))),(ab (aa 22 (iW (D 10)) (iW (ab (aa 24 (iW 1099511627777) (iW (D 18))))))),(ab (aa 22 (iW (ab (aa 22 (iW (ab (aa 22 (iW (ab (aa 22 (iW (D 8)) (iW (D 9))))) (iW (D 10))))) (iW 1099511627777)))) (iW (ab (aa 24 (iW 1099511627777) (iW (ab (aa 20 (iW (ab (aa 21 (iW (ab (aa 20 (iW (D 17)) (iW (D 18))))) (iW (D 16))))) (iW 1099511627777))))))))),D 1,D 2,D 3,D 4,D 5,D 6,1,D 8,D 9,D 10,D 11,D 12,D 13,D 14,D 15,D 16,D 17,D 18,D 19,(D 16),(ab (aa 22 (iW (ab (aa 22 (iW (ab (aa 22 (iW (D 8)) (iW (D 9))))) (iW (D 10))))) (iW 1099511627777)))])) true B1 rfl het hrev F) rfl
  ·have F:kN (iW (ab (aa 22 (iW (D 8)) (iW (ab (aa 24 (iW 1099511627777) (iW (ab (aa 20 (iW (D 17)) (iW (D 18)))))))))),iW (ab (aa 22 (iW (D 9)) (iW (ab (aa 24 (iW 1099511627777) (iW (D 17))))))),iW (ab (aa 22 (iW (D 10)) (iW (ab (aa 24 (iW 1099511627777) (iW (D 18))))))),iW (ab (aa 22 (iW (ab (aa 22 (iW (ab (aa 22 (iW (ab (aa 22 (iW (D 8)) (iW (D 9))))) (iW (D 10))))) (iW 1099511627777)))) (iW (ab (aa 24 (iW 1099511627777) (iW (ab (aa 20 (iW (ab (aa 21 (iW (ab (aa 20 (iW (D 17)) (iW (D 18))))) (iW (ab (aa 20 (iW (D 17)) (iW (D 18)))))))) (iW 1099511627777)))))))))):=⟨1,by decide,_,ga,_,gb,_,gc,_,gd,_,gea,_,geb,_,gec,_,ged,by have hm':=hm;simp only[be] at hm';have e0:iK (iW (D 16)) (iW (D 17)+iW (D 18))=iW (D 17)+iW (D 18):=if_neg hm';simp only[be];unfold aC;rw[e0];rfl⟩
   refine goE (aY (A:=fun _=>0) (K:=fun _=>0) (W:=fun _ => .null) (D:=D) O1 (scS FH sc0) B YgF.nil D0 (by decide) ⟨trivial,(Int.not_le.mp hm),trivial,trivial,trivial,trivial,trivial,trivial,trivial,trivial,trivial,trivial,trivial,trivial,trivial,trivial,trivial⟩ ?_) (by simp only[iB];rw[h];rfl)
   intro T1 h1 L1 A1 K1 B1 hA1 Kp1 f1 Y1
   exact goE (jb (D:=(ac [0,(ab (aa 22 (iW (D 8)) (iW (ab (aa 24 (iW 1099511627777) (iW (ab (aa 20 (iW (D 17)) (iW (D 18)))))))))),(ab (aa 22 (iW (D 9)) (iW (ab (aa 24 (iW 1099511627777) (iW (D 17))))))),(ab (aa 22 (iW (D 10)) (iW (ab (aa 24 (iW 1099511627777) (iW (D 18))))))),(ab (aa 22 (iW (ab (aa 22 (iW (ab (aa 22 (iW (ab (aa 22 (iW (D 8)) (iW (D 9))))) (iW (D 10))))) (iW 1099511627777)))) (iW (ab (aa 24 (iW 1099511627777) (iW (ab (aa 20 (iW (ab (aa 21 (iW (ab (aa 20 (iW (D 17)) (iW (D 18))))) (iW (ab (aa 20 (iW (D 17)) (iW (D 18)))))))) (iW 1099511627777))))))))),D 1,D 2,D 3,D 4,D 5,D 6,1,D 8,D 9,D 10,D 11,D 12,D 13,D 14,D 15,D 16,D 17,D 18,D 19,(ab (aa 20 (iW (D 17)) (iW (D 18)))),(ab (aa 22 (iW (ab (aa 22 (iW (ab (aa 22 (iW (D 8)) (iW (D 9))))) (iW (D 10))))) (iW 1099511627777)))])) true B1 rfl het hrev F) rfl
 ·have F:kN (iW (ab (aa 22 (iW (D 8)) (iW (ab (aa 24 (iW 1099511627777) (iW (D 16))))))),iW (ab (aa 22 (iW (D 9)) (iW (ab (aa 24 (iW 1099511627777) (iW (D 17))))))),iW 0,iW (ab (aa 22 (iW (D 11)) (iW (ab (aa 24 (iW 1099511627777) (iW (D 19)))))))):=⟨2,by decide,_,ga,_,gb,_,gc,_,gd,_,gea,_,geb,_,gec,_,ged,by simp only[be];rfl⟩
  refine goE (aY (A:=fun _=>0) (K:=fun _=>0) (W:=fun _ => .null) (D:=D) Ru sc0 B YgF.nil D0 (by decide) ⟨trivial,trivial,trivial,trivial,trivial,trivial,trivial⟩ ?_) (by simp only[iB];rw[h];rfl)
  intro T1 h1 L1 A1 K1 B1 hA1 Kp1 f1 Y1
  exact goE (jb (D:=(ac [0,(ab (aa 22 (iW (D 8)) (iW (ab (aa 24 (iW 1099511627777) (iW (D 16))))))),(ab (aa 22 (iW (D 9)) (iW (ab (aa 24 (iW 1099511627777) (iW (D 17))))))),0,(ab (aa 22 (iW (D 11)) (iW (ab (aa 24 (iW 1099511627777) (iW (D 19))))))),D 1,D 2,D 3,D 4,D 5,D 6,2,D 8,D 9,D 10,D 11,D 12,D 13,D 14,D 15,D 16,D 17,D 18,D 19,0,0])) false B1 rfl het hrev F) rfl
 ·have F:kN (iW (ab (aa 22 (iW (D 8)) (iW (ab (aa 24 (iW 1099511627777) (iW (D 16))))))),iW 0,iW (ab (aa 22 (iW (D 10)) (iW (ab (aa 24 (iW 1099511627777) (iW (D 18))))))),iW (ab (aa 22 (iW (D 11)) (iW (ab (aa 24 (iW 1099511627777) (iW (D 19)))))))):=⟨3,by decide,_,ga,_,gb,_,gc,_,gd,_,gea,_,geb,_,gec,_,ged,by simp only[be];rfl⟩
  refine goE (aY (A:=fun _=>0) (K:=fun _=>0) (W:=fun _ => .null) (D:=D) Rv sc0 B YgF.nil D0 (by decide) ⟨trivial,trivial,trivial,trivial,trivial,trivial,trivial⟩ ?_) (by simp only[iB];rw[h];rfl)
  intro T1 h1 L1 A1 K1 B1 hA1 Kp1 f1 Y1
  exact goE (jb (D:=(ac [0,(ab (aa 22 (iW (D 8)) (iW (ab (aa 24 (iW 1099511627777) (iW (D 16))))))),0,(ab (aa 22 (iW (D 10)) (iW (ab (aa 24 (iW 1099511627777) (iW (D 18))))))),(ab (aa 22 (iW (D 11)) (iW (ab (aa 24 (iW 1099511627777) (iW (D 19))))))),D 1,D 2,D 3,D 4,D 5,D 6,3,D 8,D 9,D 10,D 11,D 12,D 13,D 14,D 15,D 16,D 17,D 18,D 19,0,0])) false B1 rfl het hrev F) rfl
 ·have F:kN (iW (ab (aa 22 (iW (D 8)) (iW (ab (aa 24 (iW 1099511627777) (iW (D 16))))))),iW 0,iW 0,iW (ab (aa 22 (iW (D 11)) (iW (ab (aa 24 (iW 1099511627777) (iW (D 19)))))))):=⟨4,by decide,_,ga,_,gb,_,gc,_,gd,_,gea,_,geb,_,gec,_,ged,by simp only[be];rfl⟩
  refine goE (aY (A:=fun _=>0) (K:=fun _=>0) (W:=fun _ => .null) (D:=D) Rw sc0 B YgF.nil D0 (by decide) ⟨trivial,trivial,trivial,trivial,trivial⟩ ?_) (by simp only[iB];rw[h];rfl)
  intro T1 h1 L1 A1 K1 B1 hA1 Kp1 f1 Y1
  exact goE (jb (D:=(ac [0,(ab (aa 22 (iW (D 8)) (iW (ab (aa 24 (iW 1099511627777) (iW (D 16))))))),0,0,(ab (aa 22 (iW (D 11)) (iW (ab (aa 24 (iW 1099511627777) (iW (D 19))))))),D 1,D 2,D 3,D 4,D 5,D 6,4,D 8,D 9,D 10,D 11,D 12,D 13,D 14,D 15,D 16,D 17,D 18,D 19,0,0])) false B1 rfl het hrev F) rfl
 ·have F:kN (iW 0,iW (ab (aa 22 (iW (D 9)) (iW (ab (aa 24 (iW 1099511627777) (iW (D 17))))))),iW (ab (aa 22 (iW (D 10)) (iW (ab (aa 24 (iW 1099511627777) (iW (D 18))))))),iW (ab (aa 22 (iW (D 11)) (iW (ab (aa 24 (iW 1099511627777) (iW (D 19)))))))):=⟨5,by decide,_,ga,_,gb,_,gc,_,gd,_,gea,_,geb,_,gec,_,ged,by simp only[be];rfl⟩
  refine goE (aY (A:=fun _=>0) (K:=fun _=>0) (W:=fun _ => .null) (D:=D) Rx sc0 B YgF.nil D0 (by decide) ⟨trivial,trivial,trivial,trivial,trivial,trivial,trivial⟩ ?_) (by simp only[iB];rw[h];rfl)
  intro T1 h1 L1 A1 K1 B1 hA1 Kp1 f1 Y1
  exact goE (jb (D:=(ac [0,0,(ab (aa 22 (iW (D 9)) (iW (ab (aa 24 (iW 1099511627777) (iW (D 17))))))),(ab (aa 22 (iW (D 10)) (iW (ab (aa 24 (iW 1099511627777) (iW (D 18))))))),(ab (aa 22 (iW (D 11)) (iW (ab (aa 24 (iW 1099511627777) (iW (D 19))))))),D 1,D 2,D 3,D 4,D 5,D 6,5,D 8,D 9,D 10,D 11,D 12,D 13,D 14,D 15,D 16,D 17,D 18,D 19,0,0])) false B1 rfl het hrev F) rfl
 ·have F:kN (iW (ab (aa 22 (iW (D 8)) (iW (ab (aa 24 (iW 1099511627777) (iW (D 16))))))),iW (ab (aa 22 (iW (D 9)) (iW (ab (aa 24 (iW 1099511627777) (iW (D 17))))))),iW (ab (aa 22 (iW (D 10)) (iW (ab (aa 24 (iW 1099511627777) (iW (D 18))))))),iW 0):=⟨6,by decide,_,ga,_,gb,_,gc,_,gd,_,gea,_,geb,_,gec,_,ged,by simp only[be];rfl⟩
  refine goE (aY (A:=fun _=>0) (K:=fun _=>0) (W:=fun _ => .null) (D:=D) Ry sc0 B YgF.nil D0 (by decide) ⟨trivial,trivial,trivial,trivial,trivial,trivial,trivial⟩ ?_) (by simp only[iB];rw[h];rfl)
  intro T1 h1 L1 A1 K1 B1 hA1 Kp1 f1 Y1
  exact goE (jb (D:=(ac [0,(ab (aa 22 (iW (D 8)) (iW (ab (aa 24 (iW 1099511627777) (iW (D 16))))))),(ab (aa 22 (iW (D 9)) (iW (ab (aa 24 (iW 1099511627777) (iW (D 17))))))),(ab (aa 22 (iW (D 10)) (iW (ab (aa 24 (iW 1099511627777) (iW (D 18))))))),0,D 1,D 2,D 3,D 4,D 5,D 6,6,D 8,D 9,D 10,D 11,D 12,D 13,D 14,D 15,D 16,D 17,D 18,D 19,0,0])) false B1 rfl het hrev F) rfl
 ·have F:kN (iW 0,iW (ab (aa 22 (iW (D 9)) (iW (ab (aa 24 (iW 1099511627777) (iW (D 17))))))),iW (ab (aa 22 (iW (D 10)) (iW (ab (aa 24 (iW 1099511627777) (iW (D 18))))))),iW 0):=⟨7,by decide,_,ga,_,gb,_,gc,_,gd,_,gea,_,geb,_,gec,_,ged,by simp only[be];rfl⟩
  refine goE (aY (A:=fun _=>0) (K:=fun _=>0) (W:=fun _ => .null) (D:=D) Rz sc0 B YgF.nil D0 (by decide) ⟨trivial,trivial,trivial,trivial,trivial⟩ ?_) (by simp only[iB];rw[h];rfl)
  intro T1 h1 L1 A1 K1 B1 hA1 Kp1 f1 Y1
  exact goE (jb (D:=(ac [0,0,(ab (aa 22 (iW (D 9)) (iW (ab (aa 24 (iW 1099511627777) (iW (D 17))))))),(ab (aa 22 (iW (D 10)) (iW (ab (aa 24 (iW 1099511627777) (iW (D 18))))))),0,D 1,D 2,D 3,D 4,D 5,D 6,7,D 8,D 9,D 10,D 11,D 12,D 13,D 14,D 15,D 16,D 17,D 18,D 19,0,0])) false B1 rfl het hrev F) rfl
theorem st0 (B:LWB p l e s m args below meth c T0 Z a0 h0 n0 L0 0 0)(D0:D 0=0):Go p e below (bw s (aV n0) 192 1792) T0 (mkF m 0 (fr0 D) []):=by
 obtain⟨b1,hb1⟩:=cU (iW (ab (aa 23 (iW (ab (aa 26 (iW (D 1)) (iW 1099511627779)))) (iW 1099511627777))))
 obtain⟨b2,hb2⟩:=cU (iW (ab (aa 23 (iW (ab (aa 26 (iW (D 1)) (iW 1099511627780)))) (iW 1099511627777))))
 obtain⟨b3,hb3⟩:=cU (iW (ab (aa 23 (iW (ab (aa 26 (iW (D 1)) (iW 1099511627781)))) (iW 1099511627777))))
 obtain⟨b4,hb4⟩:=cU (iW (ab (aa 23 (iW (ab (aa 26 (iW (D 1)) (iW 1099511627782)))) (iW 1099511627777))))
 refine goE (aY (A:=fun _=>0) (K:=fun _=>0) (W:=fun _ => .null) (D:=D) (RZ b1 b2 b3 b4) sc0 B YgF.nil D0 (by decide) ⟨trivial,trivial,trivial,hb1,trivial,trivial,hb2,trivial,trivial,hb3,trivial,trivial,hb4,trivial⟩ ?_) rfl
 intro T1 h1 L1 A1 K1 B1 hA1 Kp1 f1 Y1
 obtain⟨b5,hb5⟩:=cU (iW (ab (aa 23 (iW (ab (aa 26 (iW (D 1)) (iW 1099511627783)))) (iW 1099511627777))))
 obtain⟨b6,hb6⟩:=cU (iW (ab (aa 23 (iW (ab (aa 26 (iW (D 1)) (iW 1099511627784)))) (iW 1099511627777))))
 obtain⟨b7,hb7⟩:=cU (iW (ab (aa 23 (iW (ab (aa 26 (iW (D 1)) (iW 1099511627787)))) (iW 1099511627777))))
 have m4:=p_ _ (iW (ab (aa 23 (iW (ab (aa 26 (iW (D 1)) (iW 1099511627785)))) (iW 1099511627779)))) (be _).symm
 have gs:∀b:Bool,iW (bif b then (4294967295:UInt64) else 1)∈bn:=fun b=>by cases b<;>decide
 have g4:∀x:Int32,iW (ab (aa 23 x (iW 1099511627779)))∈bo:=fun x=>by
  rcases p_ _ (iW (ab (aa 23 x (iW 1099511627779)))) (be _).symm with h|h|h|h<;>rw[h]<;>decide
 have b01:∀b:Bool,iW (bif b then (1:UInt64) else 0)=0∨iW (bif b then (1:UInt64) else 0)=1:=fun b=>by cases b<;>decide
 have s8:=O_ _ (iW (ab (aa 23 (iW (D 1)) (iW 1099511627783)))) (be _).symm
 by_cases hm:(iW (ab (aa 23 (iW (ab (aa 26 (iW (D 1)) (iW 1099511627785)))) (iW 1099511627779)))).toInt≤(iW 1099511627778).toInt
 ·refine goE (aY (A:=fun _=>0) (K:=fun _=>0) (W:=fun _ => .null) (D:=(ac [0,D 1,D 2,D 3,D 4,D 5,D 6,(ab (aa 23 (iW (D 1)) (iW 1099511627783))),(bif b1 then (4294967295:UInt64) else 1),(bif b2 then (4294967295:UInt64) else 1),(bif b3 then (4294967295:UInt64) else 1),(bif b4 then (4294967295:UInt64) else 1)])) (Rs b5 b6 b7) (scS OL sc0) B1 YgF.nil rfl (by decide) ⟨trivial,trivial,hb5,trivial,trivial,hb6,trivial,trivial,hm,trivial,trivial,hb7,trivial,trivial,trivial,trivial,trivial,trivial,trivial,trivial⟩ ?_) (by cases b1<;>cases b2<;>cases b3<;>cases b4<;>rfl)
  intro T2 h2 L2 A2 K2 B2 hA2 Kp2 f2 Y2
  exact goE (No (D:=(ac [0,D 1,D 2,D 3,D 4,D 5,D 6,(ab (aa 23 (iW (D 1)) (iW 1099511627783))),(bif b1 then (4294967295:UInt64) else 1),(bif b2 then (4294967295:UInt64) else 1),(bif b3 then (4294967295:UInt64) else 1),(bif b4 then (4294967295:UInt64) else 1),(bif b5 then (1:UInt64) else 0),(bif b6 then (1:UInt64) else 0),(ab (aa 23 (iW (ab (aa 26 (iW (D 1)) (iW 1099511627785)))) (iW 1099511627779))),(bif b7 then (1:UInt64) else 0),(ab (aa 23 (iW (D 2)) (iW 1099511627779))),(ab (aa 23 (iW (ab (aa 26 (iW (D 2)) (iW 1099511627778)))) (iW 1099511627779))),(ab (aa 23 (iW (ab (aa 26 (iW (D 2)) (iW 1099511627780)))) (iW 1099511627779))),(ab (aa 23 (iW (ab (aa 26 (iW (D 2)) (iW 1099511627782)))) (iW 1099511627779)))])) B2 rfl s8 ⟨⟨gs b1,gs b2,gs b3,gs b4⟩,(by rcases m4 with h|h|h|h;exact Or.inl h;exact Or.inr (Or.inl h);exact Or.inr (Or.inr h);(exfalso;rw[h] at hm;exact absurd hm (by decide))),b01 b7,g4 _,g4 _,g4 _,g4 _⟩) (by cases b5<;>cases b6<;>cases b7<;>rfl)
 ·refine goE (aY (A:=fun _=>0) (K:=fun _=>0) (W:=fun _ => .null) (D:=(ac [0,D 1,D 2,D 3,D 4,D 5,D 6,(ab (aa 23 (iW (D 1)) (iW 1099511627783))),(bif b1 then (4294967295:UInt64) else 1),(bif b2 then (4294967295:UInt64) else 1),(bif b3 then (4294967295:UInt64) else 1),(bif b4 then (4294967295:UInt64) else 1)])) (Rt b5 b6 b7) (scS OM sc0) B1 YgF.nil rfl (by decide) ⟨trivial,trivial,hb5,trivial,trivial,hb6,trivial,trivial,(Int.not_le.mp hm),trivial,trivial,hb7,trivial,trivial,trivial,trivial,trivial,trivial,trivial,trivial⟩ ?_) (by cases b1<;>cases b2<;>cases b3<;>cases b4<;>rfl)
  intro T2 h2 L2 A2 K2 B2 hA2 Kp2 f2 Y2
  exact goE (No (D:=(ac [0,D 1,D 2,D 3,D 4,D 5,D 6,(ab (aa 23 (iW (D 1)) (iW 1099511627783))),(bif b1 then (4294967295:UInt64) else 1),(bif b2 then (4294967295:UInt64) else 1),(bif b3 then (4294967295:UInt64) else 1),(bif b4 then (4294967295:UInt64) else 1),(bif b5 then (1:UInt64) else 0),(bif b6 then (1:UInt64) else 0),2,(bif b7 then (1:UInt64) else 0),(ab (aa 23 (iW (D 2)) (iW 1099511627779))),(ab (aa 23 (iW (ab (aa 26 (iW (D 2)) (iW 1099511627778)))) (iW 1099511627779))),(ab (aa 23 (iW (ab (aa 26 (iW (D 2)) (iW 1099511627780)))) (iW 1099511627779))),(ab (aa 23 (iW (ab (aa 26 (iW (D 2)) (iW 1099511627782)))) (iW 1099511627779)))])) B2 rfl s8 ⟨⟨gs b1,gs b2,gs b3,gs b4⟩,(Or.inr (Or.inr rfl)),b01 b7,g4 _,g4 _,g4 _,g4 _⟩) (by cases b5<;>cases b6<;>cases b7<;>rfl)
end OwnLaw
theorem I0:plainFor x=true:=plainFor_of_name (show plainName "com/example/tracefold/tracefold/mining/FactoredInverseTransposeTimesPinLaw" = true by first|(simp [plainName,overriddenIn];done)|decide +kernel)
theorem Pe (p0:Int32)(p1:Int32)(p2:Int32)(p3:Int32)(p4:Int32)(p5:Int32)(m:MethodId):entryFrame m #[(.int p0),(.int p1),(.int p2),(.int p3),(.int p4),(.int p5)] maxLocals=mkF m 0 #[.val (.int p0),.val (.int p1),.val (.int p2),.val (.int p3),.val (.int p4),.val (.int p5),.unset,.unset,.unset,.unset,.unset,.unset,.unset,.unset,.unset,.unset,.unset,.unset,.unset,.unset,.unset,.unset,.unset,.unset,.unset,.unset,.unset,.unset,.unset,.unset,.unset,.unset,.unset,.unset,.unset,.unset,.unset,.unset,.unset,.unset,.unset,.unset,.unset,.unset,.unset,.unset,.unset,.unset,.unset,.unset,.unset,.unset,.unset] []:=by first|(simp [entryFrame,mkF,argsToLocals,Value.category,maxLocals];done)|rfl
theorem rm0 (l:Launch)(Z:State)(a0:Array Value)(hw:HW a0 Z)(ws:List Jvm.Cond)(p0:Int32)(p1:Int32)(p2:Int32)(p3:Int32)(p4:Int32)(p5:Int32)(h0:Heap)(n0:Nat)(Z0:n0≤h0.size)  :
  MetFree l x (head1 (Jvm.Cond.code x code maxLocals ret::ws) room_1) (fun as_ U=>as_=#[(.int p0),(.int p1),(.int p2),(.int p3),(.int p4),(.int p5)]∧Z.Warmed39 U.vm∧U.heap=h0) (fun _ _ _ _ _=>True) (fun _ U o U'=>∃v L,o = .returned v∧aV n0 v U'.heap L∧FrameEnd U o U' L 192 1792):=by
 refine o9 I0 (Pe p0 p1 p2 p3 p4 p5) ?_
 intro p e s m below meth c T0 X0 hx hby hml hret hlk hnm hown hZ e0
 have N0:=Fr.nil n0
 obtain⟨u0,rfl⟩:∃w,iW w=p0:=⟨_,be p0⟩
 obtain⟨u1,rfl⟩:∃w,iW w=p1:=⟨_,be p1⟩
 obtain⟨u2,rfl⟩:∃w,iW w=p2:=⟨_,be p2⟩
 obtain⟨u3,rfl⟩:∃w,iW w=p3:=⟨_,be p3⟩
 obtain⟨u4,rfl⟩:∃w,iW w=p4:=⟨_,be p4⟩
 obtain⟨u5,rfl⟩:∃w,iW w=p5:=⟨_,be p5⟩
 exact goE (st0 (D:=ac [0,u0,u1,u2,u3,u4,u5]) ⟨X0,hx,hby,hml,hret,hlk,hown,hZ,hw,e0,Z0,N0⟩ rfl) rfl
theorem xS {Post:Tables→Env→Array Value→State→Outcome→State→Prop}(hpost:∀tb e args s v u,(limb_1_1.after args s (.returned v) u=true∧limb_1_2.after args s (.returned v) u=true∧True)→FrameEnd s (.returned v) u (Jvm.fieldLocs frame_1_writes args s++Jvm.arrayLocs frame_1_arrays args s++Jvm.staticLocs frame_1_statics s) 192 1792→Post tb e args s (.returned v) u) :
  ArmFor flags0 classFile x code maxLocals ret World_1 tables_1 room_1 Calls_1 rest_1 Pre_1 Post:=by
 intro l hfl _ _ p e ha hc hk s m args below hf hA hF happ hP
 obtain⟨hcalls,hrest,hpre⟩:=hP
 obtain⟨-,-,-,hnamed,-,-,-,hat⟩:=(Spec.applies_iff hf).mp happ
 obtain⟨hg,hn⟩:=and_e (Cond.before_iff.mp (show (Jvm.Cond.and given_1 narrow_1).before args s=true from hpre))
 obtain⟨h1,g0⟩:=and_e hg
 obtain⟨t0,g1⟩:=and_e g0
 obtain⟨t1,g2⟩:=and_e g1
 obtain⟨t2,g3⟩:=and_e g2
 obtain⟨t3,g4⟩:=and_e g3
 obtain⟨t4,g5⟩:=and_e g4
 have t5:=g5
 obtain⟨w0,w1,w2,w3,w4,w5,rfl⟩:∃w0 w1 w2 w3 w4 w5:Value,args=#[w0,w1,w2,w3,w4,w5]:=by
  have hs:args.size=6:=by simpa [Cond.value,given_1] using h1
  obtain⟨L⟩:=args
  match L,hs with
  | [w0,w1,w2,w3,w4,w5],_=>exact⟨w0,w1,w2,w3,w4,w5,rfl⟩
 have hw:=fun d (hd:d∈tables_1)=>atoms_spec (ws:=Jvm.Cond.code x code maxLocals ret::tables_1) hat d (List.mem_cons_of_mem _ hd)
 obtain⟨i0,e0⟩:=is_v t0
 obtain rfl:w0=(.int i0):=Option.some.inj e0
 obtain⟨i1,e1⟩:=is_v t1
 obtain rfl:w1=(.int i1):=Option.some.inj e1
 obtain⟨i2,e2⟩:=is_v t2
 obtain rfl:w2=(.int i2):=Option.some.inj e2
 obtain⟨i3,e3⟩:=is_v t3
 obtain rfl:w3=(.int i3):=Option.some.inj e3
 obtain⟨i4,e4⟩:=is_v t4
 obtain rfl:w4=(.int i4):=Option.some.inj e4
 obtain⟨i5,e5⟩:=is_v t5
 obtain rfl:w5=(.int i5):=Option.some.inj e5
 obtain⟨n,o,h1,h2,h3,_,L,rfl,⟨rfl,N⟩,hq⟩:=rm0 l s _ hw tables_1 i0 i1 i2 i3 i4 i5 s.heap s.heap.size (Nat.le_refl _)  p e ha hc hk s m _ below hf ((Spec.applies_iff_loose hf).mp happ).1 ⟨rfl,State.Warmed39.refl s,rfl⟩ trivial
 refine⟨n,_,h1,h2,h3,hpost _ _ _ _ _ _ ⟨Cond.after_iff.mpr rfl,Cond.after_iff.mpr (eq_i res_at (Term.int_eval (1)) rfl),trivial⟩ ⟨hq.1,hq.2.1,(hq.2.2.sift fun y hy=>Or.inr (N y hy)).mono (by decide) (by decide)⟩⟩
theorem main_1_1:Claimed_1_1:=xS fun _ _ _ _ _ _ h hF=>⟨h.1,hF⟩
theorem main_1_2:Claimed_1_2:=xS fun _ _ _ _ _ _ h hF=>⟨h.2.1,hF⟩
end Jvm.Pilot.@@N@@
namespace Jvm.Pilot.@@N@@
open Jvm Jvm.ClassFile Sem Op Lib Jvm.Free Jvm.Stand Jvm.Pilot.@@N@@.Jvm.D
/-! MADE BY PROGRAM (witnessworld.py) out of the Statement's table words and the real class files: 21 classes;the members and pool entries that the words name. The judged class is class 1,her method 1. -/
namespace start1
open Jvm.ClassFile
def u (s:String):CpInfo := .utf8 (stringToUtf16 s)
def gap:Nat→List CpInfo→List CpInfo
 | 0,r=>r
 | n+1,r => .unusable::gap n r
def poolList (es:List (Nat×CpInfo))(last:Nat):List CpInfo:=es.foldr (fun e r=>gap e.1 (e.2::r)) (gap last [])
def pool (es:List (Nat×CpInfo))(last:Nat):Array CpInfo:=⟨poolList es last⟩
def fileOf (pool:Array CpInfo)(this:Nat)(attrs:Array Attribute:=#[])(ms:Array MethodInfo:=#[])(fl:Nat:=33)(sup:Nat:=0)(ifs:Array Nat:=#[])(fds:Array FieldInfo:=#[]):ClassFile where
 minorVersion:=0
 majorVersion:=65
 constantPool:=pool
 accessFlags:=fl
 thisClass:=this
 superClass:=sup
 interfaces:=ifs
 fields:=fds
 methods:=ms
 attributes:=attrs
def plain (name:String)(sup:Option ClassId):Class where
 name:=name
 kind := .ordinary
 loader:=none
 accessFlags:=33
 super:=sup
 interfaces:=#[]
 cf:=none
 fields:=#[]
 methods:=#[]
 instanceTypes:=#[]
 staticTypes:=#[]
 resolved:=#[]
 callSites:=[]
 init := .initialized
 statics:=none
 mirror:=none

def pool0:Array CpInfo:=pool [(5,u "<init>"),(0,u "()V"),(1,.class_ 10),(1,u "java/lang/Object"),(85,u "clone"),(0,u "()Ljava/lang/Object;")] 26

def k0c0:Code:={ maxStack:=0,maxLocals:=1,code:=object_method_1_code,exceptionTable:=#[],attributes:=#[] }
def k0m0:Method:={ name := "<init>",desc := "()V",sig:={ parameters:=[],returnType:=none },accessFlags:=1,code:=some k0c0 }
def k0m1:Method:={ name := "clone",desc := "()Ljava/lang/Object;",sig:={ parameters:=[],returnType:=some (.object "java/lang/Object") },accessFlags:=260,code:=none }
def k0:Class:={ plain "java/lang/Object" none with
 accessFlags:=33
 interfaces:=#[]
 cf:=some (fileOf pool0 8 #[] #[⟨1,5,6,#[]⟩,⟨260,96,97,#[]⟩] 33 0 #[] #[])
 fields:=#[]
 methods:=#[k0m0,k0m1]
 instanceTypes:=#[]
 staticTypes:=#[]
 resolved:=Array.replicate 124 none
 statics:=none }

def pool1:Array CpInfo:=pool [(2,.class_ 4),(1,u "java/lang/Object"),(0,u "<init>"),(0,u "()V"),(0,.methodref 8 9),(0,.class_ 10),(0,.nameAndType 11 12),(0,u "java/lang/Math"),(0,u "min"),(0,u "(II)I"),(0,.class_ 14),(0,u "[I"),(0,.methodref 16 17),(0,.class_ 18),(0,.nameAndType 19 20),(0,u "com/example/tracefold/tracefold/mining/FactoredInverseTransposeTimesPinLaw"),(0,u "cols"),(0,u "(IIZ)[I"),(0,.class_ 22),(0,u "[D"),(0,.methodref 16 24),(0,.nameAndType 25 26),(0,u "vals"),(0,u "(IIZ)[D"),(0,.class_ 28),(0,u "com/example/tracefold/tracefold/mining/FactoredInverse"),(0,.methodref 27 30),(0,.nameAndType 5 31),(0,u "(I)V"),(0,.class_ 33),(0,u "com/example/tracefold/tracefold/mining/SparseVector"),(0,.methodref 32 30),(0,.methodref 27 36),(0,.nameAndType 37 38),(0,u "invert"),(0,u "([[I[[D)Z"),(0,.methodref 32 40),(0,.nameAndType 41 42),(0,u "set"),(0,u "(ID)V"),(0,.methodref 27 44),(0,.nameAndType 45 46),(0,u "replaceRow"),(0,u "(ILcom/example/tracefold/tracefold/mining/SparseVector;)V"),(0,.methodref 27 48),(0,.nameAndType 49 50),(0,u "transposeTimes"),(0,u "([D)[D"),(2,u "law"),(0,u "(IIIIII)Z")] 7

def k1m0:Method:={ name := "<init>",desc := "()V",sig:={ parameters:=[],returnType:=none },accessFlags:=2,code:=none }
def k1c1:Code:={ maxStack:=6,maxLocals:=53,code:=code,exceptionTable:=#[],attributes:=#[] }
def k1m1:Method:={ name := "law",desc := "(IIIIII)Z",sig:={ parameters:=[.int,.int,.int,.int,.int,.int],returnType:=some .boolean },accessFlags:=9,code:=some k1c1 }
def k1c2:Code:={ maxStack:=4,maxLocals:=3,code:=method_3_code,exceptionTable:=#[],attributes:=#[] }
def k1m2:Method:={ name := "cols",desc := "(IIZ)[I",sig:={ parameters:=[.int,.int,.boolean],returnType:=some (.array .int) },accessFlags:=10,code:=some k1c2 }
def k1c3:Code:={ maxStack:=5,maxLocals:=3,code:=method_4_code,exceptionTable:=#[],attributes:=#[] }
def k1m3:Method:={ name := "vals",desc := "(IIZ)[D",sig:={ parameters:=[.int,.int,.boolean],returnType:=some (.array .double) },accessFlags:=10,code:=some k1c3 }
def k1:Class:={ plain "com/example/tracefold/tracefold/mining/FactoredInverseTransposeTimesPinLaw" (some 0) with
 accessFlags:=49
 interfaces:=#[]
 cf:=some (fileOf pool1 16 #[] #[⟨2,5,6,#[]⟩,⟨9,53,54,#[]⟩,⟨10,19,20,#[]⟩,⟨10,25,26,#[]⟩] 49 2 #[] #[])
 fields:=#[]
 methods:=#[k1m0,k1m1,k1m2,k1m3]
 instanceTypes:=#[]
 staticTypes:=#[]
 resolved:=Array.replicate 62 none
 statics:=none }

def pool2:Array CpInfo:=pool [(1,.class_ 2),(0,u "java/lang/Math"),(1,.class_ 6),(1,u "java/lang/Object"),(0,u "<init>"),(0,u "()V"),(5,u "(D)D"),(37,u "(DD)D"),(45,.class_ 100),(1,u "java/lang/Math$RandomNumberGeneratorHolder"),(23,u "abs"),(47,u "negativeZeroFloatBits"),(0,u "J"),(2,u "negativeZeroDoubleBits"),(21,u "max"),(2,u "min"),(43,u "$assertionsDisabled"),(0,u "Z"),(88,u "(II)I"),(2,u "twoToTheDoubleScaleDown"),(0,u "D"),(4,u "twoToTheDoubleScaleUp"),(9,u "E"),(3,u "PI"),(2,u "TAU"),(2,u "DEGREES_TO_RADIANS"),(0,u "RADIANS_TO_DEGREES")] 94

def k2m0:Method:={ name := "<init>",desc := "()V",sig:={ parameters:=[],returnType:=none },accessFlags:=2,code:=none }
def k2c1:Code:={ maxStack:=4,maxLocals:=2,code:=jdk_29_method_64_code,exceptionTable:=#[],attributes:=#[] }
def k2m1:Method:={ name := "abs",desc := "(D)D",sig:={ parameters:=[.double],returnType:=some .double },accessFlags:=9,code:=some k2c1 }
def k2c2:Code:={ maxStack:=2,maxLocals:=2,code:=jdk_29_method_65_code,exceptionTable:=#[],attributes:=#[] }
def k2m2:Method:={ name := "max",desc := "(II)I",sig:={ parameters:=[.int,.int],returnType:=some .int },accessFlags:=9,code:=some k2c2 }
def k2c3:Code:={ maxStack:=4,maxLocals:=4,code:=jdk_29_method_68_code,exceptionTable:=#[],attributes:=#[] }
def k2m3:Method:={ name := "max",desc := "(DD)D",sig:={ parameters:=[.double,.double],returnType:=some .double },accessFlags:=9,code:=some k2c3 }
def k2c4:Code:={ maxStack:=2,maxLocals:=2,code:=jdk_29_method_69_code,exceptionTable:=#[],attributes:=#[] }
def k2m4:Method:={ name := "min",desc := "(II)I",sig:={ parameters:=[.int,.int],returnType:=some .int },accessFlags:=9,code:=some k2c4 }
def k2:Class:={ plain "java/lang/Math" (some 0) with
 accessFlags:=49
 interfaces:=#[]
 cf:=some (fileOf pool2 1 #[.nestMembers #[98]] #[⟨2,7,8,#[]⟩,⟨9,124,14,#[]⟩,⟨9,198,335,#[]⟩,⟨9,198,52,#[]⟩,⟨9,201,335,#[]⟩] 49 4 #[] #[⟨25,354,339,#[]⟩,⟨25,358,339,#[]⟩,⟨25,361,339,#[]⟩,⟨26,364,339,#[]⟩,⟨26,365,339,#[]⟩,⟨26,172,173,#[]⟩,⟨26,176,173,#[]⟩,⟨8,344,339,#[]⟩,⟨8,338,339,#[]⟩,⟨4120,245,246,#[]⟩])
 fields:=#[⟨"E",.double,25,0,0⟩,⟨"PI",.double,25,1,0⟩,⟨"TAU",.double,25,2,0⟩,⟨"DEGREES_TO_RADIANS",.double,26,3,0⟩,⟨"RADIANS_TO_DEGREES",.double,26,4,0⟩,⟨"negativeZeroFloatBits",.long,26,5,0⟩,⟨"negativeZeroDoubleBits",.long,26,6,0⟩,⟨"twoToTheDoubleScaleUp",.double,8,7,0⟩,⟨"twoToTheDoubleScaleDown",.double,8,8,0⟩,⟨"$assertionsDisabled",.boolean,4120,9,0⟩]
 methods:=#[k2m0,k2m1,k2m2,k2m3,k2m4]
 instanceTypes:=#[]
 staticTypes:=#[.double,.double,.double,.double,.double,.long,.long,.double,.double,.boolean]
 resolved:=Array.replicate 460 none
 statics:=none }

def pool3:Array CpInfo:=pool [(1,.class_ 2),(0,u "com/example/tracefold/tracefold/mining/BasisInverse"),(0,.class_ 4),(0,u "java/lang/Object")] 14

def k3:Class:={ plain "com/example/tracefold/tracefold/mining/BasisInverse" (some 0) with
 accessFlags:=1536
 interfaces:=#[]
 cf:=some (fileOf pool3 1 #[] #[] 1536 3 #[] #[])
 fields:=#[]
 methods:=#[]
 instanceTypes:=#[]
 staticTypes:=#[]
 resolved:=Array.replicate 19 none
 statics:=none }

def pool4:Array CpInfo:=pool [(1,.methodref 2 3),(0,.class_ 4),(0,.nameAndType 5 6),(0,u "java/lang/Object"),(0,u "<init>"),(0,u "()V"),(0,.fieldref 8 9),(0,.class_ 10),(0,.nameAndType 11 12),(0,u "com/example/tracefold/tracefold/mining/FactoredInverse"),(0,u "uColumns"),(0,u "[I"),(0,.fieldref 8 14),(0,.nameAndType 15 16),(0,u "uValues"),(0,u "[D"),(0,.fieldref 8 18),(0,.nameAndType 19 12),(0,u "lRows"),(0,.fieldref 8 21),(0,.nameAndType 22 16),(0,u "lValues"),(0,.fieldref 8 24),(0,.nameAndType 25 12),(0,u "uColumnSteps"),(0,.fieldref 8 27),(0,.nameAndType 28 16),(0,u "uColumnValues"),(0,.fieldref 8 30),(0,.nameAndType 31 12),(0,u "lRowSteps"),(0,.fieldref 8 33),(0,.nameAndType 34 16),(0,u "lRowValues"),(0,.fieldref 8 36),(0,.nameAndType 37 12),(0,u "etaRows"),(0,.fieldref 8 39),(0,.nameAndType 40 16),(0,u "etaPivots"),(0,.fieldref 8 42),(0,.nameAndType 43 12),(0,u "etaStarts"),(0,.fieldref 8 45),(0,.nameAndType 46 12),(0,u "etaPositions"),(0,.fieldref 8 48),(0,.nameAndType 49 16),(0,u "etaValues"),(0,.fieldref 8 51),(0,.nameAndType 52 53),(0,u "n"),(0,u "I"),(0,.fieldref 8 55),(0,.nameAndType 56 12),(0,u "pivotRows"),(0,.fieldref 8 58),(0,.nameAndType 59 12),(0,u "pivotColumns"),(0,.fieldref 8 61),(0,.nameAndType 62 16),(0,u "pivotValues"),(0,.fieldref 8 64),(0,.nameAndType 65 12),(0,u "uStarts"),(0,.fieldref 8 67),(0,.nameAndType 68 12),(0,u "lStarts"),(0,.fieldref 8 70),(0,.nameAndType 71 12),(0,u "uColumnStarts"),(0,.fieldref 8 73),(0,.nameAndType 74 12),(0,u "lRowStarts"),(0,.fieldref 8 76),(0,.nameAndType 77 12),(0,u "rowSteps"),(0,.fieldref 8 79),(0,.nameAndType 80 12),(0,u "columnSteps"),(0,.class_ 82),(0,u "com/example/tracefold/tracefold/mining/SparseVector"),(0,.methodref 81 84),(0,.nameAndType 5 85),(0,u "(I)V"),(0,.fieldref 8 87),(0,.nameAndType 88 89),(0,u "written"),(0,u "Lcom/example/tracefold/tracefold/mining/SparseVector;"),(0,.fieldref 8 91),(0,.nameAndType 92 89),(0,u "moved"),(0,.fieldref 8 94),(0,.nameAndType 95 89),(0,u "work"),(0,.fieldref 8 97),(0,.nameAndType 98 89),(0,u "steps"),(0,.class_ 100),(0,u "com/example/tracefold/tracefold/mining/FactoredInverse$StepQueue"),(0,.methodref 99 84),(0,.fieldref 8 103),(0,.nameAndType 104 105),(0,u "queue"),(0,u "Lcom/example/tracefold/tracefold/mining/FactoredInverse$StepQueue;"),(0,.fieldref 8 107),(0,.nameAndType 108 53),(0,u "etaCount"),(0,.class_ 110),(0,u "com/example/tracefold/tracefold/mining/FactoredInverse$Elimination"),(0,.methodref 109 112),(0,.nameAndType 5 113),(0,u "(Lcom/example/tracefold/tracefold/mining/FactoredInverse;[[I[[D)V"),(0,.methodref 109 115),(0,.nameAndType 116 117),(0,u "pivot"),(0,u "()J"),(0,.methodref 109 119),(0,.nameAndType 120 121),(0,u "eliminate"),(0,u "(III)V"),(0,.methodref 8 123),(0,.nameAndType 124 6),(0,u "transpose"),(0,.methodref 126 127),(0,.class_ 128),(0,.nameAndType 129 130),(0,u "java/util/Arrays"),(0,u "fill"),(0,u "([II)V"),(0,.methodref 126 132),(0,.nameAndType 133 134),(0,u "copyOf"),(0,u "([II)[I"),(0,.methodref 136 137),(0,.class_ 16),(0,.nameAndType 138 139),(0,u "clone"),(0,u "()Ljava/lang/Object;"),(21,u "()I"),(0,.methodref 81 163),(0,.nameAndType 164 165),(0,u "get"),(0,u "(I)D"),(7,.methodref 81 174),(0,.nameAndType 175 161),(0,u "size"),(0,.methodref 81 177),(0,.nameAndType 178 179),(0,u "position"),(0,u "(I)I"),(2,.methodref 126 183),(0,.nameAndType 133 184),(0,u "([DI)[D"),(0,.class_ 186),(0,u "com/example/tracefold/tracefold/mining/BasisInverse"),(0,u "PIVOT"),(0,u "D"),(1,u "THRESHOLD"),(2,u "CANDIDATES"),(1,u "CANCELLED"),(4,u "invert"),(0,u "([[I[[D)Z"),(4,u "([D)[D"),(0,u "transposeTimes"),(5,u "replaceRow"),(0,u "(ILcom/example/tracefold/tracefold/mining/SparseVector;)V"),(3,.class_ 219),(0,u "com/example/tracefold/tracefold/mining/FactoredInverse$Lists")] 4

def k4c0:Code:={ maxStack:=4,maxLocals:=2,code:=prog_41_method_1_code,exceptionTable:=#[],attributes:=#[] }
def k4m0:Method:={ name := "<init>",desc := "(I)V",sig:={ parameters:=[.int],returnType:=none },accessFlags:=0,code:=some k4c0 }
def k4c1:Code:={ maxStack:=5,maxLocals:=7,code:=prog_41_method_2_code,exceptionTable:=#[],attributes:=#[] }
def k4m1:Method:={ name := "invert",desc := "([[I[[D)Z",sig:={ parameters:=[(.array (.array .int)),(.array (.array .double))],returnType:=some .boolean },accessFlags:=1,code:=some k4c1 }
def k4c2:Code:={ maxStack:=5,maxLocals:=8,code:=prog_41_method_4_code,exceptionTable:=#[],attributes:=#[] }
def k4m2:Method:={ name := "transpose",desc := "()V",sig:={ parameters:=[],returnType:=none },accessFlags:=2,code:=some k4c2 }
def k4c3:Code:={ maxStack:=8,maxLocals:=10,code:=prog_41_method_6_code,exceptionTable:=#[],attributes:=#[] }
def k4m3:Method:={ name := "transposeTimes",desc := "([D)[D",sig:={ parameters:=[(.array .double)],returnType:=some (.array .double) },accessFlags:=1,code:=some k4c3 }
def k4c4:Code:={ maxStack:=4,maxLocals:=7,code:=prog_41_method_10_code,exceptionTable:=#[],attributes:=#[] }
def k4m4:Method:={ name := "replaceRow",desc := "(ILcom/example/tracefold/tracefold/mining/SparseVector;)V",sig:={ parameters:=[.int,(.object "com/example/tracefold/tracefold/mining/SparseVector")],returnType:=none },accessFlags:=1,code:=some k4c4 }
def k4:Class:={ plain "com/example/tracefold/tracefold/mining/FactoredInverse" (some 0) with
 accessFlags:=48
 interfaces:=#[3]
 cf:=some (fileOf pool4 8 #[.nestMembers #[99,218,109]] #[⟨0,5,85,#[]⟩,⟨1,200,201,#[]⟩,⟨2,124,6,#[]⟩,⟨1,207,206,#[]⟩,⟨1,213,214,#[]⟩] 48 2 #[185] #[⟨26,187,188,#[]⟩,⟨26,190,188,#[]⟩,⟨26,193,53,#[]⟩,⟨26,195,188,#[]⟩,⟨18,52,53,#[]⟩,⟨18,56,12,#[]⟩,⟨18,59,12,#[]⟩,⟨18,62,16,#[]⟩,⟨18,65,12,#[]⟩,⟨18,68,12,#[]⟩,⟨2,11,12,#[]⟩,⟨2,15,16,#[]⟩,⟨2,19,12,#[]⟩,⟨2,22,16,#[]⟩,⟨18,71,12,#[]⟩,⟨18,74,12,#[]⟩,⟨2,25,12,#[]⟩,⟨2,28,16,#[]⟩,⟨2,31,12,#[]⟩,⟨2,34,16,#[]⟩,⟨2,37,12,#[]⟩,⟨2,40,16,#[]⟩,⟨2,43,12,#[]⟩,⟨2,46,12,#[]⟩,⟨2,49,16,#[]⟩,⟨2,108,53,#[]⟩,⟨18,77,12,#[]⟩,⟨18,80,12,#[]⟩,⟨18,88,89,#[]⟩,⟨18,92,89,#[]⟩,⟨18,95,89,#[]⟩,⟨18,98,89,#[]⟩,⟨18,104,105,#[]⟩])
 fields:=#[⟨"PIVOT",.double,26,0,0⟩,⟨"THRESHOLD",.double,26,1,0⟩,⟨"CANDIDATES",.int,26,2,0⟩,⟨"CANCELLED",.double,26,3,0⟩,⟨"n",.int,18,0,0⟩,⟨"pivotRows",(.array .int),18,1,0⟩,⟨"pivotColumns",(.array .int),18,2,0⟩,⟨"pivotValues",(.array .double),18,3,0⟩,⟨"uStarts",(.array .int),18,4,0⟩,⟨"lStarts",(.array .int),18,5,0⟩,⟨"uColumns",(.array .int),2,6,0⟩,⟨"uValues",(.array .double),2,7,0⟩,⟨"lRows",(.array .int),2,8,0⟩,⟨"lValues",(.array .double),2,9,0⟩,⟨"uColumnStarts",(.array .int),18,10,0⟩,⟨"lRowStarts",(.array .int),18,11,0⟩,⟨"uColumnSteps",(.array .int),2,12,0⟩,⟨"uColumnValues",(.array .double),2,13,0⟩,⟨"lRowSteps",(.array .int),2,14,0⟩,⟨"lRowValues",(.array .double),2,15,0⟩,⟨"etaRows",(.array .int),2,16,0⟩,⟨"etaPivots",(.array .double),2,17,0⟩,⟨"etaStarts",(.array .int),2,18,0⟩,⟨"etaPositions",(.array .int),2,19,0⟩,⟨"etaValues",(.array .double),2,20,0⟩,⟨"etaCount",.int,2,21,0⟩,⟨"rowSteps",(.array .int),18,22,0⟩,⟨"columnSteps",(.array .int),18,23,0⟩,⟨"written",(.object "com/example/tracefold/tracefold/mining/SparseVector"),18,24,0⟩,⟨"moved",(.object "com/example/tracefold/tracefold/mining/SparseVector"),18,25,0⟩,⟨"work",(.object "com/example/tracefold/tracefold/mining/SparseVector"),18,26,0⟩,⟨"steps",(.object "com/example/tracefold/tracefold/mining/SparseVector"),18,27,0⟩,⟨"queue",(.object "com/example/tracefold/tracefold/mining/FactoredInverse$StepQueue"),18,28,0⟩]
 methods:=#[k4m0,k4m1,k4m2,k4m3,k4m4]
 instanceTypes:=#[.int,(.array .int),(.array .int),(.array .double),(.array .int),(.array .int),(.array .int),(.array .double),(.array .int),(.array .double),(.array .int),(.array .int),(.array .int),(.array .double),(.array .int),(.array .double),(.array .int),(.array .double),(.array .int),(.array .int),(.array .double),.int,(.array .int),(.array .int),(.object "com/example/tracefold/tracefold/mining/SparseVector"),(.object "com/example/tracefold/tracefold/mining/SparseVector"),(.object "com/example/tracefold/tracefold/mining/SparseVector"),(.object "com/example/tracefold/tracefold/mining/SparseVector"),(.object "com/example/tracefold/tracefold/mining/FactoredInverse$StepQueue")]
 staticTypes:=#[.double,.double,.int,.double]
 resolved:=Array.replicate 224 none
 statics:=none }

def pool5:Array CpInfo:=pool [(1,.methodref 2 3),(0,.class_ 4),(0,.nameAndType 5 6),(0,u "java/lang/Object"),(0,u "<init>"),(0,u "()V"),(0,.fieldref 8 9),(0,.class_ 10),(0,.nameAndType 11 12),(0,u "com/example/tracefold/tracefold/mining/SparseVector"),(0,u "values"),(0,u "[D"),(0,.fieldref 8 14),(0,.nameAndType 15 16),(0,u "listed"),(0,u "[Z"),(0,.fieldref 8 18),(0,.nameAndType 19 20),(0,u "positions"),(0,u "[I"),(4,.class_ 27),(1,u "java/util/Arrays"),(2,.fieldref 8 31),(0,.nameAndType 32 33),(0,u "size"),(0,u "I"),(0,.methodref 25 35),(0,.nameAndType 36 37),(0,u "copyOf"),(0,u "([II)[I"),(2,u "set"),(0,u "(ID)V"),(0,u "(I)V"),(5,u "get"),(0,u "(I)D"),(1,u "()I"),(0,u "position"),(0,u "(I)I")] 5

def k5c0:Code:={ maxStack:=2,maxLocals:=2,code:=prog_74_method_1_code,exceptionTable:=#[],attributes:=#[] }
def k5m0:Method:={ name := "<init>",desc := "(I)V",sig:={ parameters:=[.int],returnType:=none },accessFlags:=0,code:=some k5c0 }
def k5c1:Code:={ maxStack:=2,maxLocals:=2,code:=prog_74_method_4_code,exceptionTable:=#[],attributes:=#[] }
def k5m1:Method:={ name := "get",desc := "(I)D",sig:={ parameters:=[.int],returnType:=some .double },accessFlags:=0,code:=some k5c1 }
def k5c2:Code:={ maxStack:=1,maxLocals:=1,code:=prog_74_method_6_code,exceptionTable:=#[],attributes:=#[] }
def k5m2:Method:={ name := "size",desc := "()I",sig:={ parameters:=[],returnType:=some .int },accessFlags:=0,code:=some k5c2 }
def k5c3:Code:={ maxStack:=2,maxLocals:=2,code:=prog_74_method_7_code,exceptionTable:=#[],attributes:=#[] }
def k5m3:Method:={ name := "position",desc := "(I)I",sig:={ parameters:=[.int],returnType:=some .int },accessFlags:=0,code:=some k5c3 }
def k5c4:Code:={ maxStack:=5,maxLocals:=4,code:=prog_74_method_9_code,exceptionTable:=#[],attributes:=#[] }
def k5m4:Method:={ name := "set",desc := "(ID)V",sig:={ parameters:=[.int,.double],returnType:=none },accessFlags:=0,code:=some k5c4 }
def k5:Class:={ plain "com/example/tracefold/tracefold/mining/SparseVector" (some 0) with
 accessFlags:=48
 interfaces:=#[]
 cf:=some (fileOf pool5 8 #[] #[⟨0,5,42,#[]⟩,⟨0,48,49,#[]⟩,⟨0,32,51,#[]⟩,⟨0,52,53,#[]⟩,⟨0,40,41,#[]⟩] 48 2 #[] #[⟨18,11,12,#[]⟩,⟨18,15,16,#[]⟩,⟨2,19,20,#[]⟩,⟨2,32,33,#[]⟩])
 fields:=#[⟨"values",(.array .double),18,0,0⟩,⟨"listed",(.array .boolean),18,1,0⟩,⟨"positions",(.array .int),2,2,0⟩,⟨"size",.int,2,3,0⟩]
 methods:=#[k5m0,k5m1,k5m2,k5m3,k5m4]
 instanceTypes:=#[(.array .double),(.array .boolean),(.array .int),.int]
 staticTypes:=#[]
 resolved:=Array.replicate 59 none
 statics:=none }

def pool6:Array CpInfo:=pool [(1,.methodref 2 3),(0,.class_ 4),(0,.nameAndType 5 6),(0,u "java/lang/Object"),(0,u "<init>"),(0,u "()V"),(0,.fieldref 8 9),(0,.class_ 10),(0,.nameAndType 11 12),(0,u "com/example/tracefold/tracefold/mining/FactoredInverse$StepQueue"),(0,u "sweep"),(0,u "I"),(0,.fieldref 8 14),(0,.nameAndType 15 12),(0,u "n"),(0,.fieldref 8 17),(0,.nameAndType 18 19),(0,u "heap"),(0,u "[I"),(0,.fieldref 8 21),(0,.nameAndType 22 23),(0,u "queued"),(0,u "[Z"),(2,u "largestFirst"),(0,u "Z"),(2,u "size"),(10,u "SWEEP"),(2,u "(I)V"),(13,.class_ 59),(0,u "com/example/tracefold/tracefold/mining/FactoredInverse")] 2

def k6c0:Code:={ maxStack:=2,maxLocals:=2,code:=prog_44_method_1_code,exceptionTable:=#[],attributes:=#[] }
def k6m0:Method:={ name := "<init>",desc := "(I)V",sig:={ parameters:=[.int],returnType:=none },accessFlags:=0,code:=some k6c0 }
def k6:Class:={ plain "com/example/tracefold/tracefold/mining/FactoredInverse$StepQueue" (some 0) with
 accessFlags:=48
 interfaces:=#[]
 cf:=some (fileOf pool6 8 #[.nestHost 58] #[⟨0,5,44,#[]⟩] 48 2 #[] #[⟨26,41,12,#[]⟩,⟨18,15,12,#[]⟩,⟨18,18,19,#[]⟩,⟨18,22,23,#[]⟩,⟨2,30,12,#[]⟩,⟨2,26,27,#[]⟩,⟨2,11,12,#[]⟩])
 fields:=#[⟨"SWEEP",.int,26,0,0⟩,⟨"n",.int,18,0,0⟩,⟨"heap",(.array .int),18,1,0⟩,⟨"queued",(.array .boolean),18,2,0⟩,⟨"size",.int,2,3,0⟩,⟨"largestFirst",.boolean,2,4,0⟩,⟨"sweep",.int,2,5,0⟩]
 methods:=#[k6m0]
 instanceTypes:=#[.int,(.array .int),(.array .boolean),.int,.boolean,.int]
 staticTypes:=#[.int]
 resolved:=Array.replicate 62 none
 statics:=none }

def pool7:Array CpInfo:=pool [(1,.class_ 2),(0,u "com/example/tracefold/tracefold/mining/FactoredInverse"),(0,.fieldref 4 5),(0,.class_ 6),(0,.nameAndType 7 8),(0,u "com/example/tracefold/tracefold/mining/FactoredInverse$Elimination"),(0,u "this$0"),(0,u "Lcom/example/tracefold/tracefold/mining/FactoredInverse;"),(0,.methodref 10 11),(0,.class_ 12),(0,.nameAndType 13 14),(0,u "java/lang/Object"),(0,u "<init>"),(0,u "()V"),(0,.fieldref 1 16),(0,.nameAndType 17 18),(0,u "n"),(0,u "I"),(0,.class_ 20),(0,u "[I"),(0,.fieldref 4 22),(0,.nameAndType 23 24),(0,u "rowColumns"),(0,u "[[I"),(0,.class_ 26),(0,u "[D"),(0,.fieldref 4 28),(0,.nameAndType 29 30),(0,u "rowValues"),(0,u "[[D"),(0,.fieldref 4 32),(0,.nameAndType 33 20),(0,u "rowLengths"),(0,.fieldref 4 35),(0,.nameAndType 36 20),(0,u "columnLengths"),(0,.methodref 38 39),(0,.class_ 40),(0,.nameAndType 41 42),(0,u "java/lang/Math"),(0,u "max"),(0,u "(II)I"),(0,.methodref 44 45),(0,.class_ 46),(0,.nameAndType 47 48),(0,u "java/util/Arrays"),(0,u "copyOf"),(0,u "([II)[I"),(0,.methodref 44 50),(0,.nameAndType 47 51),(0,u "([DI)[D"),(0,.fieldref 4 53),(0,.nameAndType 54 24),(0,u "columnRows"),(0,.class_ 56),(0,u "com/example/tracefold/tracefold/mining/FactoredInverse$Lists"),(0,.methodref 55 58),(0,.nameAndType 13 59),(0,u "(Lcom/example/tracefold/tracefold/mining/FactoredInverse;[I)V"),(0,.fieldref 4 61),(0,.nameAndType 62 63),(0,u "rowLists"),(0,u "Lcom/example/tracefold/tracefold/mining/FactoredInverse$Lists;"),(0,.fieldref 4 65),(0,.nameAndType 66 63),(0,u "columnLists"),(0,.fieldref 4 68),(0,.nameAndType 69 20),(0,u "positions"),(0,.methodref 44 71),(0,.nameAndType 72 73),(0,u "fill"),(0,u "([II)V"),(0,.long 18446744073709551615),(3,.long 9223372036854775807),(1,.methodref 55 81),(0,.nameAndType 82 83),(0,u "first"),(0,u "(I)I"),(0,.methodref 4 85),(0,.nameAndType 86 42),(0,u "find"),(0,.methodref 4 88),(0,.nameAndType 89 90),(0,u "qualifies"),(0,u "(ID)Z"),(0,.methodref 55 92),(0,.nameAndType 93 83),(0,u "next"),(0,.methodref 38 95),(0,.nameAndType 96 97),(0,u "abs"),(0,u "(D)D"),(0,.double 4472406533629990549),(1,.methodref 38 101),(0,.nameAndType 41 102),(0,u "(DD)D"),(0,.double 4591870180066957722),(1,.methodref 4 106),(0,.nameAndType 107 108),(0,u "removeEntry"),(0,u "(II)V"),(0,.fieldref 1 110),(0,.nameAndType 111 20),(0,u "pivotRows"),(0,.fieldref 1 113),(0,.nameAndType 114 20),(0,u "pivotColumns"),(0,.fieldref 1 116),(0,.nameAndType 117 20),(0,u "rowSteps"),(0,.fieldref 1 119),(0,.nameAndType 120 20),(0,u "columnSteps"),(0,.fieldref 1 122),(0,.nameAndType 123 26),(0,u "pivotValues"),(0,.fieldref 1 125),(0,.nameAndType 126 20),(0,u "uStarts"),(0,.fieldref 4 128),(0,.nameAndType 129 18),(0,u "uCount"),(0,.methodref 4 131),(0,.nameAndType 132 133),(0,u "addU"),(0,u "(ID)V"),(0,.methodref 55 135),(0,.nameAndType 136 137),(0,u "remove"),(0,u "(I)V"),(0,.methodref 4 139),(0,.nameAndType 140 108),(0,u "removeFromColumn"),(0,.methodref 55 142),(0,.nameAndType 143 108),(0,u "move"),(0,.fieldref 1 145),(0,.nameAndType 146 20),(0,u "lStarts"),(0,.fieldref 4 148),(0,.nameAndType 149 18),(0,u "lCount"),(0,.methodref 4 151),(0,.nameAndType 152 133),(0,u "addL"),(0,.methodref 4 154),(0,.nameAndType 155 156),(0,u "subtract"),(0,u "(IID)V"),(6,.double 4397347889687374747),(1,.fieldref 1 166),(0,.nameAndType 167 20),(0,u "uColumns"),(0,.fieldref 1 169),(0,.nameAndType 170 26),(0,u "uValues"),(0,.fieldref 1 172),(0,.nameAndType 173 20),(0,u "lRows"),(0,.fieldref 1 175),(0,.nameAndType 176 26),(0,u "lValues"),(0,u "(Lcom/example/tracefold/tracefold/mining/FactoredInverse;[[I[[D)V"),(6,u "pivot"),(0,u "()J"),(0,u "eliminate"),(0,u "(III)V")] 6

def k7c0:Code:={ maxStack:=6,maxLocals:=10,code:=prog_42_method_1_code,exceptionTable:=#[],attributes:=#[] }
def k7m0:Method:={ name := "<init>",desc := "(Lcom/example/tracefold/tracefold/mining/FactoredInverse;[[I[[D)V",sig:={ parameters:=[(.object "com/example/tracefold/tracefold/mining/FactoredInverse"),(.array (.array .int)),(.array (.array .double))],returnType:=none },accessFlags:=0,code:=some k7c0 }
def k7c1:Code:={ maxStack:=6,maxLocals:=12,code:=prog_42_method_2_code,exceptionTable:=#[],attributes:=#[] }
def k7m1:Method:={ name := "pivot",desc := "()J",sig:={ parameters:=[],returnType:=some .long },accessFlags:=0,code:=some k7c1 }
def k7c2:Code:={ maxStack:=6,maxLocals:=9,code:=prog_42_method_3_code,exceptionTable:=#[],attributes:=#[] }
def k7m2:Method:={ name := "qualifies",desc := "(ID)Z",sig:={ parameters:=[.int,.double],returnType:=some .boolean },accessFlags:=2,code:=some k7c2 }
def k7c3:Code:={ maxStack:=2,maxLocals:=4,code:=prog_42_method_4_code,exceptionTable:=#[],attributes:=#[] }
def k7m3:Method:={ name := "find",desc := "(II)I",sig:={ parameters:=[.int,.int],returnType:=some .int },accessFlags:=2,code:=some k7c3 }
def k7c4:Code:={ maxStack:=5,maxLocals:=12,code:=prog_42_method_5_code,exceptionTable:=#[],attributes:=#[] }
def k7m4:Method:={ name := "eliminate",desc := "(III)V",sig:={ parameters:=[.int,.int,.int],returnType:=none },accessFlags:=0,code:=some k7c4 }
def k7c5:Code:={ maxStack:=8,maxLocals:=15,code:=prog_42_method_6_code,exceptionTable:=#[],attributes:=#[] }
def k7m5:Method:={ name := "subtract",desc := "(IID)V",sig:={ parameters:=[.int,.int,.double],returnType:=none },accessFlags:=2,code:=some k7c5 }
def k7c6:Code:={ maxStack:=4,maxLocals:=4,code:=prog_42_method_7_code,exceptionTable:=#[],attributes:=#[] }
def k7m6:Method:={ name := "removeEntry",desc := "(II)V",sig:={ parameters:=[.int,.int],returnType:=none },accessFlags:=2,code:=some k7c6 }
def k7c7:Code:={ maxStack:=7,maxLocals:=4,code:=prog_42_method_9_code,exceptionTable:=#[],attributes:=#[] }
def k7m7:Method:={ name := "removeFromColumn",desc := "(II)V",sig:={ parameters:=[.int,.int],returnType:=none },accessFlags:=2,code:=some k7c7 }
def k7c8:Code:={ maxStack:=5,maxLocals:=4,code:=prog_42_method_11_code,exceptionTable:=#[],attributes:=#[] }
def k7m8:Method:={ name := "addU",desc := "(ID)V",sig:={ parameters:=[.int,.double],returnType:=none },accessFlags:=2,code:=some k7c8 }
def k7c9:Code:={ maxStack:=5,maxLocals:=4,code:=prog_42_method_12_code,exceptionTable:=#[],attributes:=#[] }
def k7m9:Method:={ name := "addL",desc := "(ID)V",sig:={ parameters:=[.int,.double],returnType:=none },accessFlags:=2,code:=some k7c9 }
def k7:Class:={ plain "com/example/tracefold/tracefold/mining/FactoredInverse$Elimination" (some 0) with
 accessFlags:=48
 interfaces:=#[]
 cf:=some (fileOf pool7 4 #[.nestHost 1] #[⟨0,13,177,#[]⟩,⟨0,184,185,#[]⟩,⟨2,89,90,#[]⟩,⟨2,86,42,#[]⟩,⟨0,186,187,#[]⟩,⟨2,155,156,#[]⟩,⟨2,107,108,#[]⟩,⟨2,140,108,#[]⟩,⟨2,132,133,#[]⟩,⟨2,152,133,#[]⟩] 48 10 #[] #[⟨18,23,24,#[]⟩,⟨18,29,30,#[]⟩,⟨18,33,20,#[]⟩,⟨18,54,24,#[]⟩,⟨18,36,20,#[]⟩,⟨18,62,63,#[]⟩,⟨18,66,63,#[]⟩,⟨18,69,20,#[]⟩,⟨2,129,18,#[]⟩,⟨2,149,18,#[]⟩,⟨4112,7,8,#[]⟩])
 fields:=#[⟨"rowColumns",(.array (.array .int)),18,0,0⟩,⟨"rowValues",(.array (.array .double)),18,1,0⟩,⟨"rowLengths",(.array .int),18,2,0⟩,⟨"columnRows",(.array (.array .int)),18,3,0⟩,⟨"columnLengths",(.array .int),18,4,0⟩,⟨"rowLists",(.object "com/example/tracefold/tracefold/mining/FactoredInverse$Lists"),18,5,0⟩,⟨"columnLists",(.object "com/example/tracefold/tracefold/mining/FactoredInverse$Lists"),18,6,0⟩,⟨"positions",(.array .int),18,7,0⟩,⟨"uCount",.int,2,8,0⟩,⟨"lCount",.int,2,9,0⟩,⟨"this$0",(.object "com/example/tracefold/tracefold/mining/FactoredInverse"),4112,10,0⟩]
 methods:=#[k7m0,k7m1,k7m2,k7m3,k7m4,k7m5,k7m6,k7m7,k7m8,k7m9]
 instanceTypes:=#[(.array (.array .int)),(.array (.array .double)),(.array .int),(.array (.array .int)),(.array .int),(.object "com/example/tracefold/tracefold/mining/FactoredInverse$Lists"),(.object "com/example/tracefold/tracefold/mining/FactoredInverse$Lists"),(.array .int),.int,.int,(.object "com/example/tracefold/tracefold/mining/FactoredInverse")]
 staticTypes:=#[]
 resolved:=Array.replicate 194 none
 statics:=none }

def pool8:Array CpInfo:=pool [(2,.class_ 4),(1,u "java/lang/Object"),(0,u "<init>"),(0,u "()V"),(7,.class_ 16),(1,u "java/util/Arrays"),(57,.class_ 76),(1,u "java/util/Arrays$NaturalOrder"),(32,u "()Ljava/lang/Object;"),(3,.class_ 115),(1,u "java/util/Arrays$LegacyMergeSort"),(1,u "Z"),(10,.nameAndType 129 109),(0,u "clone"),(20,.methodref 151 152),(0,.class_ 153),(0,.nameAndType 154 155),(0,u "java/lang/System"),(0,u "arraycopy"),(0,u "(Ljava/lang/Object;ILjava/lang/Object;II)V"),(146,u "copyOf"),(1,.methodref 305 306),(0,.class_ 307),(0,.nameAndType 308 309),(0,u "java/lang/Math"),(0,u "min"),(0,u "(II)I"),(6,.methodref 317 128),(0,.class_ 318),(0,u "[I"),(9,.methodref 329 128),(0,.class_ 330),(0,u "[D"),(44,.class_ 376),(0,u "java/util/Arrays$ArrayList"),(68,u "$assertionsDisabled"),(269,u "MIN_ARRAY_SORT_GRAN"),(0,u "I"),(2,u "INSERTIONSORT_THRESHOLD"),(120,u "fill"),(4,u "([II)V"),(25,u "([II)[I"),(3,u "([DI)[D"),(99,.class_ 976),(0,u "java/util/Arrays$ArrayItr")] 52

def k8m0:Method:={ name := "<init>",desc := "()V",sig:={ parameters:=[],returnType:=none },accessFlags:=2,code:=none }
def k8c1:Code:={ maxStack:=3,maxLocals:=4,code:=jdk_65_method_103_code,exceptionTable:=#[],attributes:=#[] }
def k8m1:Method:={ name := "fill",desc := "([II)V",sig:={ parameters:=[(.array .int),.int],returnType:=none },accessFlags:=9,code:=some k8c1 }
def k8c2:Code:={ maxStack:=6,maxLocals:=3,code:=jdk_65_method_123_code,exceptionTable:=#[],attributes:=#[] }
def k8m2:Method:={ name := "copyOf",desc := "([II)[I",sig:={ parameters:=[(.array .int),.int],returnType:=some (.array .int) },accessFlags:=9,code:=some k8c2 }
def k8c3:Code:={ maxStack:=6,maxLocals:=3,code:=jdk_65_method_127_code,exceptionTable:=#[],attributes:=#[] }
def k8m3:Method:={ name := "copyOf",desc := "([DI)[D",sig:={ parameters:=[(.array .double),.int],returnType:=some (.array .double) },accessFlags:=9,code:=some k8c3 }
def k8:Class:={ plain "java/util/Arrays" (some 0) with
 accessFlags:=49
 interfaces:=#[]
 cf:=some (fileOf pool8 14 #[.nestMembers #[975,375,113,74]] #[⟨2,5,6,#[]⟩,⟨9,840,845,#[]⟩,⟨9,302,871,#[]⟩,⟨9,302,875,#[]⟩] 49 2 #[] #[⟨26,715,716,#[]⟩,⟨26,719,716,#[]⟩,⟨4120,445,117,#[]⟩])
 fields:=#[⟨"MIN_ARRAY_SORT_GRAN",.int,26,0,0⟩,⟨"INSERTIONSORT_THRESHOLD",.int,26,1,0⟩,⟨"$assertionsDisabled",.boolean,4120,2,0⟩]
 methods:=#[k8m0,k8m1,k8m2,k8m3]
 instanceTypes:=#[]
 staticTypes:=#[.int,.int,.boolean]
 resolved:=Array.replicate 1029 none
 statics:=none }

def pool9:Array CpInfo:=pool [(1,.class_ 2),(0,u "java/lang/Cloneable"),(0,.class_ 4),(0,u "java/lang/Object")] 2

def k9:Class:={ plain "java/lang/Cloneable" (some 0) with
 accessFlags:=1537
 interfaces:=#[]
 cf:=some (fileOf pool9 1 #[] #[] 1537 3 #[] #[])
 fields:=#[]
 methods:=#[]
 instanceTypes:=#[]
 staticTypes:=#[]
 resolved:=Array.replicate 7 none
 statics:=none }

def pool10:Array CpInfo:=pool [(1,.methodref 2 3),(0,.class_ 4),(0,.nameAndType 5 6),(0,u "java/lang/Object"),(0,u "<init>"),(0,u "()V"),(0,.fieldref 8 9),(0,.class_ 10),(0,.nameAndType 11 12),(0,u "com/example/tracefold/tracefold/mining/FactoredInverse"),(0,u "n"),(0,u "I"),(0,.fieldref 14 15),(0,.class_ 16),(0,.nameAndType 17 18),(0,u "com/example/tracefold/tracefold/mining/FactoredInverse$Lists"),(0,u "first"),(0,u "[I"),(0,.fieldref 14 20),(0,.nameAndType 21 18),(0,u "next"),(0,.fieldref 14 23),(0,.nameAndType 24 18),(0,u "previous"),(0,.fieldref 14 26),(0,.nameAndType 27 18),(0,u "listed"),(0,.methodref 29 30),(0,.class_ 31),(0,.nameAndType 32 33),(0,u "java/util/Arrays"),(0,u "fill"),(0,u "([II)V"),(0,.methodref 14 35),(0,.nameAndType 36 37),(0,u "add"),(0,u "(II)V"),(0,.methodref 14 39),(0,.nameAndType 40 41),(0,u "remove"),(0,u "(I)V"),(0,u "(Lcom/example/tracefold/tracefold/mining/FactoredInverse;[I)V"),(5,u "(I)I"),(0,u "move")] 5

def k10c0:Code:={ maxStack:=4,maxLocals:=4,code:=prog_43_method_1_code,exceptionTable:=#[],attributes:=#[] }
def k10m0:Method:={ name := "<init>",desc := "(Lcom/example/tracefold/tracefold/mining/FactoredInverse;[I)V",sig:={ parameters:=[(.object "com/example/tracefold/tracefold/mining/FactoredInverse"),(.array .int)],returnType:=none },accessFlags:=0,code:=some k10c0 }
def k10c1:Code:={ maxStack:=2,maxLocals:=2,code:=prog_43_method_2_code,exceptionTable:=#[],attributes:=#[] }
def k10m1:Method:={ name := "first",desc := "(I)I",sig:={ parameters:=[.int],returnType:=some .int },accessFlags:=0,code:=some k10c1 }
def k10c2:Code:={ maxStack:=2,maxLocals:=2,code:=prog_43_method_3_code,exceptionTable:=#[],attributes:=#[] }
def k10m2:Method:={ name := "next",desc := "(I)I",sig:={ parameters:=[.int],returnType:=some .int },accessFlags:=0,code:=some k10c2 }
def k10c3:Code:={ maxStack:=4,maxLocals:=3,code:=prog_43_method_4_code,exceptionTable:=#[],attributes:=#[] }
def k10m3:Method:={ name := "add",desc := "(II)V",sig:={ parameters:=[.int,.int],returnType:=none },accessFlags:=2,code:=some k10c3 }
def k10c4:Code:={ maxStack:=4,maxLocals:=2,code:=prog_43_method_5_code,exceptionTable:=#[],attributes:=#[] }
def k10m4:Method:={ name := "remove",desc := "(I)V",sig:={ parameters:=[.int],returnType:=none },accessFlags:=0,code:=some k10c4 }
def k10c5:Code:={ maxStack:=3,maxLocals:=3,code:=prog_43_method_6_code,exceptionTable:=#[],attributes:=#[] }
def k10m5:Method:={ name := "move",desc := "(II)V",sig:={ parameters:=[.int,.int],returnType:=none },accessFlags:=0,code:=some k10c5 }
def k10:Class:={ plain "com/example/tracefold/tracefold/mining/FactoredInverse$Lists" (some 0) with
 accessFlags:=48
 interfaces:=#[]
 cf:=some (fileOf pool10 14 #[.nestHost 8] #[⟨0,5,42,#[]⟩,⟨0,17,48,#[]⟩,⟨0,21,48,#[]⟩,⟨2,36,37,#[]⟩,⟨0,40,41,#[]⟩,⟨0,49,37,#[]⟩] 48 2 #[] #[⟨18,17,18,#[]⟩,⟨18,21,18,#[]⟩,⟨18,24,18,#[]⟩,⟨18,27,18,#[]⟩])
 fields:=#[⟨"first",(.array .int),18,0,0⟩,⟨"next",(.array .int),18,1,0⟩,⟨"previous",(.array .int),18,2,0⟩,⟨"listed",(.array .int),18,3,0⟩]
 methods:=#[k10m0,k10m1,k10m2,k10m3,k10m4,k10m5]
 instanceTypes:=#[(.array .int),(.array .int),(.array .int),(.array .int)]
 staticTypes:=#[]
 resolved:=Array.replicate 55 none
 statics:=none }

def pool11:Array CpInfo:=pool [(2,.class_ 4),(1,u "java/lang/Object"),(0,u "<init>"),(0,u "()V"),(1,.class_ 10),(1,u "java/lang/System"),(0,u "allowSecurityManager"),(0,u "I"),(16,u "cons"),(0,u "Ljava/io/Console;"),(77,.class_ 110),(1,u "java/lang/System$CallersHolder"),(43,u "initialErrStream"),(0,u "Ljava/io/PrintStream;"),(19,u "security"),(0,u "Ljava/lang/SecurityManager;"),(31,.class_ 209),(0,u "java/lang/System$1"),(7,u "props"),(0,u "Ljava/util/Properties;"),(2,u "lineSeparator"),(0,u "Ljava/lang/String;"),(96,.class_ 321),(1,u "java/lang/System$LoggerFinder"),(5,.class_ 328),(0,u "java/lang/System$Logger"),(67,u "err"),(2,u "out"),(91,u "notSupportedJnuEncoding"),(15,u "in"),(17,u "initialIn"),(0,u "Ljava/io/InputStream;"),(35,u "bootLayer"),(0,u "Ljava/lang/ModuleLayer;"),(99,.class_ 664),(0,u "java/lang/System$2"),(9,u "NEVER"),(2,u "MAYBE"),(49,u "arraycopy"),(0,u "(Ljava/lang/Object;ILjava/lang/Object;II)V"),(72,.class_ 802),(0,u "java/lang/System$Logger$Level")] 31

def k11m0:Method:={ name := "<init>",desc := "()V",sig:={ parameters:=[],returnType:=none },accessFlags:=2,code:=none }
def k11m1:Method:={ name := "arraycopy",desc := "(Ljava/lang/Object;ILjava/lang/Object;II)V",sig:={ parameters:=[(.object "java/lang/Object"),.int,(.object "java/lang/Object"),.int,.int],returnType:=none },accessFlags:=265,code:=none }
def k11:Class:={ plain "java/lang/System" (some 0) with
 accessFlags:=49
 interfaces:=#[]
 cf:=some (fileOf pool11 8 #[.nestMembers #[319,327,801,108,663,208]] #[⟨2,5,6,#[]⟩,⟨265,727,728,#[]⟩] 49 2 #[] #[⟨25,507,526,#[]⟩,⟨25,399,155,#[]⟩,⟨25,396,155,#[]⟩,⟨10,525,526,#[]⟩,⟨26,674,12,#[]⟩,⟨26,677,12,#[]⟩,⟨10,11,12,#[]⟩,⟨74,175,176,#[]⟩,⟨10,491,222,#[]⟩,⟨74,29,30,#[]⟩,⟨74,154,155,#[]⟩,⟨10,217,218,#[]⟩,⟨10,221,222,#[]⟩,⟨8,562,563,#[]⟩])
 fields:=#[⟨"in",(.object "java/io/InputStream"),25,0,0⟩,⟨"out",(.object "java/io/PrintStream"),25,1,0⟩,⟨"err",(.object "java/io/PrintStream"),25,2,0⟩,⟨"initialIn",(.object "java/io/InputStream"),10,3,0⟩,⟨"NEVER",.int,26,4,0⟩,⟨"MAYBE",.int,26,5,0⟩,⟨"allowSecurityManager",.int,10,6,0⟩,⟨"security",(.object "java/lang/SecurityManager"),74,7,0⟩,⟨"notSupportedJnuEncoding",(.object "java/lang/String"),10,8,0⟩,⟨"cons",(.object "java/io/Console"),74,9,0⟩,⟨"initialErrStream",(.object "java/io/PrintStream"),74,10,0⟩,⟨"props",(.object "java/util/Properties"),10,11,0⟩,⟨"lineSeparator",(.object "java/lang/String"),10,12,0⟩,⟨"bootLayer",(.object "java/lang/ModuleLayer"),8,13,0⟩]
 methods:=#[k11m0,k11m1]
 instanceTypes:=#[]
 staticTypes:=#[(.object "java/io/InputStream"),(.object "java/io/PrintStream"),(.object "java/io/PrintStream"),(.object "java/io/InputStream"),.int,.int,.int,(.object "java/lang/SecurityManager"),(.object "java/lang/String"),(.object "java/io/Console"),(.object "java/io/PrintStream"),(.object "java/util/Properties"),(.object "java/lang/String"),(.object "java/lang/ModuleLayer")]
 resolved:=Array.replicate 834 none
 statics:=none }

def pool12:Array CpInfo:=pool [(1,u "java/io/Serializable"),(0,.class_ 1),(0,u "java/lang/Object"),(0,.class_ 3)] 3

def k12:Class:={ plain "java/io/Serializable" (some 0) with
 accessFlags:=1537
 interfaces:=#[]
 cf:=some (fileOf pool12 2 #[] #[] 1537 4 #[] #[])
 fields:=#[]
 methods:=#[]
 instanceTypes:=#[]
 staticTypes:=#[]
 resolved:=Array.replicate 8 none
 statics:=none }

def k13:Class:={ plain "boolean" none with kind := .primitive 'Z',accessFlags:=0x411 }
def k14:Class:={ plain "[Z" (some 0) with kind := .array 13 .boolean,interfaces:=#[9,12],accessFlags:=1041 }

def k15:Class:={ plain "byte" none with kind := .primitive 'B',accessFlags:=0x411 }
def k16:Class:={ plain "[B" (some 0) with kind := .array 15 .byte,interfaces:=#[9,12],accessFlags:=1041 }

def k17:Class:={ plain "double" none with kind := .primitive 'D',accessFlags:=0x411 }
def k18:Class:={ plain "[D" (some 0) with kind := .array 17 .double,interfaces:=#[9,12],accessFlags:=1041 }

def k19:Class:={ plain "int" none with kind := .primitive 'I',accessFlags:=0x411 }
def k20:Class:={ plain "[I" (some 0) with kind := .array 19 .int,interfaces:=#[9,12],accessFlags:=1041 }

def k21:Class:={ plain "[[D" (some 0) with kind := .array 18 (.array .double),interfaces:=#[9,12],accessFlags:=1041 }

def k22:Class:={ plain "[[I" (some 0) with kind := .array 20 (.array .int),interfaces:=#[9,12],accessFlags:=1041 }

def heap:Heap:=#[]
def classes:Array Class:=#[k0,k1,k2,k3,k4,k5,k6,k7,k8,k9,k10,k11,k12,k13,k14,k15,k16,k17,k18,k19,k20,k21,k22]
def interned:List (Array UInt16×Addr):=[]
def slotsUsed:Nat:=0
def theMethod:MethodId:=⟨1,1⟩
def args0:Array Value:=#[.int 5,.int 3,.int 4,.int 7,.int 9,.int 6]
def aboutOver (below:List Frame):State where
 vm:={ classes:=classes,interned:=interned.toArray }
 heap:=heap
 slotsUsed:=slotsUsed
 threads:=#[{ frames := .invoking theMethod args0::below }]
def below0:List Frame:=[.native { method:=⟨0,0⟩,args:=#[] }]
def about1:State:=aboutOver below0
def p0:Program := .bare "" "" ""
def e0:Env:=launch0.env 0 0 0
theorem w_frames:about1.frames=Frame.invoking theMethod args0::below0:=rfl
set_option maxRecDepth 65536 in
theorem w_args:argsFit about1.vm theMethod args0=true:=by decide +kernel
set_option maxRecDepth 65536 in
theorem w_heap:heapFits about1=true:=by decide +kernel
set_option maxRecDepth 65536 in
theorem w_runnable:about1.curStatus? = some .runnable:=by decide +kernel
set_option maxRecDepth 65536 in
theorem w_alone:about1.alone=true:=by decide +kernel
set_option maxRecDepth 65536 in
theorem w_named:about1.methodNamed? x=some theMethod:=by decide +kernel
set_option maxRecDepth 65536 in
theorem w_hears:about1.hears theMethod below0=true:=by decide +kernel
set_option maxRecDepth 65536 in
theorem w_ripe:about1.ripe theMethod args0 below0=true:=by decide +kernel
theorem w_running:about1.status = .running:=rfl
set_option maxRecDepth 65536 in
theorem w_room:about1.hasRoom e0.platform room_1=true :=
 launch0.hasRoom_least _ room_1 (by decide +kernel) (by decide +kernel) (by decide +kernel) (by decide +kernel) (by decide +kernel) (by decide +kernel)
theorem allAtoms_all (ts:List Jvm.Cond)(a:Array Jvm.Value)(st:Jvm.State):(allAtoms ts).before a st=ts.all (fun c=>c.before a st):=by
 induction ts with
 | nil=>rfl
 | cons c t ih =>
  show (Jvm.Cond.and c (allAtoms t)).before a st=_
  rw[Jvm.Cond.before_and,ih,List.all_cons]
def words1:List Jvm.Cond:=Jvm.Cond.code x code maxLocals ret::tables_1
theorem code_word {y:MethodName}{bytes:ByteArray}{mx:Nat}{rt:Option FieldType}{a:Array Value}{s:State}{m:MethodId}{meth:Method}{c:Code}(h1:s.methodNamed? y=some m)(h2:s.vm.method? m=some meth)(h3:meth.code=some c)(h4:c.code=bytes)
  (h5:(c.maxLocals==mx&&c.exceptionTable.isEmpty&&decide (c.maxStack≤mostOperands)&&decide (meth.sig.returnType=rt)&&!meth.locks&&decide (parseMethodDescriptor y.desc=some meth.sig))=true):(Jvm.Cond.code y bytes mx rt).before a s=true:=by
 simp only[Bool.and_eq_true,beq_iff_eq,Bool.not_eq_true',decide_eq_true_eq] at h5
 obtain⟨⟨⟨⟨⟨g1,g2⟩,g3⟩,g4⟩,g5⟩,g6⟩:=h5
 simp [Cond.before,Cond.holds,Cond.value,h1,h2,h3,h4,g1,g2,g3,g4,g5,g6]
def isCode:Jvm.Cond→Bool
 | .code _ _ _ _=>true
 | _=>false
theorem all_split {L:List Jvm.Cond}{P:Jvm.Cond→Bool}(h1:L.all (fun c=>isCode c||P c)=true)(h2:∀c∈L.filter isCode,P c=true):L.all P=true:=by
 refine List.all_eq_true.mpr fun c hc=>?_
 have h:=List.all_eq_true.mp h1 c hc
 rcases Bool.eq_false_or_eq_true (isCode c) with hi|hi
 ·exact h2 c (List.mem_filter.mpr ⟨hc,hi⟩)
 ·simpa [hi] using h
set_option maxRecDepth 65536 in
theorem w_c0:(Jvm.Cond.code x code maxLocals ret).before args0 about1=true:=code_word (m:=⟨1,1⟩) (meth:=k1m1) (c:=k1c1) (by decide +kernel) rfl rfl rfl (by decide +kernel)
set_option maxRecDepth 65536 in
theorem w_c1:(Jvm.Cond.code ⟨"java/lang/Math","min","(II)I"⟩ jdk_29_method_69_code (2:Nat) (Option.some .int)).before args0 about1=true:=code_word (m:=⟨2,4⟩) (meth:=k2m4) (c:=k2c4) (by decide +kernel) rfl rfl rfl (by decide +kernel)
set_option maxRecDepth 65536 in
theorem w_c2:(Jvm.Cond.code ⟨"com/example/tracefold/tracefold/mining/FactoredInverseTransposeTimesPinLaw","cols","(IIZ)[I"⟩ method_3_code (3:Nat) (Option.some (.array .int))).before args0 about1=true:=code_word (m:=⟨1,2⟩) (meth:=k1m2) (c:=k1c2) (by decide +kernel) rfl rfl rfl (by decide +kernel)
set_option maxRecDepth 65536 in
theorem w_c3:(Jvm.Cond.code ⟨"com/example/tracefold/tracefold/mining/FactoredInverseTransposeTimesPinLaw","vals","(IIZ)[D"⟩ method_4_code (3:Nat) (Option.some (.array .double))).before args0 about1=true:=code_word (m:=⟨1,3⟩) (meth:=k1m3) (c:=k1c3) (by decide +kernel) rfl rfl rfl (by decide +kernel)
set_option maxRecDepth 65536 in
theorem w_c4:(Jvm.Cond.code ⟨"com/example/tracefold/tracefold/mining/FactoredInverse","<init>","(I)V"⟩ prog_41_method_1_code (2:Nat) (Option.none:Option Jvm.ClassFile.FieldType)).before args0 about1=true:=code_word (m:=⟨4,0⟩) (meth:=k4m0) (c:=k4c0) (by decide +kernel) rfl rfl rfl (by decide +kernel)
set_option maxRecDepth 65536 in
theorem w_c5:(Jvm.Cond.code ⟨"java/lang/Object","<init>","()V"⟩ object_method_1_code (1:Nat) (Option.none:Option Jvm.ClassFile.FieldType)).before args0 about1=true:=code_word (m:=⟨0,0⟩) (meth:=k0m0) (c:=k0c0) (by decide +kernel) rfl rfl rfl (by decide +kernel)
set_option maxRecDepth 65536 in
theorem w_c6:(Jvm.Cond.code ⟨"com/example/tracefold/tracefold/mining/SparseVector","<init>","(I)V"⟩ prog_74_method_1_code (2:Nat) (Option.none:Option Jvm.ClassFile.FieldType)).before args0 about1=true:=code_word (m:=⟨5,0⟩) (meth:=k5m0) (c:=k5c0) (by decide +kernel) rfl rfl rfl (by decide +kernel)
set_option maxRecDepth 65536 in
theorem w_c7:(Jvm.Cond.code ⟨"com/example/tracefold/tracefold/mining/FactoredInverse$StepQueue","<init>","(I)V"⟩ prog_44_method_1_code (2:Nat) (Option.none:Option Jvm.ClassFile.FieldType)).before args0 about1=true:=code_word (m:=⟨6,0⟩) (meth:=k6m0) (c:=k6c0) (by decide +kernel) rfl rfl rfl (by decide +kernel)
set_option maxRecDepth 65536 in
theorem w_c8:(Jvm.Cond.code ⟨"com/example/tracefold/tracefold/mining/FactoredInverse","invert","([[I[[D)Z"⟩ prog_41_method_2_code (7:Nat) (Option.some .boolean)).before args0 about1=true:=code_word (m:=⟨4,1⟩) (meth:=k4m1) (c:=k4c1) (by decide +kernel) rfl rfl rfl (by decide +kernel)
set_option maxRecDepth 65536 in
theorem w_c9:(Jvm.Cond.code ⟨"com/example/tracefold/tracefold/mining/FactoredInverse$Elimination","<init>","(Lcom/example/tracefold/tracefold/mining/FactoredInverse;[[I[[D)V"⟩ prog_42_method_1_code (10:Nat) (Option.none:Option Jvm.ClassFile.FieldType)).before args0 about1=true:=code_word (m:=⟨7,0⟩) (meth:=k7m0) (c:=k7c0) (by decide +kernel) rfl rfl rfl (by decide +kernel)
set_option maxRecDepth 65536 in
theorem w_c10:(Jvm.Cond.code ⟨"java/lang/Math","max","(II)I"⟩ jdk_29_method_65_code (2:Nat) (Option.some .int)).before args0 about1=true:=code_word (m:=⟨2,2⟩) (meth:=k2m2) (c:=k2c2) (by decide +kernel) rfl rfl rfl (by decide +kernel)
set_option maxRecDepth 65536 in
theorem w_c11:(Jvm.Cond.code ⟨"java/util/Arrays","copyOf","([II)[I"⟩ jdk_65_method_123_code (3:Nat) (Option.some (.array .int))).before args0 about1=true:=code_word (m:=⟨8,2⟩) (meth:=k8m2) (c:=k8c2) (by decide +kernel) rfl rfl rfl (by decide +kernel)
set_option maxRecDepth 65536 in
theorem w_c12:(Jvm.Cond.code ⟨"java/util/Arrays","copyOf","([DI)[D"⟩ jdk_65_method_127_code (3:Nat) (Option.some (.array .double))).before args0 about1=true:=code_word (m:=⟨8,3⟩) (meth:=k8m3) (c:=k8c3) (by decide +kernel) rfl rfl rfl (by decide +kernel)
set_option maxRecDepth 65536 in
theorem w_c13:(Jvm.Cond.code ⟨"com/example/tracefold/tracefold/mining/FactoredInverse$Lists","<init>","(Lcom/example/tracefold/tracefold/mining/FactoredInverse;[I)V"⟩ prog_43_method_1_code (4:Nat) (Option.none:Option Jvm.ClassFile.FieldType)).before args0 about1=true:=code_word (m:=⟨10,0⟩) (meth:=k10m0) (c:=k10c0) (by decide +kernel) rfl rfl rfl (by decide +kernel)
set_option maxRecDepth 65536 in
theorem w_c14:(Jvm.Cond.code ⟨"java/util/Arrays","fill","([II)V"⟩ jdk_65_method_103_code (4:Nat) (Option.none:Option Jvm.ClassFile.FieldType)).before args0 about1=true:=code_word (m:=⟨8,1⟩) (meth:=k8m1) (c:=k8c1) (by decide +kernel) rfl rfl rfl (by decide +kernel)
set_option maxRecDepth 65536 in
theorem w_c15:(Jvm.Cond.code ⟨"com/example/tracefold/tracefold/mining/FactoredInverse$Lists","add","(II)V"⟩ prog_43_method_4_code (3:Nat) (Option.none:Option Jvm.ClassFile.FieldType)).before args0 about1=true:=code_word (m:=⟨10,3⟩) (meth:=k10m3) (c:=k10c3) (by decide +kernel) rfl rfl rfl (by decide +kernel)
set_option maxRecDepth 65536 in
theorem w_c16:(Jvm.Cond.code ⟨"com/example/tracefold/tracefold/mining/FactoredInverse$Elimination","pivot","()J"⟩ prog_42_method_2_code (12:Nat) (Option.some .long)).before args0 about1=true:=code_word (m:=⟨7,1⟩) (meth:=k7m1) (c:=k7c1) (by decide +kernel) rfl rfl rfl (by decide +kernel)
set_option maxRecDepth 65536 in
theorem w_c17:(Jvm.Cond.code ⟨"com/example/tracefold/tracefold/mining/FactoredInverse$Lists","first","(I)I"⟩ prog_43_method_2_code (2:Nat) (Option.some .int)).before args0 about1=true:=code_word (m:=⟨10,1⟩) (meth:=k10m1) (c:=k10c1) (by decide +kernel) rfl rfl rfl (by decide +kernel)
set_option maxRecDepth 65536 in
theorem w_c18:(Jvm.Cond.code ⟨"com/example/tracefold/tracefold/mining/FactoredInverse$Elimination","find","(II)I"⟩ prog_42_method_4_code (4:Nat) (Option.some .int)).before args0 about1=true:=code_word (m:=⟨7,3⟩) (meth:=k7m3) (c:=k7c3) (by decide +kernel) rfl rfl rfl (by decide +kernel)
set_option maxRecDepth 65536 in
theorem w_c19:(Jvm.Cond.code ⟨"com/example/tracefold/tracefold/mining/FactoredInverse$Elimination","qualifies","(ID)Z"⟩ prog_42_method_3_code (9:Nat) (Option.some .boolean)).before args0 about1=true:=code_word (m:=⟨7,2⟩) (meth:=k7m2) (c:=k7c2) (by decide +kernel) rfl rfl rfl (by decide +kernel)
set_option maxRecDepth 65536 in
theorem w_c20:(Jvm.Cond.code ⟨"java/lang/Math","abs","(D)D"⟩ jdk_29_method_64_code (2:Nat) (Option.some .double)).before args0 about1=true:=code_word (m:=⟨2,1⟩) (meth:=k2m1) (c:=k2c1) (by decide +kernel) rfl rfl rfl (by decide +kernel)
set_option maxRecDepth 65536 in
theorem w_c21:(Jvm.Cond.code ⟨"java/lang/Math","max","(DD)D"⟩ jdk_29_method_68_code (4:Nat) (Option.some .double)).before args0 about1=true:=code_word (m:=⟨2,3⟩) (meth:=k2m3) (c:=k2c3) (by decide +kernel) rfl rfl rfl (by decide +kernel)
set_option maxRecDepth 65536 in
theorem w_c22:(Jvm.Cond.code ⟨"com/example/tracefold/tracefold/mining/FactoredInverse$Lists","next","(I)I"⟩ prog_43_method_3_code (2:Nat) (Option.some .int)).before args0 about1=true:=code_word (m:=⟨10,2⟩) (meth:=k10m2) (c:=k10c2) (by decide +kernel) rfl rfl rfl (by decide +kernel)
set_option maxRecDepth 65536 in
theorem w_c23:(Jvm.Cond.code ⟨"com/example/tracefold/tracefold/mining/FactoredInverse$Elimination","eliminate","(III)V"⟩ prog_42_method_5_code (12:Nat) (Option.none:Option Jvm.ClassFile.FieldType)).before args0 about1=true:=code_word (m:=⟨7,4⟩) (meth:=k7m4) (c:=k7c4) (by decide +kernel) rfl rfl rfl (by decide +kernel)
set_option maxRecDepth 65536 in
theorem w_c24:(Jvm.Cond.code ⟨"com/example/tracefold/tracefold/mining/FactoredInverse$Elimination","removeEntry","(II)V"⟩ prog_42_method_7_code (4:Nat) (Option.none:Option Jvm.ClassFile.FieldType)).before args0 about1=true:=code_word (m:=⟨7,6⟩) (meth:=k7m6) (c:=k7c6) (by decide +kernel) rfl rfl rfl (by decide +kernel)
set_option maxRecDepth 65536 in
theorem w_c25:(Jvm.Cond.code ⟨"com/example/tracefold/tracefold/mining/FactoredInverse$Elimination","addU","(ID)V"⟩ prog_42_method_11_code (4:Nat) (Option.none:Option Jvm.ClassFile.FieldType)).before args0 about1=true:=code_word (m:=⟨7,8⟩) (meth:=k7m8) (c:=k7c8) (by decide +kernel) rfl rfl rfl (by decide +kernel)
set_option maxRecDepth 65536 in
theorem w_c26:(Jvm.Cond.code ⟨"com/example/tracefold/tracefold/mining/FactoredInverse$Lists","remove","(I)V"⟩ prog_43_method_5_code (2:Nat) (Option.none:Option Jvm.ClassFile.FieldType)).before args0 about1=true:=code_word (m:=⟨10,4⟩) (meth:=k10m4) (c:=k10c4) (by decide +kernel) rfl rfl rfl (by decide +kernel)
set_option maxRecDepth 65536 in
theorem w_c27:(Jvm.Cond.code ⟨"com/example/tracefold/tracefold/mining/FactoredInverse$Elimination","removeFromColumn","(II)V"⟩ prog_42_method_9_code (4:Nat) (Option.none:Option Jvm.ClassFile.FieldType)).before args0 about1=true:=code_word (m:=⟨7,7⟩) (meth:=k7m7) (c:=k7c7) (by decide +kernel) rfl rfl rfl (by decide +kernel)
set_option maxRecDepth 65536 in
theorem w_c28:(Jvm.Cond.code ⟨"com/example/tracefold/tracefold/mining/FactoredInverse$Lists","move","(II)V"⟩ prog_43_method_6_code (3:Nat) (Option.none:Option Jvm.ClassFile.FieldType)).before args0 about1=true:=code_word (m:=⟨10,5⟩) (meth:=k10m5) (c:=k10c5) (by decide +kernel) rfl rfl rfl (by decide +kernel)
set_option maxRecDepth 65536 in
theorem w_c29:(Jvm.Cond.code ⟨"com/example/tracefold/tracefold/mining/FactoredInverse$Elimination","addL","(ID)V"⟩ prog_42_method_12_code (4:Nat) (Option.none:Option Jvm.ClassFile.FieldType)).before args0 about1=true:=code_word (m:=⟨7,9⟩) (meth:=k7m9) (c:=k7c9) (by decide +kernel) rfl rfl rfl (by decide +kernel)
set_option maxRecDepth 65536 in
theorem w_c30:(Jvm.Cond.code ⟨"com/example/tracefold/tracefold/mining/FactoredInverse$Elimination","subtract","(IID)V"⟩ prog_42_method_6_code (15:Nat) (Option.none:Option Jvm.ClassFile.FieldType)).before args0 about1=true:=code_word (m:=⟨7,5⟩) (meth:=k7m5) (c:=k7c5) (by decide +kernel) rfl rfl rfl (by decide +kernel)
set_option maxRecDepth 65536 in
theorem w_c31:(Jvm.Cond.code ⟨"com/example/tracefold/tracefold/mining/FactoredInverse","transpose","()V"⟩ prog_41_method_4_code (8:Nat) (Option.none:Option Jvm.ClassFile.FieldType)).before args0 about1=true:=code_word (m:=⟨4,2⟩) (meth:=k4m2) (c:=k4c2) (by decide +kernel) rfl rfl rfl (by decide +kernel)
set_option maxRecDepth 65536 in
theorem w_c32:(Jvm.Cond.code ⟨"com/example/tracefold/tracefold/mining/FactoredInverse","transposeTimes","([D)[D"⟩ prog_41_method_6_code (10:Nat) (Option.some (.array .double))).before args0 about1=true:=code_word (m:=⟨4,3⟩) (meth:=k4m3) (c:=k4c3) (by decide +kernel) rfl rfl rfl (by decide +kernel)
set_option maxRecDepth 65536 in
theorem w_c33:(Jvm.Cond.code ⟨"com/example/tracefold/tracefold/mining/SparseVector","set","(ID)V"⟩ prog_74_method_9_code (4:Nat) (Option.none:Option Jvm.ClassFile.FieldType)).before args0 about1=true:=code_word (m:=⟨5,4⟩) (meth:=k5m4) (c:=k5c4) (by decide +kernel) rfl rfl rfl (by decide +kernel)
set_option maxRecDepth 65536 in
theorem w_c34:(Jvm.Cond.code ⟨"com/example/tracefold/tracefold/mining/FactoredInverse","replaceRow","(ILcom/example/tracefold/tracefold/mining/SparseVector;)V"⟩ prog_41_method_10_code (7:Nat) (Option.none:Option Jvm.ClassFile.FieldType)).before args0 about1=true:=code_word (m:=⟨4,4⟩) (meth:=k4m4) (c:=k4c4) (by decide +kernel) rfl rfl rfl (by decide +kernel)
set_option maxRecDepth 65536 in
theorem w_c35:(Jvm.Cond.code ⟨"com/example/tracefold/tracefold/mining/SparseVector","size","()I"⟩ prog_74_method_6_code (1:Nat) (Option.some .int)).before args0 about1=true:=code_word (m:=⟨5,2⟩) (meth:=k5m2) (c:=k5c2) (by decide +kernel) rfl rfl rfl (by decide +kernel)
set_option maxRecDepth 65536 in
theorem w_c36:(Jvm.Cond.code ⟨"com/example/tracefold/tracefold/mining/SparseVector","position","(I)I"⟩ prog_74_method_7_code (2:Nat) (Option.some .int)).before args0 about1=true:=code_word (m:=⟨5,3⟩) (meth:=k5m3) (c:=k5c3) (by decide +kernel) rfl rfl rfl (by decide +kernel)
set_option maxRecDepth 65536 in
theorem w_c37:(Jvm.Cond.code ⟨"com/example/tracefold/tracefold/mining/SparseVector","get","(I)D"⟩ prog_74_method_4_code (2:Nat) (Option.some .double)).before args0 about1=true:=code_word (m:=⟨5,1⟩) (meth:=k5m1) (c:=k5c1) (by decide +kernel) rfl rfl rfl (by decide +kernel)
def codes1:List Jvm.Cond:=[Jvm.Cond.code x code maxLocals ret,Jvm.Cond.code ⟨"java/lang/Math","min","(II)I"⟩ jdk_29_method_69_code (2:Nat) (Option.some .int),Jvm.Cond.code ⟨"com/example/tracefold/tracefold/mining/FactoredInverseTransposeTimesPinLaw","cols","(IIZ)[I"⟩ method_3_code (3:Nat) (Option.some (.array .int)),Jvm.Cond.code ⟨"com/example/tracefold/tracefold/mining/FactoredInverseTransposeTimesPinLaw","vals","(IIZ)[D"⟩ method_4_code (3:Nat) (Option.some (.array .double)),Jvm.Cond.code ⟨"com/example/tracefold/tracefold/mining/FactoredInverse","<init>","(I)V"⟩ prog_41_method_1_code (2:Nat) (Option.none:Option Jvm.ClassFile.FieldType),Jvm.Cond.code ⟨"java/lang/Object","<init>","()V"⟩ object_method_1_code (1:Nat) (Option.none:Option Jvm.ClassFile.FieldType),Jvm.Cond.code ⟨"com/example/tracefold/tracefold/mining/SparseVector","<init>","(I)V"⟩ prog_74_method_1_code (2:Nat) (Option.none:Option Jvm.ClassFile.FieldType),Jvm.Cond.code ⟨"com/example/tracefold/tracefold/mining/FactoredInverse$StepQueue","<init>","(I)V"⟩ prog_44_method_1_code (2:Nat) (Option.none:Option Jvm.ClassFile.FieldType),Jvm.Cond.code ⟨"com/example/tracefold/tracefold/mining/FactoredInverse","invert","([[I[[D)Z"⟩ prog_41_method_2_code (7:Nat) (Option.some .boolean),Jvm.Cond.code ⟨"com/example/tracefold/tracefold/mining/FactoredInverse$Elimination","<init>","(Lcom/example/tracefold/tracefold/mining/FactoredInverse;[[I[[D)V"⟩ prog_42_method_1_code (10:Nat) (Option.none:Option Jvm.ClassFile.FieldType),Jvm.Cond.code ⟨"java/lang/Math","max","(II)I"⟩ jdk_29_method_65_code (2:Nat) (Option.some .int),Jvm.Cond.code ⟨"java/util/Arrays","copyOf","([II)[I"⟩ jdk_65_method_123_code (3:Nat) (Option.some (.array .int)),Jvm.Cond.code ⟨"java/util/Arrays","copyOf","([DI)[D"⟩ jdk_65_method_127_code (3:Nat) (Option.some (.array .double)),Jvm.Cond.code ⟨"com/example/tracefold/tracefold/mining/FactoredInverse$Lists","<init>","(Lcom/example/tracefold/tracefold/mining/FactoredInverse;[I)V"⟩ prog_43_method_1_code (4:Nat) (Option.none:Option Jvm.ClassFile.FieldType),Jvm.Cond.code ⟨"java/util/Arrays","fill","([II)V"⟩ jdk_65_method_103_code (4:Nat) (Option.none:Option Jvm.ClassFile.FieldType),Jvm.Cond.code ⟨"com/example/tracefold/tracefold/mining/FactoredInverse$Lists","add","(II)V"⟩ prog_43_method_4_code (3:Nat) (Option.none:Option Jvm.ClassFile.FieldType),Jvm.Cond.code ⟨"com/example/tracefold/tracefold/mining/FactoredInverse$Elimination","pivot","()J"⟩ prog_42_method_2_code (12:Nat) (Option.some .long),Jvm.Cond.code ⟨"com/example/tracefold/tracefold/mining/FactoredInverse$Lists","first","(I)I"⟩ prog_43_method_2_code (2:Nat) (Option.some .int),Jvm.Cond.code ⟨"com/example/tracefold/tracefold/mining/FactoredInverse$Elimination","find","(II)I"⟩ prog_42_method_4_code (4:Nat) (Option.some .int),Jvm.Cond.code ⟨"com/example/tracefold/tracefold/mining/FactoredInverse$Elimination","qualifies","(ID)Z"⟩ prog_42_method_3_code (9:Nat) (Option.some .boolean),Jvm.Cond.code ⟨"java/lang/Math","abs","(D)D"⟩ jdk_29_method_64_code (2:Nat) (Option.some .double),Jvm.Cond.code ⟨"java/lang/Math","max","(DD)D"⟩ jdk_29_method_68_code (4:Nat) (Option.some .double),Jvm.Cond.code ⟨"com/example/tracefold/tracefold/mining/FactoredInverse$Lists","next","(I)I"⟩ prog_43_method_3_code (2:Nat) (Option.some .int),Jvm.Cond.code ⟨"com/example/tracefold/tracefold/mining/FactoredInverse$Elimination","eliminate","(III)V"⟩ prog_42_method_5_code (12:Nat) (Option.none:Option Jvm.ClassFile.FieldType),Jvm.Cond.code ⟨"com/example/tracefold/tracefold/mining/FactoredInverse$Elimination","removeEntry","(II)V"⟩ prog_42_method_7_code (4:Nat) (Option.none:Option Jvm.ClassFile.FieldType),Jvm.Cond.code ⟨"com/example/tracefold/tracefold/mining/FactoredInverse$Elimination","addU","(ID)V"⟩ prog_42_method_11_code (4:Nat) (Option.none:Option Jvm.ClassFile.FieldType),Jvm.Cond.code ⟨"com/example/tracefold/tracefold/mining/FactoredInverse$Lists","remove","(I)V"⟩ prog_43_method_5_code (2:Nat) (Option.none:Option Jvm.ClassFile.FieldType),Jvm.Cond.code ⟨"com/example/tracefold/tracefold/mining/FactoredInverse$Elimination","removeFromColumn","(II)V"⟩ prog_42_method_9_code (4:Nat) (Option.none:Option Jvm.ClassFile.FieldType),Jvm.Cond.code ⟨"com/example/tracefold/tracefold/mining/FactoredInverse$Lists","move","(II)V"⟩ prog_43_method_6_code (3:Nat) (Option.none:Option Jvm.ClassFile.FieldType),Jvm.Cond.code ⟨"com/example/tracefold/tracefold/mining/FactoredInverse$Elimination","addL","(ID)V"⟩ prog_42_method_12_code (4:Nat) (Option.none:Option Jvm.ClassFile.FieldType),Jvm.Cond.code ⟨"com/example/tracefold/tracefold/mining/FactoredInverse$Elimination","subtract","(IID)V"⟩ prog_42_method_6_code (15:Nat) (Option.none:Option Jvm.ClassFile.FieldType),Jvm.Cond.code ⟨"com/example/tracefold/tracefold/mining/FactoredInverse","transpose","()V"⟩ prog_41_method_4_code (8:Nat) (Option.none:Option Jvm.ClassFile.FieldType),Jvm.Cond.code ⟨"com/example/tracefold/tracefold/mining/FactoredInverse","transposeTimes","([D)[D"⟩ prog_41_method_6_code (10:Nat) (Option.some (.array .double)),Jvm.Cond.code ⟨"com/example/tracefold/tracefold/mining/SparseVector","set","(ID)V"⟩ prog_74_method_9_code (4:Nat) (Option.none:Option Jvm.ClassFile.FieldType),Jvm.Cond.code ⟨"com/example/tracefold/tracefold/mining/FactoredInverse","replaceRow","(ILcom/example/tracefold/tracefold/mining/SparseVector;)V"⟩ prog_41_method_10_code (7:Nat) (Option.none:Option Jvm.ClassFile.FieldType),Jvm.Cond.code ⟨"com/example/tracefold/tracefold/mining/SparseVector","size","()I"⟩ prog_74_method_6_code (1:Nat) (Option.some .int),Jvm.Cond.code ⟨"com/example/tracefold/tracefold/mining/SparseVector","position","(I)I"⟩ prog_74_method_7_code (2:Nat) (Option.some .int),Jvm.Cond.code ⟨"com/example/tracefold/tracefold/mining/SparseVector","get","(I)D"⟩ prog_74_method_4_code (2:Nat) (Option.some .double)]
set_option maxRecDepth 65536 in
theorem codes_eq:words1.filter isCode=codes1:=rfl
theorem w_codes:∀c∈words1.filter isCode,c.before args0 about1=true:=by
 rw[codes_eq]
 intro c hc
 simp only[codes1,List.mem_cons,List.not_mem_nil,or_false] at hc
 rcases hc with rfl|rfl|rfl|rfl|rfl|rfl|rfl|rfl|rfl|rfl|rfl|rfl|rfl|rfl|rfl|rfl|rfl|rfl|rfl|rfl|rfl|rfl|rfl|rfl|rfl|rfl|rfl|rfl|rfl|rfl|rfl|rfl|rfl|rfl|rfl|rfl|rfl|rfl
 ·exact w_c0
 ·exact w_c1
 ·exact w_c2
 ·exact w_c3
 ·exact w_c4
 ·exact w_c5
 ·exact w_c6
 ·exact w_c7
 ·exact w_c8
 ·exact w_c9
 ·exact w_c10
 ·exact w_c11
 ·exact w_c12
 ·exact w_c13
 ·exact w_c14
 ·exact w_c15
 ·exact w_c16
 ·exact w_c17
 ·exact w_c18
 ·exact w_c19
 ·exact w_c20
 ·exact w_c21
 ·exact w_c22
 ·exact w_c23
 ·exact w_c24
 ·exact w_c25
 ·exact w_c26
 ·exact w_c27
 ·exact w_c28
 ·exact w_c29
 ·exact w_c30
 ·exact w_c31
 ·exact w_c32
 ·exact w_c33
 ·exact w_c34
 ·exact w_c35
 ·exact w_c36
 ·exact w_c37
set_option maxRecDepth 65536 in
theorem w_t1:(words1.take 24).all (fun c=>isCode c||c.before args0 about1)=true:=by decide +kernel
set_option maxRecDepth 65536 in
theorem w_t2:((words1.drop 24).take 24).all (fun c=>isCode c||c.before args0 about1)=true:=by decide +kernel
set_option maxRecDepth 65536 in
theorem w_t3:(((words1.drop 24).drop 24).take 24).all (fun c=>isCode c||c.before args0 about1)=true:=by decide +kernel
set_option maxRecDepth 65536 in
theorem w_t4:((((words1.drop 24).drop 24).drop 24).take 24).all (fun c=>isCode c||c.before args0 about1)=true:=by decide +kernel
set_option maxRecDepth 65536 in
theorem w_t5:(((((words1.drop 24).drop 24).drop 24).drop 24).take 24).all (fun c=>isCode c||c.before args0 about1)=true:=by decide +kernel
set_option maxRecDepth 65536 in
theorem w_t6:((((((words1.drop 24).drop 24).drop 24).drop 24).drop 24).take 24).all (fun c=>isCode c||c.before args0 about1)=true:=by decide +kernel
set_option maxRecDepth 65536 in
theorem w_t7:(((((((words1.drop 24).drop 24).drop 24).drop 24).drop 24).drop 24).take 24).all (fun c=>isCode c||c.before args0 about1)=true:=by decide +kernel
set_option maxRecDepth 65536 in
theorem w_t8:((((((((words1.drop 24).drop 24).drop 24).drop 24).drop 24).drop 24).drop 24).take 24).all (fun c=>isCode c||c.before args0 about1)=true:=by decide +kernel
set_option maxRecDepth 65536 in
theorem w_t9:(((((((((words1.drop 24).drop 24).drop 24).drop 24).drop 24).drop 24).drop 24).drop 24).take 24).all (fun c=>isCode c||c.before args0 about1)=true:=by decide +kernel
set_option maxRecDepth 65536 in
theorem w_t10:((((((((((words1.drop 24).drop 24).drop 24).drop 24).drop 24).drop 24).drop 24).drop 24).drop 24).take 24).all (fun c=>isCode c||c.before args0 about1)=true:=by decide +kernel
set_option maxRecDepth 65536 in
theorem w_t11:(((((((((((words1.drop 24).drop 24).drop 24).drop 24).drop 24).drop 24).drop 24).drop 24).drop 24).drop 24).take 24).all (fun c=>isCode c||c.before args0 about1)=true:=by decide +kernel
set_option maxRecDepth 65536 in
theorem w_t12:((((((((((((words1.drop 24).drop 24).drop 24).drop 24).drop 24).drop 24).drop 24).drop 24).drop 24).drop 24).drop 24).take 24).all (fun c=>isCode c||c.before args0 about1)=true:=by decide +kernel
set_option maxRecDepth 65536 in
theorem w_t13:(((((((((((((words1.drop 24).drop 24).drop 24).drop 24).drop 24).drop 24).drop 24).drop 24).drop 24).drop 24).drop 24).drop 24).take 24).all (fun c=>isCode c||c.before args0 about1)=true:=by decide +kernel
set_option maxRecDepth 65536 in
theorem w_t14:(((((((((((((words1.drop 24).drop 24).drop 24).drop 24).drop 24).drop 24).drop 24).drop 24).drop 24).drop 24).drop 24).drop 24).drop 24).all (fun c=>isCode c||c.before args0 about1)=true:=by decide +kernel
theorem w_tables:(allAtoms (Jvm.Cond.code x code maxLocals ret::tables_1)).before args0 about1=true:=by
 rw[allAtoms_all]
 show words1.all (fun c=>c.before args0 about1)=true
 refine all_split ?_ w_codes
 rw[←List.take_append_drop 24 words1,List.all_append,w_t1,←List.take_append_drop 24 (words1.drop 24),List.all_append,w_t2,←List.take_append_drop 24 ((words1.drop 24).drop 24),List.all_append,w_t3,←List.take_append_drop 24 (((words1.drop 24).drop 24).drop 24),List.all_append,w_t4,←List.take_append_drop 24 ((((words1.drop 24).drop 24).drop 24).drop 24),List.all_append,w_t5,←List.take_append_drop 24 (((((words1.drop 24).drop 24).drop 24).drop 24).drop 24),List.all_append,w_t6,←List.take_append_drop 24 ((((((words1.drop 24).drop 24).drop 24).drop 24).drop 24).drop 24),List.all_append,w_t7,←List.take_append_drop 24 (((((((words1.drop 24).drop 24).drop 24).drop 24).drop 24).drop 24).drop 24),List.all_append,w_t8,←List.take_append_drop 24 ((((((((words1.drop 24).drop 24).drop 24).drop 24).drop 24).drop 24).drop 24).drop 24),List.all_append,w_t9,←List.take_append_drop 24 (((((((((words1.drop 24).drop 24).drop 24).drop 24).drop 24).drop 24).drop 24).drop 24).drop 24),List.all_append,w_t10,←List.take_append_drop 24 ((((((((((words1.drop 24).drop 24).drop 24).drop 24).drop 24).drop 24).drop 24).drop 24).drop 24).drop 24),List.all_append,w_t11,←List.take_append_drop 24 (((((((((((words1.drop 24).drop 24).drop 24).drop 24).drop 24).drop 24).drop 24).drop 24).drop 24).drop 24).drop 24),List.all_append,w_t12,←List.take_append_drop 24 ((((((((((((words1.drop 24).drop 24).drop 24).drop 24).drop 24).drop 24).drop 24).drop 24).drop 24).drop 24).drop 24).drop 24),List.all_append,w_t13,w_t14]
 rfl
set_option maxRecDepth 65536 in
theorem w_case:(Jvm.Cond.and given_1 narrow_1).before args0 about1=true:=by decide +kernel
theorem w_applies:(headSpec (Jvm.Cond.code x code maxLocals ret::tables_1) room_1).applies x e0.platform about1=true :=
 (Spec.applies_iff w_frames).mpr ⟨w_running,w_runnable,w_alone,w_named,w_hears,w_ripe,w_room,w_tables⟩
theorem atStart:AtStart classFile x code maxLocals ret World_1 tables_1 room_1 Calls_1 rest_1 Pre_1 launch0 p0 e0 about1 theMethod args0 below0 :=
 ⟨lists_1,trivial,launch0.admits_env _ _ _,launch0.least_env,fairChoices_fair.cas,fairChoices_fair.clock,w_frames,w_args,w_heap,w_applies,trivial,trivial,w_case⟩
end start1
theorem witness_1:WitnessClaimed_1:=⟨start1.p0,start1.e0,start1.about1,start1.theMethod,start1.args0,start1.below0,start1.atStart⟩
end Jvm.Pilot.@@N@@
