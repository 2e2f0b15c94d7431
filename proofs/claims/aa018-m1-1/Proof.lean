import JvmDerived
import JvmDerived.Pilot.@@N@@Statement
import JvmDerived.Pilot.@@N@@Code
set_option linter.unusedVariables false
set_option linter.unusedSimpArgs false
namespace Jvm.Pilot.@@N@@
open Jvm Jvm.ClassFile Sem Op Lib Jvm.Free Jvm.Stand Jvm.LawKit Jvm.RoadKit Bundle Jvm.Pilot.@@N@@.Jvm.D
abbrev HW (a0:Array Value)(Z:State):Prop:=∀d∈tables_1,d.before a0 Z=true
theorem tw {Z:State}{a0:Array Value}(hw:HW a0 Z)(i:Nat){d:Jvm.Cond}(h:tables_1[i]? = some d):d.before a0 Z=true:=hw d (List.mem_of_getElem? h)
abbrev rp (n:Nat)(v:Value):List Value:=List.replicate n v
section OwnKit
variable {p:Program}{l:Launch}{e:Env}{R:Room}{s:State}{m:MethodId}{args:Array Value}{below:List Frame}{meth:Method}{c:Code}{T:State}{locs:List Loc}{cells slots:Nat}{Z:State}{a0:Array Value}{h h':Heap}{Ev:State→Outcome→Prop}
def Go (p:Program)(e:Env)(below:List Frame)(Ev:State→Outcome→Prop)(T:State)(g:JFrame):Prop :=
 ∃(U:State) (o:Outcome),Steps p.tables e below (T.setTop g) U∧U.status = .running∧Ended U below o∧Ev U o
theorem Go.on {T T':State}{g g':JFrame}(K:Go p e below Ev T' g')(st:∀t,Steps p.tables e below (T'.setTop g') t→Steps p.tables e below (T.setTop g) t):Go p e below Ev T g:=by
 obtain⟨U,o,h1,h2⟩:=K
 exact⟨U,o,st _ h1,h2⟩
abbrev bw (s:State)(Q:Option Value→Heap→List Loc→Prop)(K N:Nat):State→Outcome→Prop:=fun U o=>∃(v:Option Value)(L:List Loc),o = .returned v∧Q v U.heap L∧FrameEnd s o U L K N
theorem o8 {x:MethodName}{code:ByteArray}{ml:Nat}{ret:Option FieldType}{ws:List Jvm.Cond}{rm:Room}{as:Array Value}{h0:Heap}{Q:Option Value→Heap→List Loc→Prop}{K N:Nat}{Ls:Array Slot}(hpn:plainFor x=true)(hef:∀m,entryFrame m as ml=mkF m 0 Ls [])
  (body:∀(p:Program) (e:Env) (s:State) (m:MethodId) (below:List Frame) (meth:Method) (c:Code) (T:State),Stand p l e rm s m as below meth c T [] 0 0→p.tables.exec=Jvm.exec→c.code=code→c.maxLocals=ml→meth.sig.returnType=ret→meth.locks=false→meth.name=x.name→s.vm.findClass x.cls=some m.cls→Z.Warmed39 s.vm→T.heap=h0→Go p e below (bw s Q K N) T (mkF m 0 Ls [])) :
  MetFree l x (head1 (Jvm.Cond.code x code ml ret::ws) rm) (fun a U=>a=as∧Z.Warmed39 U.vm∧U.heap=h0) (fun _ _ _ _ _=>True) (fun _ U o U'=>∃v L,o = .returned v∧Q v U'.heap L∧FrameEnd U o U' L K N):=by
 refine MetFree.of_bodySF hpn hisR ?_
 intro p e s m args below meth c s₁ Bd hml0 hP hK
 obtain⟨rfl,hZ,hh⟩:=hP
 have e0:s₁.heap=h0:=by rw[←hh,Bd.state];rfl
 obtain⟨U,o,h1,h2,h3,h4⟩:=body p e s m below meth c s₁ (Stand.of_body Bd) Bd.exec Bd.bytes hml0 Bd.returns (BodyLoose.notSynchronized Bd) (name_of_methodNamed Bd.named Bd.method).1 (findClass_of_methodNamed Bd.named) hZ e0
 rw[←hef m] at h1
 exact⟨U,o,h1,h2,h3,h4⟩
theorem iC (X:Stand p l e R s m args below meth c T locs cells slots)(hlk:meth.locks=false){Q:Option Value→Heap→List Loc→Prop}{K N:Nat}{g:JFrame}{v:Option Value}(hv:meth.sig.returnType=none→v=none)(hK:cells≤K)(hN:slots≤N)(eT:T.heap=h)(hQ:Q v h locs)
  (hst:∀fs,(∀(f:JFrame) (acts:List Action),f.method=m→f.locked=none→f.entered=[]→(doReturn e (T.setTop f) acts v).1=T.setFrames fs)→Steps p.tables e below (T.setTop g) (T.setFrames fs)):Go p e below (bw s Q K N) T g:=by
 obtain⟨fs,hr,hrun,hended,hW,hsame⟩:=X.leave (v:=v) hv hlk
 exact⟨_,_,hst fs hr,hrun,hended,_,_,rfl,by rw[show (T.setFrames fs).heap=T.heap from rfl,eT];exact hQ,⟨_,rfl⟩,hW,hsame.mono hK hN⟩
theorem zr (X:Stand p l e R s m args below meth c T locs cells slots)(hx:p.tables.exec=Jvm.exec)(hlk:meth.locks=false){Q:Option Value→Heap→List Loc→Prop}{K N:Nat}{pc:Nat}{Ls:Array Slot}{z:Int32}{rest:List Value}(hret:meth.sig.returnType=some .int)(hd:decode c.code pc = .ok (.ireturn,1))(hK:cells≤K)(hN:slots≤N)(eT:T.heap=h)(hQ:Q (some (.int z)) h locs):Go p e below (bw s Q K N) T (mkF m pc Ls (.int z::rest)) :=
 iC X hlk (fun q=>by rw[hret] at q;cases q) hK hN eT hQ (fun fs hr=>retOut X hx hret rfl (Or.inl ⟨rfl,Or.inl rfl,_,rfl⟩) hd hr)
theorem h_ (X:Stand p l e R s m args below meth c T locs cells slots)(hx:p.tables.exec=Jvm.exec)(hlk:meth.locks=false){Q:Option Value→Heap→List Loc→Prop}{K N:Nat}{pc:Nat}{Ls:Array Slot}{z:Int32}{rest:List Value}(hret:meth.sig.returnType=some .boolean)(hd:decode c.code pc = .ok (.ireturn,1))(hK:cells≤K)(hN:slots≤N)(eT:T.heap=h)(hQ:Q (some (.int (nar .boolean z))) h locs):Go p e below (bw s Q K N) T (mkF m pc Ls (.int z::rest)) :=
 iC X hlk (fun q=>by rw[hret] at q;cases q) hK hN eT hQ (fun fs hr=>retN X hx (t := .boolean) hret (by simp) hd hr)
theorem Ni (X:Stand p l e R s m args below meth c T locs cells slots)(hx:p.tables.exec=Jvm.exec)(hlk:meth.locks=false){Q:Option Value→Heap→List Loc→Prop}{K N:Nat}{pc:Nat}{Ls:Array Slot}{z:UInt64}{rest:List Value}(hret:meth.sig.returnType=some .double)(hd:decode c.code pc = .ok (.dreturn,1))(hK:cells≤K)(hN:slots≤N)(eT:T.heap=h)(hQ:Q (some (.double z)) h locs):Go p e below (bw s Q K N) T (mkF m pc Ls (.double z::rest)) :=
 iC X hlk (fun q=>by rw[hret] at q;cases q) hK hN eT hQ (fun fs hr=>retOut X hx hret rfl (Or.inr (Or.inr (Or.inl ⟨rfl,rfl,_,rfl⟩))) hd hr)
theorem Nj (X:Stand p l e R s m args below meth c T locs cells slots)(hx:p.tables.exec=Jvm.exec)(hlk:meth.locks=false){Q:Option Value→Heap→List Loc→Prop}{K N:Nat}{pc:Nat}{Ls:Array Slot}{z:Int64}{rest:List Value}(hret:meth.sig.returnType=some .long)(hd:decode c.code pc = .ok (.lreturn,1))(hK:cells≤K)(hN:slots≤N)(eT:T.heap=h)(hQ:Q (some (.long z)) h locs):Go p e below (bw s Q K N) T (mkF m pc Ls (.long z::rest)) :=
 iC X hlk (fun q=>by rw[hret] at q;cases q) hK hN eT hQ (fun fs hr=>retOut X hx hret rfl (Or.inr (Or.inl ⟨rfl,rfl,_,rfl⟩)) hd hr)
theorem mh (X:Stand p l e R s m args below meth c T locs cells slots)(hx:p.tables.exec=Jvm.exec)(hlk:meth.locks=false){Q:Option Value→Heap→List Loc→Prop}{K N:Nat}{pc:Nat}{Ls:Array Slot}{w:Value}{rest:List Value}{t:FieldType}(hret:meth.sig.returnType=some t)(ht:t.isReference=true)(hw:w.isRef=true)(hn:narrow t w=w)(hd:decode c.code pc = .ok (.areturn,1))(hK:cells≤K)(hN:slots≤N)(eT:T.heap=h)(hQ:Q (some w) h locs):Go p e below (bw s Q K N) T (mkF m pc Ls (w::rest)) :=
 iC X hlk (fun q=>by rw[hret] at q;cases q) hK hN eT hQ (fun fs hr=>retOut X hx hret hn (Or.inr (Or.inr (Or.inr (Or.inr ⟨rfl,ht,hw⟩)))) hd hr)
theorem Nk (X:Stand p l e R s m args below meth c T locs cells slots)(hx:p.tables.exec=Jvm.exec)(hlk:meth.locks=false){Q:Option Value→Heap→List Loc→Prop}{K N:Nat}{pc:Nat}{Ls:Array Slot}(hret:meth.sig.returnType=none)(hd:decode c.code pc = .ok (.return_,1))(hK:cells≤K)(hN:slots≤N)(eT:T.heap=h)(hQ:Q none h locs):Go p e below (bw s Q K N) T (mkF m pc Ls []) :=
 iC X hlk (fun _=>rfl) hK hN eT hQ (fun fs hr=>X.returnOut hx hret hd hr)
theorem qf (X:Stand p l e R s m args below meth c T locs cells slots)(hx:p.tables.exec=Jvm.exec){pc:Nat}{Ls:Array Slot}{st:List Value}{k:Fin 4}{v:Int32}(q:Nat)(hd:decode c.code pc = .ok (.iload_n k,1))(hq:pc+1=q)(hl:Ls[k.val]? = some (.val (.int v)))(K:Go p e below Ev T (mkF m q Ls (.int v::st))):Go p e below Ev T (mkF m pc Ls st):=by
 subst hq
 exact K.on fun _ k=>XS.iloadN X.here hx rfl hd hl k
theorem ux (X:Stand p l e R s m args below meth c T locs cells slots)(hx:p.tables.exec=Jvm.exec){pc:Nat}{Ls:Array Slot}{st:List Value}{k:Nat}{v:Int32}(q:Nat)(hd:decode c.code pc = .ok (.iload k,2))(hq:pc+2=q)(hl:Ls[k]? = some (.val (.int v)))(K:Go p e below Ev T (mkF m q Ls (.int v::st))):Go p e below Ev T (mkF m pc Ls st):=by
 subst hq
 exact K.on fun _ k=>XS.iload X.here hx rfl hd hl k
theorem nO (X:Stand p l e R s m args below meth c T locs cells slots)(hx:p.tables.exec=Jvm.exec){pc:Nat}{Ls:Array Slot}{st:List Value}{k:Fin 4}{v:Int32}{l':Array Slot}(q:Nat)(hd:decode c.code pc = .ok (.istore_n k,1))(hq:pc+1=q)(hl:storeLocals Ls k.val (.int v)=some l')(K:Go p e below Ev T (mkF m q l' st)):Go p e below Ev T (mkF m pc Ls (.int v::st)):=by
 subst hq
 exact K.on fun _ k=>XS.istoreN X.here hx rfl hd rfl hl k
theorem qg (X:Stand p l e R s m args below meth c T locs cells slots)(hx:p.tables.exec=Jvm.exec){pc:Nat}{Ls:Array Slot}{st:List Value}{k:Nat}{v:Int32}{l':Array Slot}(q:Nat)(hd:decode c.code pc = .ok (.istore k,2))(hq:pc+2=q)(hl:storeLocals Ls k (.int v)=some l')(K:Go p e below Ev T (mkF m q l' st)):Go p e below Ev T (mkF m pc Ls (.int v::st)):=by
 subst hq
 exact K.on fun _ k=>XS.istore X.here hx rfl hd rfl hl k
theorem zt (X:Stand p l e R s m args below meth c T locs cells slots)(hx:p.tables.exec=Jvm.exec){pc:Nat}{Ls:Array Slot}{st:List Value}{k:Fin 4}{v:Int64}(q:Nat)(hd:decode c.code pc = .ok (.lload_n k,1))(hq:pc+1=q)(hl:Ls[k.val]? = some (.val (.long v)))(K:Go p e below Ev T (mkF m q Ls (.long v::st))):Go p e below Ev T (mkF m pc Ls st):=by
 subst hq
 exact K.on fun _ k=>XS.lloadN X.here hx rfl hd hl k
theorem Hy (X:Stand p l e R s m args below meth c T locs cells slots)(hx:p.tables.exec=Jvm.exec){pc:Nat}{Ls:Array Slot}{st:List Value}{k:Nat}{v:Int64}(q:Nat)(hd:decode c.code pc = .ok (.lload k,2))(hq:pc+2=q)(hl:Ls[k]? = some (.val (.long v)))(K:Go p e below Ev T (mkF m q Ls (.long v::st))):Go p e below Ev T (mkF m pc Ls st):=by
 subst hq
 exact K.on fun _ k=>XS.lload X.here hx rfl hd hl k
theorem xQ (X:Stand p l e R s m args below meth c T locs cells slots)(hx:p.tables.exec=Jvm.exec){pc:Nat}{Ls:Array Slot}{st:List Value}{k:Fin 4}{v:Int64}{l':Array Slot}(q:Nat)(hd:decode c.code pc = .ok (.lstore_n k,1))(hq:pc+1=q)(hl:storeLocals Ls k.val (.long v)=some l')(K:Go p e below Ev T (mkF m q l' st)):Go p e below Ev T (mkF m pc Ls (.long v::st)):=by
 subst hq
 exact K.on fun _ k=>XS.lstoreN X.here hx rfl hd rfl hl k
theorem zu (X:Stand p l e R s m args below meth c T locs cells slots)(hx:p.tables.exec=Jvm.exec){pc:Nat}{Ls:Array Slot}{st:List Value}{k:Nat}{v:Int64}{l':Array Slot}(q:Nat)(hd:decode c.code pc = .ok (.lstore k,2))(hq:pc+2=q)(hl:storeLocals Ls k (.long v)=some l')(K:Go p e below Ev T (mkF m q l' st)):Go p e below Ev T (mkF m pc Ls (.long v::st)):=by
 subst hq
 exact K.on fun _ k=>XS.lstore X.here hx rfl hd rfl hl k
theorem zv (X:Stand p l e R s m args below meth c T locs cells slots)(hx:p.tables.exec=Jvm.exec){pc:Nat}{Ls:Array Slot}{st:List Value}{k:Fin 4}{v:UInt64}(q:Nat)(hd:decode c.code pc = .ok (.dload_n k,1))(hq:pc+1=q)(hl:Ls[k.val]? = some (.val (.double v)))(K:Go p e below Ev T (mkF m q Ls (.double v::st))):Go p e below Ev T (mkF m pc Ls st):=by
 subst hq
 exact K.on fun _ k=>XS.dloadN X.here hx rfl hd hl k
theorem Hz (X:Stand p l e R s m args below meth c T locs cells slots)(hx:p.tables.exec=Jvm.exec){pc:Nat}{Ls:Array Slot}{st:List Value}{k:Nat}{v:UInt64}(q:Nat)(hd:decode c.code pc = .ok (.dload k,2))(hq:pc+2=q)(hl:Ls[k]? = some (.val (.double v)))(K:Go p e below Ev T (mkF m q Ls (.double v::st))):Go p e below Ev T (mkF m pc Ls st):=by
 subst hq
 exact K.on fun _ k=>XS.dload X.here hx rfl hd hl k
theorem xR (X:Stand p l e R s m args below meth c T locs cells slots)(hx:p.tables.exec=Jvm.exec){pc:Nat}{Ls:Array Slot}{st:List Value}{k:Fin 4}{v:UInt64}{l':Array Slot}(q:Nat)(hd:decode c.code pc = .ok (.dstore_n k,1))(hq:pc+1=q)(hl:storeLocals Ls k.val (.double v)=some l')(K:Go p e below Ev T (mkF m q l' st)):Go p e below Ev T (mkF m pc Ls (.double v::st)):=by
 subst hq
 exact K.on fun _ k=>XS.dstoreN X.here hx rfl hd rfl hl k
theorem zw (X:Stand p l e R s m args below meth c T locs cells slots)(hx:p.tables.exec=Jvm.exec){pc:Nat}{Ls:Array Slot}{st:List Value}{k:Nat}{v:UInt64}{l':Array Slot}(q:Nat)(hd:decode c.code pc = .ok (.dstore k,2))(hq:pc+2=q)(hl:storeLocals Ls k (.double v)=some l')(K:Go p e below Ev T (mkF m q l' st)):Go p e below Ev T (mkF m pc Ls (.double v::st)):=by
 subst hq
 exact K.on fun _ k=>XS.dstore X.here hx rfl hd rfl hl k
theorem zx (X:Stand p l e R s m args below meth c T locs cells slots)(hx:p.tables.exec=Jvm.exec){pc:Nat}{Ls:Array Slot}{st:List Value}{k:Fin 4}{v:Value}(q:Nat)(hd:decode c.code pc = .ok (.aload_n k,1))(hq:pc+1=q)(hl:Ls[k.val]? = some (.val v))(hv:v.isRef=true)(K:Go p e below Ev T (mkF m q Ls (v::st))):Go p e below Ev T (mkF m pc Ls st):=by
 subst hq
 exact K.on fun _ k=>XS.aloadN X.here hx rfl hd hl hv k
theorem HC (X:Stand p l e R s m args below meth c T locs cells slots)(hx:p.tables.exec=Jvm.exec){pc:Nat}{Ls:Array Slot}{st:List Value}{k:Nat}{v:Value}(q:Nat)(hd:decode c.code pc = .ok (.aload k,2))(hq:pc+2=q)(hl:Ls[k]? = some (.val v))(hv:v.isRef=true)(K:Go p e below Ev T (mkF m q Ls (v::st))):Go p e below Ev T (mkF m pc Ls st):=by
 subst hq
 exact K.on fun _ k=>XS.aload X.here hx rfl hd hl hv k
theorem xS (X:Stand p l e R s m args below meth c T locs cells slots)(hx:p.tables.exec=Jvm.exec){pc:Nat}{Ls:Array Slot}{st:List Value}{k:Fin 4}{v:Value}{l':Array Slot}(q:Nat)(hd:decode c.code pc = .ok (.astore_n k,1))(hq:pc+1=q)(hv:v.isRef=true)(hl:storeLocals Ls k.val v=some l')(K:Go p e below Ev T (mkF m q l' st)):Go p e below Ev T (mkF m pc Ls (v::st)):=by
 subst hq
 exact K.on fun _ k=>XS.astoreN X.here hx rfl hd rfl hv hl k
theorem zy (X:Stand p l e R s m args below meth c T locs cells slots)(hx:p.tables.exec=Jvm.exec){pc:Nat}{Ls:Array Slot}{st:List Value}{k:Nat}{v:Value}{l':Array Slot}(q:Nat)(hd:decode c.code pc = .ok (.astore k,2))(hq:pc+2=q)(hv:v.isRef=true)(hl:storeLocals Ls k v=some l')(K:Go p e below Ev T (mkF m q l' st)):Go p e below Ev T (mkF m pc Ls (v::st)):=by
 subst hq
 exact K.on fun _ k=>XS.astore X.here hx rfl hd rfl hv hl k
theorem zz (X:Stand p l e R s m args below meth c T locs cells slots)(hx:p.tables.exec=Jvm.exec){pc:Nat}{Ls:Array Slot}{st:List Value}{i:Int}(v:Int32)(q:Nat)(hd:decode c.code pc = .ok (.iconst i,1))(hq:pc+1=q)(hv:Int32.ofInt i=v)(K:Go p e below Ev T (mkF m q Ls (.int v::st))):Go p e below Ev T (mkF m pc Ls st):=by
 subst hq
 exact K.on fun _ k=>XT.iconstV X.here hx rfl v hd hv k
theorem zA (X:Stand p l e R s m args below meth c T locs cells slots)(hx:p.tables.exec=Jvm.exec){pc:Nat}{Ls:Array Slot}{st:List Value}{i:Int}(v:Int32)(q:Nat)(hd:decode c.code pc = .ok (.bipush i,2))(hq:pc+2=q)(hv:(Int8.ofInt i).toInt32=v)(K:Go p e below Ev T (mkF m q Ls (.int v::st))):Go p e below Ev T (mkF m pc Ls st):=by
 subst hq
 exact K.on fun _ k=>XT.bipushV X.here hx rfl v hd hv k
theorem zB (X:Stand p l e R s m args below meth c T locs cells slots)(hx:p.tables.exec=Jvm.exec){pc:Nat}{Ls:Array Slot}{st:List Value}{i:Int}(v:Int32)(q:Nat)(hd:decode c.code pc = .ok (.sipush i,3))(hq:pc+3=q)(hv:(Int16.ofInt i).toInt32=v)(K:Go p e below Ev T (mkF m q Ls (.int v::st))):Go p e below Ev T (mkF m pc Ls st):=by
 subst hq
 exact K.on fun _ k=>XT.sipushV X.here hx rfl v hd hv k
theorem zC (X:Stand p l e R s m args below meth c T locs cells slots)(hx:p.tables.exec=Jvm.exec){pc:Nat}{Ls:Array Slot}{st:List Value}{i:Fin 2}(v:Int64)(q:Nat)(hd:decode c.code pc = .ok (.lconst i,1))(hq:pc+1=q)(hv:Int64.ofNat i=v)(K:Go p e below Ev T (mkF m q Ls (.long v::st))):Go p e below Ev T (mkF m pc Ls st):=by
 subst hq
 exact K.on fun _ k=>XT.lconstV X.here hx rfl v hd hv k
theorem xT (X:Stand p l e R s m args below meth c T locs cells slots)(hx:p.tables.exec=Jvm.exec){pc:Nat}{Ls:Array Slot}{st:List Value}  (q:Nat)(hd:decode c.code pc = .ok (.dconst 0,1))(hq:pc+1=q)  (K:Go p e below Ev T (mkF m q Ls (.double 0::st))):Go p e below Ev T (mkF m pc Ls st):=by
 subst hq
 exact K.on fun _ k=>XS.dconst0 X.here hx rfl hd rfl k
theorem xU (X:Stand p l e R s m args below meth c T locs cells slots)(hx:p.tables.exec=Jvm.exec){pc:Nat}{Ls:Array Slot}{st:List Value}  (q:Nat)(hd:decode c.code pc = .ok (.dconst 1,1))(hq:pc+1=q)  (K:Go p e below Ev T (mkF m q Ls (.double 4607182418800017408::st))):Go p e below Ev T (mkF m pc Ls st):=by
 subst hq
 exact K.on fun _ k=>XS.dconst1 X.here hx rfl hd rfl k
theorem Nl (X:Stand p l e R s m args below meth c T locs cells slots)(hx:p.tables.exec=Jvm.exec){pc:Nat}{Ls:Array Slot}{st:List Value}  (q:Nat)(hd:decode c.code pc = .ok (.aconst_null,1))(hq:pc+1=q)  (K:Go p e below Ev T (mkF m q Ls (.null::st))):Go p e below Ev T (mkF m pc Ls st):=by
 subst hq
 exact K.on fun _ k=>XS.aconstNull X.here hx rfl hd k
theorem Nm (X:Stand p l e R s m args below meth c T locs cells slots)(hx:p.tables.exec=Jvm.exec){pc:Nat}{Ls:Array Slot}{st:List Value}{k:Nat}{i:Int}{v w:Int32}{l':Array Slot}(q:Nat)(hd:decode c.code pc = .ok (.iinc k i,3))(hq:pc+3=q)(hl:Ls[k]? = some (.val (.int v)))(hv:Int32.ofInt i=w)(hl':storeLocals Ls k (.int (v+w))=some l')(K:Go p e below Ev T (mkF m q l' st)):Go p e below Ev T (mkF m pc Ls st):=by
 subst hq
 exact K.on fun _ k=>XT.iincV X.here hx rfl w hd hv hl hl' k
theorem zE (X:Stand p l e R s m args below meth c T locs cells slots)(hx:p.tables.exec=Jvm.exec){pc:Nat}{Ls:Array Slot}{st:List Value}{x y:Int32}(q:Nat)(hd:decode c.code pc = .ok (.iadd,1))(hq:pc+1=q)  (K:Go p e below Ev T (mkF m q Ls (.int (x+y)::st))):Go p e below Ev T (mkF m pc Ls (.int y :: .int x::st)):=by
 subst hq
 exact K.on fun _ k=>XS.iadd X.here hx rfl hd rfl k
theorem Nn (X:Stand p l e R s m args below meth c T locs cells slots)(hx:p.tables.exec=Jvm.exec){pc:Nat}{Ls:Array Slot}{st:List Value}{x y:Int64}(q:Nat)(hd:decode c.code pc = .ok (.ladd,1))(hq:pc+1=q)  (K:Go p e below Ev T (mkF m q Ls (.long (x+y)::st))):Go p e below Ev T (mkF m pc Ls (.long y :: .long x::st)):=by
 subst hq
 exact K.on fun _ k=>XS.ladd X.here hx rfl hd rfl k
theorem zF (X:Stand p l e R s m args below meth c T locs cells slots)(hx:p.tables.exec=Jvm.exec){pc:Nat}{Ls:Array Slot}{st:List Value}{x y:Int32}(q:Nat)(hd:decode c.code pc = .ok (.isub,1))(hq:pc+1=q)  (K:Go p e below Ev T (mkF m q Ls (.int (x-y)::st))):Go p e below Ev T (mkF m pc Ls (.int y :: .int x::st)):=by
 subst hq
 exact K.on fun _ k=>XS.isub X.here hx rfl hd rfl k
theorem No (X:Stand p l e R s m args below meth c T locs cells slots)(hx:p.tables.exec=Jvm.exec){pc:Nat}{Ls:Array Slot}{st:List Value}{x y:Int64}(q:Nat)(hd:decode c.code pc = .ok (.lsub,1))(hq:pc+1=q)  (K:Go p e below Ev T (mkF m q Ls (.long (x-y)::st))):Go p e below Ev T (mkF m pc Ls (.long y :: .long x::st)):=by
 subst hq
 exact K.on fun _ k=>XS.lsub X.here hx rfl hd rfl k
theorem zG (X:Stand p l e R s m args below meth c T locs cells slots)(hx:p.tables.exec=Jvm.exec){pc:Nat}{Ls:Array Slot}{st:List Value}{x y:Int32}(q:Nat)(hd:decode c.code pc = .ok (.imul,1))(hq:pc+1=q)  (K:Go p e below Ev T (mkF m q Ls (.int (x*y)::st))):Go p e below Ev T (mkF m pc Ls (.int y :: .int x::st)):=by
 subst hq
 exact K.on fun _ k=>XS.imul X.here hx rfl hd rfl k
theorem Np (X:Stand p l e R s m args below meth c T locs cells slots)(hx:p.tables.exec=Jvm.exec){pc:Nat}{Ls:Array Slot}{st:List Value}{x y:Int64}(q:Nat)(hd:decode c.code pc = .ok (.lmul,1))(hq:pc+1=q)  (K:Go p e below Ev T (mkF m q Ls (.long (x*y)::st))):Go p e below Ev T (mkF m pc Ls (.long y :: .long x::st)):=by
 subst hq
 exact K.on fun _ k=>XS.lmul X.here hx rfl hd rfl k
theorem zH (X:Stand p l e R s m args below meth c T locs cells slots)(hx:p.tables.exec=Jvm.exec){pc:Nat}{Ls:Array Slot}{st:List Value}{x y:Int32}(q:Nat)(hd:decode c.code pc = .ok (.iand,1))(hq:pc+1=q)  (K:Go p e below Ev T (mkF m q Ls (.int (x&&&y)::st))):Go p e below Ev T (mkF m pc Ls (.int y :: .int x::st)):=by
 subst hq
 exact K.on fun _ k=>XS.iand X.here hx rfl hd rfl k
theorem Nq (X:Stand p l e R s m args below meth c T locs cells slots)(hx:p.tables.exec=Jvm.exec){pc:Nat}{Ls:Array Slot}{st:List Value}{x y:Int64}(q:Nat)(hd:decode c.code pc = .ok (.land,1))(hq:pc+1=q)  (K:Go p e below Ev T (mkF m q Ls (.long (x&&&y)::st))):Go p e below Ev T (mkF m pc Ls (.long y :: .long x::st)):=by
 subst hq
 exact K.on fun _ k=>XS.land X.here hx rfl hd rfl k
theorem O8 (X:Stand p l e R s m args below meth c T locs cells slots)(hx:p.tables.exec=Jvm.exec){pc:Nat}{Ls:Array Slot}{st:List Value}{x y:Int32}(q:Nat)(hd:decode c.code pc = .ok (.ior,1))(hq:pc+1=q)  (K:Go p e below Ev T (mkF m q Ls (.int (x ||| y)::st))):Go p e below Ev T (mkF m pc Ls (.int y :: .int x::st)):=by
 subst hq
 exact K.on fun _ k=>XS.ior X.here hx rfl hd rfl k
theorem O9 (X:Stand p l e R s m args below meth c T locs cells slots)(hx:p.tables.exec=Jvm.exec){pc:Nat}{Ls:Array Slot}{st:List Value}{x y:Int64}(q:Nat)(hd:decode c.code pc = .ok (.lor,1))(hq:pc+1=q)  (K:Go p e below Ev T (mkF m q Ls (.long (x ||| y)::st))):Go p e below Ev T (mkF m pc Ls (.long y :: .long x::st)):=by
 subst hq
 exact K.on fun _ k=>XS.lor X.here hx rfl hd rfl k
theorem zJ (X:Stand p l e R s m args below meth c T locs cells slots)(hx:p.tables.exec=Jvm.exec){pc:Nat}{Ls:Array Slot}{st:List Value}{x y:Int32}(q:Nat)(hd:decode c.code pc = .ok (.ishl,1))(hq:pc+1=q)  (K:Go p e below Ev T (mkF m q Ls (.int (x<<<(y&&&31))::st))):Go p e below Ev T (mkF m pc Ls (.int y :: .int x::st)):=by
 subst hq
 exact K.on fun _ k=>XS.ishl X.here hx rfl hd rfl k
theorem zK (X:Stand p l e R s m args below meth c T locs cells slots)(hx:p.tables.exec=Jvm.exec){pc:Nat}{Ls:Array Slot}{st:List Value}{x y:Int32}(q:Nat)(hd:decode c.code pc = .ok (.ishr,1))(hq:pc+1=q)  (K:Go p e below Ev T (mkF m q Ls (.int (x>>>(y&&&31))::st))):Go p e below Ev T (mkF m pc Ls (.int y :: .int x::st)):=by
 subst hq
 exact K.on fun _ k=>XS.ishr X.here hx rfl hd rfl k
theorem HD (X:Stand p l e R s m args below meth c T locs cells slots)(hx:p.tables.exec=Jvm.exec){pc:Nat}{Ls:Array Slot}{st:List Value}{x y:Int32}(q:Nat)(hd:decode c.code pc = .ok (.iushr,1))(hq:pc+1=q)  (K:Go p e below Ev T (mkF m q Ls (.int ((x.toUInt32>>>(y&&&31).toUInt32).toInt32)::st))):Go p e below Ev T (mkF m pc Ls (.int y :: .int x::st)):=by
 subst hq
 exact K.on fun _ k=>XS.iushr X.here hx rfl hd rfl k
theorem Nr (X:Stand p l e R s m args below meth c T locs cells slots)(hx:p.tables.exec=Jvm.exec){pc:Nat}{Ls:Array Slot}{st:List Value}{x:Int64}{y:Int32}(q:Nat)(hd:decode c.code pc = .ok (.lshl,1))(hq:pc+1=q)  (K:Go p e below Ev T (mkF m q Ls (.long (x<<<(y&&&0x3f).toInt64)::st))):Go p e below Ev T (mkF m pc Ls (.int y :: .long x::st)):=by
 subst hq
 exact K.on fun _ k=>XS.lshl X.here hx rfl hd rfl k
theorem HE (X:Stand p l e R s m args below meth c T locs cells slots)(hx:p.tables.exec=Jvm.exec){pc:Nat}{Ls:Array Slot}{st:List Value}{x:Int64}{y:Int32}(q:Nat)(hd:decode c.code pc = .ok (.lushr,1))(hq:pc+1=q)  (K:Go p e below Ev T (mkF m q Ls (.long ((x.toUInt64>>>(y&&&0x3f).toInt64.toUInt64).toInt64)::st))):Go p e below Ev T (mkF m pc Ls (.int y :: .long x::st)):=by
 subst hq
 exact K.on fun _ k=>XS.lushr X.here hx rfl hd rfl k
theorem O_ (X:Stand p l e R s m args below meth c T locs cells slots)(hx:p.tables.exec=Jvm.exec){pc:Nat}{Ls:Array Slot}{st:List Value}{x:Int32}(q:Nat)(hd:decode c.code pc = .ok (.i2l,1))(hq:pc+1=q)  (K:Go p e below Ev T (mkF m q Ls (.long (x.toInt64)::st))):Go p e below Ev T (mkF m pc Ls (.int x::st)):=by
 subst hq
 exact K.on fun _ k=>XS.i2l X.here hx rfl hd rfl k
theorem Pa (X:Stand p l e R s m args below meth c T locs cells slots)(hx:p.tables.exec=Jvm.exec){pc:Nat}{Ls:Array Slot}{st:List Value}{x:Int64}(q:Nat)(hd:decode c.code pc = .ok (.l2i,1))(hq:pc+1=q)  (K:Go p e below Ev T (mkF m q Ls (.int (x.toInt32)::st))):Go p e below Ev T (mkF m pc Ls (.long x::st)):=by
 subst hq
 exact K.on fun _ k=>XS.l2i X.here hx rfl hd rfl k
theorem kx (X:Stand p l e R s m args below meth c T locs cells slots)(hx:p.tables.exec=Jvm.exec){pc:Nat}{Ls:Array Slot}{st:List Value}{x y:Int64}(q:Nat)(hd:decode c.code pc = .ok (.lcmp,1))(hq:pc+1=q)  (K:Go p e below Ev T (mkF m q Ls (.int (lcmpW x y)::st))):Go p e below Ev T (mkF m pc Ls (.long y :: .long x::st)):=by
 subst hq
 exact K.on fun _ k=>XS.lcmp X.here hx rfl hd rfl k
theorem Pb (X:Stand p l e R s m args below meth c T locs cells slots)(hx:p.tables.exec=Jvm.exec){pc:Nat}{Ls:Array Slot}{st:List Value}{x:Int32}(q:Nat)(hd:decode c.code pc = .ok (.i2d,1))(hq:pc+1=q)  (K:Go p e below Ev T (mkF m q Ls (.double (FP.i2d x)::st))):Go p e below Ev T (mkF m pc Ls (.int x::st)):=by
 subst hq
 exact K.on fun _ k=>XS.i2dS X.here hx rfl hd rfl rfl k
theorem Ns (X:Stand p l e R s m args below meth c T locs cells slots)(hx:p.tables.exec=Jvm.exec){pc:Nat}{Ls:Array Slot}{st:List Value}{x:UInt64}(q:Nat)(hd:decode c.code pc = .ok (.dneg,1))(hq:pc+1=q)  (K:Go p e below Ev T (mkF m q Ls (.double (FP.dneg x)::st))):Go p e below Ev T (mkF m pc Ls (.double x::st)):=by
 subst hq
 exact K.on fun _ k=>XS.dnegS X.here hx rfl hd rfl rfl k
theorem Nt (X:Stand p l e R s m args below meth c T locs cells slots)(hx:p.tables.exec=Jvm.exec){pc:Nat}{Ls:Array Slot}{st:List Value}{x y:UInt64}(q:Nat)(hd:decode c.code pc = .ok (.dadd,1))(hq:pc+1=q)(hn:Jvm.Free.Fl.NoNaN64 (FP.dadd x y))(K:Go p e below Ev T (mkF m q Ls (.double (FP.dadd x y)::st))):Go p e below Ev T (mkF m pc Ls (.double y :: .double x::st)):=by
 subst hq
 exact K.on fun _ k=>XS.daddS X.here hx rfl hd rfl hn rfl k
theorem Nu (X:Stand p l e R s m args below meth c T locs cells slots)(hx:p.tables.exec=Jvm.exec){pc:Nat}{Ls:Array Slot}{st:List Value}{x y:UInt64}(q:Nat)(hd:decode c.code pc = .ok (.dsub,1))(hq:pc+1=q)(hn:Jvm.Free.Fl.NoNaN64 (FP.dsub x y))(K:Go p e below Ev T (mkF m q Ls (.double (FP.dsub x y)::st))):Go p e below Ev T (mkF m pc Ls (.double y :: .double x::st)):=by
 subst hq
 exact K.on fun _ k=>XS.dsubS X.here hx rfl hd rfl hn rfl k
theorem Nv (X:Stand p l e R s m args below meth c T locs cells slots)(hx:p.tables.exec=Jvm.exec){pc:Nat}{Ls:Array Slot}{st:List Value}{x y:UInt64}(q:Nat)(hd:decode c.code pc = .ok (.dmul,1))(hq:pc+1=q)(hn:Jvm.Free.Fl.NoNaN64 (FP.dmul x y))(K:Go p e below Ev T (mkF m q Ls (.double (FP.dmul x y)::st))):Go p e below Ev T (mkF m pc Ls (.double y :: .double x::st)):=by
 subst hq
 exact K.on fun _ k=>XS.dmulS X.here hx rfl hd rfl hn rfl k
theorem Nw (X:Stand p l e R s m args below meth c T locs cells slots)(hx:p.tables.exec=Jvm.exec){pc:Nat}{Ls:Array Slot}{st:List Value}{x y:UInt64}(q:Nat)(hd:decode c.code pc = .ok (.ddiv,1))(hq:pc+1=q)(hn:Jvm.Free.Fl.NoNaN64 (FP.ddiv x y))(K:Go p e below Ev T (mkF m q Ls (.double (FP.ddiv x y)::st))):Go p e below Ev T (mkF m pc Ls (.double y :: .double x::st)):=by
 subst hq
 exact K.on fun _ k=>XS.ddivS X.here hx rfl hd rfl hn rfl k
theorem o9 (X:Stand p l e R s m args below meth c T locs cells slots)(hx:p.tables.exec=Jvm.exec){pc:Nat}{Ls:Array Slot}{st:List Value}{x y:UInt64}{o:CmpOp}{r:Int32}(q:Nat)(hd:decode c.code pc = .ok (.dcmp o,1))(hq:pc+1=q)(hr:cmpValue (FP.dcmp x y) o=r)(K:Go p e below Ev T (mkF m q Ls (.int r::st))):Go p e below Ev T (mkF m pc Ls (.double y :: .double x::st)):=by
 subst hq
 exact K.on fun _ k=>XS.dcmpS X.here hx rfl hd rfl hr k
theorem Pc (X:Stand p l e R s m args below meth c T locs cells slots)(hx:p.tables.exec=Jvm.exec){pc:Nat}{Ls:Array Slot}{st:List Value}{x:Value}(q:Nat)(hd:decode c.code pc = .ok (.dup,1))(hq:pc+1=q)(hc:x.category=1)(K:Go p e below Ev T (mkF m q Ls (x::x::st))):Go p e below Ev T (mkF m pc Ls (x::st)):=by
 subst hq
 exact K.on fun _ k=>XS.dup X.here hx rfl hd rfl hc k
theorem Pd (X:Stand p l e R s m args below meth c T locs cells slots)(hx:p.tables.exec=Jvm.exec){pc:Nat}{Ls:Array Slot}{st:List Value}{x:Value}(q:Nat)(hd:decode c.code pc = .ok (.pop,1))(hq:pc+1=q)(hc:x.category=1)(K:Go p e below Ev T (mkF m q Ls st)):Go p e below Ev T (mkF m pc Ls (x::st)):=by
 subst hq
 exact K.on fun _ k=>XS.pop X.here hx rfl hd rfl hc k
theorem HF (X:Stand p l e R s m args below meth c T locs cells slots)(hx:p.tables.exec=Jvm.exec){pc:Nat}{Ls:Array Slot}{st:List Value}{x y:Value}(q:Nat)(hd:decode c.code pc = .ok (.dup_x1,1))(hq:pc+1=q)(hc:x.category=1)(hc':y.category=1)(K:Go p e below Ev T (mkF m q Ls (x::y::x::st))):Go p e below Ev T (mkF m pc Ls (x::y::st)):=by
 subst hq
 exact K.on fun _ k=>XS.dupX1 X.here hx rfl hd rfl hc hc' k
theorem Nx (X:Stand p l e R s m args below meth c T locs cells slots)(hx:p.tables.exec=Jvm.exec){pc:Nat}{Ls:Array Slot}{st:List Value}{x y:Value}(q:Nat)(hd:decode c.code pc = .ok (.dup2,1))(hq:pc+1=q)(hc:x.category=1)(hc':y.category=1)(K:Go p e below Ev T (mkF m q Ls (x::y::x::y::st))):Go p e below Ev T (mkF m pc Ls (x::y::st)):=by
 subst hq
 exact K.on fun _ k=>XT.dup2 X.here hx rfl hd rfl hc hc' k
theorem HG (X:Stand p l e R s m args below meth c T locs cells slots)(hx:p.tables.exec=Jvm.exec){pc:Nat}{Ls:Array Slot}{st:List Value}{own:String}{i:Nat}{v:Int64}(q:Nat)(hZ:Z.Warmed39 s.vm)(hown:s.vm.findClass own=some m.cls)(w:(Jvm.Cond.constantLong own i v).before a0 Z=true)(hd:decode c.code pc = .ok (.ldc2_w i,3))(hq:pc+3=q)(K:Go p e below Ev T (mkF m q Ls (.long v::st))):Go p e below Ev T (mkF m pc Ls st):=by
 subst hq
 exact K.on fun _ k=>X.ldc2J hx hown (mvT hZ w) rfl hd k
theorem HH (X:Stand p l e R s m args below meth c T locs cells slots)(hx:p.tables.exec=Jvm.exec){pc:Nat}{Ls:Array Slot}{st:List Value}{own:String}{i:Nat}{v:UInt64}(q:Nat)(hZ:Z.Warmed39 s.vm)(hown:s.vm.findClass own=some m.cls)(w:(Jvm.Cond.constantDouble own i v).before a0 Z=true)(hd:decode c.code pc = .ok (.ldc2_w i,3))(hq:pc+3=q)(K:Go p e below Ev T (mkF m q Ls (.double v::st))):Go p e below Ev T (mkF m pc Ls st):=by
 subst hq
 exact K.on (X.ldc2DoubleC hx hown (mvT hZ w) (g:=mkF m pc Ls st) rfl hd)
theorem Ny (X:Stand p l e R s m args below meth c T locs cells slots)(hx:p.tables.exec=Jvm.exec){pc:Nat}{Ls:Array Slot}{st:List Value}{o:Int}(q:Nat)(hd:decode c.code pc = .ok (.goto o,3))(ho:0≤(pc:Int)+o)(hq:((pc:Int)+o).toNat=q)(K:Go p e below Ev T (mkF m q Ls st)):Go p e below Ev T (mkF m pc Ls st) :=
 K.on fun _ k=>XS.goto X.here hx rfl rfl hd ho hq k
theorem gz (x:Int32):(x<0↔x.toInt<0)∧(0<x↔0<x.toInt)∧(x=0↔x.toInt=0):=by
 refine⟨by rw[Int32.lt_iff_toInt_lt];simp,by rw[Int32.lt_iff_toInt_lt];simp,?_⟩
 rw[←Int32.toInt_inj];simp
theorem jj (X:Stand p l e R s m args below meth c T locs cells slots)(hx:p.tables.exec=Jvm.exec){pc:Nat}{Ls:Array Slot}{st:List Value}{x:Int32}{o:Int}(q1 q2:Nat)(hd:decode c.code pc = .ok (.ifCond .eq o,3))(ho:0≤(pc:Int)+o)(h1:((pc:Int)+o).toNat=q1)(h2:pc+3=q2)(Kt:x.toInt=0→Go p e below Ev T (mkF m q1 Ls st))(Kf:x.toInt≠0→Go p e below Ev T (mkF m q2 Ls st)):Go p e below Ev T (mkF m pc Ls (.int x::st)):=by
 have Q:=gz x
 by_cases hc:x=0
 ·exact (Kt (by first|omega|(simp only[Q] at hc;omega))).on fun _ k=>XS.ifYes X.here hx rfl rfl hd rfl (XT.i0_eq_t (by simpa using hc)) ho h1 k
 ·subst h2
  exact (Kf (by first|omega|(simp only[Q] at hc;omega))).on fun _ k=>XS.ifNo X.here hx rfl hd rfl (XT.i0_eq_f (by simpa using hc)) k
theorem jk (X:Stand p l e R s m args below meth c T locs cells slots)(hx:p.tables.exec=Jvm.exec){pc:Nat}{Ls:Array Slot}{st:List Value}{x:Int32}{o:Int}(q1 q2:Nat)(hd:decode c.code pc = .ok (.ifCond .ne o,3))(ho:0≤(pc:Int)+o)(h1:((pc:Int)+o).toNat=q1)(h2:pc+3=q2)(Kt:x.toInt≠0→Go p e below Ev T (mkF m q1 Ls st))(Kf:x.toInt=0→Go p e below Ev T (mkF m q2 Ls st)):Go p e below Ev T (mkF m pc Ls (.int x::st)):=by
 have Q:=gz x
 by_cases hc:¬x=0
 ·exact (Kt (by first|omega|(simp only[Q] at hc;omega))).on fun _ k=>XS.ifYes X.here hx rfl rfl hd rfl (XT.i0_ne_t (by simpa using hc)) ho h1 k
 ·subst h2
  exact (Kf (by first|omega|(simp only[Q] at hc;omega))).on fun _ k=>XS.ifNo X.here hx rfl hd rfl (XT.i0_ne_f (by simpa using hc)) k
theorem o_ (X:Stand p l e R s m args below meth c T locs cells slots)(hx:p.tables.exec=Jvm.exec){pc:Nat}{Ls:Array Slot}{st:List Value}{x:Int32}{o:Int}(q1 q2:Nat)(hd:decode c.code pc = .ok (.ifCond .lt o,3))(ho:0≤(pc:Int)+o)(h1:((pc:Int)+o).toNat=q1)(h2:pc+3=q2)(Kt:x.toInt<0→Go p e below Ev T (mkF m q1 Ls st))(Kf:0≤x.toInt→Go p e below Ev T (mkF m q2 Ls st)):Go p e below Ev T (mkF m pc Ls (.int x::st)):=by
 have Q:=gz x
 by_cases hc:x<0
 ·exact (Kt (by first|omega|(simp only[Q] at hc;omega))).on fun _ k=>XS.ifYes X.here hx rfl rfl hd rfl (XT.i0_lt_t (by simpa using hc)) ho h1 k
 ·subst h2
  exact (Kf (by first|omega|(simp only[Q] at hc;omega))).on fun _ k=>XS.ifNo X.here hx rfl hd rfl (XT.i0_lt_f (by simpa using hc)) k
theorem pd (X:Stand p l e R s m args below meth c T locs cells slots)(hx:p.tables.exec=Jvm.exec){pc:Nat}{Ls:Array Slot}{st:List Value}{x:Int32}{o:Int}(q1 q2:Nat)(hd:decode c.code pc = .ok (.ifCond .ge o,3))(ho:0≤(pc:Int)+o)(h1:((pc:Int)+o).toNat=q1)(h2:pc+3=q2)(Kt:0≤x.toInt→Go p e below Ev T (mkF m q1 Ls st))(Kf:x.toInt<0→Go p e below Ev T (mkF m q2 Ls st)):Go p e below Ev T (mkF m pc Ls (.int x::st)):=by
 have Q:=gz x
 by_cases hc:¬x<0
 ·exact (Kt (by first|omega|(simp only[Q] at hc;omega))).on fun _ k=>XS.ifYes X.here hx rfl rfl hd rfl (XT.i0_ge_t (by simpa using hc)) ho h1 k
 ·subst h2
  exact (Kf (by first|omega|(simp only[Q] at hc;omega))).on fun _ k=>XS.ifNo X.here hx rfl hd rfl (XT.i0_ge_f (by simpa using hc)) k
theorem pe (X:Stand p l e R s m args below meth c T locs cells slots)(hx:p.tables.exec=Jvm.exec){pc:Nat}{Ls:Array Slot}{st:List Value}{x:Int32}{o:Int}(q1 q2:Nat)(hd:decode c.code pc = .ok (.ifCond .gt o,3))(ho:0≤(pc:Int)+o)(h1:((pc:Int)+o).toNat=q1)(h2:pc+3=q2)(Kt:0<x.toInt→Go p e below Ev T (mkF m q1 Ls st))(Kf:x.toInt≤0→Go p e below Ev T (mkF m q2 Ls st)):Go p e below Ev T (mkF m pc Ls (.int x::st)):=by
 have Q:=gz x
 by_cases hc:0<x
 ·exact (Kt (by first|omega|(simp only[Q] at hc;omega))).on fun _ k=>XS.ifYes X.here hx rfl rfl hd rfl (XT.i0_gt_t (by simpa using hc)) ho h1 k
 ·subst h2
  exact (Kf (by first|omega|(simp only[Q] at hc;omega))).on fun _ k=>XS.ifNo X.here hx rfl hd rfl (XT.i0_gt_f (by simpa using hc)) k
theorem pf (X:Stand p l e R s m args below meth c T locs cells slots)(hx:p.tables.exec=Jvm.exec){pc:Nat}{Ls:Array Slot}{st:List Value}{x:Int32}{o:Int}(q1 q2:Nat)(hd:decode c.code pc = .ok (.ifCond .le o,3))(ho:0≤(pc:Int)+o)(h1:((pc:Int)+o).toNat=q1)(h2:pc+3=q2)(Kt:x.toInt≤0→Go p e below Ev T (mkF m q1 Ls st))(Kf:0<x.toInt→Go p e below Ev T (mkF m q2 Ls st)):Go p e below Ev T (mkF m pc Ls (.int x::st)):=by
 have Q:=gz x
 by_cases hc:¬0<x
 ·exact (Kt (by first|omega|(simp only[Q] at hc;omega))).on fun _ k=>XS.ifYes X.here hx rfl rfl hd rfl (XT.i0_le_t (by simpa using hc)) ho h1 k
 ·subst h2
  exact (Kf (by first|omega|(simp only[Q] at hc;omega))).on fun _ k=>XS.ifNo X.here hx rfl hd rfl (XT.i0_le_f (by simpa using hc)) k
theorem ky (x y:Int32):(x<y↔x.toInt<y.toInt)∧(y<x↔y.toInt<x.toInt)∧(x=y↔x.toInt=y.toInt):=by
 exact⟨Int32.lt_iff_toInt_lt,Int32.lt_iff_toInt_lt,Int32.toInt_inj.symm⟩
theorem uy (X:Stand p l e R s m args below meth c T locs cells slots)(hx:p.tables.exec=Jvm.exec){pc:Nat}{Ls:Array Slot}{st:List Value}{x y:Int32}{o:Int}(q1 q2:Nat)(hd:decode c.code pc = .ok (.if_icmp .eq o,3))(ho:0≤(pc:Int)+o)(h1:((pc:Int)+o).toNat=q1)(h2:pc+3=q2)(Kt:x.toInt=y.toInt→Go p e below Ev T (mkF m q1 Ls st))(Kf:x.toInt≠y.toInt→Go p e below Ev T (mkF m q2 Ls st)):Go p e below Ev T (mkF m pc Ls (.int y :: .int x::st)):=by
 have Q:=ky x y
 by_cases hc:x=y
 ·exact (Kt (by first|omega|(simp only[Q] at hc;omega))).on fun _ k=>XS.icmpYes X.here hx rfl rfl hd rfl (XT.ii_eq_t (by simpa using hc)) ho h1 k
 ·subst h2
  exact (Kf (by first|omega|(simp only[Q] at hc;omega))).on fun _ k=>XS.icmpNo X.here hx rfl hd rfl (XT.ii_eq_f (by simpa using hc)) k
theorem uz (X:Stand p l e R s m args below meth c T locs cells slots)(hx:p.tables.exec=Jvm.exec){pc:Nat}{Ls:Array Slot}{st:List Value}{x y:Int32}{o:Int}(q1 q2:Nat)(hd:decode c.code pc = .ok (.if_icmp .ne o,3))(ho:0≤(pc:Int)+o)(h1:((pc:Int)+o).toNat=q1)(h2:pc+3=q2)(Kt:x.toInt≠y.toInt→Go p e below Ev T (mkF m q1 Ls st))(Kf:x.toInt=y.toInt→Go p e below Ev T (mkF m q2 Ls st)):Go p e below Ev T (mkF m pc Ls (.int y :: .int x::st)):=by
 have Q:=ky x y
 by_cases hc:¬x=y
 ·exact (Kt (by first|omega|(simp only[Q] at hc;omega))).on fun _ k=>XS.icmpYes X.here hx rfl rfl hd rfl (XT.ii_ne_t (by simpa using hc)) ho h1 k
 ·subst h2
  exact (Kf (by first|omega|(simp only[Q] at hc;omega))).on fun _ k=>XS.icmpNo X.here hx rfl hd rfl (XT.ii_ne_f (by simpa using hc)) k
theorem uA (X:Stand p l e R s m args below meth c T locs cells slots)(hx:p.tables.exec=Jvm.exec){pc:Nat}{Ls:Array Slot}{st:List Value}{x y:Int32}{o:Int}(q1 q2:Nat)(hd:decode c.code pc = .ok (.if_icmp .lt o,3))(ho:0≤(pc:Int)+o)(h1:((pc:Int)+o).toNat=q1)(h2:pc+3=q2)(Kt:x.toInt<y.toInt→Go p e below Ev T (mkF m q1 Ls st))(Kf:y.toInt≤x.toInt→Go p e below Ev T (mkF m q2 Ls st)):Go p e below Ev T (mkF m pc Ls (.int y :: .int x::st)):=by
 have Q:=ky x y
 by_cases hc:x<y
 ·exact (Kt (by first|omega|(simp only[Q] at hc;omega))).on fun _ k=>XS.icmpYes X.here hx rfl rfl hd rfl (XT.ii_lt_t (by simpa using hc)) ho h1 k
 ·subst h2
  exact (Kf (by first|omega|(simp only[Q] at hc;omega))).on fun _ k=>XS.icmpNo X.here hx rfl hd rfl (XT.ii_lt_f (by simpa using hc)) k
theorem uB (X:Stand p l e R s m args below meth c T locs cells slots)(hx:p.tables.exec=Jvm.exec){pc:Nat}{Ls:Array Slot}{st:List Value}{x y:Int32}{o:Int}(q1 q2:Nat)(hd:decode c.code pc = .ok (.if_icmp .ge o,3))(ho:0≤(pc:Int)+o)(h1:((pc:Int)+o).toNat=q1)(h2:pc+3=q2)(Kt:y.toInt≤x.toInt→Go p e below Ev T (mkF m q1 Ls st))(Kf:x.toInt<y.toInt→Go p e below Ev T (mkF m q2 Ls st)):Go p e below Ev T (mkF m pc Ls (.int y :: .int x::st)):=by
 have Q:=ky x y
 by_cases hc:¬x<y
 ·exact (Kt (by first|omega|(simp only[Q] at hc;omega))).on fun _ k=>XS.icmpYes X.here hx rfl rfl hd rfl (XT.ii_ge_t (by simpa using hc)) ho h1 k
 ·subst h2
  exact (Kf (by first|omega|(simp only[Q] at hc;omega))).on fun _ k=>XS.icmpNo X.here hx rfl hd rfl (XT.ii_ge_f (by simpa using hc)) k
theorem pg (X:Stand p l e R s m args below meth c T locs cells slots)(hx:p.tables.exec=Jvm.exec){pc:Nat}{Ls:Array Slot}{st:List Value}{x y:Int32}{o:Int}(q1 q2:Nat)(hd:decode c.code pc = .ok (.if_icmp .gt o,3))(ho:0≤(pc:Int)+o)(h1:((pc:Int)+o).toNat=q1)(h2:pc+3=q2)(Kt:y.toInt<x.toInt→Go p e below Ev T (mkF m q1 Ls st))(Kf:x.toInt≤y.toInt→Go p e below Ev T (mkF m q2 Ls st)):Go p e below Ev T (mkF m pc Ls (.int y :: .int x::st)):=by
 have Q:=ky x y
 by_cases hc:y<x
 ·exact (Kt (by first|omega|(simp only[Q] at hc;omega))).on fun _ k=>XS.icmpYes X.here hx rfl rfl hd rfl (XT.ii_gt_t (by simpa using hc)) ho h1 k
 ·subst h2
  exact (Kf (by first|omega|(simp only[Q] at hc;omega))).on fun _ k=>XS.icmpNo X.here hx rfl hd rfl (XT.ii_gt_f (by simpa using hc)) k
theorem uC (X:Stand p l e R s m args below meth c T locs cells slots)(hx:p.tables.exec=Jvm.exec){pc:Nat}{Ls:Array Slot}{st:List Value}{x y:Int32}{o:Int}(q1 q2:Nat)(hd:decode c.code pc = .ok (.if_icmp .le o,3))(ho:0≤(pc:Int)+o)(h1:((pc:Int)+o).toNat=q1)(h2:pc+3=q2)(Kt:x.toInt≤y.toInt→Go p e below Ev T (mkF m q1 Ls st))(Kf:y.toInt<x.toInt→Go p e below Ev T (mkF m q2 Ls st)):Go p e below Ev T (mkF m pc Ls (.int y :: .int x::st)):=by
 have Q:=ky x y
 by_cases hc:¬y<x
 ·exact (Kt (by first|omega|(simp only[Q] at hc;omega))).on fun _ k=>XS.icmpYes X.here hx rfl rfl hd rfl (XT.ii_le_t (by simpa using hc)) ho h1 k
 ·subst h2
  exact (Kf (by first|omega|(simp only[Q] at hc;omega))).on fun _ k=>XS.icmpNo X.here hx rfl hd rfl (XT.ii_le_f (by simpa using hc)) k
theorem uD (X:Stand p l e R s m args below meth c T locs cells slots)(hx:p.tables.exec=Jvm.exec){pc:Nat}{Ls:Array Slot}{st:List Value}{x y:Int64}{o:Int}(q0 q1 q2:Nat)(hd0:decode c.code pc = .ok (.lcmp,1))(h0:pc+1=q0)(hd:decode c.code q0 = .ok (.ifCond .eq o,3))(ho:0≤(q0:Int)+o)(h1:((q0:Int)+o).toNat=q1)(h2:q0+3=q2)(Kt:x.toInt=y.toInt→Go p e below Ev T (mkF m q1 Ls st))(Kf:x.toInt≠y.toInt→Go p e below Ev T (mkF m q2 Ls st)):Go p e below Ev T (mkF m pc Ls (.long y :: .long x::st)):=by
 have Q:=c_lcmp x y
 have C:x.toInt<y.toInt∨x.toInt=y.toInt∨y.toInt<x.toInt:=by omega
 refine kx X hx q0 hd0 h0 (jj X hx q1 q2 hd ho h1 h2 (fun hc=>Kt ?_) (fun hc=>Kf ?_))<;>(rcases C with C|C|C<;>first|(have:=Q.1 C;omega)|(have:=Q.2.1 C;omega)|(have:=Q.2.2 C;omega))
theorem uE (X:Stand p l e R s m args below meth c T locs cells slots)(hx:p.tables.exec=Jvm.exec){pc:Nat}{Ls:Array Slot}{st:List Value}{x y:Int64}{o:Int}(q0 q1 q2:Nat)(hd0:decode c.code pc = .ok (.lcmp,1))(h0:pc+1=q0)(hd:decode c.code q0 = .ok (.ifCond .ne o,3))(ho:0≤(q0:Int)+o)(h1:((q0:Int)+o).toNat=q1)(h2:q0+3=q2)(Kt:x.toInt≠y.toInt→Go p e below Ev T (mkF m q1 Ls st))(Kf:x.toInt=y.toInt→Go p e below Ev T (mkF m q2 Ls st)):Go p e below Ev T (mkF m pc Ls (.long y :: .long x::st)):=by
 have Q:=c_lcmp x y
 have C:x.toInt<y.toInt∨x.toInt=y.toInt∨y.toInt<x.toInt:=by omega
 refine kx X hx q0 hd0 h0 (jk X hx q1 q2 hd ho h1 h2 (fun hc=>Kt ?_) (fun hc=>Kf ?_))<;>(rcases C with C|C|C<;>first|(have:=Q.1 C;omega)|(have:=Q.2.1 C;omega)|(have:=Q.2.2 C;omega))
theorem uF (X:Stand p l e R s m args below meth c T locs cells slots)(hx:p.tables.exec=Jvm.exec){pc:Nat}{Ls:Array Slot}{st:List Value}{x y:Int64}{o:Int}(q0 q1 q2:Nat)(hd0:decode c.code pc = .ok (.lcmp,1))(h0:pc+1=q0)(hd:decode c.code q0 = .ok (.ifCond .lt o,3))(ho:0≤(q0:Int)+o)(h1:((q0:Int)+o).toNat=q1)(h2:q0+3=q2)(Kt:x.toInt<y.toInt→Go p e below Ev T (mkF m q1 Ls st))(Kf:y.toInt≤x.toInt→Go p e below Ev T (mkF m q2 Ls st)):Go p e below Ev T (mkF m pc Ls (.long y :: .long x::st)):=by
 have Q:=c_lcmp x y
 have C:x.toInt<y.toInt∨x.toInt=y.toInt∨y.toInt<x.toInt:=by omega
 refine kx X hx q0 hd0 h0 (o_ X hx q1 q2 hd ho h1 h2 (fun hc=>Kt ?_) (fun hc=>Kf ?_))<;>(rcases C with C|C|C<;>first|(have:=Q.1 C;omega)|(have:=Q.2.1 C;omega)|(have:=Q.2.2 C;omega))
theorem uG (X:Stand p l e R s m args below meth c T locs cells slots)(hx:p.tables.exec=Jvm.exec){pc:Nat}{Ls:Array Slot}{st:List Value}{x y:Int64}{o:Int}(q0 q1 q2:Nat)(hd0:decode c.code pc = .ok (.lcmp,1))(h0:pc+1=q0)(hd:decode c.code q0 = .ok (.ifCond .ge o,3))(ho:0≤(q0:Int)+o)(h1:((q0:Int)+o).toNat=q1)(h2:q0+3=q2)(Kt:y.toInt≤x.toInt→Go p e below Ev T (mkF m q1 Ls st))(Kf:x.toInt<y.toInt→Go p e below Ev T (mkF m q2 Ls st)):Go p e below Ev T (mkF m pc Ls (.long y :: .long x::st)):=by
 have Q:=c_lcmp x y
 have C:x.toInt<y.toInt∨x.toInt=y.toInt∨y.toInt<x.toInt:=by omega
 refine kx X hx q0 hd0 h0 (pd X hx q1 q2 hd ho h1 h2 (fun hc=>Kt ?_) (fun hc=>Kf ?_))<;>(rcases C with C|C|C<;>first|(have:=Q.1 C;omega)|(have:=Q.2.1 C;omega)|(have:=Q.2.2 C;omega))
theorem uH (X:Stand p l e R s m args below meth c T locs cells slots)(hx:p.tables.exec=Jvm.exec){pc:Nat}{Ls:Array Slot}{st:List Value}{x y:Int64}{o:Int}(q0 q1 q2:Nat)(hd0:decode c.code pc = .ok (.lcmp,1))(h0:pc+1=q0)(hd:decode c.code q0 = .ok (.ifCond .gt o,3))(ho:0≤(q0:Int)+o)(h1:((q0:Int)+o).toNat=q1)(h2:q0+3=q2)(Kt:y.toInt<x.toInt→Go p e below Ev T (mkF m q1 Ls st))(Kf:x.toInt≤y.toInt→Go p e below Ev T (mkF m q2 Ls st)):Go p e below Ev T (mkF m pc Ls (.long y :: .long x::st)):=by
 have Q:=c_lcmp x y
 have C:x.toInt<y.toInt∨x.toInt=y.toInt∨y.toInt<x.toInt:=by omega
 refine kx X hx q0 hd0 h0 (pe X hx q1 q2 hd ho h1 h2 (fun hc=>Kt ?_) (fun hc=>Kf ?_))<;>(rcases C with C|C|C<;>first|(have:=Q.1 C;omega)|(have:=Q.2.1 C;omega)|(have:=Q.2.2 C;omega))
theorem uI (X:Stand p l e R s m args below meth c T locs cells slots)(hx:p.tables.exec=Jvm.exec){pc:Nat}{Ls:Array Slot}{st:List Value}{x y:Int64}{o:Int}(q0 q1 q2:Nat)(hd0:decode c.code pc = .ok (.lcmp,1))(h0:pc+1=q0)(hd:decode c.code q0 = .ok (.ifCond .le o,3))(ho:0≤(q0:Int)+o)(h1:((q0:Int)+o).toNat=q1)(h2:q0+3=q2)(Kt:x.toInt≤y.toInt→Go p e below Ev T (mkF m q1 Ls st))(Kf:y.toInt<x.toInt→Go p e below Ev T (mkF m q2 Ls st)):Go p e below Ev T (mkF m pc Ls (.long y :: .long x::st)):=by
 have Q:=c_lcmp x y
 have C:x.toInt<y.toInt∨x.toInt=y.toInt∨y.toInt<x.toInt:=by omega
 refine kx X hx q0 hd0 h0 (pf X hx q1 q2 hd ho h1 h2 (fun hc=>Kt ?_) (fun hc=>Kf ?_))<;>(rcases C with C|C|C<;>first|(have:=Q.1 C;omega)|(have:=Q.2.1 C;omega)|(have:=Q.2.2 C;omega))
theorem qh (i j:Int)(o:CmpOp):(i<j→(cmpValue (some (compare i j)) o).toInt=-1)∧(i=j→(cmpValue (some (compare i j)) o).toInt=0)∧(j<i→(cmpValue (some (compare i j)) o).toInt=1):=by
 refine⟨fun q=>?_,fun q=>?_,fun q=>?_⟩
 ·rw[show compare i j = .lt from by rw[Jvm.FP.Core.compare_ite];simp [q]];cases o<;>rfl
 ·rw[show compare i j = .eq from by rw[Jvm.FP.Core.compare_ite];simp [q]];cases o<;>rfl
 ·rw[show compare i j = .gt from by rw[Jvm.FP.Core.compare_ite];simp [show ¬i<j by omega,show ¬i=j by omega]];cases o<;>rfl
theorem Pe (X:Stand p l e R s m args below meth c T locs cells slots)(hx:p.tables.exec=Jvm.exec){pc:Nat}{Ls:Array Slot}{st:List Value}(hZ:Z.Warmed39 s.vm){own C:String}{i n:Nat}(hown:s.vm.findClass own=some m.cls)(w:(Jvm.Cond.classLink own i C).before a0 Z=true)(wi:(Jvm.Cond.instantiable C n).before a0 Z=true)(wz:(Jvm.Cond.initialized C).before a0 Z=true)(eT:T.heap=h)(q:Nat)(hd:decode c.code pc = .ok (.new i,3))(hq:pc+3=q)(hc:cells+1≤R.cells)(hl:slots+n≤R.slots)
  (K:∀(T':State) (h':Heap) (a:Addr),a=h.size→Stand p l e R s m args below meth c T' locs (cells+1) (slots+n)→T'.heap=h'→Ext h h'→Exa Z h' a C→(∀{O nm d:String} {ty:FieldType},Laid Z a0 C O nm d→parseFieldDescriptor d=some ty→Fld Z h' a O nm d (defaultValue ty))→Go p e below Ev T' (mkF m q Ls (.ref a::st))):Go p e below Ev T (mkF m pc Ls st):=by
 subst hq
 obtain⟨T',h',X',e',E',A',D',-,st'⟩:=newO X hx hZ hown w wi wz eT (g:=mkF m pc Ls st) rfl hd hc hl
 exact (K T' h' _ rfl X' e' E' A' D').on st'
theorem xX (X:Stand p l e R s m args below meth c T locs cells slots)(hx:p.tables.exec=Jvm.exec){pc:Nat}{Ls:Array Slot}{st:List Value}(hZ:Z.Warmed39 s.vm){own:String}{i:Nat}(hown:s.vm.findClass own=some m.cls)(w1:(Jvm.Cond.methodLink own i ⟨"java/lang/Object","<init>","()V"⟩).before a0 Z=true)(w2:(Jvm.Cond.instanceMethod ⟨"java/lang/Object","<init>","()V"⟩).before a0 Z=true)(w3:(Jvm.Cond.code ⟨"java/lang/Object","<init>","()V"⟩ object_method_1_code 1 none).before a0 Z=true)(eT:T.heap=h){a:Addr}(W:Nat)(q:Nat)(hd:decode c.code pc = .ok (.invokespecial i,3))(hq:pc+3=q)(hsz:Ls.size=c.maxLocals)(hf:1≤R.frames)(hW:(st.map fun v=>v.category).sum≤W)(hl:W+12≤R.locals)(K:∀T',Stand p l e R s m args below meth c T' locs cells slots→T'.heap=h→Go p e below Ev T' (mkF m q Ls st)):Go p e below Ev T (mkF m pc Ls (.ref a::st)):=by
 subst hq
 obtain⟨T',X',e',st'⟩:=initO X hx hZ hown w1 w2 w3 eT (g:=mkF m pc Ls (.ref a::st)) rfl hsz rfl hd hf (W:=W) (by show 2*0+_≤_;omega) hl
 exact (K T' X' e').on st'
theorem dy (X:Stand p l e R s m args below meth c T locs cells slots)(hx:p.tables.exec=Jvm.exec){pc:Nat}{Ls:Array Slot}{st:List Value}(hZ:Z.Warmed39 s.vm){own:String}{i:Nat}{y:MethodName}{bytes:ByteArray}{maxL:Nat}{ret:Option FieldType}{rm:Room}{as':Array Value}{Q:Option Value→Heap→List Loc→Prop}{argsL rest:List Value}(hown:s.vm.findClass own=some m.cls)(w1:(Jvm.Cond.methodLink own i y).before a0 Z=true)(w2:(Jvm.Cond.static y).before a0 Z=true)(w3:(Jvm.Cond.initialized y.cls).before a0 Z=true)(w4:(Jvm.Cond.code y bytes maxL ret).before a0 Z=true)(hy:y.cls ≠ "java/lang/invoke/MethodHandle"∧y.cls ≠ "java/lang/invoke/VarHandle")(hM:MetFree l y (head1 [Jvm.Cond.code y bytes maxL ret] rm) (fun a U=>a=as'∧Z.Warmed39 U.vm∧U.heap=h) (fun _ _ _ _ _=>True) (fun _ U o U'=>∃v L,o = .returned v∧Q v U'.heap L∧FrameEnd U o U' L rm.cells rm.slots))(eT:T.heap=h)(hst:st=argsL.reverse++rest)(has:argsL.toArray=as')(W:Nat)(q:Nat)(hq:pc+3=q)(hsz:Ls.size=c.maxLocals)(hlen:∀sig,parseMethodDescriptor y.desc=some sig→argsL.length=sig.parameters.length)(hW:(rest.map fun v=>v.category).sum≤W)(hf:rm.frames+1≤R.frames)(hl:W+(maxL+11)+rm.locals≤R.locals)(hc:cells+rm.cells≤R.cells)(hs:slots+rm.slots≤R.slots)(hd:decode c.code pc = .ok (.invokestatic i,3))
  (K:∀(v:Option Value) (T':State) (L:List Loc),Stand p l e R s m args below meth c T' (locs++L) (cells+rm.cells) (slots+rm.slots)→Q v T'.heap L→Go p e below Ev T' (mkF m q Ls (v.toList++rest))):Go p e below Ev T (mkF m pc Ls st):=by
 subst hq hst
 obtain⟨v,vm1,⟨T',L',k',n'⟩,-,X',⟨L,hQ,l',y',z'⟩,st'⟩:=Jvm.LawKit.callS X hx hown (mvT hZ w1) (mvT hZ w2) (mvT hZ w3) (mvT hZ w4) hy (backOf (W:=W) hM hZ w4 w3 hf hl) (g:=mkF m pc Ls (argsL.reverse++rest)) rfl hsz (argsL:=argsL) (rest:=rest) hlen rfl (by show 2*0+_≤_;omega) hd (fun _ _=>⟨has,eT,hc,hs⟩)
 dsimp only[Pt.U,Pt.locs,Pt.cells,Pt.slots] at X' l' y' z' st' hQ
 subst l' y' z'
 exact (K v T' L X' hQ).on fun t k=>st' t k
theorem kz (X:Stand p l e R s m args below meth c T locs cells slots)(hx:p.tables.exec=Jvm.exec){pc:Nat}{Ls:Array Slot}{st:List Value}(hZ:Z.Warmed39 s.vm){own:String}{i:Nat}{y:MethodName}{bytes:ByteArray}{maxL:Nat}{rm:Room}{as':Array Value}{Q:Option Value→Heap→List Loc→Prop}{argsL rest:List Value}(hy1:y.name = "<init>")(hown:s.vm.findClass own=some m.cls)(w1:(Jvm.Cond.methodLink own i y).before a0 Z=true)(w2:(Jvm.Cond.instanceMethod y).before a0 Z=true)(w3:(Jvm.Cond.initialized y.cls).before a0 Z=true)(w4:(Jvm.Cond.code y bytes maxL none).before a0 Z=true)(hy:y.cls ≠ "java/lang/invoke/MethodHandle"∧y.cls ≠ "java/lang/invoke/VarHandle")(hM:MetFree l y (head1 [Jvm.Cond.code y bytes maxL none] rm) (fun a U=>a=as'∧Z.Warmed39 U.vm∧U.heap=h) (fun _ _ _ _ _=>True) (fun _ U o U'=>∃v L,o = .returned v∧Q v U'.heap L∧FrameEnd U o U' L rm.cells rm.slots))(eT:T.heap=h){a:Addr}(hst:st=argsL.reverse ++ .ref a::rest)(has:(.ref a::argsL).toArray=as')(W:Nat)(q:Nat)(hq:pc+3=q)(hsz:Ls.size=c.maxLocals)(hlen:∀sig,parseMethodDescriptor y.desc=some sig→argsL.length=sig.parameters.length)(hW:(rest.map fun v=>v.category).sum≤W)(hf:rm.frames+1≤R.frames)(hl:W+(maxL+11)+rm.locals≤R.locals)(hc:cells+rm.cells≤R.cells)(hs:slots+rm.slots≤R.slots)(hd:decode c.code pc = .ok (.invokespecial i,3))
  (K:∀(v:Option Value) (T':State) (L:List Loc),Stand p l e R s m args below meth c T' (locs++L) (cells+rm.cells) (slots+rm.slots)→Q v T'.heap L→Go p e below Ev T' (mkF m q Ls (v.toList++rest))):Go p e below Ev T (mkF m pc Ls st):=by
 subst hq hst
 obtain⟨v,vm1,⟨T',L',k',n'⟩,-,X',⟨L,hQ,l',y',z'⟩,st'⟩:=X.specialBack hx hy1 hown (mvT hZ w1) (mvT hZ w2) (mvT hZ w4) hy (backOf (W:=W) hM hZ w4 w3 hf hl) (g:=mkF m pc Ls (argsL.reverse ++ .ref a::rest)) rfl hsz (Steps.refl _) (a:=a) (argsL:=argsL) (rest:=rest) hlen rfl (by show 2*0+_≤_;omega) hd (fun _ _=>⟨has,eT,hc,hs⟩)
 dsimp only[Pt.U,Pt.locs,Pt.cells,Pt.slots] at X' l' y' z' st' hQ
 subst l' y' z'
 exact (K v T' L X' hQ).on fun t k=>st'.trans k
theorem eB (X:Stand p l e R s m args below meth c T locs cells slots)(hx:p.tables.exec=Jvm.exec){pc:Nat}{Ls:Array Slot}{st:List Value}(hZ:Z.Warmed39 s.vm){own:String}{i:Nat}{y z:MethodName}{C:String}{bytes:ByteArray}{maxL:Nat}{ret:Option FieldType}{rm:Room}{as':Array Value}{Q:Option Value→Heap→List Loc→Prop}{argsL rest:List Value}(hown:s.vm.findClass own=some m.cls)(w1:(Jvm.Cond.methodLink own i y).before a0 Z=true)(w2:(Jvm.Cond.declares y).before a0 Z=true)(w5:(Jvm.Cond.selects y.cls y y).before a0 Z=true)(w6:(Jvm.Cond.selects C y z).before a0 Z=true)(w7:(Jvm.Cond.instanceMethod z).before a0 Z=true)(w3:(Jvm.Cond.initialized z.cls).before a0 Z=true)(w4:(Jvm.Cond.code z bytes maxL ret).before a0 Z=true)(hy:y.cls ≠ "java/lang/invoke/MethodHandle"∧y.cls ≠ "java/lang/invoke/VarHandle")(hM:MetFree l z (head1 [Jvm.Cond.code z bytes maxL ret] rm) (fun a U=>a=as'∧Z.Warmed39 U.vm∧U.heap=h) (fun _ _ _ _ _=>True) (fun _ U o U'=>∃v L,o = .returned v∧Q v U'.heap L∧FrameEnd U o U' L rm.cells rm.slots))(eT:T.heap=h){b:Addr}(E:Exa Z h b C)(hst:st=argsL.reverse ++ .ref b::rest)(has:(.ref b::argsL).toArray=as')(W:Nat)(q:Nat)(hq:pc+3=q)(hsz:Ls.size=c.maxLocals)(hlen:∀sig,parseMethodDescriptor y.desc=some sig→argsL.length=sig.parameters.length)(hW:(rest.map fun v=>v.category).sum≤W)(hf:rm.frames+1≤R.frames)(hl:W+(maxL+11)+rm.locals≤R.locals)(hc:cells+rm.cells≤R.cells)(hs:slots+rm.slots≤R.slots)(hd:decode c.code pc = .ok (.invokevirtual i,3))
  (K:∀(v:Option Value) (T':State) (L:List Loc),Stand p l e R s m args below meth c T' (locs++L) (cells+rm.cells) (slots+rm.slots)→Q v T'.heap L→Go p e below Ev T' (mkF m q Ls (v.toList++rest))):Go p e below Ev T (mkF m pc Ls st):=by
 subst hq hst
 obtain⟨cq,kq,qa,qb,qc⟩:=isOf hZ eT E
 obtain⟨v,vm1,⟨T',L',k',n'⟩,-,X',⟨L,hQ,l',y',z'⟩,st'⟩:=X.virtualBack hx hown (mvT hZ w1) (mvT hZ w2) (notFace_of_selects (args:=#[]) (mvT hZ w5)) (mvT hZ w6) (mvT hZ w7) hy (backOf (W:=W) hM hZ w4 w3 hf hl) qa qc (g:=mkF m pc Ls (argsL.reverse ++ .ref b::rest)) rfl hsz (Steps.refl _) (argsL:=argsL) (rest:=rest) hlen rfl (by show 2*0+_≤_;omega) hd (fun _ _=>⟨has,eT,hc,hs⟩)
 dsimp only[Pt.U,Pt.locs,Pt.cells,Pt.slots] at X' l' y' z' st' hQ
 subst l' y' z'
 exact (K v T' L X' hQ).on fun t k=>st'.trans k
theorem ia {n:Nat}(j:Int32)(h0:0≤j.toInt)(z:Int32)(h1:j.toInt<z.toInt)(S:n=z.toNatClampNeg):¬(j<0∨n≤j.toNatClampNeg):=by
 subst S
 intro q
 rcases q with q|q
 ·have:=(gz j).1.mp q;omega
 ·simp only[Int32.toNatClampNeg] at q;omega
theorem lY {j:Int32}{k:Nat}(h:j.toInt=(k:Int)):j.toNatClampNeg=k:=by simp only[Int32.toNatClampNeg];omega
theorem te (X:Stand p l e R s m args below meth c T locs cells slots)(hx:p.tables.exec=Jvm.exec){pc:Nat}{Ls:Array Slot}{st:List Value}(hZ:Z.Warmed39 s.vm){aty:ArrayType}(w:(Jvm.Cond.arrayClass (newarray.typeOf aty)).before a0 Z=true)(eT:T.heap=h){n:Int32}(hn:0≤n.toInt){cap:Nat}(hcap:n.toInt≤cap)(hb:cap*8≤536870912)(q:Nat)(hd:decode c.code pc = .ok (.newarray aty,2))(hq:pc+2=q)(hc:cells+1≤R.cells)(hl:slots+cap≤R.slots){ad:String}(had : "["++(newarray.typeOf aty).toString=ad)
  (K:∀(T':State) (h':Heap) (k:ClassId) (a:Addr),a=h.size→Stand p l e R s m args below meth c T' locs (cells+1) (slots+cap)→T'.heap=h'→Ext h h'→Arv Z h' a k (newarray.typeOf aty) n [] (defaultValue (newarray.typeOf aty))→Exa Z h' a ad→Go p e below Ev T' (mkF m q Ls (.ref a::st))):Go p e below Ev T (mkF m pc Ls (.int n::st)):=by
 subst hq
 have hn':¬n<0:=fun q=>by have:=(gz n).1.mp q;omega
 obtain⟨T',h',k,X',e',E',A',B',st'⟩:=newPE X hx hZ w eT (g:=mkF m pc Ls (.int n::st)) rfl hd rfl hn' (cap:=cap) (by simp only[Int32.toNatClampNeg];omega) hb hc hl had
 exact (K T' h' k _ rfl X' e' E' (Arv.new A' hn') B').on st'
theorem Pf (X:Stand p l e R s m args below meth c T locs cells slots)(hx:p.tables.exec=Jvm.exec){pc:Nat}{Ls:Array Slot}{st:List Value}(hZ:Z.Warmed39 s.vm)(eT:T.heap=h){a:Addr}{k:ClassId}{ty:FieldType}{z:Int32}{vs:List Value}{dv:Value}(V:Arv Z h a k ty z vs dv)(q:Nat)(hd:decode c.code pc = .ok (.arraylength,1))(hq:pc+1=q)(K:Go p e below Ev T (mkF m q Ls (.int z::st))):Go p e below Ev T (mkF m pc Ls (.ref a::st)):=by
 subst hq
 obtain⟨cl,A,q1,S,q3,H,G⟩:=V
 refine K.on fun t k=>X.arraylength hx (by rw[eT];exact A.1) (State.isArrayOf_alike hZ.alike A.2.1) (g:=mkF m pc Ls (.ref a::st)) rfl rfl hd t ?_
 rw[len_of S q3]
 exact k
theorem xY (X:Stand p l e R s m args below meth c T locs cells slots)(hx:p.tables.exec=Jvm.exec){pc:Nat}{Ls:Array Slot}{st:List Value}(hZ:Z.Warmed39 s.vm)(eT:T.heap=h){a:Addr}{k:ClassId}{z j:Int32}{x:UInt64}{vs:List Value}{dv:Value}(V:Arv Z h a k .double z vs dv)(i:Nat)(hi:j.toInt=(i:Int))(hz:j.toInt<z.toInt)(hv:i<vs.length)(q:Nat)(hd:decode c.code pc = .ok (.dastore,1))(hq:pc+1=q)
  (K:∀T' h',Stand p l e R s m args below meth c T' (locs++[⟨a,j.toNatClampNeg⟩]) cells slots→T'.heap=h'→Wr h h' a j.toNatClampNeg (.double x)→Arv Z h' a k .double z (vs.set i (.double x)) dv→Go p e below Ev T' (mkF m q Ls st)):Go p e below Ev T (mkF m pc Ls (.double x :: .int j :: .ref a::st)):=by
 subst hq
 obtain⟨cl,A,q1,S,q3,H,G⟩:=V
 have hj:=ia j (by omega) z hz S
 obtain⟨T',h',X',e',W',st'⟩:=stD X hx hZ eT A hj (g:=mkF m pc Ls (.double x :: .int j :: .ref a::st)) rfl rfl hd
 exact (K T' h' X' e' W' (Arv.set A q1 S q3 H G rfl W' i (lY hi) hv)).on st'
theorem xZ (X:Stand p l e R s m args below meth c T locs cells slots)(hx:p.tables.exec=Jvm.exec){pc:Nat}{Ls:Array Slot}{st:List Value}(hZ:Z.Warmed39 s.vm)(eT:T.heap=h){a:Addr}{k:ClassId}{z j:Int32}{x:Int32}{vs:List Value}{dv:Value}(V:Arv Z h a k .int z vs dv)(i:Nat)(hi:j.toInt=(i:Int))(hz:j.toInt<z.toInt)(hv:i<vs.length)(q:Nat)(hd:decode c.code pc = .ok (.iastore,1))(hq:pc+1=q)
  (K:∀T' h',Stand p l e R s m args below meth c T' (locs++[⟨a,j.toNatClampNeg⟩]) cells slots→T'.heap=h'→Wr h h' a j.toNatClampNeg (.int x)→Arv Z h' a k .int z (vs.set i (.int x)) dv→Go p e below Ev T' (mkF m q Ls st)):Go p e below Ev T (mkF m pc Ls (.int x :: .int j :: .ref a::st)):=by
 subst hq
 obtain⟨cl,A,q1,S,q3,H,G⟩:=V
 have hj:=ia j (by omega) z hz S
 obtain⟨T',h',X',e',W',st'⟩:=stI X hx hZ eT A hj (g:=mkF m pc Ls (.int x :: .int j :: .ref a::st)) rfl rfl hd
 exact (K T' h' X' e' W' (Arv.set A q1 S q3 H G rfl W' i (lY hi) hv)).on st'
theorem zL (X:Stand p l e R s m args below meth c T locs cells slots)(hx:p.tables.exec=Jvm.exec){pc:Nat}{Ls:Array Slot}{st:List Value}(hZ:Z.Warmed39 s.vm)(eT:T.heap=h){a:Addr}{k:ClassId}{z j:Int32}{v:Value}{vs:List Value}{dv:Value}(V:Arv Z h a k .double z vs dv)(hi:0≤j.toInt)(hz:j.toInt<z.toInt)(hv:vs.getD j.toNatClampNeg dv=v)(q:Nat)(hd:decode c.code pc = .ok (.daload,1))(hq:pc+1=q)(K:Go p e below Ev T (mkF m q Ls (v::st))):Go p e below Ev T (mkF m pc Ls (.int j :: .ref a::st)):=by
 subst hq
 obtain⟨cl,A,q1,S,q3,H,G⟩:=V
 have hj:=ia j hi z hz S
 exact K.on fun t k=>X.daload hx (by rw[eT];exact A.1) (State.isArrayOf_alike hZ.alike A.2.1) A.2.2 hj (H.at hj hv) (g:=mkF m pc Ls (.int j :: .ref a::st)) rfl rfl hd t k
theorem zM (X:Stand p l e R s m args below meth c T locs cells slots)(hx:p.tables.exec=Jvm.exec){pc:Nat}{Ls:Array Slot}{st:List Value}(hZ:Z.Warmed39 s.vm)(eT:T.heap=h){a:Addr}{k:ClassId}{z j:Int32}{v:Value}{vs:List Value}{dv:Value}(V:Arv Z h a k .int z vs dv)(hi:0≤j.toInt)(hz:j.toInt<z.toInt)(hv:vs.getD j.toNatClampNeg dv=v)(q:Nat)(hd:decode c.code pc = .ok (.iaload,1))(hq:pc+1=q)(K:Go p e below Ev T (mkF m q Ls (v::st))):Go p e below Ev T (mkF m pc Ls (.int j :: .ref a::st)):=by
 subst hq
 obtain⟨cl,A,q1,S,q3,H,G⟩:=V
 have hj:=ia j hi z hz S
 exact K.on fun t k=>X.iaload hx (by rw[eT];exact A.1) (State.isArrayOf_alike hZ.alike A.2.1) A.2.2 hj (H.at hj hv) (g:=mkF m pc Ls (.int j :: .ref a::st)) rfl rfl hd t k
theorem HI (X:Stand p l e R s m args below meth c T locs cells slots)(hx:p.tables.exec=Jvm.exec){pc:Nat}{Ls:Array Slot}{st:List Value}(hZ:Z.Warmed39 s.vm){own ad:String}{i:Nat}(hown:s.vm.findClass own=some m.cls)(w1:(Jvm.Cond.methodLink own i ⟨ad,"clone","()Ljava/lang/Object;"⟩).before a0 Z=true)(w2:(Jvm.Cond.sameMethod ad "java/lang/Object" "clone" "()Ljava/lang/Object;").before a0 Z=true)(w3:(Jvm.Cond.native ⟨"java/lang/Object","clone","()Ljava/lang/Object;"⟩).before a0 Z=true)(w4:(Jvm.Cond.instanceMethod ⟨"java/lang/Object","clone","()Ljava/lang/Object;"⟩).before a0 Z=true)(w5:(Jvm.Cond.selects ad ⟨ad,"clone","()Ljava/lang/Object;"⟩ ⟨"java/lang/Object","clone","()Ljava/lang/Object;"⟩).before a0 Z=true)(w6:(Jvm.Cond.castable ad "java/lang/Cloneable").before a0 Z=true)(eT:T.heap=h){a:Addr}{k:ClassId}{ty:FieldType}{z:Int32}{vs:List Value}{dv:Value}(V:Arv Z h a k ty z vs dv)(E:Exa Z h a ad)(W cap:Nat)(q:Nat)(hd:decode c.code pc = .ok (.invokevirtual i,3))(hq:pc+3=q)(hsz:Ls.size=c.maxLocals)(hf:1≤R.frames)(hW:(st.map fun v=>v.category).sum≤W)(hl:W+14≤R.locals)(hcap:z.toInt≤cap)(hc:cells+1≤R.cells)(hs:slots+cap≤R.slots)
  (K:∀(T':State) (h':Heap) (b:Addr),b=h.size→Stand p l e R s m args below meth c T' locs (cells+1) (slots+cap)→T'.heap=h'→Ext h h'→Arv Z h' b k ty z vs dv→Exa Z h' b ad→Go p e below Ev T' (mkF m q Ls (.ref b::st))):Go p e below Ev T (mkF m pc Ls (.ref a::st)):=by
 subst hq
 obtain⟨T',h',X',e',E',V',B',st'⟩:=cloneH X hx hZ hown w1 w2 w3 w4 w5 w6 eT V.arh E (g:=mkF m pc Ls (.ref a::st)) rfl hsz rfl hd hf (W:=W) (cap:=cap) (by show 2*0+_≤_;omega) hl (by simp only[Int32.toNatClampNeg];omega) hc hs
 exact (K T' h' _ rfl X' e' E' V' B').on st'
theorem Nz (X:Stand p l e R s m args below meth c T locs cells slots)(hx:p.tables.exec=Jvm.exec){pc:Nat}{Ls:Array Slot}{st:List Value}(hZ:Z.Warmed39 s.vm){own C:String}{i:Nat}(hown:s.vm.findClass own=some m.cls)(w:(Jvm.Cond.classLink own i C).before a0 Z=true)(eT:T.heap=h){a:Addr}(F:Ins Z h a C true)(q:Nat)(hd:decode c.code pc = .ok (.checkcast i,3))(hq:pc+3=q)(K:∀T',Stand p l e R s m args below meth c T' locs cells slots→T'.heap=h→Go p e below Ev T' (mkF m q Ls (.ref a::st))):Go p e below Ev T (mkF m pc Ls (.ref a::st)):=by
 subst hq
 obtain⟨T',X',e',st'⟩:=castY X hx hZ hown w eT F (g:=mkF m pc Ls (.ref a::st)) rfl rfl hd
 exact (K T' X' e').on st'
end OwnKit
theorem lZ:parseMethodDescriptor "(II)I" = some ⟨[.int,.int],some .int⟩:=by decide +kernel
theorem HJ:parseMethodDescriptor "(IIZ)[I" = some ⟨[.int,.int,.boolean],some (.array .int)⟩:=by decide +kernel
theorem HK:parseMethodDescriptor "(IIZ)[D" = some ⟨[.int,.int,.boolean],some (.array .double)⟩:=by decide +kernel
theorem iD:parseMethodDescriptor "(I)V" = some ⟨[.int],none⟩:=by decide +kernel
theorem HL:parseMethodDescriptor "()V" = some ⟨[],none⟩:=by decide +kernel
theorem HM:parseMethodDescriptor "([[I[[D)Z" = some ⟨[(.array (.array .int)),(.array (.array .double))],some .boolean⟩:=by decide +kernel
theorem HN:parseMethodDescriptor "(Lcom/example/tracefold/tracefold/mining/FactoredInverse;[[I[[D)V" = some ⟨[(.object "com/example/tracefold/tracefold/mining/FactoredInverse"),(.array (.array .int)),(.array (.array .double))],none⟩:=by decide +kernel
theorem uJ:parseMethodDescriptor "([II)[I" = some ⟨[(.array .int),.int],some (.array .int)⟩:=by decide +kernel
theorem HP:parseMethodDescriptor "([DI)[D" = some ⟨[(.array .double),.int],some (.array .double)⟩:=by decide +kernel
theorem zN:parseMethodDescriptor "(Lcom/example/tracefold/tracefold/mining/FactoredInverse;[I)V" = some ⟨[(.object "com/example/tracefold/tracefold/mining/FactoredInverse"),(.array .int)],none⟩:=by decide +kernel
theorem mi:parseMethodDescriptor "([II)V" = some ⟨[(.array .int),.int],none⟩:=by decide +kernel
theorem jl:parseMethodDescriptor "(II)V" = some ⟨[.int,.int],none⟩:=by decide +kernel
theorem zO:parseMethodDescriptor "()J" = some ⟨[],some .long⟩:=by decide +kernel
theorem mj:parseMethodDescriptor "(I)I" = some ⟨[.int],some .int⟩:=by decide +kernel
theorem zP:parseMethodDescriptor "(ID)Z" = some ⟨[.int,.double],some .boolean⟩:=by decide +kernel
theorem zQ:parseMethodDescriptor "(III)V" = some ⟨[.int,.int,.int],none⟩:=by decide +kernel
theorem mo:parseMethodDescriptor "(ID)V" = some ⟨[.int,.double],none⟩:=by decide +kernel
theorem zR:parseMethodDescriptor "(IID)V" = some ⟨[.int,.int,.double],none⟩:=by decide +kernel
theorem zS:parseMethodDescriptor "([D)[D" = some ⟨[(.array .double)],some (.array .double)⟩:=by decide +kernel
theorem zT:parseMethodDescriptor "(ILcom/example/tracefold/tracefold/mining/SparseVector;)V" = some ⟨[.int,(.object "com/example/tracefold/tracefold/mining/SparseVector")],none⟩:=by decide +kernel
theorem zU:parseMethodDescriptor "()I" = some ⟨[],some .int⟩:=by decide +kernel
theorem zV:parseMethodDescriptor "(I)D" = some ⟨[.int],some .double⟩:=by decide +kernel
def aV (n0:Nat)(v:Option Value)(h:Heap)(L:List Loc):Prop:=v=some (.int 1)∧Fr n0 L
theorem zW {i:Int}{a:UInt64}(s:Bool)(c:Nat)(q:Int)(h:Jvm.FP.Core.val64 a = .fin s c q)(h2:Jvm.FP.Core.signed s (c*2 ^ q.toNat)=i*((2 ^ (-q).toNat:Nat):Int)):Jvm.FP.Core.DInt i a:=by
 show Jvm.FP.Core.Whole i _
 rw[h]
 exact h2
theorem x4:Jvm.FP.Core.DInt 0 (0:UInt64):=zW false 0 (-1074) (by decide +kernel) (by decide +kernel)
set_option maxRecDepth 65536
set_option maxHeartbeats 40000000
section OwnKit2
variable {p:Program}{l:Launch}{e:Env}{R:Room}{s:State}{m:MethodId}{args:Array Value}{below:List Frame}{meth:Method}{c:Code}{T:State}{locs:List Loc}{cells slots:Nat}{Z:State}{a0:Array Value}{h h':Heap}{Ev:State→Outcome→Prop}
theorem uK (X:Stand p l e R s m args below meth c T locs cells slots)(hx:p.tables.exec=Jvm.exec){pc:Nat}{Ls:Array Slot}{st:List Value}(hZ:Z.Warmed39 s.vm){own C:String}{ty:FieldType}{i:Nat}(hown:s.vm.findClass own=some m.cls)(hC:(FieldType.array ty).toString=C)(w1:(Jvm.Cond.classLink own i C).before a0 Z=true)(w2:(Jvm.Cond.arrayOver (.array ty)).before a0 Z=true)(eT:T.heap=h){n:Int32}(hn:0≤n.toInt){cap:Nat}(hcap:n.toInt≤cap)(hb:cap*8≤536870912)(q:Nat)(hd:decode c.code pc = .ok (.anewarray i,3))(hq:pc+3=q)(hc:cells+1≤R.cells)(hl:slots+cap≤R.slots){ad:String}(had : "["++C=ad)
  (K:∀(T':State) (h':Heap) (k:ClassId) (a:Addr),a=h.size→Stand p l e R s m args below meth c T' locs (cells+1) (slots+cap)→T'.heap=h'→Ext h h'→Arv Z h' a k (.array ty) n [] .null→Exa Z h' a ad→OvrA Z k ty C→Go p e below Ev T' (mkF m q Ls (.ref a::st))):Go p e below Ev T (mkF m pc Ls (.int n::st)):=by
 subst hq
 have hn':¬n<0:=fun q=>by have:=(gz n).1.mp q;omega
 obtain⟨T',h',k,X',e',E',A',B',O',st'⟩:=newRA X hx hZ hown hC w1 w2 eT (g:=mkF m pc Ls (.int n::st)) rfl hd rfl hn' (cap:=cap) (by simp only[Int32.toNatClampNeg];omega) hb hc hl had
 exact (K T' h' k _ rfl X' e' E' (Arv.new A' hn') B' O').on st'
theorem mq (X:Stand p l e R s m args below meth c T locs cells slots)(hx:p.tables.exec=Jvm.exec){pc:Nat}{Ls:Array Slot}{st:List Value}(hZ:Z.Warmed39 s.vm)(eT:T.heap=h){a y:Addr}{k:ClassId}{ty:FieldType}{C:String}{z j:Int32}{vs:List Value}{dv:Value}(V:Arv Z h a k (.array ty) z vs dv)(O:OvrA Z k ty C)(I:Ins Z h y C true)(i:Nat)(hi:j.toInt=(i:Int))(hz:j.toInt<z.toInt)(hv:i<vs.length)(q:Nat)(hd:decode c.code pc = .ok (.aastore,1))(hq:pc+1=q)
  (K:∀T' h',Stand p l e R s m args below meth c T' (locs++[⟨a,j.toNatClampNeg⟩]) cells slots→T'.heap=h'→Wr h h' a j.toNatClampNeg (.ref y)→Arv Z h' a k (.array ty) z (vs.set i (.ref y)) dv→Go p e below Ev T' (mkF m q Ls st)):Go p e below Ev T (mkF m pc Ls (.ref y :: .int j :: .ref a::st)):=by
 subst hq
 obtain⟨cl,A,q1,S,q3,H,G⟩:=V
 have hj:=ia j (by omega) z hz S
 obtain⟨T',h',X',e',W',st'⟩:=Jvm.RoadKit.stR X hx hZ eT A hj rfl (Sto.ofVA A q1 O I) (g:=mkF m pc Ls (.ref y :: .int j :: .ref a::st)) rfl rfl hd
 exact (K T' h' X' e' W' (Arv.set A q1 S q3 H G rfl W' i (lY hi) hv)).on st'
theorem zX (X:Stand p l e R s m args below meth c T locs cells slots)(hx:p.tables.exec=Jvm.exec){pc:Nat}{Ls:Array Slot}{st:List Value}(hZ:Z.Warmed39 s.vm)(eT:T.heap=h){a:Addr}{k:ClassId}{ty:FieldType}{z j:Int32}{v:Value}{vs:List Value}{dv:Value}(V:Arv Z h a k ty z vs dv)(hty:ty.isReference=true)(hi:0≤j.toInt)(hz:j.toInt<z.toInt)(hv:vs.getD j.toNatClampNeg dv=v)(q:Nat)(hd:decode c.code pc = .ok (.aaload,1))(hq:pc+1=q)(K:Go p e below Ev T (mkF m q Ls (v::st))):Go p e below Ev T (mkF m pc Ls (.int j :: .ref a::st)):=by
 subst hq
 obtain⟨cl,A,q1,S,q3,H,G⟩:=V
 have hj:=ia j hi z hz S
 exact K.on fun t k=>X.aaload hx (by rw[eT];exact A.1) (State.isArrayOf_alike hZ.alike A.2.1) hty A.2.2 hj (H.at hj hv) (g:=mkF m pc Ls (.int j :: .ref a::st)) rfl rfl hd t k
theorem gT (X:Stand p l e R s m args below meth c T locs cells slots)(hx:p.tables.exec=Jvm.exec){pc:Nat}{Ls:Array Slot}{st:List Value}(hZ:Z.Warmed39 s.vm){own:String}{i:Nat}{y z:MethodName}{C:String}{bytes:ByteArray}{maxL:Nat}{ret:Option FieldType}{rm:Room}{as':Array Value}{Q:Option Value→Heap→List Loc→Prop}{argsL rest:List Value}(hown:s.vm.findClass own=some m.cls)(w1:(Jvm.Cond.methodLink own i y).before a0 Z=true)(w2:(Jvm.Cond.privateMethod y).before a0 Z=true)(w5:(Jvm.Cond.selects z.cls z z).before a0 Z=true)(hyz:z.cls=y.cls)(w7:(Jvm.Cond.instanceMethod y).before a0 Z=true)(w3:(Jvm.Cond.initialized y.cls).before a0 Z=true)(w4:(Jvm.Cond.code y bytes maxL ret).before a0 Z=true)(hy:y.cls ≠ "java/lang/invoke/MethodHandle"∧y.cls ≠ "java/lang/invoke/VarHandle")(hM:MetFree l y (head1 [Jvm.Cond.code y bytes maxL ret] rm) (fun a U=>a=as'∧Z.Warmed39 U.vm∧U.heap=h) (fun _ _ _ _ _=>True) (fun _ U o U'=>∃v L,o = .returned v∧Q v U'.heap L∧FrameEnd U o U' L rm.cells rm.slots))(eT:T.heap=h){b:Addr}(E:Exa Z h b C)(hst:st=argsL.reverse ++ .ref b::rest)(has:(.ref b::argsL).toArray=as')(W:Nat)(q:Nat)(hq:pc+3=q)(hsz:Ls.size=c.maxLocals)(hlen:∀sig,parseMethodDescriptor y.desc=some sig→argsL.length=sig.parameters.length)(hW:(rest.map fun v=>v.category).sum≤W)(hf:rm.frames+1≤R.frames)(hl:W+(maxL+11)+rm.locals≤R.locals)(hc:cells+rm.cells≤R.cells)(hs:slots+rm.slots≤R.slots)(hd:decode c.code pc = .ok (.invokevirtual i,3))
  (K:∀(v:Option Value) (T':State) (L:List Loc),Stand p l e R s m args below meth c T' (locs++L) (cells+rm.cells) (slots+rm.slots)→Q v T'.heap L→Go p e below Ev T' (mkF m q Ls (v.toList++rest))):Go p e below Ev T (mkF m pc Ls st):=by
 subst hq hst
 obtain⟨cell,k,g1,g2,g3,g4,-⟩:=E
 have pa:s.PrivateAt y:=Cond.privateMethod_at (mvP hZ w2 (args:=#[]))
 obtain⟨cc,rr,mm,s1,-,s2,-,kP,s3,s4⟩:=Cond.selects_spec (mvT hZ w5:(Jvm.Cond.selects z.cls z z).before args s=true)
 have fc:=findClass_of_methodNamed s2
 rw[hyz] at fc
 have sl:(Jvm.Cond.selects y.cls y y).before args s=true:=selects_self_of_private fc s3 s4 pa (mvT hZ w7) hy
 obtain⟨v,vm1,⟨T',L',k',n'⟩,-,X',⟨L,hQ,l',y',z'⟩,st'⟩:=X.privateBack hx hown (mvT hZ w1) (mvT hZ w7) sl pa (mvT hZ w4) hy (backOf (W:=W) hM hZ w4 w3 hf hl) (g:=mkF m pc Ls (argsL.reverse ++ .ref b::rest)) rfl hsz (Steps.refl _) (a:=b) (by rw[eT];exact g1) (fun q w=>by rw[w] at g4;cases g4) (argsL:=argsL) (rest:=rest) hlen rfl (by show 2*0+_≤_;omega) hd (fun _ _=>⟨has,eT,hc,hs⟩)
 dsimp only[Pt.U,Pt.locs,Pt.cells,Pt.slots] at X' l' y' z' st' hQ
 subst l' y' z'
 exact (K v T' L X' hQ).on fun t k=>st'.trans k
end OwnKit2
section OwnKit5
variable {p:Program}{l:Launch}{e:Env}{R:Room}{s:State}{m:MethodId}{args:Array Value}{below:List Frame}{meth:Method}{c:Code}{T:State}{locs:List Loc}{cells slots:Nat}{Z:State}{a0:Array Value}{h h':Heap}{Ev:State→Outcome→Prop}
section
variable {n0 n:Nat}{a b:Addr}
theorem qi {C cd:Cell}(e:h[b]? = some cd)(q:C.cls=cd.cls∧C.vm=cd.vm∧C.slots.size=cd.slots.size):Keep h (h.setIfInBounds b C) [b]:=by
 refine⟨by simp,fun x c hx r=>?_,fun x c hx=>?_⟩
 ·have ne:b≠x:=fun z=>r (by simp [z])
  rw[Array.getElem?_setIfInBounds_ne ne]
  exact hx
 ·by_cases ne:b=x
  ·subst ne
   cases e.symm.trans hx
   exact⟨C,by rw[Array.getElem?_setIfInBounds_self_of_lt (Array.getElem?_eq_some_iff.mp e).1],q⟩
  ·exact⟨c,by rw[Array.getElem?_setIfInBounds_ne ne];exact hx,rfl,rfl,rfl⟩
def Lds (Z:State)(a0:Array Value)(K:String)(fl:List (String×String×String)):Prop:=∀f∈fl,Laid Z a0 K f.1 f.2.1 f.2.2∧∃t,parseFieldDescriptor f.2.2=some t
end
theorem x6 {tb:Tables} [Ours tb] {e:Env}{below:List Frame}{T target:State}{m:MethodId}{c:Code}{g:JFrame}(h:At T m c below)(hx:tb.exec=Jvm.exec)(hg:g.method=m){x y z:Value}{rest:List Value}(hd:decode c.code g.pc = .ok (.dup_x2,1))(hs:g.stack=x::y::z::rest)(hc:x.category=1)(hc':y.category=1)(hc'':z.category=1)
  (hr:Steps tb e below (T.setTop { g with pc:=g.pc+1,stack:=x::y::z::x::rest }) target):Steps tb e below (T.setTop g) target:=by
 subst hg
 jvm_step h [h.top,hx,hd,dup_x2.wp_sem,hs,hc,hc',hc'']
 exact hr
theorem HQ (X:Stand p l e R s m args below meth c T locs cells slots)(hx:p.tables.exec=Jvm.exec){pc:Nat}{Ls:Array Slot}{st:List Value}{x y z:Value}(q:Nat)(hd:decode c.code pc = .ok (.dup_x2,1))(hq:pc+1=q)(hc:x.category=1)(hc':y.category=1)(hc'':z.category=1)(K:Go p e below Ev T (mkF m q Ls (x::y::z::x::st))):Go p e below Ev T (mkF m pc Ls (x::y::z::st)):=by
 subst hq
 exact K.on fun _ k=>x6 X.here hx rfl hd rfl hc hc' hc'' k
theorem zY (X:Stand p l e R s m args below meth c T locs cells slots)(hx:p.tables.exec=Jvm.exec){pc:Nat}{Ls:Array Slot}{st:List Value}(hZ:Z.Warmed39 s.vm)(eT:T.heap=h){a:Addr}{k:ClassId}{z j:Int32}{v:Value}{vs:List Value}{dv:Value}(V:Arv Z h a k .boolean z vs dv)(hi:0≤j.toInt)(hz:j.toInt<z.toInt)(hv:vs.getD j.toNatClampNeg dv=v)(q:Nat)(hd:decode c.code pc = .ok (.baload,1))(hq:pc+1=q)(K:Go p e below Ev T (mkF m q Ls (v::st))):Go p e below Ev T (mkF m pc Ls (.int j :: .ref a::st)):=by
 subst hq
 obtain⟨cl,A,q1,S,q3,H,G⟩:=V
 have hj:=ia j hi z hz S
 exact K.on fun t k=>X.baloadBooleans hx (by rw[eT];exact A.1) (State.isArrayOf_alike hZ.alike A.2.1) A.2.2 hj (H.at hj hv) (g:=mkF m pc Ls (.int j :: .ref a::st)) rfl rfl hd t k
theorem x8 (X:Stand p l e R s m args below meth c T locs cells slots)(hx:p.tables.exec=Jvm.exec){pc:Nat}{Ls:Array Slot}{st:List Value}(hZ:Z.Warmed39 s.vm)(eT:T.heap=h){a:Addr}{k:ClassId}{z j x:Int32}{vs:List Value}{dv:Value}(V:Arv Z h a k .boolean z vs dv)(i:Nat)(hi:j.toInt=(i:Int))(hz:j.toInt<z.toInt)(hv:i<vs.length)(y:Int32)(hy:nar .boolean x=y)(q:Nat)(hd:decode c.code pc = .ok (.bastore,1))(hq:pc+1=q)
  (K:∀T' h',Stand p l e R s m args below meth c T' (locs++[⟨a,j.toNatClampNeg⟩]) cells slots→T'.heap=h'→Wr h h' a j.toNatClampNeg (.int y)→Arv Z h' a k .boolean z (vs.set i (.int y)) dv→Go p e below Ev T' (mkF m q Ls st)):Go p e below Ev T (mkF m pc Ls (.int x :: .int j :: .ref a::st)):=by
 subst hq hy
 obtain⟨cl,A,q1,S,q3,H,G⟩:=V
 have hj:=ia j (by omega) z hz S
 obtain⟨T',h',X',e',W',st'⟩:=stZ X hx hZ eT A hj (g:=mkF m pc Ls (.int x :: .int j :: .ref a::st)) rfl rfl hd
 exact (K T' h' X' e' W' (Arv.set A q1 S q3 H G (fits_nar_bool _) W' i (lY hi) hv)).on st'
theorem HS (X:Stand p l e R s m args below meth c T locs cells slots)(hx:p.tables.exec=Jvm.exec){pc:Nat}{Ls:Array Slot}{st:List Value}(hZ:Z.Warmed39 s.vm){own:String}{i:Nat}(hown:s.vm.findClass own=some m.cls)(w1:(Jvm.Cond.methodLink own i Jvm.Stand.acN).before a0 Z=true)(w2:(Jvm.Cond.native Jvm.Stand.acN).before a0 Z=true)(w3:(Jvm.Cond.static Jvm.Stand.acN).before a0 Z=true)(w4:(Jvm.Cond.initialized "java/lang/System").before a0 Z=true)(eT:T.heap=h){a b:Addr}{k k':ClassId}{ty:FieldType}(hty:((refKind ty != refKind ty)||(!refKind ty&&ty != ty))=false){z z':Int32}{vs vs':List Value}{dv dv':Value}(A:Arv Z h a k ty z vs dv)(B:Arv Z h b k' ty z' vs' dv')(W:Nat)(q:Nat)(hd:decode c.code pc = .ok (.invokestatic i,3))(hq:pc+3=q)(hsz:Ls.size=c.maxLocals)(hf:1≤R.frames)(hW:(st.map fun v=>v.category).sum≤W)(hl:W+(nativeFrameWords "java/lang/System" "arraycopy" 5+11)≤R.locals)
  (K:∀T',Stand p l e R s m args below meth c T' locs cells slots→T'.heap=h→Go p e below Ev T' (mkF m q Ls st)):Go p e below Ev T (mkF m pc Ls (.int 0 :: .int 0 :: .ref b :: .int 0 :: .ref a::st)):=by
 subst hq
 obtain⟨cs,As,q1,S,q3,H,G⟩:=A
 obtain⟨cd,Ad,q1',S',q3',H',G'⟩:=B
 obtain⟨os,ks,hks,sc,hsk⟩:=State.isArrayOf_alike hZ.alike As.2.1
 obtain⟨od,kd,hkd,sd,hdk⟩:=State.isArrayOf_alike hZ.alike Ad.2.1
 have l0:(0:Int32).toInt=0:=by decide
 obtain⟨vm₁,hW₁,X',st'⟩:=X.arraycopyK hx hown (mvT hZ w1) (mvT hZ w2) (mvT hZ w3) (mvT hZ w4) (n:=0) (srcPos:=0) (destPos:=0) (by rw[eT];exact As.1) (by rw[eT];exact Ad.1) os od As.2.2 Ad.2.2 hks hkd hsk hdk hty (by decide) (by decide) (by decide) (by rw[l0];omega) (by rw[l0];omega) (fun vm₁ hw i hi=>absurd hi (Nat.not_lt_zero _)) (g:=mkF m pc Ls (.int 0 :: .int 0 :: .ref b :: .int 0 :: .ref a::st)) rfl hsz rfl hd hf (by show 2*0+_+_≤_;omega)
 have e1:copied cs cd 0 0 0=cd:=rfl
 have e2:copyLocs b (0:Int32).toNatClampNeg (0:Int32).toNatClampNeg=[]:=rfl
 rw[e1] at X' st'
 rw[e2,List.append_nil] at X'
 refine (K _ X' ?_).on st'
 show T.heap.setIfInBounds b cd=h
 rw[eT]
 refine Array.ext_getElem? fun i=>?_
 by_cases e:b=i
 ·subst e
  rw[Array.getElem?_setIfInBounds_self_of_lt (Array.getElem?_eq_some_iff.mp Ad.1).1,Ad.1]
 ·rw[Array.getElem?_setIfInBounds_ne e]
theorem HU (X:Stand p l e R s m args below meth c T locs cells slots)(hx:p.tables.exec=Jvm.exec){pc:Nat}{Ls:Array Slot}{st:List Value}(hZ:Z.Warmed39 s.vm){own:String}{i:Nat}(hown:s.vm.findClass own=some m.cls)(w1:(Jvm.Cond.methodLink own i Jvm.Stand.acN).before a0 Z=true)(w2:(Jvm.Cond.native Jvm.Stand.acN).before a0 Z=true)(w3:(Jvm.Cond.static Jvm.Stand.acN).before a0 Z=true)(w4:(Jvm.Cond.initialized "java/lang/System").before a0 Z=true)(eT:T.heap=h){a b:Addr}{k k':ClassId}{z z':Int32}{vs vs':List Value}{dv dv':Value}(A:Arv Z h a k .int z vs dv)(B:Arv Z h b k' .int z' vs' dv'){n:Int32}(N:Nat)(hN:n=Int32.ofNat N)(hNs:N<2 ^ 31)(h1:(N:Int)≤z.toInt)(h2:(N:Int)≤z'.toInt)(h3:N≤vs.length)(W:Nat)(q:Nat)(hd:decode c.code pc = .ok (.invokestatic i,3))(hq:pc+3=q)(hsz:Ls.size=c.maxLocals)(hf:1≤R.frames)(hW:(st.map fun v=>v.category).sum≤W)(hl:W+(nativeFrameWords "java/lang/System" "arraycopy" 5+11)≤R.locals)
  (K:∀T' h',Stand p l e R s m args below meth c T' (locs++copyLocs b 0 N) cells slots→T'.heap=h'→Keep h h' [b]→Arv Z h' b k' .int z' (vs.take N++vs'.drop N) dv'→Go p e below Ev T' (mkF m q Ls st)):Go p e below Ev T (mkF m pc Ls (.int n :: .int 0 :: .ref b :: .int 0 :: .ref a::st)):=by
 subst hq hN
 obtain⟨cs,As,q1,S,q3,H,G⟩:=A
 obtain⟨cd,Ad,q1',S',q3',H',G'⟩:=B
 obtain⟨os,ks,hks,sc,hsk⟩:=State.isArrayOf_alike hZ.alike As.2.1
 obtain⟨od,kd,hkd,sd,hdk⟩:=State.isArrayOf_alike hZ.alike Ad.2.1
 have l0:(0:Int32).toInt=0:=by decide
 have h00:(0:Int32).toNatClampNeg=0:=by decide
 have ln:(Int32.ofNat N).toInt=N:=Int32.toInt_ofNat_small hNs
 have lc:(Int32.ofNat N).toNatClampNeg=N:=by show (Int32.ofNat N).toInt.toNat=N;rw[ln];rfl
 have zs:(cs.slots.size:Int)=z.toInt:=by rw[S];simp only[Int32.toNatClampNeg];omega
 have zd:(cd.slots.size:Int)=z'.toInt:=by rw[S'];simp only[Int32.toNatClampNeg];omega
 have n0':¬Int32.ofNat N<0:=fun q=>by have:=(gz (Int32.ofNat N)).1.mp q;omega
 obtain⟨vm₁,hW₁,X',st'⟩:=X.arraycopyK hx hown (mvT hZ w1) (mvT hZ w2) (mvT hZ w3) (mvT hZ w4) (n:=Int32.ofNat N) (srcPos:=0) (destPos:=0) (by rw[eT];exact As.1) (by rw[eT];exact Ad.1) os od As.2.2 Ad.2.2 hks hkd hsk hdk (by decide) (by decide) (by decide) n0' (by rw[l0,ln];omega) (by rw[l0,ln];omega) (fun vm₁ hw i hi=>by
  have hi':i<cs.slots.size:=by rw[lc] at hi;omega
  obtain⟨x,ex⟩:=fit_I (G i hi') (by simp)
  have ee:=H i hi'
  rw[ex] at ee
  rw[h00,Nat.zero_add,Array.getD_eq_getD_getElem?,ee]
  exact⟨by simp [fits],trivial⟩) (g:=mkF m pc Ls (.int (Int32.ofNat N) :: .int 0 :: .ref b :: .int 0 :: .ref a::st)) rfl hsz rfl hd hf (by show 2*0+_+_≤_;omega)
 have cf:=Jvm.Free.SB.copied_facts cs cd 0 0 (Int32.ofNat N)
 have at_:=Jvm.Free.SBG.copied_at (cs:=cs) (cd:=cd) (p:=0) (n:=N) (by decide) hNs (by omega)
 rw[lc,h00] at X'
 refine (K _ _ X' rfl ?_ ?_).on st'
 ·show Keep h (T.heap.setIfInBounds b _) [b]
  rw[eT]
  exact qi Ad.1 cf
 ·refine⟨copied cs cd 0 0 (Int32.ofNat N),⟨?_,?_,?_⟩,cf.1.trans q1',cf.2.2.trans S',q3',fun j hj=>?_,fun j hj=>?_⟩
  ·show (T.heap.setIfInBounds b _)[b]? = _
   rw[eT,Array.getElem?_setIfInBounds_self_of_lt (Array.getElem?_eq_some_iff.mp Ad.1).1]
  ·obtain⟨o1,k1,hk1,c1,hk2⟩:=Ad.2.1
   exact⟨fun k h=>o1 k (by rw[←cf.2.1];exact h),k1,by rw[cf.1];exact hk1,c1,hk2⟩
  ·rw[cf.2.1];exact Ad.2.2
  ·rw[cf.2.2] at hj
   have:=at_ j
   rw[show (Int32.ofNat 0)=(0:Int32) from rfl] at this
   rw[this]
   by_cases hjN:j<N
   ·rw[if_pos ⟨Nat.zero_le _,by omega⟩,Nat.sub_zero,Array.getD_eq_getD_getElem?,H j (by omega)]
    simp only[List.getD_eq_getElem?_getD]
    rw[List.getElem?_append_left (by rw[List.length_take];omega),List.getElem?_take_of_lt hjN,List.getElem?_eq_getElem (by omega)]
    rfl
   ·rw[if_neg (by omega),H' j hj]
    simp only[List.getD_eq_getElem?_getD]
    rw[List.getElem?_append_right (by rw[List.length_take];omega),List.getElem?_drop,List.length_take,show N+(j-min N vs.length)=j by omega]
  ·rw[cf.2.2] at hj
   by_cases hjN:j<N
   ·have g:=G j (by omega)
    simp only[List.getD_eq_getElem?_getD] at g ⊢
    rw[List.getElem?_append_left (by rw[List.length_take];omega),List.getElem?_take_of_lt hjN,List.getElem?_eq_getElem (by omega)]
    rw[List.getElem?_eq_getElem (by omega)] at g
    exact g
   ·have g:=G' j hj
    simp only[List.getD_eq_getElem?_getD] at g ⊢
    rw[List.getElem?_append_right (by rw[List.length_take];omega),List.getElem?_drop,List.length_take,show N+(j-min N vs.length)=j by omega]
    exact g
theorem tf {k:Nat}{b:Addr}{n:Nat}(q:k≤b):Fr k (copyLocs b 0 n):=fun y hy=>by
 obtain⟨i,-,rfl⟩:=List.mem_map.mp hy
 exact q
end OwnKit5
section OwnMath
variable {p:Program}{l:Launch}{e:Env}{R:Room}{s:State}{m:MethodId}{args:Array Value}{below:List Frame}{meth:Method}{c:Code}{T:State}{locs:List Loc}{cells slots:Nat}{Z:State}{a0:Array Value}{h h':Heap}{Ev:State→Outcome→Prop}
theorem NA (X:Stand p l e R s m args below meth c T locs cells slots)(hx:p.tables.exec=Jvm.exec){pc:Nat}{Ls:Array Slot}{st:List Value}(hZ:Z.Warmed39 s.vm){own:String}{i:Nat}{by0:ByteArray}(hown:s.vm.findClass own=some m.cls)(w1:(Jvm.Cond.methodLink own i ⟨"java/lang/Math","max","(DD)D"⟩).before a0 Z=true)(w2:(Jvm.Cond.static ⟨"java/lang/Math","max","(DD)D"⟩).before a0 Z=true)(w3:(Jvm.Cond.initialized "java/lang/Math").before a0 Z=true)(w4:(Jvm.Cond.code ⟨"java/lang/Math","max","(DD)D"⟩ by0 4 (some .double)).before a0 Z=true)(hby0:by0=Jvm.Free.Fl.Abs.maxDCode)(eT:T.heap=h){a b:UInt64}(ha:Jvm.Free.Fl.NoNaN64 a)(hb:Jvm.Free.Fl.NoNaN64 b){r:UInt64}(hr:Jvm.Native.java_lang_Math.nans.pick64 true a b=r)(W:Nat)(q:Nat)(hd:decode c.code pc = .ok (.invokestatic i,3))(hq:pc+3=q)(hsz:Ls.size=c.maxLocals)(hW:(st.map fun v=>v.category).sum≤W)(hf:1≤R.frames)(hl:W+15≤R.locals)(hc:cells≤R.cells)(hs:slots≤R.slots)(hpd:parseMethodDescriptor "(DD)D" = some ⟨[.double,.double],some .double⟩)
  (K:∀T',Stand p l e R s m args below meth c T' locs cells slots→T'.heap=h→Go p e below Ev T' (mkF m q Ls (.double r::st))):Go p e below Ev T (mkF m pc Ls (.double b :: .double a::st)):=by
 subst hq hby0
 obtain⟨T',X',e',st'⟩:=natS X hx hZ (y:=⟨"java/lang/Math","max","(DD)D"⟩) hown w1 w2 w3 w4 (by decide) eT (W:=W) (F:=fun a'=>a'=#[.double a,.double b]∧Jvm.Free.Fl.NoNaN64 a∧Jvm.Free.Fl.NoNaN64 b) (val := .double (Jvm.Native.java_lang_Math.nans.pick64 true a b)) (val' := .double r) (fun hcd=>Jvm.Free.Fl.Abs.maxD_pays a b hcd hf hl) (g:=mkF m pc Ls (.double b :: .double a::st)) rfl hsz (argsL:=[.double a,.double b]) (rest:=st) (lenOf hpd rfl) rfl (by show 2*0+_≤_;omega) hd hc hs ⟨rfl,ha,hb⟩ (by rw[hr])
 exact (K T' X' e').on st'
theorem NB (X:Stand p l e R s m args below meth c T locs cells slots)(hx:p.tables.exec=Jvm.exec){pc:Nat}{Ls:Array Slot}{st:List Value}(hZ:Z.Warmed39 s.vm){own:String}{i:Nat}{by0:ByteArray}(hown:s.vm.findClass own=some m.cls)(w1:(Jvm.Cond.methodLink own i ⟨"java/lang/Math","abs","(D)D"⟩).before a0 Z=true)(w2:(Jvm.Cond.static ⟨"java/lang/Math","abs","(D)D"⟩).before a0 Z=true)(w3:(Jvm.Cond.initialized "java/lang/Math").before a0 Z=true)(w4:(Jvm.Cond.code ⟨"java/lang/Math","abs","(D)D"⟩ by0 2 (some .double)).before a0 Z=true)(hby0:by0=Jvm.Free.Fl.Abs.absDCode)(eT:T.heap=h){a:UInt64}(ha:Jvm.Free.Fl.NoNaN64 a)(W:Nat)(q:Nat)(hd:decode c.code pc = .ok (.invokestatic i,3))(hq:pc+3=q)(hsz:Ls.size=c.maxLocals)(hW:(st.map fun v=>v.category).sum≤W)(hf:1≤R.frames)(hl:W+13≤R.locals)(hc:cells≤R.cells)(hs:slots≤R.slots)(hpd:parseMethodDescriptor "(D)D" = some ⟨[.double],some .double⟩)
  (K:∀T',Stand p l e R s m args below meth c T' locs cells slots→T'.heap=h→Go p e below Ev T' (mkF m q Ls (.double (a&&&0x7fffffffffffffff)::st))):Go p e below Ev T (mkF m pc Ls (.double a::st)):=by
 subst hq hby0
 obtain⟨T',X',e',st'⟩:=natS X hx hZ (y:=⟨"java/lang/Math","abs","(D)D"⟩) hown w1 w2 w3 w4 (by decide) eT (W:=W) (F:=fun a'=>a'=#[.double a]∧Jvm.Free.Fl.NoNaN64 a) (val := .double (a&&&0x7fffffffffffffff)) (val' := .double (a&&&0x7fffffffffffffff)) (fun hcd=>Jvm.Free.Fl.Abs.absD_pays a hcd hf hl) (g:=mkF m pc Ls (.double a::st)) rfl hsz (argsL:=[.double a]) (rest:=st) (lenOf hpd rfl) rfl (by show 2*0+_≤_;omega) hd hc hs ⟨rfl,ha⟩ rfl
 exact (K T' X' e').on st'
end OwnMath
def cI:Nat→String
 | 0 => "com/example/tracefold/tracefold/mining/FactoredInverse"
 | 1 => "com/example/tracefold/tracefold/mining/SparseVector"
 | 2 => "com/example/tracefold/tracefold/mining/FactoredInverse$StepQueue"
 | 3 => "com/example/tracefold/tracefold/mining/FactoredInverse$Elimination"
 | 4 => "com/example/tracefold/tracefold/mining/FactoredInverse$Lists"
 | _ => ""
def a_:Nat→List (String×String×String)
 | 0=>[("com/example/tracefold/tracefold/mining/FactoredInverse","uColumns","[I"),("com/example/tracefold/tracefold/mining/FactoredInverse","uValues","[D"),("com/example/tracefold/tracefold/mining/FactoredInverse","lRows","[I"),("com/example/tracefold/tracefold/mining/FactoredInverse","lValues","[D"),("com/example/tracefold/tracefold/mining/FactoredInverse","uColumnSteps","[I"),("com/example/tracefold/tracefold/mining/FactoredInverse","uColumnValues","[D"),("com/example/tracefold/tracefold/mining/FactoredInverse","lRowSteps","[I"),("com/example/tracefold/tracefold/mining/FactoredInverse","lRowValues","[D"),("com/example/tracefold/tracefold/mining/FactoredInverse","etaRows","[I"),("com/example/tracefold/tracefold/mining/FactoredInverse","etaPivots","[D"),("com/example/tracefold/tracefold/mining/FactoredInverse","etaStarts","[I"),("com/example/tracefold/tracefold/mining/FactoredInverse","etaPositions","[I"),("com/example/tracefold/tracefold/mining/FactoredInverse","etaValues","[D"),("com/example/tracefold/tracefold/mining/FactoredInverse","n","I"),("com/example/tracefold/tracefold/mining/FactoredInverse","pivotRows","[I"),("com/example/tracefold/tracefold/mining/FactoredInverse","pivotColumns","[I"),("com/example/tracefold/tracefold/mining/FactoredInverse","pivotValues","[D"),("com/example/tracefold/tracefold/mining/FactoredInverse","uStarts","[I"),("com/example/tracefold/tracefold/mining/FactoredInverse","lStarts","[I"),("com/example/tracefold/tracefold/mining/FactoredInverse","uColumnStarts","[I"),("com/example/tracefold/tracefold/mining/FactoredInverse","lRowStarts","[I"),("com/example/tracefold/tracefold/mining/FactoredInverse","rowSteps","[I"),("com/example/tracefold/tracefold/mining/FactoredInverse","columnSteps","[I"),("com/example/tracefold/tracefold/mining/FactoredInverse","written","Lcom/example/tracefold/tracefold/mining/SparseVector;"),("com/example/tracefold/tracefold/mining/FactoredInverse","moved","Lcom/example/tracefold/tracefold/mining/SparseVector;"),("com/example/tracefold/tracefold/mining/FactoredInverse","work","Lcom/example/tracefold/tracefold/mining/SparseVector;"),("com/example/tracefold/tracefold/mining/FactoredInverse","steps","Lcom/example/tracefold/tracefold/mining/SparseVector;"),("com/example/tracefold/tracefold/mining/FactoredInverse","queue","Lcom/example/tracefold/tracefold/mining/FactoredInverse$StepQueue;"),("com/example/tracefold/tracefold/mining/FactoredInverse","etaCount","I")]
 | 1=>[("com/example/tracefold/tracefold/mining/SparseVector","values","[D"),("com/example/tracefold/tracefold/mining/SparseVector","listed","[Z"),("com/example/tracefold/tracefold/mining/SparseVector","positions","[I"),("com/example/tracefold/tracefold/mining/SparseVector","size","I")]
 | 2=>[("com/example/tracefold/tracefold/mining/FactoredInverse$StepQueue","sweep","I"),("com/example/tracefold/tracefold/mining/FactoredInverse$StepQueue","n","I"),("com/example/tracefold/tracefold/mining/FactoredInverse$StepQueue","heap","[I"),("com/example/tracefold/tracefold/mining/FactoredInverse$StepQueue","queued","[Z")]
 | 3=>[("com/example/tracefold/tracefold/mining/FactoredInverse$Elimination","this$0","Lcom/example/tracefold/tracefold/mining/FactoredInverse;"),("com/example/tracefold/tracefold/mining/FactoredInverse$Elimination","rowColumns","[[I"),("com/example/tracefold/tracefold/mining/FactoredInverse$Elimination","rowValues","[[D"),("com/example/tracefold/tracefold/mining/FactoredInverse$Elimination","rowLengths","[I"),("com/example/tracefold/tracefold/mining/FactoredInverse$Elimination","columnLengths","[I"),("com/example/tracefold/tracefold/mining/FactoredInverse$Elimination","columnRows","[[I"),("com/example/tracefold/tracefold/mining/FactoredInverse$Elimination","rowLists","Lcom/example/tracefold/tracefold/mining/FactoredInverse$Lists;"),("com/example/tracefold/tracefold/mining/FactoredInverse$Elimination","columnLists","Lcom/example/tracefold/tracefold/mining/FactoredInverse$Lists;"),("com/example/tracefold/tracefold/mining/FactoredInverse$Elimination","positions","[I"),("com/example/tracefold/tracefold/mining/FactoredInverse$Elimination","uCount","I"),("com/example/tracefold/tracefold/mining/FactoredInverse$Elimination","lCount","I")]
 | 4=>[("com/example/tracefold/tracefold/mining/FactoredInverse$Lists","first","[I"),("com/example/tracefold/tracefold/mining/FactoredInverse$Lists","next","[I"),("com/example/tracefold/tracefold/mining/FactoredInverse$Lists","previous","[I"),("com/example/tracefold/tracefold/mining/FactoredInverse$Lists","listed","[I")]
 | _=>[]
def gU:Nat→List Value
 | 0=>[.null,.null,.null,.null,.null,.null,.null,.null,.null,.null,.null,.null,.null,.int 0,.null,.null,.null,.null,.null,.null,.null,.null,.null,.null,.null,.null,.null,.null,.int 0]
 | 1=>[.null,.null,.null,.int 0]
 | 2=>[.int 0,.int 0,.null,.null]
 | 3=>[.null,.null,.null,.null,.null,.null,.null,.null,.null,.int 0,.int 0]
 | 4=>[.null,.null,.null,.null]
 | _=>[]
def cJ:Nat→MethodName
 | 1=>⟨"java/lang/Math","min","(II)I"⟩
 | 2=>⟨"com/example/tracefold/tracefold/mining/FactoredInverseTransposeTimesPinLaw","cols","(IIZ)[I"⟩
 | 3=>⟨"com/example/tracefold/tracefold/mining/FactoredInverseTransposeTimesPinLaw","vals","(IIZ)[D"⟩
 | 4=>⟨"com/example/tracefold/tracefold/mining/FactoredInverse","<init>","(I)V"⟩
 | 5=>⟨"java/lang/Object","<init>","()V"⟩
 | 6=>⟨"com/example/tracefold/tracefold/mining/SparseVector","<init>","(I)V"⟩
 | 7=>⟨"com/example/tracefold/tracefold/mining/FactoredInverse$StepQueue","<init>","(I)V"⟩
 | 8=>⟨"com/example/tracefold/tracefold/mining/FactoredInverse","invert","([[I[[D)Z"⟩
 | 9=>⟨"com/example/tracefold/tracefold/mining/FactoredInverse$Elimination","<init>","(Lcom/example/tracefold/tracefold/mining/FactoredInverse;[[I[[D)V"⟩
 | 10=>⟨"java/lang/Math","max","(II)I"⟩
 | 11=>⟨"java/util/Arrays","copyOf","([II)[I"⟩
 | 12=>⟨"java/util/Arrays","copyOf","([DI)[D"⟩
 | 13=>⟨"com/example/tracefold/tracefold/mining/FactoredInverse$Lists","<init>","(Lcom/example/tracefold/tracefold/mining/FactoredInverse;[I)V"⟩
 | 14=>⟨"java/util/Arrays","fill","([II)V"⟩
 | 15=>⟨"com/example/tracefold/tracefold/mining/FactoredInverse$Lists","add","(II)V"⟩
 | 16=>⟨"com/example/tracefold/tracefold/mining/FactoredInverse$Elimination","pivot","()J"⟩
 | 17=>⟨"com/example/tracefold/tracefold/mining/FactoredInverse$Lists","first","(I)I"⟩
 | 18=>⟨"com/example/tracefold/tracefold/mining/FactoredInverse$Elimination","find","(II)I"⟩
 | 19=>⟨"com/example/tracefold/tracefold/mining/FactoredInverse$Elimination","qualifies","(ID)Z"⟩
 | 20=>⟨"java/lang/Math","abs","(D)D"⟩
 | 21=>⟨"java/lang/Math","max","(DD)D"⟩
 | 22=>⟨"com/example/tracefold/tracefold/mining/FactoredInverse$Lists","next","(I)I"⟩
 | 23=>⟨"com/example/tracefold/tracefold/mining/FactoredInverse$Elimination","eliminate","(III)V"⟩
 | 24=>⟨"com/example/tracefold/tracefold/mining/FactoredInverse$Elimination","removeEntry","(II)V"⟩
 | 25=>⟨"com/example/tracefold/tracefold/mining/FactoredInverse$Elimination","addU","(ID)V"⟩
 | 26=>⟨"com/example/tracefold/tracefold/mining/FactoredInverse$Lists","remove","(I)V"⟩
 | 27=>⟨"com/example/tracefold/tracefold/mining/FactoredInverse$Elimination","removeFromColumn","(II)V"⟩
 | 28=>⟨"com/example/tracefold/tracefold/mining/FactoredInverse$Lists","move","(II)V"⟩
 | 29=>⟨"com/example/tracefold/tracefold/mining/FactoredInverse$Elimination","addL","(ID)V"⟩
 | 30=>⟨"com/example/tracefold/tracefold/mining/FactoredInverse$Elimination","subtract","(IID)V"⟩
 | 31=>⟨"com/example/tracefold/tracefold/mining/FactoredInverse","transpose","()V"⟩
 | 32=>⟨"com/example/tracefold/tracefold/mining/FactoredInverse","transposeTimes","([D)[D"⟩
 | 33=>⟨"com/example/tracefold/tracefold/mining/SparseVector","set","(ID)V"⟩
 | 34=>⟨"com/example/tracefold/tracefold/mining/FactoredInverse","replaceRow","(ILcom/example/tracefold/tracefold/mining/SparseVector;)V"⟩
 | 35=>⟨"com/example/tracefold/tracefold/mining/SparseVector","size","()I"⟩
 | 36=>⟨"com/example/tracefold/tracefold/mining/SparseVector","position","(I)I"⟩
 | 37=>⟨"com/example/tracefold/tracefold/mining/SparseVector","get","(I)D"⟩
 | _=>⟨"","",""⟩
def ak:Nat→ByteArray
 | 1=>jdk_29_method_69_code
 | 2=>method_3_code
 | 3=>method_4_code
 | 4=>prog_41_method_1_code
 | 5=>object_method_1_code
 | 6=>prog_74_method_1_code
 | 7=>prog_44_method_1_code
 | 8=>prog_41_method_2_code
 | 9=>prog_42_method_1_code
 | 10=>jdk_29_method_65_code
 | 11=>jdk_65_method_123_code
 | 12=>jdk_65_method_127_code
 | 13=>prog_43_method_1_code
 | 14=>jdk_65_method_103_code
 | 15=>prog_43_method_4_code
 | 16=>prog_42_method_2_code
 | 17=>prog_43_method_2_code
 | 18=>prog_42_method_4_code
 | 19=>prog_42_method_3_code
 | 20=>jdk_29_method_64_code
 | 21=>jdk_29_method_68_code
 | 22=>prog_43_method_3_code
 | 23=>prog_42_method_5_code
 | 24=>prog_42_method_7_code
 | 25=>prog_42_method_11_code
 | 26=>prog_43_method_5_code
 | 27=>prog_42_method_9_code
 | 28=>prog_43_method_6_code
 | 29=>prog_42_method_12_code
 | 30=>prog_42_method_6_code
 | 31=>prog_41_method_4_code
 | 32=>prog_41_method_6_code
 | 33=>prog_74_method_9_code
 | 34=>prog_41_method_10_code
 | 35=>prog_74_method_6_code
 | 36=>prog_74_method_7_code
 | 37=>prog_74_method_4_code
 | _=>code
def ib:Nat→Nat
 | 1=>2
 | 2=>3
 | 3=>3
 | 4=>2
 | 5=>1
 | 6=>2
 | 7=>2
 | 8=>7
 | 9=>10
 | 10=>2
 | 11=>3
 | 12=>3
 | 13=>4
 | 14=>4
 | 15=>3
 | 16=>12
 | 17=>2
 | 18=>4
 | 19=>9
 | 20=>2
 | 21=>4
 | 22=>2
 | 23=>12
 | 24=>4
 | 25=>4
 | 26=>2
 | 27=>4
 | 28=>3
 | 29=>4
 | 30=>15
 | 31=>8
 | 32=>10
 | 33=>4
 | 34=>7
 | 35=>1
 | 36=>2
 | 37=>2
 | _=>0
def ph:Nat→Option FieldType
 | 1=>(some .int)
 | 2=>(some (.array .int))
 | 3=>(some (.array .double))
 | 4=>none
 | 5=>none
 | 6=>none
 | 7=>none
 | 8=>(some .boolean)
 | 9=>none
 | 10=>(some .int)
 | 11=>(some (.array .int))
 | 12=>(some (.array .double))
 | 13=>none
 | 14=>none
 | 15=>none
 | 16=>(some .long)
 | 17=>(some .int)
 | 18=>(some .int)
 | 19=>(some .boolean)
 | 20=>(some .double)
 | 21=>(some .double)
 | 22=>(some .int)
 | 23=>none
 | 24=>none
 | 25=>none
 | 26=>none
 | 27=>none
 | 28=>none
 | 29=>none
 | 30=>none
 | 31=>none
 | 32=>(some (.array .double))
 | 33=>none
 | 34=>none
 | 35=>(some .int)
 | 36=>(some .int)
 | 37=>(some .double)
 | _=>none
section OwnExec
open Jvm.Free.Fl (NoNaN64)
abbrev AD:=Nat×Nat×List Value
def dX (D:Nat→UInt64)(i:Nat):UInt64:=if i<4096 then D i else UInt64.ofNat i
def iW (x:UInt64):Int32:=x.toUInt32.toInt32
def ab (x:Int32):UInt64:=x.toUInt32.toUInt64
theorem be (x:Int32):iW (ab x)=x:=(congrArg UInt32.toInt32 (UInt32.toUInt32_toUInt64 x.toUInt32)).trans rfl
def den (A:Nat→Addr)(D:Nat→UInt64)(W:Nat→Value):Value→Value
 | .ref i => .ref (A i)
 | .double j => .double (dX D j.toNat)
 | .retAddr k=>W k
 | .int n => .int n
 | .long n => .long n
 | .float n => .int (iW (dX D n.toNat))
 | .null => .null
def kn:Value→Bool
 | .retAddr _=>false
 | _=>true
def rfA:Value→Bool
 | .ref _=>true
 | .null=>true
 | _=>false
def aZ (A:Nat→Addr)(D:Nat→UInt64)(W:Nat→Value):Slot→Slot
 | .val v => .val (den A D W v)
 | .unset => .unset
 | .second => .second
def knS:Slot→Bool
 | .val v=>kn v
 | _=>true
section
variable {A:Nat→Addr}{D:Nat→UInt64}{W:Nat→Value}
theorem dp {v:Value}(h:kn v=true):(den A D W v).category=v.category:=by cases v<;>first|rfl|simp [kn] at h
theorem pj {v:Value}(h:rfA v=true):(den A D W v).isRef=true:=by cases v<;>first|rfl|simp [rfA] at h
theorem IU {v:Value}(h:rfA v=true):kn v=true:=by cases v<;>first|rfl|simp [rfA] at h
theorem eC {L:Array Slot}{k:Nat}{v:Value}(h:L[k]? = some (.val v)):(L.map (aZ A D W))[k]? = some (.val (den A D W v)):=by rw[Array.getElem?_map,h];rfl
theorem eu {L L':Array Slot}{i:Nat}{x:Slot}(h:setAt L i x=some L'):setAt (L.map (aZ A D W)) i (aZ A D W x)=some (L'.map (aZ A D W)):=by
 unfold setAt at h ⊢
 split at h
 ·rename_i q
  cases h
  rw[if_pos (by simpa using q),Array.map_setIfInBounds]
 ·cases h
theorem jm {L L':Array Slot}{i:Nat}{v:Value}(hL:∀(j:Nat)(x:Slot),L[j]? = some x→knS x=true)(hv:kn v=true)(h:storeSelf L i v=some L'):storeSelf (L.map (aZ A D W)) i (den A D W v)=some (L'.map (aZ A D W)):=by
 unfold storeSelf at h ⊢
 cases e1:setAt L i (.val v) with
 | none=>rw[e1] at h;cases h
 | some L1 =>
  have f1:setAt (L.map (aZ A D W)) i (.val (den A D W v))=some (L1.map (aZ A D W)):=eu e1
  rw[e1] at h
  rw[f1]
  rw[dp hv]
  dsimp only[bind,Option.bind] at h ⊢
  split at h
  ·rename_i q
   rw[if_pos q]
   rw[Array.getElem?_map]
   cases e2:L1[i+1]? with
   | none=>rw[e2] at h;cases h
   | some y =>
    rw[e2] at h
    dsimp only[Option.map] at h ⊢
    have hy:knS y=true:=by
     have e3:L1=L.setIfInBounds i (.val v):=by
      unfold setAt at e1
      split at e1
      ·exact (Option.some.inj e1).symm
      ·cases e1
     rw[e3,Array.getElem?_setIfInBounds_ne (by omega)] at e2
     exact hL _ _ e2
    cases y with
    | unset=>exact eu h
    | second=>exact eu h
    | val old =>
     dsimp only[aZ] at h ⊢
     rw[dp hy]
     split at h
     ·rename_i q2
      rw[if_pos q2]
      cases e4:setAt L1 (i+2) .unset with
      | none=>rw[e4] at h;cases h
      | some L2 =>
       rw[e4] at h
       have f4:setAt (L1.map (aZ A D W)) (i+2) .unset=some (L2.map (aZ A D W)):=eu e4
       rw[f4]
       exact eu h
     ·rename_i q2
      rw[if_neg q2]
      exact eu h
  ·rename_i q
   rw[if_neg q]
   cases h
   rfl
theorem zZ {L L1:Array Slot}{i:Nat}{x:Slot}(hL:∀(j:Nat)(x:Slot),L[j]? = some x→knS x=true)(hx:knS x=true)(e1:setAt L i x=some L1):∀(j:Nat)(x:Slot),L1[j]? = some x→knS x=true:=by
 intro j y hj
 unfold setAt at e1
 split at e1
 ·cases e1
  rw[Array.getElem?_setIfInBounds] at hj
  split at hj
  ·first
   | (cases hj;exact hx)
   | (split at hj<;>cases hj<;>exact hx)
  ·exact hL _ _ hj
 ·cases e1
theorem cQ {L L':Array Slot}{i:Nat}{v:Value}(hL:∀(j:Nat)(x:Slot),L[j]? = some x→knS x=true)(hv:kn v=true)(h:storeLocals L i v=some L'):storeLocals (L.map (aZ A D W)) i (den A D W v)=some (L'.map (aZ A D W)):=by
 unfold storeLocals at h ⊢
 rw[Array.getElem?_map]
 cases e:L[i]? with
 | none=>rw[e] at h;cases h
 | some y =>
  rw[e] at h
  dsimp only[bind,Option.bind,Option.map] at h ⊢
  have hy:=hL _ _ e
  cases y with
  | unset=>exact jm hL hv h
  | second =>
   dsimp only[aZ] at h ⊢
   cases e4:setAt L (i-1) .unset with
   | none=>rw[e4] at h;cases h
   | some L2 =>
    rw[e4] at h
    have f4:setAt (L.map (aZ A D W)) (i-1) .unset=some (L2.map (aZ A D W)):=eu e4
    rw[f4]
    exact jm (zZ hL rfl e4) hv h
  | val old =>
   dsimp only[aZ] at h ⊢
   rw[dp hy]
   split at h
   ·rename_i q2
    rw[if_pos q2]
    cases e4:setAt L (i+1) .unset with
    | none=>rw[e4] at h;cases h
    | some L2 =>
     rw[e4] at h
     have f4:setAt (L.map (aZ A D W)) (i+1) .unset=some (L2.map (aZ A D W)):=eu e4
     rw[f4]
     exact jm (zZ hL rfl e4) hv h
   ·rename_i q2
    rw[if_neg q2]
    exact jm hL hv h
def d_ (L:Array Slot):Bool:=L.toList.all knS
theorem dz {L:Array Slot}(h:d_ L=true):∀(j:Nat)(x:Slot),L[j]? = some x→knS x=true:=fun j x hj=>by
 refine List.all_eq_true.mp h x (List.mem_of_getElem? (i:=j) ?_)
 rw[Array.getElem?_toList]
 exact hj
end
def fW:Nat→String
 | 64 => "[I" | 65 => "[D" | 66 => "[Z" | 67 => "[[I" | _ => "[[D"
def eE:Nat→FieldType
 | 64 => .int|65 => .double|66 => .boolean|67 => .array .int|_ => .array .double
def eF:Nat→Value
 | 64 => .int 0|65 => .double 0|66 => .int 0|_ => .null
def HdF (Z:State)(h:Heap)(a:Addr)(k:ClassId)(A:Nat→Addr)(D:Nat→UInt64)(W:Nat→Value)(d:AD):Prop :=
 if d.1<64 then Exa Z h a (cI d.1)∧∀(j:Nat) (v:Value) (f:String×String×String),d.2.2[j]? = some v→(a_ d.1)[j]? = some f→Fld Z h a f.1 f.2.1 f.2.2 (den A D W v)
 else Exa Z h a (fW d.1)∧Arv Z h a k (eE d.1) (Int32.ofNat d.2.1) (d.2.2.map (den A D W)) (eF d.1)∧(d.1=67→OvrA Z k .int "[I")∧(d.1=68→OvrA Z k .double "[D")
def YgF (Z:State)(n0:Nat)(h:Heap)(A:Nat→Addr)(K:Nat→ClassId)(D:Nat→UInt64)(W:Nat→Value)(ds:List AD):Prop :=
 (∀(i:Nat) (d:AD),ds[i]? = some d→n0≤A i∧HdF Z h (A i) (K i) A D W d)∧∀i j,i<ds.length→j<ds.length→A i=A j→i=j
abbrev eR:=(Nat→Option (Nat×Nat))×(Nat→Option String)×(Nat→Option Value)
def cL (Z:State)(a0:Array Value)(own:String)(P:eR):Prop :=
 (∀i c j,P.1 i=some (c,j)→c<64∧∃f R0 host,(a_ c)[j]? = some f∧((Jvm.Cond.fieldLink own i R0 f.2.1 f.2.2).before a0 Z=true∨(Jvm.Cond.fieldLinkNest own i R0 f.2.1 f.2.2 host).before a0 Z=true)∧Via Z R0 f.1 f.2.1 f.2.2) ∧
 (∀i C,P.2.1 i=some C→(Jvm.Cond.classLink own i C).before a0 Z=true) ∧
 (∀i v,P.2.2 i=some v→(∃n,v = .long n∧(Jvm.Cond.constantLong own i n).before a0 Z=true)∨(∃b:UInt64,v = .double b∧4096≤b.toNat∧(Jvm.Cond.constantDouble own i b).before a0 Z=true))
variable {p:Program}{l:Launch}{e:Env}{R:Room}{s:State}{m:MethodId}{args:Array Value}{below:List Frame}{meth:Method}{c:Code}{T:State}{locs:List Loc}{cells slots:Nat}{Z:State}{a0:Array Value}{h h':Heap}{Ev:State→Outcome→Prop}
def z5 (code:ByteArray)(P:eR)(ds:List AD)(pc:Nat)(L:Array Slot)(st:List Value):Option (Nat×Array Slot×List Value) :=
 match decode code pc with
 | .ok (.iload_n k,1)=>match L[k.val]? with
  | some (.val (.int v))=>some (pc+1,L,.int v::st)
  | some (.val (.float v))=>some (pc+1,L,.float v::st)
  | _=>none
 | .ok (.iload k,2)=>match L[k]? with
  | some (.val (.int v))=>some (pc+2,L,.int v::st)
  | some (.val (.float v))=>some (pc+2,L,.float v::st)
  | _=>none
 | .ok (.lload_n k,1)=>match L[k.val]? with
  | some (.val (.long v))=>some (pc+1,L,.long v::st)
  | _=>none
 | .ok (.lload k,2)=>match L[k]? with
  | some (.val (.long v))=>some (pc+2,L,.long v::st)
  | _=>none
 | .ok (.dload_n k,1)=>match L[k.val]? with
  | some (.val (.double v))=>some (pc+1,L,.double v::st)
  | _=>none
 | .ok (.aload_n k,1)=>match L[k.val]? with
  | some (.val v)=>if rfA v=true then some (pc+1,L,v::st) else none
  | _=>none
 | .ok (.dload k,2)=>match L[k]? with
  | some (.val (.double v))=>some (pc+2,L,.double v::st)
  | _=>none
 | .ok (.aload k,2)=>match L[k]? with
  | some (.val v)=>if rfA v=true then some (pc+2,L,v::st) else none
  | _=>none
 | _=>none
theorem z6 {A:Nat→Addr}{K:Nat→ClassId}{D:Nat→UInt64}{W:Nat→Value}{code:ByteArray}{own:String}{P:eR}{n0:Nat}{ds:List AD}(X:Stand p l e R s m args below meth c T locs cells slots)(hx:p.tables.exec=Jvm.exec)(hby:c.code=code)(hZ:Z.Warmed39 s.vm)(hown:s.vm.findClass own=some m.cls)(hP:cL Z a0 own P)(eT:T.heap=h)(Y:YgF Z n0 h A K D W ds)(hD0:D 0=0){pc pc':Nat}{L L':Array Slot}{st st':List Value}(hs:z5 code P ds pc L st=some (pc',L',st'))
  (K_:∀T',Stand p l e R s m args below meth c T' locs cells slots→T'.heap=h→Go p e below Ev T' (mkF m pc' (L'.map (aZ A D W)) (st'.map (den A D W)))):Go p e below Ev T (mkF m pc (L.map (aZ A D W)) (st.map (den A D W))):=by
 subst hby
 unfold z5 at hs
 split at hs
 ·next k hd =>
  split at hs
  ·next v hl=>cases hs;exact qf X hx _ hd rfl (eC hl) (K_ _ X eT)
  ·next v hl=>cases hs;exact qf X hx _ hd rfl (eC hl) (K_ _ X eT)
  ·cases hs
 ·next k hd =>
  split at hs
  ·next v hl=>cases hs;exact ux X hx _ hd rfl (eC hl) (K_ _ X eT)
  ·next v hl=>cases hs;exact ux X hx _ hd rfl (eC hl) (K_ _ X eT)
  ·cases hs
 ·next k hd =>
  split at hs
  ·next v hl=>cases hs;exact zt X hx _ hd rfl (eC hl) (K_ _ X eT)
  ·cases hs
 ·next k hd =>
  split at hs
  ·next v hl=>cases hs;exact Hy X hx _ hd rfl (eC hl) (K_ _ X eT)
  ·cases hs
 ·next k hd =>
  split at hs
  ·next v hl=>cases hs;exact zv X hx _ hd rfl (eC hl) (K_ _ X eT)
  ·cases hs
 ·next k hd =>
  split at hs
  ·next v hl =>
   split at hs
   ·next hr=>cases hs;exact zx X hx _ hd rfl (eC hl) (pj hr) (K_ _ X eT)
   ·cases hs
  ·cases hs
 ·next k hd =>
  split at hs
  ·next v hl=>cases hs;exact Hz X hx _ hd rfl (eC hl) (K_ _ X eT)
  ·cases hs
 ·next k hd =>
  split at hs
  ·next v hl =>
   split at hs
   ·next hr=>cases hs;exact HC X hx _ hd rfl (eC hl) (pj hr) (K_ _ X eT)
   ·cases hs
  ·cases hs
 ·cases hs
def z7 (code:ByteArray)(P:eR)(ds:List AD)(pc:Nat)(L:Array Slot)(st:List Value):Option (Nat×Array Slot×List Value) :=
 match decode code pc with
 | .ok (.istore_n k,1)=>match st with
  | .int v::r=>if d_ L=true then (storeLocals L k.val (.int v)).map fun L'=>(pc+1,L',r) else none
  | .float v::r=>if d_ L=true then (storeLocals L k.val (.float v)).map fun L'=>(pc+1,L',r) else none
  | _=>none
 | .ok (.istore k,2)=>match st with
  | .int v::r=>if d_ L=true then (storeLocals L k (.int v)).map fun L'=>(pc+2,L',r) else none
  | .float v::r=>if d_ L=true then (storeLocals L k (.float v)).map fun L'=>(pc+2,L',r) else none
  | _=>none
 | .ok (.lstore_n k,1)=>match st with
  | .long v::r=>if d_ L=true then (storeLocals L k.val (.long v)).map fun L'=>(pc+1,L',r) else none
  | _=>none
 | .ok (.lstore k,2)=>match st with
  | .long v::r=>if d_ L=true then (storeLocals L k (.long v)).map fun L'=>(pc+2,L',r) else none
  | _=>none
 | .ok (.dstore_n k,1)=>match st with
  | .double v::r=>if d_ L=true then (storeLocals L k.val (.double v)).map fun L'=>(pc+1,L',r) else none
  | _=>none
 | .ok (.dstore k,2)=>match st with
  | .double v::r=>if d_ L=true then (storeLocals L k (.double v)).map fun L'=>(pc+2,L',r) else none
  | _=>none
 | .ok (.astore_n k,1)=>match st with
  | v::r=>if d_ L=true∧rfA v=true then (storeLocals L k.val v).map fun L'=>(pc+1,L',r) else none
  | _=>none
 | .ok (.astore k,2)=>match st with
  | v::r=>if d_ L=true∧rfA v=true then (storeLocals L k v).map fun L'=>(pc+2,L',r) else none
  | _=>none
 | _=>none
theorem z8 {A:Nat→Addr}{K:Nat→ClassId}{D:Nat→UInt64}{W:Nat→Value}{code:ByteArray}{own:String}{P:eR}{n0:Nat}{ds:List AD}(X:Stand p l e R s m args below meth c T locs cells slots)(hx:p.tables.exec=Jvm.exec)(hby:c.code=code)(hZ:Z.Warmed39 s.vm)(hown:s.vm.findClass own=some m.cls)(hP:cL Z a0 own P)(eT:T.heap=h)(Y:YgF Z n0 h A K D W ds)(hD0:D 0=0){pc pc':Nat}{L L':Array Slot}{st st':List Value}(hs:z7 code P ds pc L st=some (pc',L',st'))
  (K_:∀T',Stand p l e R s m args below meth c T' locs cells slots→T'.heap=h→Go p e below Ev T' (mkF m pc' (L'.map (aZ A D W)) (st'.map (den A D W)))):Go p e below Ev T (mkF m pc (L.map (aZ A D W)) (st.map (den A D W))):=by
 subst hby
 unfold z7 at hs
 split at hs
 ·next k hd =>
  split at hs
  ·next v r =>
   split at hs
   ·next hk =>
    cases e:storeLocals L k.val (.int v) with
    | none=>rw[e] at hs;cases hs
    | some L'=>rw[e] at hs;cases hs;exact nO X hx _ hd rfl (cQ (v := .int v) (dz hk) rfl e) (K_ _ X eT)
   ·cases hs
  ·next v r =>
   split at hs
   ·next hk =>
    cases e:storeLocals L k.val (.float v) with
    | none=>rw[e] at hs;cases hs
    | some L'=>rw[e] at hs;cases hs;exact nO X hx _ hd rfl (cQ (v := .float v) (dz hk) rfl e) (K_ _ X eT)
   ·cases hs
  ·cases hs
 ·next k hd =>
  split at hs
  ·next v r =>
   split at hs
   ·next hk =>
    cases e:storeLocals L k (.int v) with
    | none=>rw[e] at hs;cases hs
    | some L'=>rw[e] at hs;cases hs;exact qg X hx _ hd rfl (cQ (v := .int v) (dz hk) rfl e) (K_ _ X eT)
   ·cases hs
  ·next v r =>
   split at hs
   ·next hk =>
    cases e:storeLocals L k (.float v) with
    | none=>rw[e] at hs;cases hs
    | some L'=>rw[e] at hs;cases hs;exact qg X hx _ hd rfl (cQ (v := .float v) (dz hk) rfl e) (K_ _ X eT)
   ·cases hs
  ·cases hs
 ·next k hd =>
  split at hs
  ·next v r =>
   split at hs
   ·next hk =>
    cases e:storeLocals L k.val (.long v) with
    | none=>rw[e] at hs;cases hs
    | some L'=>rw[e] at hs;cases hs;exact xQ X hx _ hd rfl (cQ (v := .long v) (dz hk) rfl e) (K_ _ X eT)
   ·cases hs
  ·cases hs
 ·next k hd =>
  split at hs
  ·next v r =>
   split at hs
   ·next hk =>
    cases e:storeLocals L k (.long v) with
    | none=>rw[e] at hs;cases hs
    | some L'=>rw[e] at hs;cases hs;exact zu X hx _ hd rfl (cQ (v := .long v) (dz hk) rfl e) (K_ _ X eT)
   ·cases hs
  ·cases hs
 ·next k hd =>
  split at hs
  ·next v r =>
   split at hs
   ·next hk =>
    cases e:storeLocals L k.val (.double v) with
    | none=>rw[e] at hs;cases hs
    | some L'=>rw[e] at hs;cases hs;exact xR X hx _ hd rfl (cQ (v := .double v) (dz hk) rfl e) (K_ _ X eT)
   ·cases hs
  ·cases hs
 ·next k hd =>
  split at hs
  ·next v r =>
   split at hs
   ·next hk =>
    cases e:storeLocals L k (.double v) with
    | none=>rw[e] at hs;cases hs
    | some L'=>rw[e] at hs;cases hs;exact zw X hx _ hd rfl (cQ (v := .double v) (dz hk) rfl e) (K_ _ X eT)
   ·cases hs
  ·cases hs
 ·next k hd =>
  split at hs
  ·next v r =>
   split at hs
   ·next hk =>
    cases e:storeLocals L k.val v with
    | none=>rw[e] at hs;cases hs
    | some L'=>rw[e] at hs;cases hs;exact xS X hx _ hd rfl (pj hk.2) (cQ (dz hk.1) (IU hk.2) e) (K_ _ X eT)
   ·cases hs
  ·cases hs
 ·next k hd =>
  split at hs
  ·next v r =>
   split at hs
   ·next hk =>
    cases e:storeLocals L k v with
    | none=>rw[e] at hs;cases hs
    | some L'=>rw[e] at hs;cases hs;exact zy X hx _ hd rfl (pj hk.2) (cQ (dz hk.1) (IU hk.2) e) (K_ _ X eT)
   ·cases hs
  ·cases hs
 ·cases hs
def z9 (code:ByteArray)(P:eR)(ds:List AD)(pc:Nat)(L:Array Slot)(st:List Value):Option (Nat×Array Slot×List Value) :=
 match decode code pc with
 | .ok (.iconst i,1)=>some (pc+1,L,.int (Int32.ofInt i)::st)
 | .ok (.bipush i,2)=>some (pc+2,L,.int ((Int8.ofInt i).toInt32)::st)
 | .ok (.sipush i,3)=>some (pc+3,L,.int ((Int16.ofInt i).toInt32)::st)
 | .ok (.lconst k,1)=>some (pc+1,L,.long (Int64.ofNat k.val)::st)
 | .ok (.dconst 0,1)=>some (pc+1,L,.double 0::st)
 | .ok (.dconst 1,1)=>some (pc+1,L,.double 4607182418800017408::st)
 | .ok (.aconst_null,1)=>some (pc+1,L,.null::st)
 | .ok (.ldc2_w i,3)=>match P.2.2 i with
  | some v=>some (pc+3,L,v::st)
  | _=>none
 | _=>none
theorem z_ {A:Nat→Addr}{K:Nat→ClassId}{D:Nat→UInt64}{W:Nat→Value}{code:ByteArray}{own:String}{P:eR}{n0:Nat}{ds:List AD}(X:Stand p l e R s m args below meth c T locs cells slots)(hx:p.tables.exec=Jvm.exec)(hby:c.code=code)(hZ:Z.Warmed39 s.vm)(hown:s.vm.findClass own=some m.cls)(hP:cL Z a0 own P)(eT:T.heap=h)(Y:YgF Z n0 h A K D W ds)(hD0:D 0=0){pc pc':Nat}{L L':Array Slot}{st st':List Value}(hs:z9 code P ds pc L st=some (pc',L',st'))
  (K_:∀T',Stand p l e R s m args below meth c T' locs cells slots→T'.heap=h→Go p e below Ev T' (mkF m pc' (L'.map (aZ A D W)) (st'.map (den A D W)))):Go p e below Ev T (mkF m pc (L.map (aZ A D W)) (st.map (den A D W))):=by
 subst hby
 unfold z9 at hs
 split at hs
 ·next i hd =>
  cases hs;exact zz X hx (Int32.ofInt i) _ hd rfl rfl (K_ _ X eT)
 ·next i hd =>
  cases hs;exact zA X hx ((Int8.ofInt i).toInt32) _ hd rfl rfl (K_ _ X eT)
 ·next i hd =>
  cases hs;exact zB X hx ((Int16.ofInt i).toInt32) _ hd rfl rfl (K_ _ X eT)
 ·next k hd =>
  cases hs;exact zC X hx (Int64.ofNat k.val) _ hd rfl rfl (K_ _ X eT)
 ·next hd =>
  cases hs;exact xT X hx _ hd rfl (by have:=K_ _ X eT;simpa [den,dX,hD0] using this)
 ·next hd =>
  cases hs;exact xU X hx _ hd rfl (K_ _ X eT)
 ·next hd =>
  cases hs;exact Nl X hx _ hd rfl (K_ _ X eT)
 ·next i hd =>
  split at hs
  ·next v hv =>
   cases hs
   rcases hP.2.2 i v hv with ⟨n,rfl,w⟩|⟨b,rfl,hb,w⟩
   ·exact HG X hx _ hZ hown w hd rfl (K_ _ X eT)
   ·exact HH X hx _ hZ hown w hd rfl (by have:=K_ _ X eT;simpa [den,dX,Nat.not_lt.mpr hb] using this)
  ·cases hs
 ·cases hs
def Aa (code:ByteArray)(P:eR)(ds:List AD)(pc:Nat)(L:Array Slot)(st:List Value):Option (Nat×Array Slot×List Value) :=
 match decode code pc with
 | .ok (.iinc k i,3)=>match L[k]? with
  | some (.val (.int v))=>if d_ L=true then (storeLocals L k (.int (v+Int32.ofInt i))).map fun L'=>(pc+3,L',st) else none
  | _=>none
 | .ok (.iadd,1)=>match st with
  | .int y :: .int x::r=>some (pc+1,L,.int (x+y)::r)
  | _=>none
 | .ok (.isub,1)=>match st with
  | .int y :: .int x::r=>some (pc+1,L,.int (x-y)::r)
  | _=>none
 | .ok (.imul,1)=>match st with
  | .int y :: .int x::r=>some (pc+1,L,.int (x*y)::r)
  | _=>none
 | .ok (.iand,1)=>match st with
  | .int y :: .int x::r=>some (pc+1,L,.int (x&&&y)::r)
  | _=>none
 | .ok (.ior,1)=>match st with
  | .int y :: .int x::r=>some (pc+1,L,.int (x ||| y)::r)
  | _=>none
 | .ok (.ishl,1)=>match st with
  | .int y :: .int x::r=>some (pc+1,L,.int (x<<<(y&&&31))::r)
  | _=>none
 | .ok (.ishr,1)=>match st with
  | .int y :: .int x::r=>some (pc+1,L,.int (x>>>(y&&&31))::r)
  | _=>none
 | _=>none
theorem Ae {A:Nat→Addr}{K:Nat→ClassId}{D:Nat→UInt64}{W:Nat→Value}{code:ByteArray}{own:String}{P:eR}{n0:Nat}{ds:List AD}(X:Stand p l e R s m args below meth c T locs cells slots)(hx:p.tables.exec=Jvm.exec)(hby:c.code=code)(hZ:Z.Warmed39 s.vm)(hown:s.vm.findClass own=some m.cls)(hP:cL Z a0 own P)(eT:T.heap=h)(Y:YgF Z n0 h A K D W ds)(hD0:D 0=0){pc pc':Nat}{L L':Array Slot}{st st':List Value}(hs:Aa code P ds pc L st=some (pc',L',st'))
  (K_:∀T',Stand p l e R s m args below meth c T' locs cells slots→T'.heap=h→Go p e below Ev T' (mkF m pc' (L'.map (aZ A D W)) (st'.map (den A D W)))):Go p e below Ev T (mkF m pc (L.map (aZ A D W)) (st.map (den A D W))):=by
 subst hby
 unfold Aa at hs
 split at hs
 ·next k i hd =>
  split at hs
  ·next v hl =>
   split at hs
   ·next hk =>
    cases e:storeLocals L k (.int (v+Int32.ofInt i)) with
    | none=>rw[e] at hs;cases hs
    | some L'=>rw[e] at hs;cases hs;exact Nm X hx _ hd rfl (eC hl) rfl (cQ (v := .int _) (dz hk) rfl e) (K_ _ X eT)
   ·cases hs
  ·cases hs
 ·next hd =>
  split at hs
  ·cases hs;exact zE X hx _ hd rfl (K_ _ X eT)
  ·cases hs
 ·next hd =>
  split at hs
  ·cases hs;exact zF X hx _ hd rfl (K_ _ X eT)
  ·cases hs
 ·next hd =>
  split at hs
  ·cases hs;exact zG X hx _ hd rfl (K_ _ X eT)
  ·cases hs
 ·next hd =>
  split at hs
  ·cases hs;exact zH X hx _ hd rfl (K_ _ X eT)
  ·cases hs
 ·next hd =>
  split at hs
  ·cases hs;exact O8 X hx _ hd rfl (K_ _ X eT)
  ·cases hs
 ·next hd =>
  split at hs
  ·cases hs;exact zJ X hx _ hd rfl (K_ _ X eT)
  ·cases hs
 ·next hd =>
  split at hs
  ·cases hs;exact zK X hx _ hd rfl (K_ _ X eT)
  ·cases hs
 ·cases hs
def Af (code:ByteArray)(P:eR)(ds:List AD)(pc:Nat)(L:Array Slot)(st:List Value):Option (Nat×Array Slot×List Value) :=
 match decode code pc with
 | .ok (.ladd,1)=>match st with
  | .long y :: .long x::r=>some (pc+1,L,.long (x+y)::r)
  | _=>none
 | .ok (.lsub,1)=>match st with
  | .long y :: .long x::r=>some (pc+1,L,.long (x-y)::r)
  | _=>none
 | .ok (.lmul,1)=>match st with
  | .long y :: .long x::r=>some (pc+1,L,.long (x*y)::r)
  | _=>none
 | .ok (.land,1)=>match st with
  | .long y :: .long x::r=>some (pc+1,L,.long (x&&&y)::r)
  | _=>none
 | .ok (.lor,1)=>match st with
  | .long y :: .long x::r=>some (pc+1,L,.long (x ||| y)::r)
  | _=>none
 | .ok (.lshl,1)=>match st with
  | .int y :: .long x::r=>some (pc+1,L,.long (x<<<(y&&&0x3f).toInt64)::r)
  | _=>none
 | .ok (.lushr,1)=>match st with
  | .int y :: .long x::r=>some (pc+1,L,.long ((x.toUInt64>>>(y&&&0x3f).toInt64.toUInt64).toInt64)::r)
  | _=>none
 | .ok (.i2l,1)=>match st with
  | .int x::r=>some (pc+1,L,.long x.toInt64::r)
  | _=>none
 | _=>none
theorem Ag {A:Nat→Addr}{K:Nat→ClassId}{D:Nat→UInt64}{W:Nat→Value}{code:ByteArray}{own:String}{P:eR}{n0:Nat}{ds:List AD}(X:Stand p l e R s m args below meth c T locs cells slots)(hx:p.tables.exec=Jvm.exec)(hby:c.code=code)(hZ:Z.Warmed39 s.vm)(hown:s.vm.findClass own=some m.cls)(hP:cL Z a0 own P)(eT:T.heap=h)(Y:YgF Z n0 h A K D W ds)(hD0:D 0=0){pc pc':Nat}{L L':Array Slot}{st st':List Value}(hs:Af code P ds pc L st=some (pc',L',st'))
  (K_:∀T',Stand p l e R s m args below meth c T' locs cells slots→T'.heap=h→Go p e below Ev T' (mkF m pc' (L'.map (aZ A D W)) (st'.map (den A D W)))):Go p e below Ev T (mkF m pc (L.map (aZ A D W)) (st.map (den A D W))):=by
 subst hby
 unfold Af at hs
 split at hs
 ·next hd =>
  split at hs
  ·cases hs;exact Nn X hx _ hd rfl (K_ _ X eT)
  ·cases hs
 ·next hd =>
  split at hs
  ·cases hs;exact No X hx _ hd rfl (K_ _ X eT)
  ·cases hs
 ·next hd =>
  split at hs
  ·cases hs;exact Np X hx _ hd rfl (K_ _ X eT)
  ·cases hs
 ·next hd =>
  split at hs
  ·cases hs;exact Nq X hx _ hd rfl (K_ _ X eT)
  ·cases hs
 ·next hd =>
  split at hs
  ·cases hs;exact O9 X hx _ hd rfl (K_ _ X eT)
  ·cases hs
 ·next hd =>
  split at hs
  ·cases hs;exact Nr X hx _ hd rfl (K_ _ X eT)
  ·cases hs
 ·next hd =>
  split at hs
  ·cases hs;exact HE X hx _ hd rfl (K_ _ X eT)
  ·cases hs
 ·next hd =>
  split at hs
  ·cases hs;exact O_ X hx _ hd rfl (K_ _ X eT)
  ·cases hs
 ·cases hs
def Ah (code:ByteArray)(P:eR)(ds:List AD)(pc:Nat)(L:Array Slot)(st:List Value):Option (Nat×Array Slot×List Value) :=
 match decode code pc with
 | .ok (.l2i,1)=>match st with
  | .long x::r=>some (pc+1,L,.int x.toInt32::r)
  | _=>none
 | .ok (.dup,1)=>match st with
  | x::r=>if (kn x=true∧x.category=1) then some (pc+1,L,x::x::r) else none
  | _=>none
 | .ok (.pop,1)=>match st with
  | x::r=>if (kn x=true∧x.category=1) then some (pc+1,L,r) else none
  | _=>none
 | .ok (.dup_x1,1)=>match st with
  | x::y::r=>if (kn x=true∧x.category=1)∧(kn y=true∧y.category=1) then some (pc+1,L,x::y::x::r) else none
  | _=>none
 | .ok (.dup2,1)=>match st with
  | x::y::r=>if (kn x=true∧x.category=1)∧(kn y=true∧y.category=1) then some (pc+1,L,x::y::x::y::r) else none
  | _=>none
 | .ok (.dup_x2,1)=>match st with
  | x::y::z::r=>if (kn x=true∧x.category=1)∧(kn y=true∧y.category=1)∧(kn z=true∧z.category=1) then some (pc+1,L,x::y::z::x::r) else none
  | _=>none
 | .ok (.goto o,3)=>if 0≤(pc:Int)+o then some (((pc:Int)+o).toNat,L,st) else none
 | .ok (.ifCond .eq o,3)=>match st with
  | .int x::r=>if 0≤(pc:Int)+o then (if x.toInt=0 then some (((pc:Int)+o).toNat,L,r) else some (pc+3,L,r)) else none
  | _=>none
 | _=>none
theorem Ai {A:Nat→Addr}{K:Nat→ClassId}{D:Nat→UInt64}{W:Nat→Value}{code:ByteArray}{own:String}{P:eR}{n0:Nat}{ds:List AD}(X:Stand p l e R s m args below meth c T locs cells slots)(hx:p.tables.exec=Jvm.exec)(hby:c.code=code)(hZ:Z.Warmed39 s.vm)(hown:s.vm.findClass own=some m.cls)(hP:cL Z a0 own P)(eT:T.heap=h)(Y:YgF Z n0 h A K D W ds)(hD0:D 0=0){pc pc':Nat}{L L':Array Slot}{st st':List Value}(hs:Ah code P ds pc L st=some (pc',L',st'))
  (K_:∀T',Stand p l e R s m args below meth c T' locs cells slots→T'.heap=h→Go p e below Ev T' (mkF m pc' (L'.map (aZ A D W)) (st'.map (den A D W)))):Go p e below Ev T (mkF m pc (L.map (aZ A D W)) (st.map (den A D W))):=by
 subst hby
 unfold Ah at hs
 split at hs
 ·next hd =>
  split at hs
  ·cases hs;exact Pa X hx _ hd rfl (K_ _ X eT)
  ·cases hs
 ·next hd =>
  split at hs
  ·split at hs
   ·next hk=>cases hs;exact Pc X hx _ hd rfl ((dp (hk).1).trans (hk).2) (K_ _ X eT)
   ·cases hs
  ·cases hs
 ·next hd =>
  split at hs
  ·split at hs
   ·next hk=>cases hs;exact Pd X hx _ hd rfl ((dp (hk).1).trans (hk).2) (K_ _ X eT)
   ·cases hs
  ·cases hs
 ·next hd =>
  split at hs
  ·split at hs
   ·next hk=>cases hs;exact HF X hx _ hd rfl ((dp (hk.1).1).trans (hk.1).2) ((dp (hk.2).1).trans (hk.2).2) (K_ _ X eT)
   ·cases hs
  ·cases hs
 ·next hd =>
  split at hs
  ·split at hs
   ·next hk=>cases hs;exact Nx X hx _ hd rfl ((dp (hk.1).1).trans (hk.1).2) ((dp (hk.2).1).trans (hk.2).2) (K_ _ X eT)
   ·cases hs
  ·cases hs
 ·next hd =>
  split at hs
  ·split at hs
   ·next hk=>cases hs;exact HQ X hx _ hd rfl ((dp (hk.1).1).trans (hk.1).2) ((dp (hk.2.1).1).trans (hk.2.1).2) ((dp (hk.2.2).1).trans (hk.2.2).2) (K_ _ X eT)
   ·cases hs
  ·cases hs
 ·next o hd =>
  split at hs
  ·next ho=>cases hs;exact Ny X hx _ hd ho rfl (K_ _ X eT)
  ·cases hs
 ·next o hd =>
  split at hs
  ·split at hs
   ·next ho =>
    split at hs
    ·next hc=>cases hs;exact jj X hx _ _ hd ho rfl rfl (fun _=>K_ _ X eT) (fun hc'=>by exfalso;omega)
    ·next hc=>cases hs;exact jj X hx _ _ hd ho rfl rfl (fun hc'=>by exfalso;omega) (fun _=>K_ _ X eT)
   ·cases hs
  ·cases hs
 ·cases hs
def Aj (code:ByteArray)(P:eR)(ds:List AD)(pc:Nat)(L:Array Slot)(st:List Value):Option (Nat×Array Slot×List Value) :=
 match decode code pc with
 | .ok (.if_icmp .eq o,3)=>match st with
  | .int y :: .int x::r=>if 0≤(pc:Int)+o then (if x.toInt=y.toInt then some (((pc:Int)+o).toNat,L,r) else some (pc+3,L,r)) else none
  | _=>none
 | .ok (.ifCond .ne o,3)=>match st with
  | .int x::r=>if 0≤(pc:Int)+o then (if x.toInt≠0 then some (((pc:Int)+o).toNat,L,r) else some (pc+3,L,r)) else none
  | _=>none
 | .ok (.if_icmp .ne o,3)=>match st with
  | .int y :: .int x::r=>if 0≤(pc:Int)+o then (if x.toInt≠y.toInt then some (((pc:Int)+o).toNat,L,r) else some (pc+3,L,r)) else none
  | _=>none
 | .ok (.ifCond .lt o,3)=>match st with
  | .int x::r=>if 0≤(pc:Int)+o then (if x.toInt<0 then some (((pc:Int)+o).toNat,L,r) else some (pc+3,L,r)) else none
  | _=>none
 | .ok (.if_icmp .lt o,3)=>match st with
  | .int y :: .int x::r=>if 0≤(pc:Int)+o then (if x.toInt<y.toInt then some (((pc:Int)+o).toNat,L,r) else some (pc+3,L,r)) else none
  | _=>none
 | .ok (.ifCond .ge o,3)=>match st with
  | .int x::r=>if 0≤(pc:Int)+o then (if x.toInt≥0 then some (((pc:Int)+o).toNat,L,r) else some (pc+3,L,r)) else none
  | _=>none
 | .ok (.if_icmp .ge o,3)=>match st with
  | .int y :: .int x::r=>if 0≤(pc:Int)+o then (if x.toInt≥y.toInt then some (((pc:Int)+o).toNat,L,r) else some (pc+3,L,r)) else none
  | _=>none
 | .ok (.ifCond .gt o,3)=>match st with
  | .int x::r=>if 0≤(pc:Int)+o then (if x.toInt > 0 then some (((pc:Int)+o).toNat,L,r) else some (pc+3,L,r)) else none
  | _=>none
 | _=>none
theorem Ak {A:Nat→Addr}{K:Nat→ClassId}{D:Nat→UInt64}{W:Nat→Value}{code:ByteArray}{own:String}{P:eR}{n0:Nat}{ds:List AD}(X:Stand p l e R s m args below meth c T locs cells slots)(hx:p.tables.exec=Jvm.exec)(hby:c.code=code)(hZ:Z.Warmed39 s.vm)(hown:s.vm.findClass own=some m.cls)(hP:cL Z a0 own P)(eT:T.heap=h)(Y:YgF Z n0 h A K D W ds)(hD0:D 0=0){pc pc':Nat}{L L':Array Slot}{st st':List Value}(hs:Aj code P ds pc L st=some (pc',L',st'))
  (K_:∀T',Stand p l e R s m args below meth c T' locs cells slots→T'.heap=h→Go p e below Ev T' (mkF m pc' (L'.map (aZ A D W)) (st'.map (den A D W)))):Go p e below Ev T (mkF m pc (L.map (aZ A D W)) (st.map (den A D W))):=by
 subst hby
 unfold Aj at hs
 split at hs
 ·next o hd =>
  split at hs
  ·split at hs
   ·next ho =>
    split at hs
    ·next hc=>cases hs;exact uy X hx _ _ hd ho rfl rfl (fun _=>K_ _ X eT) (fun hc'=>by exfalso;omega)
    ·next hc=>cases hs;exact uy X hx _ _ hd ho rfl rfl (fun hc'=>by exfalso;omega) (fun _=>K_ _ X eT)
   ·cases hs
  ·cases hs
 ·next o hd =>
  split at hs
  ·split at hs
   ·next ho =>
    split at hs
    ·next hc=>cases hs;exact jk X hx _ _ hd ho rfl rfl (fun _=>K_ _ X eT) (fun hc'=>by exfalso;omega)
    ·next hc=>cases hs;exact jk X hx _ _ hd ho rfl rfl (fun hc'=>by exfalso;omega) (fun _=>K_ _ X eT)
   ·cases hs
  ·cases hs
 ·next o hd =>
  split at hs
  ·split at hs
   ·next ho =>
    split at hs
    ·next hc=>cases hs;exact uz X hx _ _ hd ho rfl rfl (fun _=>K_ _ X eT) (fun hc'=>by exfalso;omega)
    ·next hc=>cases hs;exact uz X hx _ _ hd ho rfl rfl (fun hc'=>by exfalso;omega) (fun _=>K_ _ X eT)
   ·cases hs
  ·cases hs
 ·next o hd =>
  split at hs
  ·split at hs
   ·next ho =>
    split at hs
    ·next hc=>cases hs;exact o_ X hx _ _ hd ho rfl rfl (fun _=>K_ _ X eT) (fun hc'=>by exfalso;omega)
    ·next hc=>cases hs;exact o_ X hx _ _ hd ho rfl rfl (fun hc'=>by exfalso;omega) (fun _=>K_ _ X eT)
   ·cases hs
  ·cases hs
 ·next o hd =>
  split at hs
  ·split at hs
   ·next ho =>
    split at hs
    ·next hc=>cases hs;exact uA X hx _ _ hd ho rfl rfl (fun _=>K_ _ X eT) (fun hc'=>by exfalso;omega)
    ·next hc=>cases hs;exact uA X hx _ _ hd ho rfl rfl (fun hc'=>by exfalso;omega) (fun _=>K_ _ X eT)
   ·cases hs
  ·cases hs
 ·next o hd =>
  split at hs
  ·split at hs
   ·next ho =>
    split at hs
    ·next hc=>cases hs;exact pd X hx _ _ hd ho rfl rfl (fun _=>K_ _ X eT) (fun hc'=>by exfalso;omega)
    ·next hc=>cases hs;exact pd X hx _ _ hd ho rfl rfl (fun hc'=>by exfalso;omega) (fun _=>K_ _ X eT)
   ·cases hs
  ·cases hs
 ·next o hd =>
  split at hs
  ·split at hs
   ·next ho =>
    split at hs
    ·next hc=>cases hs;exact uB X hx _ _ hd ho rfl rfl (fun _=>K_ _ X eT) (fun hc'=>by exfalso;omega)
    ·next hc=>cases hs;exact uB X hx _ _ hd ho rfl rfl (fun hc'=>by exfalso;omega) (fun _=>K_ _ X eT)
   ·cases hs
  ·cases hs
 ·next o hd =>
  split at hs
  ·split at hs
   ·next ho =>
    split at hs
    ·next hc=>cases hs;exact pe X hx _ _ hd ho rfl rfl (fun _=>K_ _ X eT) (fun hc'=>by exfalso;omega)
    ·next hc=>cases hs;exact pe X hx _ _ hd ho rfl rfl (fun hc'=>by exfalso;omega) (fun _=>K_ _ X eT)
   ·cases hs
  ·cases hs
 ·cases hs
def Al (code:ByteArray)(P:eR)(ds:List AD)(pc:Nat)(L:Array Slot)(st:List Value):Option (Nat×Array Slot×List Value) :=
 match decode code pc with
 | .ok (.if_icmp .gt o,3)=>match st with
  | .int y :: .int x::r=>if 0≤(pc:Int)+o then (if x.toInt > y.toInt then some (((pc:Int)+o).toNat,L,r) else some (pc+3,L,r)) else none
  | _=>none
 | .ok (.ifCond .le o,3)=>match st with
  | .int x::r=>if 0≤(pc:Int)+o then (if x.toInt≤0 then some (((pc:Int)+o).toNat,L,r) else some (pc+3,L,r)) else none
  | _=>none
 | .ok (.if_icmp .le o,3)=>match st with
  | .int y :: .int x::r=>if 0≤(pc:Int)+o then (if x.toInt≤y.toInt then some (((pc:Int)+o).toNat,L,r) else some (pc+3,L,r)) else none
  | _=>none
 | .ok (.lcmp,1)=>match decode code (pc+1),st with
  | .ok (.ifCond .eq o,3),.long y :: .long x::r=>if 0≤((pc+1:Nat):Int)+o then (if x.toInt=y.toInt then some ((((pc+1:Nat):Int)+o).toNat,L,r) else some (pc+4,L,r)) else none
  | .ok (.ifCond .ne o,3),.long y :: .long x::r=>if 0≤((pc+1:Nat):Int)+o then (if x.toInt≠y.toInt then some ((((pc+1:Nat):Int)+o).toNat,L,r) else some (pc+4,L,r)) else none
  | .ok (.ifCond .lt o,3),.long y :: .long x::r=>if 0≤((pc+1:Nat):Int)+o then (if x.toInt<y.toInt then some ((((pc+1:Nat):Int)+o).toNat,L,r) else some (pc+4,L,r)) else none
  | .ok (.ifCond .ge o,3),.long y :: .long x::r=>if 0≤((pc+1:Nat):Int)+o then (if x.toInt≥y.toInt then some ((((pc+1:Nat):Int)+o).toNat,L,r) else some (pc+4,L,r)) else none
  | .ok (.ifCond .gt o,3),.long y :: .long x::r=>if 0≤((pc+1:Nat):Int)+o then (if x.toInt > y.toInt then some ((((pc+1:Nat):Int)+o).toNat,L,r) else some (pc+4,L,r)) else none
  | .ok (.ifCond .le o,3),.long y :: .long x::r=>if 0≤((pc+1:Nat):Int)+o then (if x.toInt≤y.toInt then some ((((pc+1:Nat):Int)+o).toNat,L,r) else some (pc+4,L,r)) else none
  | _,_=>none
 | .ok (.getfield i,3)=>match st with
  | .ref a::r=>match P.1 i,ds[a]? with
   | some (c,j),some d=>if d.1=c then (match d.2.2[j]? with|some v=>some (pc+3,L,v::r)|none=>none) else none
   | _,_=>none
  | _=>none
 | .ok (.arraylength,1)=>match st with
  | .ref a::r=>match ds[a]? with
   | some d=>if 64≤d.1 then some (pc+1,L,.int (Int32.ofNat d.2.1)::r) else none
   | none=>none
  | _=>none
 | .ok (.iaload,1)=>match st with
  | .int j :: .ref a::r=>match ds[a]? with
   | some d=>if d.1=64∧0≤j.toInt∧j.toInt<(d.2.1:Int)∧d.2.1<2147483648 then (match d.2.2[j.toNatClampNeg]? with|some v=>some (pc+1,L,v::r)|none=>none) else none
   | none=>none
  | _=>none
 | .ok (.daload,1)=>match st with
  | .int j :: .ref a::r=>match ds[a]? with
   | some d=>if d.1=65∧0≤j.toInt∧j.toInt<(d.2.1:Int)∧d.2.1<2147483648 then (match d.2.2[j.toNatClampNeg]? with|some v=>some (pc+1,L,v::r)|none=>none) else none
   | none=>none
  | _=>none
 | _=>none
theorem Am {A:Nat→Addr}{K:Nat→ClassId}{D:Nat→UInt64}{W:Nat→Value}{code:ByteArray}{own:String}{P:eR}{n0:Nat}{ds:List AD}(X:Stand p l e R s m args below meth c T locs cells slots)(hx:p.tables.exec=Jvm.exec)(hby:c.code=code)(hZ:Z.Warmed39 s.vm)(hown:s.vm.findClass own=some m.cls)(hP:cL Z a0 own P)(eT:T.heap=h)(Y:YgF Z n0 h A K D W ds)(hD0:D 0=0){pc pc':Nat}{L L':Array Slot}{st st':List Value}(hs:Al code P ds pc L st=some (pc',L',st'))
  (K_:∀T',Stand p l e R s m args below meth c T' locs cells slots→T'.heap=h→Go p e below Ev T' (mkF m pc' (L'.map (aZ A D W)) (st'.map (den A D W)))):Go p e below Ev T (mkF m pc (L.map (aZ A D W)) (st.map (den A D W))):=by
 subst hby
 unfold Al at hs
 split at hs
 ·next o hd =>
  split at hs
  ·split at hs
   ·next ho =>
    split at hs
    ·next hc=>cases hs;exact pg X hx _ _ hd ho rfl rfl (fun _=>K_ _ X eT) (fun hc'=>by exfalso;omega)
    ·next hc=>cases hs;exact pg X hx _ _ hd ho rfl rfl (fun hc'=>by exfalso;omega) (fun _=>K_ _ X eT)
   ·cases hs
  ·cases hs
 ·next o hd =>
  split at hs
  ·split at hs
   ·next ho =>
    split at hs
    ·next hc=>cases hs;exact pf X hx _ _ hd ho rfl rfl (fun _=>K_ _ X eT) (fun hc'=>by exfalso;omega)
    ·next hc=>cases hs;exact pf X hx _ _ hd ho rfl rfl (fun hc'=>by exfalso;omega) (fun _=>K_ _ X eT)
   ·cases hs
  ·cases hs
 ·next o hd =>
  split at hs
  ·split at hs
   ·next ho =>
    split at hs
    ·next hc=>cases hs;exact uC X hx _ _ hd ho rfl rfl (fun _=>K_ _ X eT) (fun hc'=>by exfalso;omega)
    ·next hc=>cases hs;exact uC X hx _ _ hd ho rfl rfl (fun hc'=>by exfalso;omega) (fun _=>K_ _ X eT)
   ·cases hs
  ·cases hs
 ·next hd =>
  split at hs
  ·next o y x r hd2 =>
   split at hs
   ·next ho =>
    split at hs
    ·next hc=>cases hs;exact uD X hx _ _ _ hd rfl hd2 ho rfl rfl (fun _=>K_ _ X eT) (fun hc'=>by exfalso;omega)
    ·next hc=>cases hs;exact uD X hx _ _ _ hd rfl hd2 ho rfl rfl (fun hc'=>by exfalso;omega) (fun _=>K_ _ X eT)
   ·cases hs
  ·next o y x r hd2 =>
   split at hs
   ·next ho =>
    split at hs
    ·next hc=>cases hs;exact uE X hx _ _ _ hd rfl hd2 ho rfl rfl (fun _=>K_ _ X eT) (fun hc'=>by exfalso;omega)
    ·next hc=>cases hs;exact uE X hx _ _ _ hd rfl hd2 ho rfl rfl (fun hc'=>by exfalso;omega) (fun _=>K_ _ X eT)
   ·cases hs
  ·next o y x r hd2 =>
   split at hs
   ·next ho =>
    split at hs
    ·next hc=>cases hs;exact uF X hx _ _ _ hd rfl hd2 ho rfl rfl (fun _=>K_ _ X eT) (fun hc'=>by exfalso;omega)
    ·next hc=>cases hs;exact uF X hx _ _ _ hd rfl hd2 ho rfl rfl (fun hc'=>by exfalso;omega) (fun _=>K_ _ X eT)
   ·cases hs
  ·next o y x r hd2 =>
   split at hs
   ·next ho =>
    split at hs
    ·next hc=>cases hs;exact uG X hx _ _ _ hd rfl hd2 ho rfl rfl (fun _=>K_ _ X eT) (fun hc'=>by exfalso;omega)
    ·next hc=>cases hs;exact uG X hx _ _ _ hd rfl hd2 ho rfl rfl (fun hc'=>by exfalso;omega) (fun _=>K_ _ X eT)
   ·cases hs
  ·next o y x r hd2 =>
   split at hs
   ·next ho =>
    split at hs
    ·next hc=>cases hs;exact uH X hx _ _ _ hd rfl hd2 ho rfl rfl (fun _=>K_ _ X eT) (fun hc'=>by exfalso;omega)
    ·next hc=>cases hs;exact uH X hx _ _ _ hd rfl hd2 ho rfl rfl (fun hc'=>by exfalso;omega) (fun _=>K_ _ X eT)
   ·cases hs
  ·next o y x r hd2 =>
   split at hs
   ·next ho =>
    split at hs
    ·next hc=>cases hs;exact uI X hx _ _ _ hd rfl hd2 ho rfl rfl (fun _=>K_ _ X eT) (fun hc'=>by exfalso;omega)
    ·next hc=>cases hs;exact uI X hx _ _ _ hd rfl hd2 ho rfl rfl (fun hc'=>by exfalso;omega) (fun _=>K_ _ X eT)
   ·cases hs
  ·cases hs
 ·next i hd =>
  split at hs
  ·split at hs
   ·next c j d e1 e2 =>
    split at hs
    ·next hc =>
     split at hs
     ·next v hv =>
      cases hs
      obtain⟨hlt,f,R0,host,hf,w,via⟩:=hP.1 i c j e1
      have H:=(Y.1 _ _ e2).2
      unfold HdF at H
      rw[if_pos (by rw[hc];exact hlt)] at H
      have F:=H.2 j v f hv (by rw[hc];exact hf)
      obtain⟨T',X',e',st'⟩:=getF X hx hZ hown (host:=host) w via eT F (g:=mkF m pc _ _) rfl rfl hd
      exact (K_ T' X' e').on st'
     ·cases hs
    ·cases hs
   ·cases hs
  ·cases hs
 ·next hd =>
  split at hs
  ·split at hs
   ·next d e2 =>
    split at hs
    ·next hc =>
     cases hs
     have H:=(Y.1 _ _ e2).2
     unfold HdF at H
     rw[if_neg (Nat.not_lt.mpr hc)] at H
     exact Pf X hx hZ eT H.2.1 _ hd rfl (K_ _ X eT)
    ·cases hs
   ·cases hs
  ·cases hs
 ·next hd =>
  split at hs
  ·next j a r =>
   split at hs
   ·next d e2 =>
    split at hs
    ·next hc =>
     split at hs
     ·next v hv =>
      cases hs
      have H:=(Y.1 _ _ e2).2
      unfold HdF at H
      rw[if_neg (by omega)] at H
      have hz:=Int32.toInt_ofNat_small (n:=d.2.1) hc.2.2.2
      have hg:(d.2.2.map (den A D W)).getD j.toNatClampNeg (eF d.1)=den A D W v:=by rw[List.getD_eq_getElem?_getD,List.getElem?_map,hv];rfl
      have V:=H.2.1
      rw[hc.1] at V hg
      exact zM X hx hZ eT V hc.2.1 (by omega) hg _ hd rfl (K_ _ X eT)
     ·cases hs
    ·cases hs
   ·cases hs
  ·cases hs
 ·next hd =>
  split at hs
  ·next j a r =>
   split at hs
   ·next d e2 =>
    split at hs
    ·next hc =>
     split at hs
     ·next v hv =>
      cases hs
      have H:=(Y.1 _ _ e2).2
      unfold HdF at H
      rw[if_neg (by omega)] at H
      have hz:=Int32.toInt_ofNat_small (n:=d.2.1) hc.2.2.2
      have hg:(d.2.2.map (den A D W)).getD j.toNatClampNeg (eF d.1)=den A D W v:=by rw[List.getD_eq_getElem?_getD,List.getElem?_map,hv];rfl
      have V:=H.2.1
      rw[hc.1] at V hg
      exact zL X hx hZ eT V hc.2.1 (by omega) hg _ hd rfl (K_ _ X eT)
     ·cases hs
    ·cases hs
   ·cases hs
  ·cases hs
 ·cases hs
def An (code:ByteArray)(P:eR)(ds:List AD)(pc:Nat)(L:Array Slot)(st:List Value):Option (Nat×Array Slot×List Value) :=
 match decode code pc with
 | .ok (.baload,1)=>match st with
  | .int j :: .ref a::r=>match ds[a]? with
   | some d=>if d.1=66∧0≤j.toInt∧j.toInt<(d.2.1:Int)∧d.2.1<2147483648 then (match d.2.2[j.toNatClampNeg]? with|some v=>some (pc+1,L,v::r)|none=>none) else none
   | none=>none
  | _=>none
 | .ok (.aaload,1)=>match st with
  | .int j :: .ref a::r=>match ds[a]? with
   | some d=>if (d.1=67∨d.1=68)∧0≤j.toInt∧j.toInt<(d.2.1:Int)∧d.2.1<2147483648 then (match d.2.2[j.toNatClampNeg]? with|some v=>some (pc+1,L,v::r)|none=>none) else none
   | none=>none
  | _=>none
 | .ok (.checkcast i,3)=>match st with
  | .ref a::r=>match P.2.1 i,ds[a]? with
   | some C,some d=>if 64≤d.1∧fW d.1=C then some (pc+3,L,.ref a::r) else none
   | _,_=>none
  | _=>none
 | _=>none
theorem Ao {A:Nat→Addr}{K:Nat→ClassId}{D:Nat→UInt64}{W:Nat→Value}{code:ByteArray}{own:String}{P:eR}{n0:Nat}{ds:List AD}(X:Stand p l e R s m args below meth c T locs cells slots)(hx:p.tables.exec=Jvm.exec)(hby:c.code=code)(hZ:Z.Warmed39 s.vm)(hown:s.vm.findClass own=some m.cls)(hP:cL Z a0 own P)(eT:T.heap=h)(Y:YgF Z n0 h A K D W ds)(hD0:D 0=0){pc pc':Nat}{L L':Array Slot}{st st':List Value}(hs:An code P ds pc L st=some (pc',L',st'))
  (K_:∀T',Stand p l e R s m args below meth c T' locs cells slots→T'.heap=h→Go p e below Ev T' (mkF m pc' (L'.map (aZ A D W)) (st'.map (den A D W)))):Go p e below Ev T (mkF m pc (L.map (aZ A D W)) (st.map (den A D W))):=by
 subst hby
 unfold An at hs
 split at hs
 ·next hd =>
  split at hs
  ·next j a r =>
   split at hs
   ·next d e2 =>
    split at hs
    ·next hc =>
     split at hs
     ·next v hv =>
      cases hs
      have H:=(Y.1 _ _ e2).2
      unfold HdF at H
      rw[if_neg (by omega)] at H
      have hz:=Int32.toInt_ofNat_small (n:=d.2.1) hc.2.2.2
      have hg:(d.2.2.map (den A D W)).getD j.toNatClampNeg (eF d.1)=den A D W v:=by rw[List.getD_eq_getElem?_getD,List.getElem?_map,hv];rfl
      have V:=H.2.1
      rw[hc.1] at V hg
      exact zY X hx hZ eT V hc.2.1 (by omega) hg _ hd rfl (K_ _ X eT)
     ·cases hs
    ·cases hs
   ·cases hs
  ·cases hs
 ·next hd =>
  split at hs
  ·next j a r =>
   split at hs
   ·next d e2 =>
    split at hs
    ·next hc =>
     split at hs
     ·next v hv =>
      cases hs
      have H:=(Y.1 _ _ e2).2
      unfold HdF at H
      rw[if_neg (by omega)] at H
      have hz:=Int32.toInt_ofNat_small (n:=d.2.1) hc.2.2.2
      have hg:(d.2.2.map (den A D W)).getD j.toNatClampNeg (eF d.1)=den A D W v:=by rw[List.getD_eq_getElem?_getD,List.getElem?_map,hv];rfl
      exact zX X hx hZ eT H.2.1 (by rcases hc.1 with q|q<;>rw[q]<;>rfl) hc.2.1 (by omega) hg _ hd rfl (K_ _ X eT)
     ·cases hs
    ·cases hs
   ·cases hs
  ·cases hs
 ·next i hd =>
  split at hs
  ·split at hs
   ·next C d e1 e2 =>
    split at hs
    ·next hc =>
     cases hs
     have H:=(Y.1 _ _ e2).2
     unfold HdF at H
     rw[if_neg (Nat.not_lt.mpr hc.1)] at H
     have E:=H.1
     rw[hc.2] at E
     refine Nz X hx hZ hown (hP.2.1 i C e1) eT (Ins.self E) _ hd rfl ?_
     intro T' X' e'
     exact K_ T' X' e'
    ·cases hs
   ·cases hs
  ·cases hs
 ·cases hs
def NC (code:ByteArray)(P:eR)(ds:List AD)(pc:Nat)(L:Array Slot)(st:List Value):Option (Nat×Array Slot×List Value) :=
 match z5 code P ds pc L st with
 | some r=>some r
 | none=>match z7 code P ds pc L st with
 | some r=>some r
 | none=>match z9 code P ds pc L st with
 | some r=>some r
 | none=>match Aa code P ds pc L st with
 | some r=>some r
 | none=>match Af code P ds pc L st with
 | some r=>some r
 | none=>match Ah code P ds pc L st with
 | some r=>some r
 | none=>match Aj code P ds pc L st with
 | some r=>some r
 | none=>match Al code P ds pc L st with
 | some r=>some r
 | none=>match An code P ds pc L st with
 | some r=>some r
 | none=>none
theorem HY {A:Nat→Addr}{K:Nat→ClassId}{D:Nat→UInt64}{W:Nat→Value}{code:ByteArray}{own:String}{P:eR}{n0:Nat}{ds:List AD}(X:Stand p l e R s m args below meth c T locs cells slots)(hx:p.tables.exec=Jvm.exec)(hby:c.code=code)(hZ:Z.Warmed39 s.vm)(hown:s.vm.findClass own=some m.cls)(hP:cL Z a0 own P)(eT:T.heap=h)(Y:YgF Z n0 h A K D W ds)(hD0:D 0=0){pc pc':Nat}{L L':Array Slot}{st st':List Value}(hs:NC code P ds pc L st=some (pc',L',st'))
  (K_:∀T',Stand p l e R s m args below meth c T' locs cells slots→T'.heap=h→Go p e below Ev T' (mkF m pc' (L'.map (aZ A D W)) (st'.map (den A D W)))):Go p e below Ev T (mkF m pc (L.map (aZ A D W)) (st.map (den A D W))):=by
 unfold NC at hs
 split at hs
 ·next r h1=>cases hs;exact z6 X hx hby hZ hown hP eT Y hD0 h1 K_
 split at hs
 ·next r h1=>cases hs;exact z8 X hx hby hZ hown hP eT Y hD0 h1 K_
 split at hs
 ·next r h1=>cases hs;exact z_ X hx hby hZ hown hP eT Y hD0 h1 K_
 split at hs
 ·next r h1=>cases hs;exact Ae X hx hby hZ hown hP eT Y hD0 h1 K_
 split at hs
 ·next r h1=>cases hs;exact Ag X hx hby hZ hown hP eT Y hD0 h1 K_
 split at hs
 ·next r h1=>cases hs;exact Ai X hx hby hZ hown hP eT Y hD0 h1 K_
 split at hs
 ·next r h1=>cases hs;exact Ak X hx hby hZ hown hP eT Y hD0 h1 K_
 split at hs
 ·next r h1=>cases hs;exact Am X hx hby hZ hown hP eT Y hD0 h1 K_
 split at hs
 ·next r h1=>cases hs;exact Ao X hx hby hZ hown hP eT Y hD0 h1 K_
 cases hs
end OwnExec
section OwnExecW
variable {p:Program}{l:Launch}{e:Env}{R:Room}{s:State}{m:MethodId}{args:Array Value}{below:List Frame}{meth:Method}{c:Code}{T:State}{locs:List Loc}{cells slots:Nat}{Z:State}{a0:Array Value}{h h':Heap}{Ev:State→Outcome→Prop}
section
variable {A:Nat→Addr}{K:Nat→ClassId}{D:Nat→UInt64}{W:Nat→Value}{n0:Nat}{ds:List AD}{a b:Addr}{k:ClassId}{d d':AD}{sl:Nat}{v:Value}
theorem HdF.ext (H:HdF Z h a k A D W d)(E:Ext h h'):HdF Z h' a k A D W d:=by
 unfold HdF at H ⊢
 split at H
 ·rename_i q;rw[if_pos q];exact⟨H.1.ext E,fun j v f h1 h2=>(H.2 j v f h1 h2).ext E⟩
 ·rename_i q;rw[if_neg q];exact⟨H.1.ext E,H.2.1.ext E,H.2.2⟩
theorem HdF.other (H:HdF Z h b k A D W d)(Wh:Wr h h' a sl v)(q:b≠a):HdF Z h' b k A D W d:=by
 unfold HdF at H ⊢
 split at H
 ·rename_i q';rw[if_pos q'];exact⟨H.1.wr Wh,fun j v f h1 h2=>(H.2 j v f h1 h2).other Wh (Or.inl q)⟩
 ·rename_i q';rw[if_neg q'];exact⟨H.1.wr Wh,H.2.1.other Wh q,H.2.2⟩
theorem HdF.keep {ws:List Addr}(H:HdF Z h a k A D W d)(Kp:Keep h h' ws)(q:a ∉ ws):HdF Z h' a k A D W d:=by
 unfold HdF at H ⊢
 split at H
 ·rename_i q';rw[if_pos q'];exact⟨H.1.keep Kp,fun j v f h1 h2=>(H.2 j v f h1 h2).keep Kp q⟩
 ·rename_i q';rw[if_neg q'];exact⟨H.1.keep Kp,H.2.1.keep Kp q,H.2.2⟩
theorem HdF.lt (H:HdF Z h a k A D W d):a<h.size:=by
 unfold HdF at H
 split at H
 ·exact H.1.lt
 ·exact H.1.lt
theorem HdF.arr (H:HdF Z h a k A D W d)(q:64≤d.1):Exa Z h a (fW d.1)∧Arv Z h a k (eE d.1) (Int32.ofNat d.2.1) (d.2.2.map (den A D W)) (eF d.1)∧(d.1=67→OvrA Z k .int "[I")∧(d.1=68→OvrA Z k .double "[D"):=by
 unfold HdF at H
 rwa [if_neg (Nat.not_lt.mpr q)] at H
theorem YgF.wr (Y:YgF Z n0 h A K D W ds){i:Nat}(e:ds[i]? = some d)(Wh:Wr h h' (A i) sl v)(H:HdF Z h' (A i) (K i) A D W d'):YgF Z n0 h' A K D W (ds.set i d'):=by
 have hi:i<ds.length:=(List.getElem?_eq_some_iff.mp e).1
 refine⟨fun j x hj=>?_,fun x y hx hy q=>Y.2 x y (by simpa using hx) (by simpa using hy) q⟩
 rw[List.getElem?_set] at hj
 split at hj
 ·rename_i q
  subst q
  first
  | cases hj
  | (rw[if_pos hi] at hj;cases hj)
  exact⟨(Y.1 _ _ e).1,H⟩
 ·rename_i q
  have hjl:j<ds.length:=(List.getElem?_eq_some_iff.mp hj).1
  exact⟨(Y.1 _ _ hj).1,(Y.1 _ _ hj).2.other Wh fun z=>q (Y.2 _ _ hi hjl z.symm)⟩
theorem YgF.wrA (Y:YgF Z n0 h A K D W ds){i:Nat}{cd z:Nat}{vs vs':List Value}(e:ds[i]? = some (cd,z,vs))(q:64≤cd)(Wh:Wr h h' (A i) sl v)(V:Arv Z h' (A i) (K i) (eE cd) (Int32.ofNat z) (vs'.map (den A D W)) (eF cd)):YgF Z n0 h' A K D W (ds.set i (cd,z,vs')):=by
 have H:=(Y.1 _ _ e).2.arr q
 refine Y.wr e Wh ?_
 unfold HdF
 rw[if_neg (Nat.not_lt.mpr q)]
 exact⟨H.1.wr Wh,V,H.2.2⟩
def eS (Z:State)(a0:Array Value):Prop:=∀c,c<64→Lds Z a0 (cI c) (a_ c)∧((a_ c).map (·.2.1)).Pairwise (·≠·)
theorem YgF.wrF (Y:YgF Z n0 h A K D W ds)(CL:eS Z a0){i j cd z:Nat}{vs:List Value}{f:String×String×String}{w:Value}(e:ds[i]? = some (cd,z,vs))(q:cd<64)(hf:(a_ cd)[j]? = some f)(Wh:Wr h h' (A i) (Jvm.RoadKit.slotOf Z f.1 f.2.1 f.2.2) (den A D W w))(F:∃v,Fld Z h (A i) f.1 f.2.1 f.2.2 v):YgF Z n0 h' A K D W (ds.set i (cd,z,vs.set j w)):=by
 obtain⟨L,hn⟩:=CL cd q
 have H:=(Y.1 _ _ e).2
 unfold HdF at H
 rw[if_pos q] at H
 refine Y.wr e Wh ?_
 unfold HdF
 rw[if_pos q]
 refine⟨H.1.wr Wh,fun x u g hx hg=>?_⟩
 rw[List.getElem?_set] at hx
 split at hx
 ·rename_i q1
  subst q1
  cases hf.symm.trans hg
  split at hx
  ·cases hx
   obtain⟨v0,F⟩:=F
   exact F.same Wh
  ·cases hx
 ·rename_i q1
  have L1:=L _ (List.mem_of_getElem? hg)
  have L2:=L _ (List.mem_of_getElem? hf)
  obtain⟨t1,p1⟩:=L1.2
  obtain⟨t2,p2⟩:=L2.2
  obtain⟨g1,r1⟩:=List.getElem?_eq_some_iff.mp hg
  obtain⟨g2,r2⟩:=List.getElem?_eq_some_iff.mp hf
  have P':=List.pairwise_iff_getElem.mp hn
  have ne:g.2.1≠f.2.1:=by
   rcases Nat.lt_or_gt_of_ne q1 with y|y
   ·have:=P' j x (by simpa using g2) (by simpa using g1) y
    intro z
    apply this
    simp [r1,r2,z]
   ·have:=P' x j (by simpa using g1) (by simpa using g2) y
    intro z
    apply this
    simp [r1,r2,z]
  exact (H.2 x u g hx hg).other Wh (Or.inr (slot_ne L1.1 L2.1 ne p1 p2))
end
def Sit (p:Program)(l:Launch)(e:Env)(R:Room)(s:State)(m:MethodId)(args:Array Value)(below:List Frame)(meth:Method)(c:Code)(Z:State)(n0 nB:Nat)(hB:Heap)(T:State)(A:Nat→Addr)(K:Nat→ClassId)(D:Nat→UInt64)(W:Nat→Value)(ds:List AD)(cells slots:Nat):Prop :=
 ∃(h:Heap) (locs:List Loc),Stand p l e R s m args below meth c T locs cells slots∧T.heap=h∧YgF Z n0 h A K D W ds∧Keep hB h ((List.range nB).map A)∧(∀i,nB≤i→i<ds.length→hB.size≤A i)∧Fr n0 locs∧n0≤h.size∧nB≤ds.length
theorem ic {A:Nat→Addr}{nB i:Nat}{hB:Heap}{n:Nat}(hsz:∀i,nB≤i→i<n→hB.size≤A i)(hi:i<n):A i∈(List.range nB).map A∨hB.size≤A i:=by
 by_cases q:i<nB
 ·exact Or.inl (List.mem_map_of_mem (List.mem_range.mpr q))
 ·exact Or.inr (hsz i (Nat.le_of_not_lt q) hi)
def qk:FieldType→Value→Bool
 | .int,.int _=>true
 | .double,.double _=>true
 | .array _,.ref _=>true
 | .array _,.null=>true
 | .object _,.ref _=>true
 | .object _,.null=>true
 | _,_=>false
def gj (Z:State)(a0:Array Value)(own mn:String)(pw:Nat→Option FieldType)(P:eR):Prop:=∀i ty,pw i=some ty→∀cc j,P.1 i=some (cc,j)→∃f kk,(a_ cc)[j]? = some f∧((Jvm.Cond.lays (cI cc) f.1 f.2.1 f.2.2).before a0 Z=true∨((Jvm.Cond.laysFinal (cI cc) f.1 f.2.1 f.2.2).before a0 Z=true∧own=f.1∧mn = "<init>"))∧(Jvm.Cond.instantiable (cI cc) kk).before a0 Z=true∧parseFieldDescriptor f.2.2=some ty
def Ap (code:ByteArray)(P:eR)(pw:Nat→Option FieldType)(ds:List AD)(pc:Nat)(L:Array Slot)(st:List Value):Option (Nat×Array Slot×List Value×List AD) :=
 match decode code pc with
 | .ok (.putfield i,3)=>match st with
  | v :: .ref a::r=>match pw i,P.1 i,ds[a]? with
   | some ty,some (cc,j),some d=>if d.1=cc∧qk ty v=true∧j<d.2.2.length then some (pc+3,L,r,ds.set a (d.1,d.2.1,d.2.2.set j v)) else none
   | _,_,_=>none
  | _=>none
 | .ok (.iastore,1)=>match st with
  | .int v :: .int j :: .ref a::r=>match ds[a]? with
   | some d=>if d.1=64∧0≤j.toInt∧j.toInt<(d.2.1:Int)∧d.2.1<2147483648∧j.toNatClampNeg<d.2.2.length then some (pc+1,L,r,ds.set a (d.1,d.2.1,d.2.2.set j.toNatClampNeg (.int v))) else none
   | none=>none
  | _=>none
 | .ok (.dastore,1)=>match st with
  | .double v :: .int j :: .ref a::r=>match ds[a]? with
   | some d=>if d.1=65∧0≤j.toInt∧j.toInt<(d.2.1:Int)∧d.2.1<2147483648∧j.toNatClampNeg<d.2.2.length then some (pc+1,L,r,ds.set a (d.1,d.2.1,d.2.2.set j.toNatClampNeg (.double v))) else none
   | none=>none
  | _=>none
 | .ok (.bastore,1)=>match st with
  | .int v :: .int j :: .ref a::r=>match ds[a]? with
   | some d=>if d.1=66∧0≤j.toInt∧j.toInt<(d.2.1:Int)∧d.2.1<2147483648∧j.toNatClampNeg<d.2.2.length then some (pc+1,L,r,ds.set a (d.1,d.2.1,d.2.2.set j.toNatClampNeg (.int (nar .boolean v)))) else none
   | none=>none
  | _=>none
 | .ok (.aastore,1)=>match st with
  | .ref v :: .int j :: .ref a::r=>match ds[a]?,ds[v]? with
   | some d,some dv=>if ((d.1=67∧dv.1=64)∨(d.1=68∧dv.1=65))∧0≤j.toInt∧j.toInt<(d.2.1:Int)∧d.2.1<2147483648∧j.toNatClampNeg<d.2.2.length then some (pc+1,L,r,ds.set a (d.1,d.2.1,d.2.2.set j.toNatClampNeg (.ref v))) else none
   | _,_=>none
  | _=>none
 | _=>none
theorem gA {j:Int32}(h:0≤j.toInt):j.toInt=(j.toNatClampNeg:Int):=by simp only[Int32.toNatClampNeg];omega
theorem HZ {A:Nat→Addr}{K:Nat→ClassId}{D:Nat→UInt64}{W:Nat→Value}{code:ByteArray}{own:String}{P:eR}{pw:Nat→Option FieldType}{n0 nB:Nat}{hB:Heap}{ds ds':List AD}(hx:p.tables.exec=Jvm.exec)(hby:c.code=code)(hZ:Z.Warmed39 s.vm)(hown:s.vm.findClass own=some m.cls)(hP:cL Z a0 own P)(hW:gj Z a0 own meth.name pw P)(CL:eS Z a0)(S:Sit p l e R s m args below meth c Z n0 nB hB T A K D W ds cells slots){pc pc':Nat}{L L':Array Slot}{st st':List Value}(hs:Ap code P pw ds pc L st=some (pc',L',st',ds'))
  (K_:∀T',Sit p l e R s m args below meth c Z n0 nB hB T' A K D W ds' cells slots→Go p e below Ev T' (mkF m pc' (L'.map (aZ A D W)) (st'.map (den A D W)))):Go p e below Ev T (mkF m pc (L.map (aZ A D W)) (st.map (den A D W))):=by
 subst hby
 obtain⟨h,locs,X,eT,Y,Kp,hsz,N,hn,hnB⟩:=S
 unfold Ap at hs
 split at hs
 ·next i hd =>
  split at hs
  ·next v a r =>
   split at hs
   ·next ty cc j d e0 e1 e2 =>
    split at hs
    ·next hc =>
     cases hs
     obtain⟨hlt,f,R0,host,hf,w,via⟩:=hP.1 i cc j e1
     obtain⟨f',kk,hf',hL,wi,hty⟩:=hW i ty e0 cc j e1
     cases hf.symm.trans hf'
     have hal:a<ds.length:=(List.getElem?_eq_some_iff.mp e2).1
     have H:=(Y.1 _ _ e2).2
     unfold HdF at H
     rw[if_pos (by rw[hc.1];exact hlt)] at H
     have hv0:d.2.2[j]? = some (d.2.2[j]'hc.2.2):=List.getElem?_eq_getElem hc.2.2
     have F:=H.2 j _ f hv0 (by rw[hc.1];exact hf)
     have E:=H.1
     rw[hc.1] at E
     have nf:narrow ty (den A D W v)=den A D W v∧fits ty (den A D W v)=true:=by
      have q:=hc.2.1
      cases ty<;>cases v<;>first|(simp [qk] at q;done)|exact⟨rfl,rfl⟩
     obtain⟨T',h',X',e',Wh,st'⟩:=putF X hx hZ hown (host:=host) w via eT F E hL wi hty nf.1 nf.2 (g:=mkF m pc _ _) rfl rfl hd
     refine (K_ T' ⟨h',_,X',e',?_,Kp.wr Wh (ic hsz hal),?_,Fr.snoc X' N (Y.1 _ _ e2).1,by rw[Wh.size];exact hn,by simpa using hnB⟩).on st'
     ·exact Y.wrF CL (cd:=d.1) (z:=d.2.1) (vs:=d.2.2) e2 (by rw[hc.1];exact hlt) (by rw[hc.1];exact hf) Wh ⟨_,F⟩
     ·intro i hi hl
      exact hsz i hi (by simpa using hl)
    ·cases hs
   ·cases hs
  ·cases hs
 ·next hd =>
  split at hs
  ·next v j a r =>
   split at hs
   ·next d e2 =>
    split at hs
    ·next hc =>
     cases hs
     have hal:a<ds.length:=(List.getElem?_eq_some_iff.mp e2).1
     have V:=((Y.1 _ _ e2).2.arr (by omega)).2.1
     have hz:=Int32.toInt_ofNat_small (n:=d.2.1) hc.2.2.2.1
     rw[hc.1] at V
     refine xZ X hx hZ eT V j.toNatClampNeg (gA hc.2.1) (by omega) (by simpa using hc.2.2.2.2) _ hd rfl ?_
     intro T' h' X' e' Wh V'
     refine K_ T' ⟨h',_,X',e',?_,Kp.wr Wh (ic hsz hal),?_,Fr.snoc X' N (Y.1 _ _ e2).1,by rw[Wh.size];exact hn,by simpa using hnB⟩
     ·exact Y.wrA (cd:=d.1) (z:=d.2.1) (vs:=d.2.2) e2 (by omega) Wh (by rw[hc.1,List.map_set];exact V')
     ·intro i hi hl
      exact hsz i hi (by simpa using hl)
    ·cases hs
   ·cases hs
  ·cases hs
 ·next hd =>
  split at hs
  ·next v j a r =>
   split at hs
   ·next d e2 =>
    split at hs
    ·next hc =>
     cases hs
     have hal:a<ds.length:=(List.getElem?_eq_some_iff.mp e2).1
     have V:=((Y.1 _ _ e2).2.arr (by omega)).2.1
     have hz:=Int32.toInt_ofNat_small (n:=d.2.1) hc.2.2.2.1
     rw[hc.1] at V
     refine xY X hx hZ eT V j.toNatClampNeg (gA hc.2.1) (by omega) (by simpa using hc.2.2.2.2) _ hd rfl ?_
     intro T' h' X' e' Wh V'
     refine K_ T' ⟨h',_,X',e',?_,Kp.wr Wh (ic hsz hal),?_,Fr.snoc X' N (Y.1 _ _ e2).1,by rw[Wh.size];exact hn,by simpa using hnB⟩
     ·exact Y.wrA (cd:=d.1) (z:=d.2.1) (vs:=d.2.2) e2 (by omega) Wh (by rw[hc.1,List.map_set];exact V')
     ·intro i hi hl
      exact hsz i hi (by simpa using hl)
    ·cases hs
   ·cases hs
  ·cases hs
 ·next hd =>
  split at hs
  ·next v j a r =>
   split at hs
   ·next d e2 =>
    split at hs
    ·next hc =>
     cases hs
     have hal:a<ds.length:=(List.getElem?_eq_some_iff.mp e2).1
     have V:=((Y.1 _ _ e2).2.arr (by omega)).2.1
     have hz:=Int32.toInt_ofNat_small (n:=d.2.1) hc.2.2.2.1
     rw[hc.1] at V
     refine x8 X hx hZ eT V j.toNatClampNeg (gA hc.2.1) (by omega) (by simpa using hc.2.2.2.2) _ rfl _ hd rfl ?_
     intro T' h' X' e' Wh V'
     refine K_ T' ⟨h',_,X',e',?_,Kp.wr Wh (ic hsz hal),?_,Fr.snoc X' N (Y.1 _ _ e2).1,by rw[Wh.size];exact hn,by simpa using hnB⟩
     ·exact Y.wrA (cd:=d.1) (z:=d.2.1) (vs:=d.2.2) e2 (by omega) Wh (by rw[hc.1,List.map_set];exact V')
     ·intro i hi hl
      exact hsz i hi (by simpa using hl)
    ·cases hs
   ·cases hs
  ·cases hs
 ·next hd =>
  split at hs
  ·next v j a r =>
   split at hs
   ·next d dv e2 e3 =>
    split at hs
    ·next hc =>
     cases hs
     have hal:a<ds.length:=(List.getElem?_eq_some_iff.mp e2).1
     have HA:=(Y.1 _ _ e2).2.arr (by omega)
     have HV:=(Y.1 _ _ e3).2.arr (by omega)
     have hz:=Int32.toInt_ofNat_small (n:=d.2.1) hc.2.2.2.1
     have V:=HA.2.1
     rcases hc.1 with ⟨q1,q2⟩|⟨q1,q2⟩
     ·rw[q1] at V
      have I:=HV.1
      rw[q2] at I
      refine mq X hx hZ eT V (HA.2.2.1 q1) (Ins.self I) j.toNatClampNeg (gA hc.2.1) (by omega) (by simpa using hc.2.2.2.2) _ hd rfl ?_
      intro T' h' X' e' Wh V'
      refine K_ T' ⟨h',_,X',e',?_,Kp.wr Wh (ic hsz hal),?_,Fr.snoc X' N (Y.1 _ _ e2).1,by rw[Wh.size];exact hn,by simpa using hnB⟩
      ·exact Y.wrA (cd:=d.1) (z:=d.2.1) (vs:=d.2.2) e2 (by omega) Wh (by rw[q1,List.map_set];exact V')
      ·intro i hi hl
       exact hsz i hi (by simpa using hl)
     ·rw[q1] at V
      have I:=HV.1
      rw[q2] at I
      refine mq X hx hZ eT V (HA.2.2.2 q1) (Ins.self I) j.toNatClampNeg (gA hc.2.1) (by omega) (by simpa using hc.2.2.2.2) _ hd rfl ?_
      intro T' h' X' e' Wh V'
      refine K_ T' ⟨h',_,X',e',?_,Kp.wr Wh (ic hsz hal),?_,Fr.snoc X' N (Y.1 _ _ e2).1,by rw[Wh.size];exact hn,by simpa using hnB⟩
      ·exact Y.wrA (cd:=d.1) (z:=d.2.1) (vs:=d.2.2) e2 (by omega) Wh (by rw[q1,List.map_set];exact V')
      ·intro i hi hl
       exact hsz i hi (by simpa using hl)
    ·cases hs
   ·cases hs
  ·cases hs
 ·cases hs
end OwnExecW
section OwnExecN
variable {p:Program}{l:Launch}{e:Env}{R:Room}{s:State}{m:MethodId}{args:Array Value}{below:List Frame}{meth:Method}{c:Code}{T:State}{locs:List Loc}{cells slots:Nat}{Z:State}{a0:Array Value}{h h':Heap}{Ev:State→Outcome→Prop}
def okV (nA nD:Nat):Value→Bool
 | .ref i=>decide (i<nA)
 | .double j=>decide (j.toNat<nD)||decide (4096≤j.toNat)
 | .float j=>decide (j.toNat<nD)||decide (4096≤j.toNat)
 | _=>true
def okS (nA nD:Nat):Slot→Bool
 | .val v=>okV nA nD v
 | _=>true
def okD (nA nD:Nat)(d:AD):Bool:=d.2.2.all (okV nA nD)
def fo (nA nD:Nat)(L:Array Slot)(st:List Value)(ds:List AD):Bool:=L.toList.all (okS nA nD)&&(st.all (okV nA nD)&&ds.all (okD nA nD))
section
variable {A A':Nat→Addr}{K K':Nat→ClassId}{D D':Nat→UInt64}{W:Nat→Value}{nA nD n0:Nat}{ds:List AD}{a:Addr}{k:ClassId}{d:AD}
theorem pk (hA:∀i,i<nA→A' i=A i)(hD:∀j,j<nD→D' j=D j){v:Value}(h:okV nA nD v=true):den A' D' W v=den A D W v:=by
 cases v with
 | ref i=>simp only[okV,decide_eq_true_eq] at h;simp only[den,hA i h]
 | double j =>
  simp only[okV,Bool.or_eq_true,decide_eq_true_eq] at h
  simp only[den,dX]
  split
  ·rename_i q
   rw[hD _ (by omega)]
  ·rfl
 | float j =>
  simp only[okV,Bool.or_eq_true,decide_eq_true_eq] at h
  simp only[den,dX]
  split
  ·rename_i q
   rw[hD _ (by omega)]
  ·rfl
 | _=>rfl
theorem H0 (hA:∀i,i<nA→A' i=A i)(hD:∀j,j<nD→D' j=D j){v:Slot}(h:okS nA nD v=true):aZ A' D' W v=aZ A D W v:=by
 cases v with
 | val v=>simp only[aZ,pk hA hD h]
 | _=>rfl
theorem gV (hA:∀i,i<nA→A' i=A i)(hD:∀j,j<nD→D' j=D j){L:Array Slot}(h:L.toList.all (okS nA nD)=true):L.map (aZ A' D' W)=L.map (aZ A D W):=by
 refine Array.map_congr_left fun x hx=>H0 hA hD ?_
 exact List.all_eq_true.mp h x (by simpa using hx)
theorem eG (hA:∀i,i<nA→A' i=A i)(hD:∀j,j<nD→D' j=D j){L:List Value}(h:L.all (okV nA nD)=true):L.map (den A' D' W)=L.map (den A D W):=List.map_congr_left fun x hx=>pk hA hD (List.all_eq_true.mp h x hx)
theorem HdF.env (hA:∀i,i<nA→A' i=A i)(hD:∀j,j<nD→D' j=D j)(hd:okD nA nD d=true)(H:HdF Z h a k A D W d):HdF Z h a k A' D' W d:=by
 unfold HdF at H ⊢
 split at H
 ·rename_i q
  rw[if_pos q]
  refine⟨H.1,fun j v f h1 h2=>?_⟩
  rw[pk hA hD (List.all_eq_true.mp hd v (List.mem_of_getElem? h1))]
  exact H.2 j v f h1 h2
 ·rename_i q
  rw[if_neg q,eG hA hD hd]
  exact H
theorem YgF.ext (Y:YgF Z n0 h A K D W ds)(E:Ext h h'):YgF Z n0 h' A K D W ds:=⟨fun i d hi=>⟨(Y.1 i d hi).1,(Y.1 i d hi).2.ext E⟩,Y.2⟩
theorem YgF.env (Y:YgF Z n0 h A K D W ds)(hA:∀i,i<ds.length→A' i=A i)(hK:∀i,i<ds.length→K' i=K i)(hD:∀j,j<nD→D' j=D j)(hd:ds.all (okD ds.length nD)=true):YgF Z n0 h A' K' D' W ds:=by
 refine⟨fun i d hi=>?_,fun i j hi hj q=>Y.2 i j hi hj (by rw[←hA i hi,←hA j hj];exact q)⟩
 have hl:i<ds.length:=(List.getElem?_eq_some_iff.mp hi).1
 rw[hA i hl,hK i hl]
 exact⟨(Y.1 i d hi).1,(Y.1 i d hi).2.env hA hD (List.all_eq_true.mp hd d (List.mem_of_getElem? hi))⟩
theorem YgF.push (Y:YgF Z n0 h A K D W ds)(hd:ds.all (okD ds.length nD)=true)(g:a=h.size)(z:n0≤h.size)(E:Ext h h')(H:HdF Z h' a k (fun i=>if i=ds.length then a else A i) D W d):YgF Z n0 h' (fun i=>if i=ds.length then a else A i) (fun i=>if i=ds.length then k else K i) D W (ds++[d]):=by
 have hA:∀i,i<ds.length→(if i=ds.length then a else A i)=A i:=fun i hi=>if_neg (by omega)
 have hK:∀i,i<ds.length→(if i=ds.length then k else K i)=K i:=fun i hi=>if_neg (by omega)
 have Y':=(Y.env (A':=fun i=>if i=ds.length then a else A i) (K':=fun i=>if i=ds.length then k else K i) (nD:=nD) hA hK (fun _ _=>rfl) hd).ext E
 refine⟨fun i x hi=>?_,fun i j hi hj q=>?_⟩
 ·by_cases q:i<ds.length
  ·rw[List.getElem?_append_left q] at hi
   exact Y'.1 i x hi
  ·rw[List.getElem?_append_right (by omega)] at hi
   have e0:i=ds.length:=by
    have:=(List.getElem?_eq_some_iff.mp hi).1
    simp at this
    omega
   subst e0
   simp only[Nat.sub_self,List.getElem?_cons_zero,Option.some.injEq] at hi
   subst hi
   simp only[if_true]
   exact⟨by rw[g];exact z,H⟩
 ·rw[List.length_append,List.length_singleton] at hi hj
  have lt:∀i,i<ds.length→A i<h.size:=fun i hi=>(Y.1 i _ (List.getElem?_eq_getElem hi)).2.lt
  by_cases q1:i=ds.length<;>by_cases q2:j=ds.length
  ·omega
  ·exfalso
   have:=lt j (by omega)
   simp only[q1,if_true,if_neg q2] at q
   rw[g] at q
   exact absurd q (Nat.ne_of_gt this)
  ·exfalso
   have:=lt i (by omega)
   simp only[q2,if_true,if_neg q1] at q
   rw[g] at q
   exact absurd q (Nat.ne_of_lt this)
  ·simp only[if_neg q1,if_neg q2] at q
   exact Y.2 i j (by omega) (by omega) q
end
def iP (Z:State)(a0:Array Value)(own:String)(nw:Nat→Option (Nat×Nat)):Prop:=∀i cc n,nw i=some (cc,n)→cc<64∧(Jvm.Cond.classLink own i (cI cc)).before a0 Z=true∧(Jvm.Cond.instantiable (cI cc) n).before a0 Z=true∧(Jvm.Cond.initialized (cI cc)).before a0 Z=true∧∀(j:Nat)(v:Value)(f:String×String×String),(gU cc)[j]? = some v→(a_ cc)[j]? = some f→Laid Z a0 (cI cc) f.1 f.2.1 f.2.2∧∃t,parseFieldDescriptor f.2.2=some t∧∀(A:Nat→Addr)(D:Nat→UInt64)(W:Nat→Value),D 0=0→den A D W v=defaultValue t
def fq (Z:State)(a0:Array Value):Prop:=(Jvm.Cond.arrayClass .int).before a0 Z=true∧(Jvm.Cond.arrayClass .double).before a0 Z=true∧(Jvm.Cond.arrayClass .boolean).before a0 Z=true∧(Jvm.Cond.arrayOver (.array .int)).before a0 Z=true∧(Jvm.Cond.arrayOver (.array .double)).before a0 Z=true
def uL:ArrayType→Option Nat
 | .int=>some 64
 | .double=>some 65
 | .boolean=>some 66
 | _=>none
def ie (n:Nat):Nat:=if n≤20 then n else 4
def pl (cd:Nat):Value:=if cd=65 then .double 0 else if cd=67∨cd=68 then .null else .int 0
def ND (code:ByteArray)(P:eR)(nw:Nat→Option (Nat×Nat))(nD:Nat)(ds:List AD)(pc:Nat)(L:Array Slot)(st:List Value):Option (Nat×List Value×AD×Nat) :=
 match decode code pc with
 | .ok (.new i,3)=>match nw i with
  | some (cc,n)=>if fo ds.length nD L st ds=true then some (pc+3,.ref ds.length::st,(cc,0,gU cc),n) else none
  | none=>none
 | .ok (.newarray t,2)=>match uL t,st with
  | some cd,.int n::r=>if fo ds.length nD L r ds=true∧0≤n.toInt∧n.toInt≤1000 then some (pc+2,.ref ds.length::r,(cd,n.toNatClampNeg,List.replicate (ie n.toNatClampNeg) (pl cd)),n.toNatClampNeg) else none
  | _,_=>none
 | .ok (.anewarray i,3)=>match P.2.1 i,st with
  | some C,.int n::r=>if fo ds.length nD L r ds=true∧0≤n.toInt∧n.toInt≤1000∧(C = "[I"∨C = "[D") then some (pc+3,.ref ds.length::r,(if C = "[I" then 67 else 68,n.toNatClampNeg,List.replicate (ie n.toNatClampNeg) .null),n.toNatClampNeg) else none
  | _,_=>none
 | _=>none
theorem l4 {n:Int32}(h:0≤n.toInt):Int32.ofNat n.toNatClampNeg=n:=by
 refine Int32.toInt_inj.mp ?_
 have r:=rng32 n
 rw[Int32.toInt_ofNat_small (by simp only[Int32.toNatClampNeg];omega)]
 exact (gA h).symm
theorem H3 {D:Nat→UInt64}{A:Nat→Addr}{W:Nat→Value}(hD0:D 0=0)(cd n:Nat):(List.replicate n (pl cd)).map (den A D W)=List.replicate n (eF cd)∨¬(64≤cd∧cd≤68):=by
 by_cases h:64≤cd∧cd≤68
 ·left
  rw[List.map_replicate]
  have q:cd=64∨cd=65∨cd=66∨cd=67∨cd=68:=by omega
  rcases q with rfl|rfl|rfl|rfl|rfl
  ·rfl
  ·show List.replicate n (Value.double (dX D 0))=List.replicate n (Value.double 0)
   rw[show dX D 0=0 from hD0]
  ·rfl
  ·rfl
  ·rfl
 ·exact Or.inr h
theorem H4 {A:Nat→Addr}{K:Nat→ClassId}{D:Nat→UInt64}{W:Nat→Value}{code:ByteArray}{own:String}{P:eR}{nw:Nat→Option (Nat×Nat)}{n0 nB nD:Nat}{hB:Heap}{ds:List AD}{d:AD}{w:Nat}(hx:p.tables.exec=Jvm.exec)(hby:c.code=code)(hZ:Z.Warmed39 s.vm)(hown:s.vm.findClass own=some m.cls)(hP:cL Z a0 own P)(hN:iP Z a0 own nw)(hA:fq Z a0)(hD0:D 0=0)(S:Sit p l e R s m args below meth c Z n0 nB hB T A K D W ds cells slots)(hc:cells+1≤R.cells)(hl:slots+w≤R.slots){pc pc':Nat}{L:Array Slot}{st st':List Value}(hs:ND code P nw nD ds pc L st=some (pc',st',d,w))
  (K_:∀T' A' K',(∀i,i<ds.length→A' i=A i∧K' i=K i)→Sit p l e R s m args below meth c Z n0 nB hB T' A' K' D W (ds++[d]) (cells+1) (slots+w)→Go p e below Ev T' (mkF m pc' (L.map (aZ A' D W)) (st'.map (den A' D W)))):Go p e below Ev T (mkF m pc (L.map (aZ A D W)) (st.map (den A D W))):=by
 subst hby
 obtain⟨h,locs,X,eT,Y,Kp,hsz,N,hn,hnB⟩:=S
 have go:∀(T':State) (h':Heap) (a:Addr) (k:ClassId) (st1:List Value),a=h.size→Stand p l e R s m args below meth c T' locs (cells+1) (slots+w)→T'.heap=h'→Ext h h'→fo ds.length nD L st1 ds=true→HdF Z h' a k (fun i=>if i=ds.length then a else A i) D W d→st' = .ref ds.length::st1→Go p e below Ev T' (mkF m pc' (L.map (aZ A D W)) (.ref a::st1.map (den A D W))):=by
  intro T' h' a k st1 g X' e' E ok H es
  subst es
  simp only[fo,Bool.and_eq_true] at ok
  have hA:∀i,i<ds.length→(if i=ds.length then a else A i)=A i:=fun i hi=>if_neg (by omega)
  have G:=K_ T' (fun i=>if i=ds.length then a else A i) (fun i=>if i=ds.length then k else K i) (fun i hi=>⟨hA i hi,if_neg (by omega)⟩) ⟨h',locs,X',e',Y.push ok.2.2 g hn E H,?_,?_,N,Nat.le_trans hn E.1,by rw[List.length_append];omega⟩
  ·rw[gV (nD:=nD) hA (fun _ _=>rfl) ok.1,List.map_cons,eG (nD:=nD) hA (fun _ _=>rfl) ok.2.1] at G
   simpa [den] using G
  ·have e1:(List.range nB).map (fun i=>if i=ds.length then a else A i)=(List.range nB).map A:=List.map_congr_left fun i hi=>hA i (by have:=List.mem_range.mp hi;omega)
   rw[e1]
   exact Kp.ext E
  ·intro i hi hil
   rw[List.length_append,List.length_singleton] at hil
   by_cases q:i=ds.length
   ·simp only[q,if_true,g]
    exact Kp.1
   ·simp only[if_neg q]
    exact hsz i hi (by omega)
 unfold ND at hs
 split at hs
 ·next i hd =>
  split at hs
  ·next cc n e0 =>
   split at hs
   ·next ok =>
    obtain⟨hlt,w1,w2,w3,dv⟩:=hN i cc n e0
    cases hs
    refine Pe X hx hZ hown w1 w2 w3 eT _ hd rfl hc hl ?_
    intro T' h' a g X' e' E Ea Dv
    refine go T' h' a 0 _ g X' e' E ok ?_ rfl
    unfold HdF
    rw[if_pos hlt]
    refine⟨Ea,fun j v f h1 h2=>?_⟩
    obtain⟨ld,t,ht,hv⟩:=dv j v f h1 h2
    rw[hv _ _ _ hD0]
    exact Dv ld ht
   ·cases hs
  ·cases hs
 ·next t hd =>
  split at hs
  ·next cd n r ht =>
   split at hs
   ·next ok =>
    cases hs
    have hcap:n.toInt≤(n.toNatClampNeg:Int):=by rw[gA ok.2.1];exact Int.le_refl _
    have fin:∀(T':State) (h':Heap) (k:ClassId) (a:Addr),a=h.size→Stand p l e R s m args below meth c T' locs (cells+1) (slots+n.toNatClampNeg)→T'.heap=h'→Ext h h'→Arv Z h' a k (eE cd) n [] (eF cd)→Exa Z h' a (fW cd)→64≤cd∧cd≤66→Go p e below Ev T' (mkF m (pc+2) (L.map (aZ A D W)) (.ref a::r.map (den A D W))):=by
     intro T' h' k a g X' e' E V Ea hcd
     refine go T' h' a k r g X' e' E ok.1 ?_ rfl
     unfold HdF
     rw[if_neg (by omega)]
     refine⟨Ea,?_,fun q=>by omega,fun q=>by omega⟩
     show Arv Z h' a k (eE cd) (Int32.ofNat n.toNatClampNeg) ((List.replicate (ie n.toNatClampNeg) (pl cd)).map (den _ D W)) (eF cd)
     rw[l4 ok.2.1]
     rcases H3 (A:=fun i=>if i=ds.length then a else A i) (W:=W) hD0 cd (ie n.toNatClampNeg) with q|q
     ·rw[q];exact V.pad (pad_rep [] _ _)
     ·omega
    cases t<;>simp only[uL] at ht<;>first|(cases ht;done)|skip
    all_goals
     cases ht
     first
     | exact te X hx hZ (aty := .boolean) hA.2.2.1 eT ok.2.1 (cap:=n.toNatClampNeg) hcap (by simp only[Int32.toNatClampNeg];omega) _ hd rfl hc hl (ad := "[Z") (by decide) (fun T' h' k a g X' e' E V Ea=>fin T' h' k a g X' e' E V Ea (by decide))
     | exact te X hx hZ (aty := .int) hA.1 eT ok.2.1 (cap:=n.toNatClampNeg) hcap (by simp only[Int32.toNatClampNeg];omega) _ hd rfl hc hl (ad := "[I") (by decide) (fun T' h' k a g X' e' E V Ea=>fin T' h' k a g X' e' E V Ea (by decide))
     | exact te X hx hZ (aty := .double) hA.2.1 eT ok.2.1 (cap:=n.toNatClampNeg) hcap (by simp only[Int32.toNatClampNeg];omega) _ hd rfl hc hl (ad := "[D") (by decide) (fun T' h' k a g X' e' E V Ea=>fin T' h' k a g X' e' E V Ea (by decide))
   ·cases hs
  ·cases hs
 ·next i hd =>
  split at hs
  ·next C n r hC =>
   split at hs
   ·next ok =>
    cases hs
    have hcap:n.toInt≤(n.toNatClampNeg:Int):=by rw[gA ok.2.1];exact Int.le_refl _
    have wl:=hP.2.1 i C hC
    rcases ok.2.2.2 with rfl|rfl
    ·refine uK X hx hZ hown (ty := .int) (C := "[I") (by decide) wl hA.2.2.2.1 eT ok.2.1 (cap:=n.toNatClampNeg) hcap (by simp only[Int32.toNatClampNeg];omega) _ hd rfl hc hl (ad := "[[I") (by decide) ?_
     intro T' h' k a g X' e' E V Ea O
     refine go T' h' a k r g X' e' E ok.1 ?_ rfl
     show HdF Z h' a k _ D W (67,n.toNatClampNeg,List.replicate (ie n.toNatClampNeg) .null)
     unfold HdF
     rw[if_neg (show ¬(67:Nat)<64 by decide)]
     refine⟨Ea,?_,fun _=>O,fun q=>absurd q (show ¬(67:Nat)=68 by decide)⟩
     show Arv Z h' a k (.array .int) (Int32.ofNat n.toNatClampNeg) ((List.replicate (ie n.toNatClampNeg) Value.null).map (den _ D W)) .null
     rw[l4 ok.2.1,List.map_replicate]
     exact V.pad (pad_rep [] _ _)
    ·refine uK X hx hZ hown (ty := .double) (C := "[D") (by decide) wl hA.2.2.2.2 eT ok.2.1 (cap:=n.toNatClampNeg) hcap (by simp only[Int32.toNatClampNeg];omega) _ hd rfl hc hl (ad := "[[D") (by decide) ?_
     intro T' h' k a g X' e' E V Ea O
     refine go T' h' a k r g X' e' E ok.1 ?_ rfl
     show HdF Z h' a k _ D W (68,n.toNatClampNeg,List.replicate (ie n.toNatClampNeg) .null)
     unfold HdF
     rw[if_neg (show ¬(68:Nat)<64 by decide)]
     refine⟨Ea,?_,fun q=>absurd q (show ¬(68:Nat)=67 by decide),fun _=>O⟩
     show Arv Z h' a k (.array .double) (Int32.ofNat n.toNatClampNeg) ((List.replicate (ie n.toNatClampNeg) Value.null).map (den _ D W)) .null
     rw[l4 ok.2.1,List.map_replicate]
     exact V.pad (pad_rep [] _ _)
   ·cases hs
  ·cases hs
 ·cases hs
end OwnExecN
section OwnExecC
open Jvm.Free.Fl (NoNaN64)
variable {p:Program}{l:Launch}{e:Env}{R:Room}{s:State}{m:MethodId}{args:Array Value}{below:List Frame}{meth:Method}{c:Code}{T:State}{locs:List Loc}{cells slots:Nat}{Z:State}{a0:Array Value}{h h':Heap}{Ev:State→Outcome→Prop}
abbrev Op:=Nat×Nat×Nat×Int32
def aa (cd:Nat)(x y:Int32):Int32:=if cd=20 then x+y else if cd=21 then x-y else if cd=22 then x*y else if cd=23 then x&&&y else if cd=24 then x<<<(y&&&31) else if cd=25 then x>>>(y&&&31) else (x.toUInt32>>>(y&&&31).toUInt32).toInt32
def mr (cd:Nat)(x y:UInt64):UInt64 :=
 if cd=0 then FP.dadd x y else if cd=1 then FP.dsub x y else if cd=2 then FP.dmul x y else if cd=3 then FP.ddiv x y else if cd=4 then x&&&0x7fffffffffffffff else if cd=5 then Jvm.Native.java_lang_Math.nans.pick64 true x y else if cd=6 then FP.dneg x else if cd=7 then FP.i2d (iW x) else ab (aa cd (iW x) (iW y))
def vc1 (o:Op)(D:Nat→UInt64):Prop :=
 if o.1≤3 then NoNaN64 (mr o.1 (dX D o.2.1) (dX D o.2.2.1))
 else if o.1=4 then NoNaN64 (dX D o.2.1)
 else if o.1=5 then NoNaN64 (dX D o.2.1)∧NoNaN64 (dX D o.2.2.1)
 else if o.1≤7 then True
 else if o.1=10 then cmpValue (FP.dcmp (dX D o.2.1) (dX D o.2.2.1)) .l=o.2.2.2
 else if o.1=11 then cmpValue (FP.dcmp (dX D o.2.1) (dX D o.2.2.1)) .g=o.2.2.2
 else if o.1=12 then (if o.2.2.2=0 then (cmpValue (FP.dcmp (dX D o.2.1) (dX D o.2.2.1)) .l).toInt=0 else (cmpValue (FP.dcmp (dX D o.2.1) (dX D o.2.2.1)) .l).toInt≠0)
 else if o.1=13 then (if o.2.2.2=0 then (iW (dX D o.2.1)).toInt=0 else (iW (dX D o.2.1)).toInt≠0)
 else if o.1=15 then (if o.2.2.2=0 then (iW (dX D o.2.2.1)).toInt<(iW (dX D o.2.1)).toInt else (iW (dX D o.2.1)).toInt≤(iW (dX D o.2.2.1)).toInt)
 else True
def nxD (o:Op)(n:Nat)(D:Nat→UInt64):Nat→UInt64:=if o.1≤7∨20≤o.1 then (fun i=>if i=n then mr o.1 (dX D o.2.1) (dX D o.2.2.1) else D i) else D
def nxN (o:Op)(n:Nat):Nat:=if o.1≤7∨20≤o.1 then n+1 else n
def okv:List Op→Nat→(Nat→UInt64)→Prop
 | [],_,_=>True
 | o::t,n,D=>vc1 o D∧okv t (nxN o n) (nxD o n D)
def ca:List Op→Nat→(Nat→UInt64)→Nat→UInt64
 | [],_,D=>D
 | o::t,n,D=>ca t (nxN o n) (nxD o n D)
def fG:List Op→Nat→Nat
 | [],n=>n
 | o::t,n=>fG t (nxN o n)
theorem pm:∀(a b:List Op)(n:Nat)(D:Nat→UInt64),okv (a++b) n D↔okv a n D∧okv b (fG a n) (ca a n D)
 | [],b,n,D=>by simp [okv,fG,ca]
 | o::t,b,n,D=>by
  show vc1 o D∧okv (t++b) (nxN o n) (nxD o n D)↔(vc1 o D∧okv t (nxN o n) (nxD o n D))∧okv b (fG t (nxN o n)) (ca t (nxN o n) (nxD o n D))
  rw[pm t b]
  constructor
  ·rintro ⟨h1,h2,h3⟩;exact⟨⟨h1,h2⟩,h3⟩
  ·rintro ⟨⟨h1,h2⟩,h3⟩;exact⟨h1,h2,h3⟩
theorem mt:∀(a b:List Op)(n:Nat)(D:Nat→UInt64),ca (a++b) n D=ca b (fG a n) (ca a n D)
 | [],_,_,_=>rfl
 | o::t,b,n,D=>mt t b (nxN o n) (nxD o n D)
theorem mu (o:Op)(n:Nat):n≤nxN o n:=by unfold nxN;split<;>omega
theorem jn:∀(t:List Op)(n:Nat),n≤fG t n
 | [],n=>Nat.le_refl n
 | o::t,n=>Nat.le_trans (mu o n) (jn t (nxN o n))
theorem pn (o:Op)(n:Nat)(D:Nat→UInt64){i:Nat}(h:i<n):nxD o n D i=D i:=by
 unfold nxD
 split
 ·exact if_neg (by omega)
 ·rfl
theorem fj:∀(t:List Op)(n:Nat)(D:Nat→UInt64){i:Nat},i<n→ca t n D i=D i
 | [],_,_,_,_=>rfl
 | o::t,n,D,i,h=>(fj t (nxN o n) (nxD o n D) (Nat.lt_of_lt_of_le h (mu o n))).trans (pn o n D h)
def pA (π:List Nat)(n nc i:Nat):Nat:=if i<nc then π.getD i 0 else n+(i-nc)
def pD (δ:List Nat)(n nc j:Nat):Nat:=if j<4096 then (if j<nc then δ.getD j 0 else n+(j-nc)) else j
def sb (π δ:List Nat) (ω:List Value)(n nc nD mD:Nat):Value→Value
 | .ref i => .ref (pA π n nc i)
 | .double j => .double (UInt64.ofNat (pD δ nD mD j.toNat))
 | .retAddr k=>ω.getD k .null
 | .int x => .int x
 | .long x => .long x
 | .float j=>if pD δ nD mD j.toNat<4096 then .float (UInt32.ofNat (pD δ nD mD j.toNat)) else .int (iW (UInt64.ofNat (pD δ nD mD j.toNat)))
 | .null => .null
def sbO (δ:List Nat)(nD mD:Nat)(o:Op):Op:=(o.1,pD δ nD mD o.2.1,pD δ nD mD o.2.2.1,o.2.2.2)
def sbD (π δ:List Nat) (ω:List Value)(n nc nD mD:Nat)(d:AD):AD:=(d.1,d.2.1,d.2.2.map (sb π δ ω n nc nD mD))
theorem IV {D:Nat→UInt64}{x:Nat}(h:x<18446744073709551616):dX D (UInt64.ofNat x).toNat=dX D x:=by
 rw[UInt64.toNat_ofNat_of_lt' (by show x<18446744073709551616;exact h)]
def mv:Value→Option Nat
 | .float k=>some k.toNat
 | .int n=>some (n.toUInt32.toNat+1099511627776)
 | _=>none
theorem l5 {A:Nat→Addr}{D:Nat→UInt64}{W:Nat→Value}{v:Value}{i:Nat}(h:mv v=some i):den A D W v = .int (iW (dX D i)):=by
 cases v with
 | float k=>cases h;rfl
 | int n =>
  cases h
  have e1:dX D (n.toUInt32.toNat+1099511627776)=UInt64.ofNat (n.toUInt32.toNat+1099511627776):=if_neg (by omega)
  have e2:UInt32.ofNat (n.toUInt32.toNat+1099511627776)=n.toUInt32:=by
   rw[UInt32.ofNat_add,UInt32.ofNat_toNat,show UInt32.ofNat 1099511627776=0 from rfl,UInt32.add_zero]
  unfold iW
  rw[e1,UInt64.toUInt32_ofNat',e2]
  rfl
 | _=>cases h
def NE:Instr→Option Nat
 | .iadd=>some 20 | .isub=>some 21 | .imul=>some 22 | .iand=>some 23 | .ishl=>some 24 | .ishr=>some 25 | .iushr=>some 26
 | _=>none
def NF (code:ByteArray)(nD:Nat)(ds:List AD)(orc:List Int32)(pc:Nat)(L:Array Slot)(st:List Value):Option (Nat×List Value×Op×List Int32) :=
 match decode code pc with
 | .ok (.dadd,1)=>match st with
  | .double y :: .double x::r=>if fo ds.length nD L r ds=true∧nD<4096 then some (pc+1,.double (UInt64.ofNat nD)::r,(0,x.toNat,y.toNat,0),orc) else none
  | _=>none
 | .ok (.dsub,1)=>match st with
  | .double y :: .double x::r=>if fo ds.length nD L r ds=true∧nD<4096 then some (pc+1,.double (UInt64.ofNat nD)::r,(1,x.toNat,y.toNat,0),orc) else none
  | _=>none
 | .ok (.dmul,1)=>match st with
  | .double y :: .double x::r=>if fo ds.length nD L r ds=true∧nD<4096 then some (pc+1,.double (UInt64.ofNat nD)::r,(2,x.toNat,y.toNat,0),orc) else none
  | _=>none
 | .ok (.ddiv,1)=>match st with
  | .double y :: .double x::r=>if fo ds.length nD L r ds=true∧nD<4096 then some (pc+1,.double (UInt64.ofNat nD)::r,(3,x.toNat,y.toNat,0),orc) else none
  | _=>none
 | .ok (.dneg,1)=>match st with
  | .double x::r=>if fo ds.length nD L r ds=true∧nD<4096 then some (pc+1,.double (UInt64.ofNat nD)::r,(6,x.toNat,0,0),orc) else none
  | _=>none
 | .ok (.dcmp .g,1)=>match st,orc with
  | .double y :: .double x::r,z::oc=>some (pc+1,.int z::r,(11,x.toNat,y.toNat,z),oc)
  | _,_=>none
 | .ok (.dcmp .l,1)=>match decode code (pc+1) with
  | .ok (.ifCond .eq o,3)=>match st,orc with
   | .double y :: .double x::r,z::oc=>if 0≤((pc+1:Nat):Int)+o then some (if z=0 then (((pc+1:Nat):Int)+o).toNat else pc+4,r,(12,x.toNat,y.toNat,z),oc) else none
   | _,_=>none
  | .ok (.ifCond .ne o,3)=>match st,orc with
   | .double y :: .double x::r,z::oc=>if 0≤((pc+1:Nat):Int)+o then some (if z=0 then pc+4 else (((pc+1:Nat):Int)+o).toNat,r,(12,x.toNat,y.toNat,z),oc) else none
   | _,_=>none
  | _=>match st,orc with
   | .double y :: .double x::r,z::oc=>some (pc+1,.int z::r,(10,x.toNat,y.toNat,z),oc)
   | _,_=>none
 | .ok (.i2d,1)=>match st with
  | .float x::r=>if fo ds.length nD L r ds=true∧nD<4096 then some (pc+1,.double (UInt64.ofNat nD)::r,(7,x.toNat,0,0),orc) else none
  | _=>none
 | .ok (.ifCond .eq o,3)=>match st,orc with
  | .float x::r,z::oc=>if 0≤(pc:Int)+o then some (if z=0 then ((pc:Int)+o).toNat else pc+3,r,(13,x.toNat,0,z),oc) else none
  | _,_=>none
 | .ok (.ifCond .ne o,3)=>match st,orc with
  | .float x::r,z::oc=>if 0≤(pc:Int)+o then some (if z=0 then pc+3 else ((pc:Int)+o).toNat,r,(13,x.toNat,0,z),oc) else none
  | _,_=>none
 | .ok (.if_icmp .gt o,3)=>match st,orc with
  | y::x::r,z::oc=>match mv y,mv x with
   | some j,some i=>if 0≤(pc:Int)+o then some (if z=0 then ((pc:Int)+o).toNat else pc+3,r,(15,i,j,z),oc) else none
   | _,_=>none
  | _,_=>none
 | .ok (op,1)=>match NE op,st with
  | some cd,y::x::r=>match mv y,mv x with
   | some j,some i=>if fo ds.length nD L r ds=true∧nD<4096 then some (pc+1,.float (UInt32.ofNat nD)::r,(cd,i,j,0),orc) else none
   | _,_=>none
  | _,_=>none
 | _=>none
theorem mw {A:Nat→Addr}{D:Nat→UInt64}{W:Nat→Value}{nD:Nat}{x:UInt64}(h:nD<4096):den A (fun i=>if i=nD then x else D i) W (.double (UInt64.ofNat nD)) = .double x:=by
 simp only[den]
 rw[IV (by omega)]
 simp [dX,h]
theorem Sit.dbl {n0 nB nD:Nat}{hB:Heap}{A:Nat→Addr}{K:Nat→ClassId}{D D':Nat→UInt64}{W:Nat→Value}{ds:List AD}(S:Sit p l e R s m args below meth c Z n0 nB hB T A K D W ds cells slots)(hD:∀j,j<nD→D' j=D j)(hd:ds.all (okD ds.length nD)=true):Sit p l e R s m args below meth c Z n0 nB hB T A K D' W ds cells slots:=by
 obtain⟨h,locs,X,eT,Y,r⟩:=S
 exact⟨h,locs,X,eT,Y.env (fun _ _=>rfl) (fun _ _=>rfl) hD hd,r⟩
theorem H5 {A:Nat→Addr}{K:Nat→ClassId}{D:Nat→UInt64}{W:Nat→Value}{code:ByteArray}{n0 nB nD:Nat}{hB:Heap}{ds:List AD}{o:Op}{orc orc':List Int32}(hx:p.tables.exec=Jvm.exec)(hby:c.code=code)(S:Sit p l e R s m args below meth c Z n0 nB hB T A K D W ds cells slots){pc pc':Nat}{L:Array Slot}{st st':List Value}(hs:NF code nD ds orc pc L st=some (pc',st',o,orc'))(hv:vc1 o D)
  (K_:Sit p l e R s m args below meth c Z n0 nB hB T A K (nxD o nD D) W ds cells slots→Go p e below Ev T (mkF m pc' (L.map (aZ A (nxD o nD D) W)) (st'.map (den A (nxD o nD D) W)))):Go p e below Ev T (mkF m pc (L.map (aZ A D W)) (st.map (den A D W))):=by
 subst hby
 have S0:=S
 obtain⟨h,locs,X,eT,Y,-⟩:=S
 have fin:∀(x:UInt64) (r:List Value) (q:Nat),fo ds.length nD L r ds=true→nD<4096→(∀i,nxD o nD D i=if i=nD then x else D i)→pc'=q→st' = .double (UInt64.ofNat nD)::r→Go p e below Ev T (mkF m q (L.map (aZ A D W)) (.double x::r.map (den A D W))):=by
  intro x r q ok hn hx1 e1 e2
  subst e1 e2
  have hD:∀j,j<nD→nxD o nD D j=D j:=fun j hj=>pn o nD D hj
  simp only[fo,Bool.and_eq_true] at ok
  have G:=K_ (S0.dbl hD ok.2.2)
  rw[gV (nA:=ds.length) (fun _ _=>rfl) hD ok.1,List.map_cons,eG (nA:=ds.length) (fun _ _=>rfl) hD ok.2.1] at G
  have hf:nxD o nD D=fun i=>if i=nD then x else D i:=funext hx1
  rw[hf,mw hn] at G
  exact G
 unfold NF at hs
 split at hs
 ·next hd =>
  split at hs
  ·next y x r =>
   split at hs
   ·next ok=>cases hs;exact Nt X hx _ hd rfl hv (fin _ r _ ok.1 ok.2 (fun i=>rfl) rfl rfl)
   ·cases hs
  ·cases hs
 ·next hd =>
  split at hs
  ·next y x r =>
   split at hs
   ·next ok=>cases hs;exact Nu X hx _ hd rfl hv (fin _ r _ ok.1 ok.2 (fun i=>rfl) rfl rfl)
   ·cases hs
  ·cases hs
 ·next hd =>
  split at hs
  ·next y x r =>
   split at hs
   ·next ok=>cases hs;exact Nv X hx _ hd rfl hv (fin _ r _ ok.1 ok.2 (fun i=>rfl) rfl rfl)
   ·cases hs
  ·cases hs
 ·next hd =>
  split at hs
  ·next y x r =>
   split at hs
   ·next ok=>cases hs;exact Nw X hx _ hd rfl hv (fin _ r _ ok.1 ok.2 (fun i=>rfl) rfl rfl)
   ·cases hs
  ·cases hs
 ·next hd =>
  split at hs
  ·next x r =>
   split at hs
   ·next ok=>cases hs;exact Ns X hx _ hd rfl (fin _ r _ ok.1 ok.2 (fun i=>rfl) rfl rfl)
   ·cases hs
  ·cases hs
 ·next hd =>
  split at hs
  ·next y x r z oc=>cases hs;exact o9 X hx _ hd rfl hv (K_ S0)
  ·cases hs
 ·next hd =>
  split at hs
  ·next o' hd2 =>
   split at hs
   ·next y x r z oc =>
    split at hs
    ·next ho =>
     cases hs
     have hv':if z=0 then (cmpValue (FP.dcmp (dX D x.toNat) (dX D y.toNat)) .l).toInt=0 else (cmpValue (FP.dcmp (dX D x.toNat) (dX D y.toNat)) .l).toInt≠0:=hv
     refine o9 X hx _ hd rfl rfl (jj X hx _ _ hd2 ho rfl rfl (fun q=>?_) (fun q=>?_))
     ·by_cases hz:z=0
      ·have G:=K_ S0;rw[if_pos hz] at G;exact G
      ·rw[if_neg hz] at hv';exact absurd q hv'
     ·by_cases hz:z=0
      ·rw[if_pos hz] at hv';exact absurd hv' q
      ·have G:=K_ S0;rw[if_neg hz] at G;exact G
    ·cases hs
   ·cases hs
  ·next o' hd2 =>
   split at hs
   ·next y x r z oc =>
    split at hs
    ·next ho =>
     cases hs
     have hv':if z=0 then (cmpValue (FP.dcmp (dX D x.toNat) (dX D y.toNat)) .l).toInt=0 else (cmpValue (FP.dcmp (dX D x.toNat) (dX D y.toNat)) .l).toInt≠0:=hv
     refine o9 X hx _ hd rfl rfl (jk X hx _ _ hd2 ho rfl rfl (fun q=>?_) (fun q=>?_))
     ·by_cases hz:z=0
      ·rw[if_pos hz] at hv';exact absurd hv' q
      ·have G:=K_ S0;rw[if_neg hz] at G;exact G
     ·by_cases hz:z=0
      ·have G:=K_ S0;rw[if_pos hz] at G;exact G
      ·rw[if_neg hz] at hv';exact absurd q hv'
    ·cases hs
   ·cases hs
  ·split at hs
   ·next y x r z oc=>cases hs;exact o9 X hx _ hd rfl hv (K_ S0)
   ·cases hs
 ·next hd =>
  split at hs
  ·next x r =>
   split at hs
   ·next ok=>cases hs;exact Pb X hx _ hd rfl (fin _ r _ ok.1 ok.2 (fun i=>rfl) rfl rfl)
   ·cases hs
  ·cases hs
 ·next o' hd =>
  split at hs
  ·next x r z oc =>
   split at hs
   ·next ho =>
    cases hs
    have hv':if z=0 then (iW (dX D x.toNat)).toInt=0 else (iW (dX D x.toNat)).toInt≠0:=hv
    refine jj X hx _ _ hd ho rfl rfl (fun q=>?_) (fun q=>?_)
    ·by_cases hz:z=0
     ·have G:=K_ S0;rw[if_pos hz] at G;exact G
     ·rw[if_neg hz] at hv';exact absurd q hv'
    ·by_cases hz:z=0
     ·rw[if_pos hz] at hv';exact absurd hv' q
     ·have G:=K_ S0;rw[if_neg hz] at G;exact G
   ·cases hs
  ·cases hs
 ·next o' hd =>
  split at hs
  ·next x r z oc =>
   split at hs
   ·next ho =>
    cases hs
    have hv':if z=0 then (iW (dX D x.toNat)).toInt=0 else (iW (dX D x.toNat)).toInt≠0:=hv
    refine jk X hx _ _ hd ho rfl rfl (fun q=>?_) (fun q=>?_)
    ·by_cases hz:z=0
     ·rw[if_pos hz] at hv';exact absurd hv' q
     ·have G:=K_ S0;rw[if_neg hz] at G;exact G
    ·by_cases hz:z=0
     ·have G:=K_ S0;rw[if_pos hz] at G;exact G
     ·rw[if_neg hz] at hv';exact absurd q hv'
   ·cases hs
  ·cases hs
 ·next o' hd =>
  split at hs
  ·next y x r z oc =>
   split at hs
   ·next j i ej ei =>
    split at hs
    ·next ho =>
     cases hs
     have hv':if z=0 then (iW (dX D j)).toInt<(iW (dX D i)).toInt else (iW (dX D i)).toInt≤(iW (dX D j)).toInt:=hv
     rw[List.map_cons,List.map_cons,l5 ej,l5 ei]
     refine pg X hx _ _ hd ho rfl rfl (fun q=>?_) (fun q=>?_)
     ·by_cases hz:z=0
      ·have G:=K_ S0;rw[if_pos hz] at G;exact G
      ·rw[if_neg hz] at hv';exfalso;omega
     ·by_cases hz:z=0
      ·rw[if_pos hz] at hv';exfalso;omega
      ·have G:=K_ S0;rw[if_neg hz] at G;exact G
    ·cases hs
   ·cases hs
  ·cases hs
 ·next op h1 h2 h3 h4 h5 h6 h7 h8 hd =>
  split at hs
  ·next cd y x r eb =>
   split at hs
   ·next j i ej ei =>
    split at hs
    ·next ok =>
     cases hs
     have finI:∀(z:Int32),mr cd (dX D i) (dX D j)=ab z→(cd≤7∨20≤cd)→Go p e below Ev T (mkF m (pc+1) (L.map (aZ A D W)) (.int z::r.map (den A D W))):=by
      intro z ez hp
      have hD:∀j',j'<nD→nxD (cd,i,j,0) nD D j'=D j':=fun j' hj=>pn _ nD D hj
      have okk:=ok.1
      simp only[fo,Bool.and_eq_true] at okk
      have G:=K_ (S0.dbl hD okk.2.2)
      rw[gV (nA:=ds.length) (fun _ _=>rfl) hD okk.1,List.map_cons,eG (nA:=ds.length) (fun _ _=>rfl) hD okk.2.1] at G
      have hf:nxD (cd,i,j,0) nD D=fun i'=>if i'=nD then ab z else D i':=by
       unfold nxD
       rw[if_pos hp]
       dsimp only
       rw[ez]
      have e9:den A (nxD (cd,i,j,0) nD D) W (.float (UInt32.ofNat nD)) = .int z:=by
       rw[hf]
       simp only[den]
       rw[UInt32.toNat_ofNat_of_lt' (by show nD<4294967296;omega)]
       simp [dX,ok.2,be]
      rw[e9] at G
      exact G
     rw[List.map_cons,List.map_cons,l5 ej,l5 ei]
     cases op<;>first
      | (cases eb;exact zE X hx _ hd rfl (finI _ rfl (by decide)))
      | (cases eb;exact zF X hx _ hd rfl (finI _ rfl (by decide)))
      | (cases eb;exact zG X hx _ hd rfl (finI _ rfl (by decide)))
      | (cases eb;exact zH X hx _ hd rfl (finI _ rfl (by decide)))
      | (cases eb;exact zJ X hx _ hd rfl (finI _ rfl (by decide)))
      | (cases eb;exact zK X hx _ hd rfl (finI _ rfl (by decide)))
      | (cases eb;exact HD X hx _ hd rfl (finI _ rfl (by decide)))
      | cases eb
    ·cases hs
   ·cases hs
  ·cases hs
 ·cases hs
end OwnExecC
section OwnExecK
variable {p:Program}{l:Launch}{e:Env}{R:Room}{s:State}{m:MethodId}{args:Array Value}{below:List Frame}{meth:Method}{c:Code}{T:State}{locs:List Loc}{cells slots:Nat}{Z:State}{a0:Array Value}{h h':Heap}{Ev:State→Outcome→Prop}
abbrev Cn:=(Nat×List Value×List AD×Nat)×(Option Value×List AD×List Op)×(Nat×Nat×Nat×Nat)
def jb (r:Nat×Nat×Nat×Nat):Room:={ frames:=r.1,cells:=r.2.1,slots:=r.2.2.1,locals:=r.2.2.2 }
def QF (Z:State)(n0:Nat)(h0:Heap)(A:Nat→Addr)(K:Nat→ClassId)(D:Nat→UInt64)(W:Nat→Value)(cn:Cn)(v:Option Value)(h:Heap)(L:List Loc):Prop :=
 ∃(A':Nat→Addr) (K':Nat→ClassId),(∀i,i<cn.1.2.2.1.length→A' i=A i∧K' i=K i)∧(∀i,cn.1.2.2.1.length≤i→i<cn.2.1.2.1.length→h0.size≤A' i)∧v=cn.2.1.1.map (den A' (ca cn.2.1.2.2 cn.1.2.2.2 D) W)∧Fr n0 L∧Keep h0 h ((List.range cn.1.2.2.1.length).map A)∧YgF Z n0 h A' K' (ca cn.2.1.2.2 cn.1.2.2.2 D) W cn.2.1.2.1∧cn.1.2.2.1.length≤cn.2.1.2.1.length
def CtM (l:Launch)(Z:State)(cn:Cn)(as':Array Value)(h0:Heap)(Q:Option Value→Heap→List Loc→Prop):Prop :=
 MetFree l (cJ cn.1.1) (head1 [Jvm.Cond.code (cJ cn.1.1) (ak cn.1.1) (ib cn.1.1) (ph cn.1.1)] (jb cn.2.2)) (fun a U=>a=as'∧Z.Warmed39 U.vm∧U.heap=h0) (fun _ _ _ _ _=>True) (fun _ U o U'=>∃v L,o = .returned v∧Q v U'.heap L∧FrameEnd U o U' L (jb cn.2.2).cells (jb cn.2.2).slots)
def CtH (cn:Cn):Prop:=∀(l:Launch)(Z:State)(a0:Array Value),(∀d∈tables_1,d.before a0 Z=true)→∀(A:Nat→Addr)(K:Nat→ClassId)(D:Nat→UInt64)(W:Nat→Value)(h0:Heap)(n0:Nat),D 0=0→n0≤h0.size→YgF Z n0 h0 A K D W cn.1.2.2.1→okv cn.2.1.2.2 cn.1.2.2.2 D→CtM l Z cn (cn.1.2.1.map (den A D W)).toArray h0 (QF Z n0 h0 A K D W cn)
def NG (Z:State)(own:String)(op:Instr)(kd mn np rc:Nat):Prop :=
 ∀{p:Program} {l:Launch} {e:Env} {R:Room} {s:State} {m:MethodId} {args:Array Value} {below:List Frame} {meth:Method} {c:Code} {T:State} {locs:List Loc} {cells slots:Nat} {h:Heap} {Ev:State→Outcome→Prop} {rm:Room} {as':Array Value} {Q:Option Value→Heap→List Loc→Prop} {argsL rest:List Value} {b:Addr} {pc:Nat} {Ls:Array Slot},
  Stand p l e R s m args below meth c T locs cells slots→p.tables.exec=Jvm.exec→Z.Warmed39 s.vm→s.vm.findClass own=some m.cls →
  MetFree l (cJ mn) (head1 [Jvm.Cond.code (cJ mn) (ak mn) (ib mn) (ph mn)] rm) (fun a U=>a=as'∧Z.Warmed39 U.vm∧U.heap=h) (fun _ _ _ _ _=>True) (fun _ U o U'=>∃v L,o = .returned v∧Q v U'.heap L∧FrameEnd U o U' L rm.cells rm.slots) →
  T.heap=h→(kd=1→Exa Z h b (cI rc))→(if kd=0 then argsL.toArray else (.ref b::argsL).toArray)=as'→Ls.size=c.maxLocals→argsL.length=np→rm.frames+1≤R.frames→(rest.map fun v=>v.category).sum+(ib mn+11)+rm.locals≤R.locals→cells+rm.cells≤R.cells→slots+rm.slots≤R.slots→decode c.code pc = .ok (op,3) →
  (∀(v:Option Value) (T':State) (L:List Loc),Stand p l e R s m args below meth c T' (locs++L) (cells+rm.cells) (slots+rm.slots)→Q v T'.heap L→Go p e below Ev T' (mkF m (pc+3) Ls (v.toList++rest))) →
  Go p e below Ev T (mkF m pc Ls (argsL.reverse++(if kd=0 then rest else .ref b::rest)))
def fk (Z:State)(own:String)(cl:Instr→Option (Nat×Nat×Nat×Nat)):Prop:=∀op kd mn np rc,cl op=some (kd,mn,np,rc)→NG Z own op kd mn np rc
def okO:List Op→Nat→Bool
 | [],_=>true
 | o::t,n=>(decide (o.2.1<n)||decide (4096≤o.2.1))&&((decide (o.2.2.1<n)||decide (4096≤o.2.2.1))&&okO t (nxN o n))
def okC (nA nD:Nat)(v:Value):Bool:=okV nA nD v
def okE (nA nD:Nat)(d:AD):Bool:=d.2.2.all (okC nA nD)
abbrev Sc:=Cn×List Nat×List Nat×List Value
def f5 (ds:List AD) (π:List Nat)(xs:List AD):List AD:=ds.zipIdx.map fun x=>match π.findIdx? (·==x.2) with
 | some i=>xs.getD i x.1
 | none=>x.1
def NH (kd rc:Nat)(ds:List AD)(v:Option Value):Bool :=
 match v with
 | some (.ref b)=>(kd != 1)||(decide (rc<64)&&(match ds[b]? with|some d=>d.1==rc|none=>false))
 | _=>false
theorem NI {kd rc:Nat}{ds:List AD}{v:Option Value}(h:NH kd rc ds v=true):∃b,v=some (.ref b)∧(kd=1→rc<64∧∃d,ds[b]? = some d∧d.1=rc):=by
 unfold NH at h
 split at h
 ·next b =>
  refine⟨b,rfl,fun q=>?_⟩
  subst q
  simp only[bne_self_eq_false,Bool.false_or,Bool.and_eq_true,decide_eq_true_eq] at h
  refine⟨h.1,?_⟩
  have h2:=h.2
  split at h2
  ·next d e=>exact⟨d,e,by simpa using h2⟩
  ·cases h2
 ·cases h
def ql (kd np:Nat)(st:List Value):List Value:=if kd=0 then st.drop np else (st.drop np).drop 1
def tg (kd np:Nat)(st:List Value):List Value:=if kd=0 then (st.take np).reverse else (match (st.drop np)[0]? with|some v=>v::(st.take np).reverse|none=>[])
def Aq (code:ByteArray)(cl:Instr→Option (Nat×Nat×Nat×Nat))(ml:Nat)(RR:Nat×Nat×Nat×Nat)(nD cells slots:Nat)(ds:List AD)(E:Sc)(pc:Nat)(L:Array Slot)(st:List Value):Option (Nat×List Value×List AD×List Op) :=
 match decode code pc with
 | .ok (op,3)=>match cl op with
  | some (kd,mn,np,rc) =>
   let cn:=E.1;let π:=E.2.1;let δ:=E.2.2.1;let ω:=E.2.2.2
   let nc:=cn.1.2.2.1.length;let mD:=cn.1.2.2.2;let n:=ds.length;let nc':=cn.2.1.2.1.length;let mD':=fG cn.2.1.2.2 mD
   let f:=sb π δ ω n nc nD mD;let rest:=ql kd np st
   let al:=tg kd np st
   if (mn=cn.1.1∧kd≤2∧np≤st.length∧(kd=0∨NH kd rc ds (st.drop np)[0]? = true)) then
   if (cn.1.2.1.map f=al∧L.size=ml∧cn.2.2.1+1≤RR.1∧(rest.map fun v=>v.category).sum+(ib mn+11)+cn.2.2.2.2.2≤RR.2.2.2∧cells+cn.2.2.2.1≤RR.2.1∧slots+cn.2.2.2.2.1≤RR.2.2.1) then
   if (π.length=nc∧π.all (fun i=>decide (i<n))=true∧π.Nodup∧(List.range nc).all (fun i=>decide (ds[π.getD i 0]? = (cn.1.2.2.1[i]?).map (sbD π δ ω n nc nD mD)))=true∧δ.length=mD∧δ[0]? = some 0∧δ.all (fun j=>decide (j<nD)||(decide (4096≤j)&&decide (j<18446744073709551616)))=true) then
   if (fo n nD L rest ds=true∧rest.all kn=true∧ω.all (okV n nD)=true∧0<nD∧nD+(mD'-mD)≤4096∧mD'≤4096∧nc≤nc'∧cn.1.2.2.1.all (okE nc mD)=true∧cn.1.2.1.all (okC nc mD)=true∧cn.2.1.2.1.all (okE nc' mD')=true∧(cn.2.1.1.toList).all (okC nc' mD')=true∧okO cn.2.1.2.2 mD=true) then
    some (pc+3,(cn.2.1.1.map f).toList++rest,f5 ds π (cn.2.1.2.1.map (sbD π δ ω n nc nD mD))++(cn.2.1.2.1.drop nc).map (sbD π δ ω n nc nD mD),cn.2.1.2.2.map (sbO δ nD mD))
   else none else none else none else none
  | none=>none
 | _=>none
theorem HdF.congr {A A':Nat→Addr}{D D':Nat→UInt64}{W W':Nat→Value}{a:Addr}{k:ClassId}{d d':AD}(h1:d'.1=d.1)(h2:d'.2.1=d.2.1)(hv:d'.2.2.map (den A' D' W')=d.2.2.map (den A D W))(H:HdF Z h a k A D W d):HdF Z h a k A' D' W' d':=by
 unfold HdF at H ⊢
 rw[h1,h2,hv]
 split at H
 ·rename_i q
  rw[if_pos q]
  refine⟨H.1,fun j v f hj hf=>?_⟩
  have e1:(d'.2.2.map (den A' D' W'))[j]? = some (den A' D' W' v):=by rw[List.getElem?_map,hj];rfl
  rw[hv,List.getElem?_map] at e1
  cases e2:d.2.2[j]? with
  | none=>rw[e2] at e1;cases e1
  | some u =>
   rw[e2] at e1
   have e3:den A D W u=den A' D' W' v:=Option.some.inj e1
   rw[←e3]
   exact H.2 j u f e2 hf
 ·rename_i q
  rw[if_neg q]
  exact H
section
variable {δ:List Nat}{nD mD:Nat}
theorem my {D Dc:Nat→UInt64}{mc i:Nat}(hr:∀j,j<mc→Dc j=dX D (pD δ nD mD j))(hm:mc≤4096)(hi:i<mc∨4096≤i):dX Dc i=dX D (pD δ nD mD i):=by
 rcases hi with q|q
 ·rw[←hr i q];exact if_pos (by omega)
 ·have e1:pD δ nD mD i=i:=if_neg (by omega)
  rw[e1]
  unfold dX
  rw[if_neg (by omega),if_neg (by omega)]
theorem Pg {D Dc:Nat→UInt64}{mc:Nat}{o:Op}(hr:∀j,j<mc→Dc j=dX D (pD δ nD mD j))(hm:mc≤4096)(h1:o.2.1<mc∨4096≤o.2.1)(h2:o.2.2.1<mc∨4096≤o.2.2.1)(h:vc1 (sbO δ nD mD o) D):vc1 o Dc:=by
 unfold vc1 sbO at *
 rw[my hr hm h1,my hr hm h2]
 exact h
theorem NJ {D Dc:Nat→UInt64}{mc:Nat}{o:Op}(hδ:∀j,j<mD→δ.getD j 0<nD∨4096≤δ.getD j 0)(hr:∀j,j<mc→Dc j=dX D (pD δ nD mD j))(hm:mD≤mc)(h0:nxN o mc≤4096)(h0':nD+(nxN o mc-mD)≤4096)(h1:o.2.1<mc∨4096≤o.2.1)(h2:o.2.2.1<mc∨4096≤o.2.2.1):∀j,j<nxN o mc→nxD o mc Dc j=dX (nxD (sbO δ nD mD o) (nD+(mc-mD)) D) (pD δ nD mD j):=by
 intro j hj
 have hle:=mu o mc
 unfold nxD
 have es:(sbO δ nD mD o).1=o.1:=rfl
 rw[es]
 by_cases q:o.1≤7∨20≤o.1
 ·rw[if_pos q,if_pos q]
  have eN:nxN o mc=mc+1:=if_pos q
  by_cases qj:j=mc
  ·subst qj
   have ep:pD δ nD mD j=nD+(j-mD):=by unfold pD;rw[if_pos (by omega),if_neg (by omega)]
   have e2:∀V:UInt64,dX (fun i=>if i=nD+(j-mD) then V else D i) (nD+(j-mD))=V:=fun V=>by
    unfold dX
    rw[if_pos (by omega)]
    exact if_pos rfl
   rw[ep,e2,if_pos rfl]
   show mr o.1 (dX Dc o.2.1) (dX Dc o.2.2.1)=mr o.1 (dX D (pD δ nD mD o.2.1)) (dX D (pD δ nD mD o.2.2.1))
   rw[my hr (by omega) h1,my hr (by omega) h2]
  ·rw[if_neg qj,hr j (by omega)]
   have ep:pD δ nD mD j<nD+(mc-mD)∨4096≤pD δ nD mD j:=by
    unfold pD
    rw[if_pos (by omega)]
    split
    ·rename_i q2
     rcases hδ j q2 with y|y
     ·left;omega
     ·right;exact y
    ·left;omega
   have e3:∀(V:UInt64) (x:Nat),(x<nD+(mc-mD)∨4096≤x)→dX (fun i=>if i=nD+(mc-mD) then V else D i) x=dX D x:=fun V x hx=>by
    unfold dX
    split
    ·rcases hx with y|y
     ·exact if_neg (by omega)
     ·omega
    ·rfl
   rw[e3 _ _ ep]
 ·rw[if_neg q,if_neg q]
  have eN:nxN o mc=mc:=if_neg q
  exact hr j (by omega)
theorem Ar (hδ:∀j,j<mD→δ.getD j 0<nD∨4096≤δ.getD j 0):∀(t:List Op)(mc:Nat)(Dc D:Nat→UInt64),mD≤mc→fG t mc≤4096→nD+(fG t mc-mD)≤4096→okO t mc=true→(∀j,j<mc→Dc j=dX D (pD δ nD mD j))→okv (t.map (sbO δ nD mD)) (nD+(mc-mD)) D →
  okv t mc Dc∧(∀j,j<fG t mc→ca t mc Dc j=dX (ca (t.map (sbO δ nD mD)) (nD+(mc-mD)) D) (pD δ nD mD j))∧fG (t.map (sbO δ nD mD)) (nD+(mc-mD))=nD+(fG t mc-mD)
 | [],mc,Dc,D,hm,h1,h2,ho,hr,hv=>⟨trivial,hr,rfl⟩
 | o::t,mc,Dc,D,hm,h1,h2,ho,hr,hv=>by
  simp only[okO,Bool.and_eq_true,Bool.or_eq_true,decide_eq_true_eq] at ho
  have hf:fG (o::t) mc=fG t (nxN o mc):=rfl
  rw[hf] at h1 h2
  have hle:=jn t (nxN o mc)
  have hl2:=mu o mc
  have eN:nxN (sbO δ nD mD o) (nD+(mc-mD))=nD+(nxN o mc-mD):=by
   unfold nxN
   show (if o.1≤7∨20≤o.1 then _ else _)=_
   split<;>omega
  have hv2:vc1 (sbO δ nD mD o) D∧okv (t.map (sbO δ nD mD)) (nxN (sbO δ nD mD o) (nD+(mc-mD))) (nxD (sbO δ nD mD o) (nD+(mc-mD)) D):=hv
  rw[eN] at hv2
  obtain⟨i1,i2,i3⟩:=Ar hδ t (nxN o mc) (nxD o mc Dc) (nxD (sbO δ nD mD o) (nD+(mc-mD)) D) (by omega) h1 h2 ho.2.2 (NJ hδ hr hm (by omega) (by omega) ho.1 ho.2.1) hv2.2
  refine⟨⟨Pg hr (by omega) ho.1 ho.2.1 hv2.1,i1⟩,fun j hj=>?_,?_⟩
  ·show ca t (nxN o mc) (nxD o mc Dc) j=dX (ca (t.map (sbO δ nD mD)) (nxN (sbO δ nD mD o) (nD+(mc-mD))) (nxD (sbO δ nD mD o) (nD+(mc-mD)) D)) (pD δ nD mD j)
   rw[eN]
   exact i2 j hj
  ·show fG (t.map (sbO δ nD mD)) (nxN (sbO δ nD mD o) (nD+(mc-mD)))=_
   rw[eN]
   exact i3
end
theorem uM {A Ac:Nat→Addr}{D Dc:Nat→UInt64}{W Wc:Nat→Value} {π δ:List Nat} {ω:List Value}{n nc nD mD nA mX:Nat}(hA:∀i,i<nA→Ac i=A (pA π n nc i))(hD:∀j,j<mX→Dc j=dX D (pD δ nD mD j))(hmX:mX≤4096)(hW:∀k,Wc k=den A D W (ω.getD k .null))(hb:∀j,j<mX→pD δ nD mD j<18446744073709551616){v:Value}(hv0:okC nA mX v=true):den A D W (sb π δ ω n nc nD mD v)=den Ac Dc Wc v:=by
 have hv:okV nA mX v=true:=hv0
 cases v with
 | float j =>
  simp only[okV,Bool.or_eq_true,decide_eq_true_eq] at hv
  have q:j.toNat<mX∨4096≤j.toNat:=hv
  simp only[sb]
  split
  ·rename_i q2
   simp only[den]
   rw[UInt32.toNat_ofNat_of_lt' (by show pD δ nD mD j.toNat<4294967296;omega),my hD hmX q]
  ·rename_i q2
   simp only[den]
   rw[my hD hmX q,show dX D (pD δ nD mD j.toNat)=UInt64.ofNat (pD δ nD mD j.toNat) from if_neg q2]
 | ref i=>simp only[okV,decide_eq_true_eq] at hv;simp only[sb,den,hA i hv]
 | double j =>
  simp only[okV,Bool.or_eq_true,decide_eq_true_eq] at hv
  simp only[sb,den]
  have q:j.toNat<mX∨4096≤j.toNat:=hv
  have hb':pD δ nD mD j.toNat<18446744073709551616:=by
   rcases q with q|q
   ·exact hb _ q
   ·rw[show pD δ nD mD j.toNat=j.toNat from if_neg (by omega)]
    exact j.toNat_lt
  rw[IV hb',my hD hmX q]
 | retAddr k=>simp only[sb,den,hW]
 | _=>rfl
theorem f6 (ds:List AD) (π:List Nat)(xs:List AD):(f5 ds π xs).length=ds.length:=by simp [f5]
theorem Au (ds:List AD) (π:List Nat)(xs:List AD)(k:Nat):(f5 ds π xs)[k]? = (ds[k]?).map fun d=>match π.findIdx? (·==k) with
  | some i=>xs.getD i d
  | none=>d:=by
 unfold f5
 rw[List.getElem?_map,List.getElem?_zipIdx]
 cases ds[k]? with
 | none=>rfl
 | some d=>simp
theorem Av {π:List Nat}{k i:Nat}(h:π.findIdx? (·==k)=some i):i<π.length∧π.getD i 0=k:=by
 obtain⟨h1,h2,-⟩:=List.findIdx?_eq_some_iff_getElem.mp h
 refine⟨h1,?_⟩
 rw[List.getD_eq_getElem?_getD,List.getElem?_eq_getElem h1]
 simpa using h2
theorem x9 {π:List Nat}{k i:Nat}(h:π.findIdx? (·==k)=none)(hi:i<π.length):π.getD i 0≠k:=by
 have:=List.findIdx?_eq_none_iff.mp h (π[i]) (List.getElem_mem hi)
 rw[List.getD_eq_getElem?_getD,List.getElem?_eq_getElem hi]
 simpa using this
theorem cY {A:Nat→Addr}{D:Nat→UInt64}{W:Nat→Value}:∀(r:List Value),r.all kn=true→((r.map (den A D W)).map fun v=>v.category).sum=(r.map fun v=>v.category).sum
 | [],_=>rfl
 | v::r,h=>by
  simp only[List.all_cons,Bool.and_eq_true] at h
  simp only[List.map_cons,List.sum_cons,dp h.1,cY r h.2]
theorem H6 {A:Nat→Addr}{K:Nat→ClassId}{D:Nat→UInt64}{W:Nat→Value}{code:ByteArray}{own:String}{cl:Instr→Option (Nat×Nat×Nat×Nat)}{ml:Nat}{RR:Nat×Nat×Nat×Nat}{n0 nB nD:Nat}{hB:Heap}{ds ds':List AD}{E:Sc}{ops:List Op}(hw:HW a0 Z)(hx:p.tables.exec=Jvm.exec)(hby:c.code=code)(hml:c.maxLocals=ml)(hR:R=jb RR)(hZ:Z.Warmed39 s.vm)(hown:s.vm.findClass own=some m.cls)(hC:fk Z own cl)(hE:CtH E.1)(hD0:D 0=0)(S:Sit p l e R s m args below meth c Z n0 nB hB T A K D W ds cells slots){pc pc':Nat}{L:Array Slot}{st st':List Value}(hs:Aq code cl ml RR nD cells slots ds E pc L st=some (pc',st',ds',ops))(hv:okv ops nD D)
  (K_:∀T' A' K',(∀i,i<ds.length→A' i=A i∧K' i=K i)→Sit p l e R s m args below meth c Z n0 nB hB T' A' K' (ca ops nD D) W ds' (cells+E.1.2.2.2.1) (slots+E.1.2.2.2.2.1)→Go p e below Ev T' (mkF m pc' (L.map (aZ A' (ca ops nD D) W)) (st'.map (den A' (ca ops nD D) W)))):Go p e below Ev T (mkF m pc (L.map (aZ A D W)) (st.map (den A D W))):=by
 subst hby hR hml
 obtain⟨h,locs,X,eT,Y,Kp,hsz,N,hn,hnB⟩:=S
 obtain⟨⟨⟨mn',args',dsc,mD⟩,⟨res,dsc',ops'⟩,rm⟩,π,δ,ω⟩:=E
 unfold Aq at hs
 split at hs
 case h_2=>cases hs
 next op hd =>
 split at hs
 case h_2=>cases hs
 next kd mn np rc hcl =>
 dsimp only at hs
 split at hs
 case isFalse=>cases hs
 next c1 =>
 split at hs
 case isFalse=>cases hs
 next c2 =>
 split at hs
 case isFalse=>cases hs
 next c3 =>
 split at hs
 case isFalse=>cases hs
 next c4 =>
 cases hs
 obtain⟨rfl,hkd,hnp,hrec⟩:=c1
 obtain⟨hargs,hLs,hrf,hrl,hrc,hrs⟩:=c2
 obtain⟨hπl,hπn,hπd,hπm,hδl,hδ0,hδa⟩:=c3
 obtain⟨hok,hkn,hω,hnD,hnD',hmD',hnc,hwd,hwa,hwd',hwr,hwo⟩:=c4
 generalize hnn:ds.length=n at *
 generalize hcc:dsc.length=nc at *
 have hm0:0<mD:=by
  have:=(List.getElem?_eq_some_iff.mp hδ0).1
  omega
 have hmm:mD≤fG ops' mD:=jn ops' mD
 have hδ:∀j,j<mD→(δ.getD j 0<nD∨4096≤δ.getD j 0)∧δ.getD j 0<18446744073709551616:=fun j hj=>by
  have hl:j<δ.length:=by omega
  have:=List.all_eq_true.mp hδa _ (List.getElem_mem hl)
  rw[List.getD_eq_getElem?_getD,List.getElem?_eq_getElem hl]
  simp only[Bool.or_eq_true,Bool.and_eq_true,decide_eq_true_eq] at this
  show (δ[j]<nD∨4096≤δ[j])∧δ[j]<18446744073709551616
  omega
 have hπ:∀i,i<nc→π.getD i 0<n:=fun i hi=>by
  have hl:i<π.length:=by omega
  have:=List.all_eq_true.mp hπn _ (List.getElem_mem hl)
  rw[List.getD_eq_getElem?_getD,List.getElem?_eq_getElem hl]
  simpa using this
 have hpA:∀i,i<nc→pA π n nc i=π.getD i 0:=fun i hi=>if_pos hi
 have hpb:∀j,j<fG ops' mD→pD δ nD mD j<18446744073709551616:=fun j hj=>by
  unfold pD
  rw[if_pos (by omega)]
  split
  ·rename_i q;exact (hδ j q).2
  ·omega
 -- the callee's view
 have hD0c:(fun j=>dX D (pD δ nD mD j)) 0=0:=by
  show dX D (pD δ nD mD 0)=0
  have:pD δ nD mD 0=0:=by
   unfold pD
   rw[if_pos (by decide),if_pos hm0,List.getD_eq_getElem?_getD,hδ0]
   rfl
  rw[this]
  exact hD0
 have dsb:∀v,okC nc mD v=true→den A D W (sb π δ ω n nc nD mD v)=den (fun i=>A (pA π n nc i)) (fun j=>dX D (pD δ nD mD j)) (fun k=>den A D W (ω.getD k .null)) v:=fun v hv=>uM (nA:=nc) (mX:=mD) (fun _ _=>rfl) (fun _ _=>rfl) (by omega) (fun _=>rfl) (fun j hj=>hpb j (by omega)) hv
 have Yc:YgF Z n0 h (fun i=>A (pA π n nc i)) (fun i=>K (pA π n nc i)) (fun j=>dX D (pD δ nD mD j)) (fun k=>den A D W (ω.getD k .null)) dsc:=by
  refine⟨fun i d hi=>?_,fun i j hi hj q=>?_⟩
  ·have hl:i<nc:=by have:=(List.getElem?_eq_some_iff.mp hi).1;omega
   have e1:=List.all_eq_true.mp hπm i (List.mem_range.mpr hl)
   rw[decide_eq_true_eq,hi] at e1
   have y:=Y.1 _ _ e1
   dsimp only
   rw[hpA i hl]
   refine⟨y.1,HdF.congr (d:=sbD π δ ω n nc nD mD d) rfl rfl ?_ y.2⟩
   show d.2.2.map _=(d.2.2.map _).map _
   rw[List.map_map]
   exact List.map_congr_left fun v hv=>(dsb v (List.all_eq_true.mp (List.all_eq_true.mp hwd d (List.mem_of_getElem? hi)) v hv)).symm
  ·have hi':i<nc:=by omega
   have hj':j<nc:=by omega
   dsimp only at q
   rw[hpA i hi',hpA j hj'] at q
   have e1:=Y.2 _ _ (by rw[hnn];exact hπ i hi') (by rw[hnn];exact hπ j hj') q
   have li:i<π.length:=by omega
   have lj:j<π.length:=by omega
   rw[List.getD_eq_getElem?_getD,List.getElem?_eq_getElem li,List.getD_eq_getElem?_getD,List.getElem?_eq_getElem lj] at e1
   exact (List.getElem_inj hπd).mp e1
 obtain⟨ov1,ov2,ov3⟩:=Ar (δ:=δ) (nD:=nD) (mD:=mD) (fun j hj=>(hδ j hj).1) ops' mD (fun j=>dX D (pD δ nD mD j)) D (Nat.le_refl _) hmD' (by omega) hwo (fun _ _=>rfl) (by rw[Nat.sub_self,Nat.add_zero];exact hv)
 rw[Nat.sub_self,Nat.add_zero] at ov2 ov3
 have hM:=hE l Z a0 hw (fun i=>A (pA π n nc i)) (fun i=>K (pA π n nc i)) (fun j=>dX D (pD δ nD mD j)) (fun k=>den A D W (ω.getD k .null)) h n0 hD0c hn Yc ov1
 -- what comes behind the call
 have back:∀(rest:List Value),fo n nD L rest ds=true→∀(v:Option Value) (T':State) (L':List Loc),Stand p l e (jb RR) s m args below meth c T' (locs++L') (cells+(jb rm).cells) (slots+(jb rm).slots)→QF Z n0 h (fun i=>A (pA π n nc i)) (fun i=>K (pA π n nc i)) (fun j=>dX D (pD δ nD mD j)) (fun k=>den A D W (ω.getD k .null)) ((mn,args',dsc,mD),(res,dsc',ops'),rm) v T'.heap L' →
   (∀T' A' K',(∀i,i<n→A' i=A i∧K' i=K i)→Sit p l e (jb RR) s m args below meth c Z n0 nB hB T' A' K' (ca (ops'.map (sbO δ nD mD)) nD D) W (f5 ds π (dsc'.map (sbD π δ ω n nc nD mD))++(dsc'.drop nc).map (sbD π δ ω n nc nD mD)) (cells+rm.2.1) (slots+rm.2.2.1)→Go p e below Ev T' (mkF m (pc+3) (L.map (aZ A' (ca (ops'.map (sbO δ nD mD)) nD D) W)) (((res.map (sb π δ ω n nc nD mD)).toList++rest).map (den A' (ca (ops'.map (sbO δ nD mD)) nD D) W)))) →
   Go p e below Ev T' (mkF m (pc+3) (L.map (aZ A D W)) (v.toList++rest.map (den A D W))):=by
  intro rest hokr v T' L' X' Q' KK
  obtain⟨A1,K1,hAK,hfr,hvv,N',Kp',Y',hl'⟩:=Q'
  dsimp only at hAK hfr hvv Kp' Y' hl'
  rw[hcc] at hAK hfr Kp' hl'
  simp only[fo,Bool.and_eq_true] at hokr
  generalize hD2:ca (ops'.map (sbO δ nD mD)) nD D=D2 at *
  have hDlt:∀j,j<nD→D2 j=D j:=fun j hj=>by rw[←hD2];exact fj _ _ _ hj
  have hA2:∀i,i<n→(fun i=>if i<n then A i else A1 (nc+(i-n))) i=A i:=fun i hi=>if_pos hi
  have hr:∀i,i<dsc'.length→A1 i=(fun i=>if i<n then A i else A1 (nc+(i-n))) (pA π n nc i):=fun i hi=>by
   dsimp only
   unfold pA
   split
   ·rename_i q
    rw[if_pos (hπ i q),(hAK i q).1,hpA i q]
   ·rename_i q
    rw[if_neg (by omega),show nc+(n+(i-nc)-n)=i by omega]
  have hrK:∀i,i<dsc'.length→K1 i=(fun i=>if i<n then K i else K1 (nc+(i-n))) (pA π n nc i):=fun i hi=>by
   dsimp only
   unfold pA
   split
   ·rename_i q
    rw[if_pos (hπ i q),(hAK i q).2,hpA i q]
   ·rename_i q
    rw[if_neg (by omega),show nc+(n+(i-nc)-n)=i by omega]
  have hWe:∀k,den A D W (ω.getD k .null)=den (fun i=>if i<n then A i else A1 (nc+(i-n))) D2 W (ω.getD k .null):=fun k=>by
   by_cases q:k<ω.length
   ·refine (pk (nA:=n) (nD:=nD) hA2 hDlt ?_).symm
    rw[List.getD_eq_getElem?_getD,List.getElem?_eq_getElem q]
    exact List.all_eq_true.mp hω _ (List.getElem_mem q)
   ·rw[List.getD_eq_getElem?_getD,List.getElem?_eq_none (by omega)]
    rfl
  have dsb2:∀v,okC dsc'.length (fG ops' mD) v=true→den (fun i=>if i<n then A i else A1 (nc+(i-n))) D2 W (sb π δ ω n nc nD mD v)=den A1 (ca ops' mD (fun j=>dX D (pD δ nD mD j))) (fun k=>den A D W (ω.getD k .null)) v:=fun v hv=>uM (nA:=dsc'.length) (mX:=fG ops' mD) hr ov2 hmD' hWe hpb hv
  have hdc:∀(i:Nat) (d:AD),dsc'[i]? = some d→HdF Z T'.heap (A1 i) (K1 i) (fun i=>if i<n then A i else A1 (nc+(i-n))) D2 W (sbD π δ ω n nc nD mD d):=fun i d hi=>by
   refine HdF.congr (d:=d) rfl rfl ?_ (Y'.1 i d hi).2
   show (d.2.2.map _).map _=d.2.2.map _
   rw[List.map_map]
   exact List.map_congr_left fun v hv=>dsb2 v (List.all_eq_true.mp (List.all_eq_true.mp hwd' d (List.mem_of_getElem? hi)) v hv)
  have hlt1:∀i,i<n→A i<h.size:=fun i hi=>(Y.1 i _ (List.getElem?_eq_getElem (by omega))).2.lt
  have Y2:YgF Z n0 T'.heap (fun i=>if i<n then A i else A1 (nc+(i-n))) (fun i=>if i<n then K i else K1 (nc+(i-n))) D2 W (f5 ds π (dsc'.map (sbD π δ ω n nc nD mD))++(dsc'.drop nc).map (sbD π δ ω n nc nD mD)):=by
   refine⟨fun k d hk=>?_,fun i j hi hj q=>?_⟩
   ·by_cases q:k<n
    ·rw[List.getElem?_append_left (by rw[f6,hnn];exact q),Au] at hk
     have hkl:k<ds.length:=by omega
     rw[List.getElem?_eq_getElem hkl] at hk
     dsimp only[Option.map] at hk
     dsimp only
     rw[if_pos q,if_pos q]
     cases e1:π.findIdx? (·==k) with
     | some i =>
      obtain⟨hi,hik⟩:=Av e1
      rw[e1] at hk
      have hi':i<nc:=by omega
      have hi2:i<dsc'.length:=by omega
      simp only[List.getD_eq_getElem?_getD,List.getElem?_map,List.getElem?_eq_getElem hi2,Option.map_some,Option.getD_some,Option.some.injEq] at hk
      have H:=hdc i _ (List.getElem?_eq_getElem hi2)
      rw[(hAK i hi').1,(hAK i hi').2,hpA i hi',hik] at H
      subst hk
      exact⟨(Y.1 k _ (List.getElem?_eq_getElem hkl)).1,H⟩
     | none =>
      rw[e1] at hk
      simp only[Option.some.injEq] at hk
      subst hk
      have y:=Y.1 k _ (List.getElem?_eq_getElem hkl)
      refine⟨y.1,HdF.env (nA:=n) (nD:=nD) hA2 hDlt (List.all_eq_true.mp hokr.2.2 _ (List.getElem_mem hkl)) (y.2.keep Kp' fun z=>?_)⟩
      obtain⟨i,hi,ei⟩:=List.mem_map.mp z
      have hi':=List.mem_range.mp hi
      try dsimp only at ei
      rw[hpA i hi'] at ei
      exact x9 e1 (by omega) (Y.2 _ _ (by rw[hnn];exact hπ i hi') hkl ei)
    ·rw[List.getElem?_append_right (by rw[f6,hnn];omega),f6,hnn,List.getElem?_map,List.getElem?_drop] at hk
     dsimp only
     rw[if_neg q,if_neg q]
     cases e1:dsc'[nc+(k-n)]? with
     | none=>rw[e1] at hk;cases hk
     | some x =>
      rw[e1] at hk
      cases hk
      exact⟨(Y'.1 _ _ e1).1,hdc _ _ e1⟩
   ·rw[List.length_append,f6,hnn,List.length_map,List.length_drop] at hi hj
    dsimp only at q
    by_cases q1:i<n<;>by_cases q2:j<n
    ·rw[if_pos q1,if_pos q2] at q
     exact Y.2 i j (by omega) (by omega) q
    ·rw[if_pos q1,if_neg q2] at q
     exact absurd q (Nat.ne_of_lt (Nat.lt_of_lt_of_le (hlt1 i q1) (hfr (nc+(j-n)) (by omega) (by omega))))
    ·rw[if_neg q1,if_pos q2] at q
     exact absurd q (Nat.ne_of_gt (Nat.lt_of_lt_of_le (hlt1 j q2) (hfr (nc+(i-n)) (by omega) (by omega))))
    ·rw[if_neg q1,if_neg q2] at q
     have:=Y'.2 (nc+(i-n)) (nc+(j-n)) (by omega) (by omega) q
     omega
  have G:=KK T' (fun i=>if i<n then A i else A1 (nc+(i-n))) (fun i=>if i<n then K i else K1 (nc+(i-n))) (fun i hi=>⟨if_pos hi,if_pos hi⟩) ⟨T'.heap,locs++L',X',rfl,Y2,?_,?_,Fr.app N N',Nat.le_trans hn Kp'.1,by rw[List.length_append,f6];omega⟩
  ·rw[gV (nA:=n) (nD:=nD) hA2 hDlt hokr.1,List.map_append,eG (nA:=n) (nD:=nD) hA2 hDlt hokr.2.1] at G
   have e1:((res.map (sb π δ ω n nc nD mD)).toList).map (den (fun i=>if i<n then A i else A1 (nc+(i-n))) D2 W)=v.toList:=by
    rw[hvv]
    cases res with
    | none=>rfl
    | some r =>
     show [den _ D2 W (sb π δ ω n nc nD mD r)]=[_]
     rw[dsb2 r (List.all_eq_true.mp hwr r (by simp))]
   rw[e1] at G
   exact G
  ·have e1:(List.range nB).map (fun i=>if i<n then A i else A1 (nc+(i-n)))=(List.range nB).map A:=List.map_congr_left fun i hi=>if_pos (by have:=List.mem_range.mp hi;omega)
   rw[e1]
   refine Kp.trans Kp' fun x hx=>?_
   obtain⟨i,hi,rfl⟩:=List.mem_map.mp hx
   rw[show pA π n nc i=π.getD i 0 from hpA i (List.mem_range.mp hi)]
   exact ic (n:=n) hsz (hπ i (List.mem_range.mp hi))
  ·intro i hi hil
   rw[List.length_append,f6,hnn,List.length_map,List.length_drop] at hil
   dsimp only
   by_cases q:i<n
   ·rw[if_pos q];exact hsz i hi (by omega)
   ·rw[if_neg q];exact Nat.le_trans Kp.1 (hfr _ (by omega) (by omega))
 have hsz2:(L.map (aZ A D W)).size=c.maxLocals:=by rw[Array.size_map];exact hLs
 have hda:∀al:List Value,args'.map (sb π δ ω n nc nD mD)=al→(args'.map (den (fun i=>A (pA π n nc i)) (fun j=>dX D (pD δ nD mD j)) (fun k=>den A D W (ω.getD k .null)))).toArray=(al.map (den A D W)).toArray:=by
  intro al e1
  rw[←e1,List.map_map]
  exact congrArg List.toArray (List.map_congr_left fun v hv=>(dsb v (List.all_eq_true.mp hwa v hv)).symm)
 have htk:(st.take np).length=np:=by rw[List.length_take];omega
 by_cases hk0:kd=0
 ·subst hk0
  simp only[if_true] at hargs hrl hok hkn K_
  have G:=hC op 0 mn np rc hcl X hx hZ hown (argsL:=((st.take np).reverse).map (den A D W)) (rest:=(st.drop np).map (den A D W)) (b:=0) hM eT (fun q=>absurd q (by decide)) (by rw[hda _ hargs];rfl) hsz2 (by rw[List.length_map,List.length_reverse,htk]) hrf (by rw[cY (st.drop np) hkn];exact hrl) hrc hrs hd (fun v T' L' X' Q'=>back (st.drop np) hok v T' L' X' Q' K_)
  simp only[if_true] at G
  rw[←List.map_reverse,List.reverse_reverse,←List.map_append,List.take_append_drop] at G
  exact G
 ·rcases hrec with q|hrv
  ·exact absurd q hk0
  ·obtain⟨b,hb,hb1⟩:=NI hrv
   have er:ql kd np st=(st.drop np).drop 1:=if_neg hk0
   have ea:tg kd np st = .ref b::(st.take np).reverse:=by unfold tg;rw[if_neg hk0,hb]
   rw[ea] at hargs
   rw[er] at hrl hok hkn K_
   have hdr:st.drop np = .ref b::(st.drop np).drop 1:=by
    cases e1:st.drop np with
    | nil=>rw[e1] at hb;cases hb
    | cons x r=>rw[e1] at hb;cases hb;rfl
   have G:=hC op kd mn np rc hcl X hx hZ hown (argsL:=((st.take np).reverse).map (den A D W)) (rest:=((st.drop np).drop 1).map (den A D W)) (b:=A b) hM eT (fun q=>by
     obtain⟨hlt,d,ed,ec⟩:=hb1 q
     have H:=(Y.1 _ _ ed).2
     unfold HdF at H
     rw[if_pos (by omega)] at H
     rw[←ec]
     exact H.1) (by rw[if_neg hk0,hda _ hargs];rfl) hsz2 (by rw[List.length_map,List.length_reverse,htk]) hrf (by rw[cY _ hkn];exact hrl) hrc hrs hd (fun v T' L' X' Q'=>back ((st.drop np).drop 1) hok v T' L' X' Q' K_)
   rw[if_neg hk0,←List.map_reverse,List.reverse_reverse] at G
   have e2:st.map (den A D W)=(st.take np).map (den A D W)++(Value.ref (A b)::((st.drop np).drop 1).map (den A D W)):=by
    conv=>lhs;rw[←List.take_append_drop np st,hdr]
    rw[List.map_append]
    rfl
   rw[e2]
   exact G
end OwnExecK
section OwnExecR
variable {p:Program}{l:Launch}{e:Env}{R:Room}{s:State}{m:MethodId}{args:Array Value}{below:List Frame}{meth:Method}{c:Code}{T:State}{locs:List Loc}{cells slots:Nat}{Z:State}{a0:Array Value}{h h':Heap}{Ev:State→Outcome→Prop}
abbrev clN (ad:String):MethodName:=⟨ad,"clone","()Ljava/lang/Object;"⟩
def iQ (Z:State)(a0:Array Value)(own:String)(nt:Instr→Option (Nat×Nat)):Prop:=∀op k cd,nt op=some (k,cd) →
 (k=1∧64≤cd∧cd≤66∧∃i,op = .invokevirtual i∧(Jvm.Cond.methodLink own i (clN (fW cd))).before a0 Z=true∧(Jvm.Cond.sameMethod (fW cd) "java/lang/Object" "clone" "()Ljava/lang/Object;").before a0 Z=true∧(Jvm.Cond.native (clN "java/lang/Object")).before a0 Z=true∧(Jvm.Cond.instanceMethod (clN "java/lang/Object")).before a0 Z=true∧(Jvm.Cond.selects (fW cd) (clN (fW cd)) (clN "java/lang/Object")).before a0 Z=true∧(Jvm.Cond.castable (fW cd) "java/lang/Cloneable").before a0 Z=true) ∨
 (k=2∧∃i,op = .invokestatic i∧(Jvm.Cond.methodLink own i Jvm.Stand.acN).before a0 Z=true∧(Jvm.Cond.native Jvm.Stand.acN).before a0 Z=true∧(Jvm.Cond.static Jvm.Stand.acN).before a0 Z=true∧(Jvm.Cond.initialized "java/lang/System").before a0 Z=true) ∨
 (k=3∧∃i,op = .invokestatic i∧(Jvm.Cond.methodLink own i ⟨"java/lang/Math","abs","(D)D"⟩).before a0 Z=true∧(Jvm.Cond.static ⟨"java/lang/Math","abs","(D)D"⟩).before a0 Z=true∧(Jvm.Cond.initialized "java/lang/Math").before a0 Z=true∧(Jvm.Cond.code ⟨"java/lang/Math","abs","(D)D"⟩ Jvm.Free.Fl.Abs.absDCode 2 (some .double)).before a0 Z=true) ∨
 (k=4∧∃i,op = .invokestatic i∧(Jvm.Cond.methodLink own i ⟨"java/lang/Math","max","(DD)D"⟩).before a0 Z=true∧(Jvm.Cond.static ⟨"java/lang/Math","max","(DD)D"⟩).before a0 Z=true∧(Jvm.Cond.initialized "java/lang/Math").before a0 Z=true∧(Jvm.Cond.code ⟨"java/lang/Math","max","(DD)D"⟩ Jvm.Free.Fl.Abs.maxDCode 4 (some .double)).before a0 Z=true) ∨
 (k=5∧∃i,op = .invokespecial i∧(Jvm.Cond.methodLink own i ⟨"java/lang/Object","<init>","()V"⟩).before a0 Z=true∧(Jvm.Cond.instanceMethod ⟨"java/lang/Object","<init>","()V"⟩).before a0 Z=true∧(Jvm.Cond.code ⟨"java/lang/Object","<init>","()V"⟩ object_method_1_code 1 none).before a0 Z=true)
def mz (r:List Value):Nat:=(r.map fun v=>v.category).sum
def Aw (code:ByteArray)(nt:Instr→Option (Nat×Nat))(ml:Nat)(RR:Nat×Nat×Nat×Nat)(nD cells slots:Nat)(ds:List AD)(pc:Nat)(L:Array Slot)(st:List Value):Option (Nat×List Value×List AD×List Op×Nat×Nat) :=
 match decode code pc with
 | .ok (op,3)=>match nt op with
  | some (1,cd)=>match st with
   | .ref a::r=>match ds[a]? with
    | some d=>if d.1=cd∧fo ds.length nD L r ds=true∧r.all kn=true∧L.size=ml∧1≤RR.1∧mz r+14≤RR.2.2.2∧cells+1≤RR.2.1∧slots+d.2.1≤RR.2.2.1∧d.2.1<2147483648 then some (pc+3,.ref ds.length::r,ds++[d],[],1,d.2.1) else none
    | none=>none
   | _=>none
  | some (2,_)=>match st with
   | .int n :: .int i :: .ref b :: .int j :: .ref a::r=>match ds[a]?,ds[b]? with
    | some da,some db=>if i=0∧j=0∧da.1=db.1∧(da.1=64∨(da.1=65∧n=0))∧r.all kn=true∧L.size=ml∧1≤RR.1∧mz r+40≤RR.2.2.2∧0≤n.toInt∧n.toInt≤1000∧n.toInt≤(da.2.1:Int)∧n.toInt≤(db.2.1:Int)∧da.2.1<2147483648∧db.2.1<2147483648∧n.toNatClampNeg≤da.2.2.length then some (pc+3,r,if n=0 then ds else ds.set b (db.1,db.2.1,da.2.2.take n.toNatClampNeg++db.2.2.drop n.toNatClampNeg),[],0,0) else none
    | _,_=>none
   | _=>none
  | some (3,_)=>match st with
   | .double x::r=>if fo ds.length nD L r ds=true∧nD<4096∧r.all kn=true∧L.size=ml∧1≤RR.1∧mz r+15≤RR.2.2.2∧cells≤RR.2.1∧slots≤RR.2.2.1 then some (pc+3,.double (UInt64.ofNat nD)::r,ds,[(4,x.toNat,0,0)],0,0) else none
   | _=>none
  | some (4,_)=>match st with
   | .double y :: .double x::r=>if fo ds.length nD L r ds=true∧nD<4096∧r.all kn=true∧L.size=ml∧1≤RR.1∧mz r+15≤RR.2.2.2∧cells≤RR.2.1∧slots≤RR.2.2.1 then some (pc+3,.double (UInt64.ofNat nD)::r,ds,[(5,x.toNat,y.toNat,0)],0,0) else none
   | _=>none
  | some (5,_)=>match st with
   | .ref a::r=>if r.all kn=true∧L.size=ml∧1≤RR.1∧mz r+12≤RR.2.2.2 then some (pc+3,r,ds,[],0,0) else none
   | _=>none
  | _=>none
 | _=>none
theorem Ax {A:Nat→Addr}{K:Nat→ClassId}{D:Nat→UInt64}{W:Nat→Value}{n0 nB nD:Nat}{hB:Heap}{ds:List AD}{d:AD}{L:Array Slot}{st1:List Value}{pc':Nat}{a:Addr}{k:ClassId}{T':State}{cells' slots':Nat}(Y:YgF Z n0 h A K D W ds)(Kp:Keep hB h ((List.range nB).map A))(hsz:∀i,nB≤i→i<ds.length→hB.size≤A i)(N:Fr n0 locs)(hn:n0≤h.size)(hnB:nB≤ds.length)(g:a=h.size)(X':Stand p l e R s m args below meth c T' locs cells' slots')(e':T'.heap=h')(E:Ext h h')(ok:fo ds.length nD L st1 ds=true)(H:HdF Z h' a k (fun i=>if i=ds.length then a else A i) D W d)
  (K_:∀A' K',(∀i,i<ds.length→A' i=A i∧K' i=K i)→Sit p l e R s m args below meth c Z n0 nB hB T' A' K' D W (ds++[d]) cells' slots'→Go p e below Ev T' (mkF m pc' (L.map (aZ A' D W)) ((.ref ds.length::st1).map (den A' D W)))):Go p e below Ev T' (mkF m pc' (L.map (aZ A D W)) (.ref a::st1.map (den A D W))):=by
 simp only[fo,Bool.and_eq_true] at ok
 have hA:∀i,i<ds.length→(if i=ds.length then a else A i)=A i:=fun i hi=>if_neg (by omega)
 have G:=K_ (fun i=>if i=ds.length then a else A i) (fun i=>if i=ds.length then k else K i) (fun i hi=>⟨hA i hi,if_neg (by omega)⟩) ⟨h',locs,X',e',Y.push ok.2.2 g hn E H,?_,?_,N,Nat.le_trans hn E.1,by rw[List.length_append];omega⟩
 ·rw[gV (nD:=nD) hA (fun _ _=>rfl) ok.1,List.map_cons,eG (nD:=nD) hA (fun _ _=>rfl) ok.2.1] at G
  simpa [den] using G
 ·have e1:(List.range nB).map (fun i=>if i=ds.length then a else A i)=(List.range nB).map A:=List.map_congr_left fun i hi=>hA i (by have:=List.mem_range.mp hi;omega)
  rw[e1]
  exact Kp.ext E
 ·intro i hi hil
  rw[List.length_append,List.length_singleton] at hil
  by_cases q:i=ds.length
  ·simp only[q,if_true,g]
   exact Kp.1
  ·simp only[if_neg q]
   exact hsz i hi (by omega)
theorem YgF.kp {A:Nat→Addr}{K:Nat→ClassId}{D:Nat→UInt64}{W:Nat→Value}{n0:Nat}{ds:List AD}{b:Nat}{d d':AD}(Y:YgF Z n0 h A K D W ds)(e:ds[b]? = some d)(Kp:Keep h h' [A b])(H:HdF Z h' (A b) (K b) A D W d'):YgF Z n0 h' A K D W (ds.set b d'):=by
 have hi:b<ds.length:=(List.getElem?_eq_some_iff.mp e).1
 refine⟨fun j x hj=>?_,fun x y hx hy q=>Y.2 x y (by simpa using hx) (by simpa using hy) q⟩
 rw[List.getElem?_set] at hj
 split at hj
 ·rename_i q
  subst q
  first
  | cases hj
  | (rw[if_pos hi] at hj;cases hj)
  exact⟨(Y.1 _ _ e).1,H⟩
 ·rename_i q
  have hjl:j<ds.length:=(List.getElem?_eq_some_iff.mp hj).1
  refine⟨(Y.1 _ _ hj).1,(Y.1 _ _ hj).2.keep Kp fun z=>q (Y.2 _ _ hi hjl ?_)⟩
  have z':A j=A b:=by simpa using z
  exact z'.symm
theorem H7 {A:Nat→Addr}{K:Nat→ClassId}{D:Nat→UInt64}{W:Nat→Value}{code:ByteArray}{own:String}{nt:Instr→Option (Nat×Nat)}{ml:Nat}{RR:Nat×Nat×Nat×Nat}{n0 nB nD dc dsl:Nat}{hB:Heap}{ds ds':List AD}{ops:List Op}(hx:p.tables.exec=Jvm.exec)(hby:c.code=code)(hml:c.maxLocals=ml)(hR:R=jb RR)(hZ:Z.Warmed39 s.vm)(hown:s.vm.findClass own=some m.cls)(hC:iQ Z a0 own nt)(S:Sit p l e R s m args below meth c Z n0 nB hB T A K D W ds cells slots){pc pc':Nat}{L:Array Slot}{st st':List Value}(hs:Aw code nt ml RR nD cells slots ds pc L st=some (pc',st',ds',ops,dc,dsl))(hv:okv ops nD D)
  (K_:∀T' A' K',(∀i,i<ds.length→A' i=A i∧K' i=K i)→Sit p l e R s m args below meth c Z n0 nB hB T' A' K' (ca ops nD D) W ds' (cells+dc) (slots+dsl)→Go p e below Ev T' (mkF m pc' (L.map (aZ A' (ca ops nD D) W)) (st'.map (den A' (ca ops nD D) W)))):Go p e below Ev T (mkF m pc (L.map (aZ A D W)) (st.map (den A D W))):=by
 subst hby hR hml
 have S0:=S
 obtain⟨h,locs,X,eT,Y,Kp,hsz,N,hn,hnB⟩:=S
 unfold Aw at hs
 split at hs
 case h_2=>cases hs
 next op hd =>
 split at hs
 ·next cd hnt =>
  split at hs
  ·next a r =>
   split at hs
   ·next d e2 =>
    split at hs
    ·next hc =>
     cases hs
     obtain⟨hcd,ok,hkn,hLs,hf,hl,hcc,hss,hz⟩:=hc
     rcases hC op 1 cd hnt with ⟨-,q1,q2,i,rfl,w1,w2,w3,w4,w5,w6⟩|⟨q,-⟩|⟨q,-⟩|⟨q,-⟩|⟨q,-⟩
     ·have H:=(Y.1 _ _ e2).2.arr (by omega)
      have V:=H.2.1
      have E0:=H.1
      rw[hcd] at V E0
      refine HI X hx hZ hown w1 w2 w3 w4 w5 w6 eT V E0 (mz r) d.2.1 _ hd rfl (by rw[Array.size_map];exact hLs) hf (by rw[cY _ hkn];exact Nat.le_refl _) hl (by rw[Int32.toInt_ofNat_small hz];exact Int.le_refl _) hcc hss ?_
      intro T' h' b g X' e' E V' E'
      have okk:=ok
      simp only[fo,Bool.and_eq_true] at okk
      refine Ax (d:=d) (k:=K a) Y Kp hsz N hn hnB g X' e' E ok ?_ (fun A' K' hAK S'=>K_ T' A' K' hAK S')
      have hA:∀i,i<ds.length→(if i=ds.length then b else A i)=A i:=fun i hi=>if_neg (by omega)
      refine HdF.env (A:=A) (D:=D) (nA:=ds.length) (nD:=nD) hA (fun _ _=>rfl) (List.all_eq_true.mp okk.2.2 d (List.mem_of_getElem? e2)) ?_
      unfold HdF
      rw[if_neg (by omega),hcd]
      exact⟨E',V',fun q=>by omega,fun q=>by omega⟩
     all_goals cases q
    ·cases hs
   ·cases hs
  ·cases hs
 ·next cd hnt =>
  split at hs
  ·next n i b j a r =>
   split at hs
   ·next da db e2 e3 =>
    split at hs
    ·next hc =>
     cases hs
     obtain⟨rfl,rfl,hab,hty,hkn,hLs,hf,hl,hn0,hn1,hna,hnb,hza,hzb,hle⟩:=hc
     rcases hC op 2 cd hnt with ⟨q,-⟩|⟨-,i,rfl,w1,w2,w3,w4⟩|⟨q,-⟩|⟨q,-⟩|⟨q,-⟩
     ·cases q
     ·have HA:=((Y.1 _ _ e2).2.arr (by omega)).2.1
      have HB:=((Y.1 _ _ e3).2.arr (by omega))
      have HV:=HB.2.1
      have hbl:b<ds.length:=(List.getElem?_eq_some_iff.mp e3).1
      have hfw:nativeFrameWords "java/lang/System" "arraycopy" 5+11≤40:=by decide
      by_cases q0:n=0
      ·subst q0
       rw[←hab] at HV
       have hty2:((refKind (eE da.1) != refKind (eE da.1))||(!refKind (eE da.1)&&eE da.1 != eE da.1))=false:=by
        rcases hty with q|⟨q,-⟩<;>rw[q]<;>decide
       refine HS X hx hZ hown w1 w2 w3 w4 eT hty2 HA HV (mz st') _ hd rfl (by rw[Array.size_map];exact hLs) hf (by rw[cY _ hkn];exact Nat.le_refl _) (by show _≤RR.2.2.2;omega) ?_
       intro T' X' e'
       have G:=K_ T' A K (fun _ _=>⟨rfl,rfl⟩) (by rw[if_pos rfl];exact⟨h,locs,X',e',Y,Kp,hsz,N,hn,hnB⟩)
       exact G
      ·rcases hty with q|⟨-,q⟩
       ·have q':db.1=64:=hab▸q
        rw[q] at HA
        rw[q'] at HV
        refine HU X hx hZ hown w1 w2 w3 w4 eT HA HV n.toNatClampNeg (l4 hn0).symm (by simp only[Int32.toNatClampNeg];omega) (by rw[Int32.toInt_ofNat_small hza,←gA hn0];exact hna) (by rw[Int32.toInt_ofNat_small hzb,←gA hn0];exact hnb) (by rw[List.length_map];exact hle) (mz st') _ hd rfl (by rw[Array.size_map];exact hLs) hf (by rw[cY _ hkn];exact Nat.le_refl _) (by show _≤RR.2.2.2;omega) ?_
        intro T' h' X' e' K1 V'
        have G:=K_ T' A K (fun _ _=>⟨rfl,rfl⟩) (by
         rw[if_neg q0]
         refine⟨h',_,X',e',Y.kp e3 K1 ?_,Kp.trans K1 (allS (ic hsz hbl) all0),fun i hi hl=>hsz i hi (by simpa using hl),Fr.app N (tf (Y.1 _ _ e3).1),Nat.le_trans hn K1.1,by simpa using hnB⟩
         unfold HdF
         show if db.1<64 then _ else _
         rw[if_neg (by omega)]
         refine⟨?_,?_,fun z=>by omega,fun z=>by omega⟩
         ·exact HB.1.keep K1
         ·show Arv Z h' (A b) (K b) (eE db.1) (Int32.ofNat db.2.1) ((da.2.2.take n.toNatClampNeg++db.2.2.drop n.toNatClampNeg).map (den A D W)) (eF db.1)
          rw[q',List.map_append,List.map_take,List.map_drop]
          exact V')
        exact G
       ·exact absurd q q0
     all_goals cases q
    ·cases hs
   ·cases hs
  ·cases hs
 ·next cd hnt =>
  split at hs
  ·next x r =>
   split at hs
   ·next hc =>
    cases hs
    obtain⟨ok,hnD,hkn,hLs,hf,hl,hcc,hss⟩:=hc
    rcases hC op 3 cd hnt with ⟨q,-⟩|⟨q,-⟩|⟨-,i,rfl,w1,w2,w3,w4⟩|⟨q,-⟩|⟨q,-⟩
    ·cases q
    ·cases q
    ·refine NB X hx hZ hown w1 w2 w3 w4 rfl eT hv.1 (mz r) _ hd rfl (by rw[Array.size_map];exact hLs) (by rw[cY _ hkn];exact Nat.le_refl _) hf (by show _≤RR.2.2.2;omega) hcc hss (by decide +kernel) ?_
     intro T' X' e'
     have okk:=ok
     simp only[fo,Bool.and_eq_true] at okk
     have hD:∀j,j<nD→ca [(4,x.toNat,0,0)] nD D j=D j:=fun j hj=>fj _ _ _ hj
     have G:=K_ T' A K (fun _ _=>⟨rfl,rfl⟩) (Sit.dbl (D:=D) (nD:=nD) ⟨h,locs,X',e',Y,Kp,hsz,N,hn,hnB⟩ hD okk.2.2)
     rw[gV (nA:=ds.length) (fun _ _=>rfl) hD okk.1,List.map_cons,eG (nA:=ds.length) (fun _ _=>rfl) hD okk.2.1] at G
     have hf2:ca [(4,x.toNat,0,0)] nD D=fun i=>if i=nD then (dX D x.toNat&&&0x7fffffffffffffff) else D i:=rfl
     rw[hf2,mw hnD] at G
     exact G
    ·cases q
    ·cases q
   ·cases hs
  ·cases hs
 ·next cd hnt =>
  split at hs
  ·next y x r =>
   split at hs
   ·next hc =>
    cases hs
    obtain⟨ok,hnD,hkn,hLs,hf,hl,hcc,hss⟩:=hc
    rcases hC op 4 cd hnt with ⟨q,-⟩|⟨q,-⟩|⟨q,-⟩|⟨-,i,rfl,w1,w2,w3,w4⟩|⟨q,-⟩
    ·cases q
    ·cases q
    ·cases q
    ·have hv1:Jvm.Free.Fl.NoNaN64 (dX D x.toNat)∧Jvm.Free.Fl.NoNaN64 (dX D y.toNat):=hv.1
     refine NA X hx hZ hown w1 w2 w3 w4 rfl eT hv1.1 hv1.2 (r:=Jvm.Native.java_lang_Math.nans.pick64 true (dX D x.toNat) (dX D y.toNat)) rfl (mz r) _ hd rfl (by rw[Array.size_map];exact hLs) (by rw[cY _ hkn];exact Nat.le_refl _) hf (by show _≤RR.2.2.2;omega) hcc hss (by decide +kernel) ?_
     intro T' X' e'
     have okk:=ok
     simp only[fo,Bool.and_eq_true] at okk
     have hD:∀j,j<nD→ca [(5,x.toNat,y.toNat,0)] nD D j=D j:=fun j hj=>fj _ _ _ hj
     have G:=K_ T' A K (fun _ _=>⟨rfl,rfl⟩) (Sit.dbl (D:=D) (nD:=nD) ⟨h,locs,X',e',Y,Kp,hsz,N,hn,hnB⟩ hD okk.2.2)
     rw[gV (nA:=ds.length) (fun _ _=>rfl) hD okk.1,List.map_cons,eG (nA:=ds.length) (fun _ _=>rfl) hD okk.2.1] at G
     have hf2:ca [(5,x.toNat,y.toNat,0)] nD D=fun i=>if i=nD then Jvm.Native.java_lang_Math.nans.pick64 true (dX D x.toNat) (dX D y.toNat) else D i:=rfl
     rw[hf2,mw hnD] at G
     exact G
    ·cases q
   ·cases hs
  ·cases hs
 ·next cd hnt =>
  split at hs
  ·next a r =>
   split at hs
   ·next hc =>
    cases hs
    obtain⟨hkn,hLs,hf,hl⟩:=hc
    rcases hC op 5 cd hnt with ⟨q,-⟩|⟨q,-⟩|⟨q,-⟩|⟨q,-⟩|⟨-,i,rfl,w1,w2,w3⟩
    ·cases q
    ·cases q
    ·cases q
    ·cases q
    ·refine xX X hx hZ hown w1 w2 w3 eT (mz st') _ hd rfl (by rw[Array.size_map];exact hLs) hf (by rw[cY _ hkn];exact Nat.le_refl _) (by show _≤RR.2.2.2;omega) ?_
     intro T' X' e'
     exact K_ T' A K (fun _ _=>⟨rfl,rfl⟩) ⟨h,locs,X',e',Y,Kp,hsz,N,hn,hnB⟩
   ·cases hs
  ·cases hs
 ·cases hs
end OwnExecR
section OwnExecZ
variable {p:Program}{l:Launch}{e:Env}{R:Room}{s:State}{m:MethodId}{args:Array Value}{below:List Frame}{meth:Method}{c:Code}{T:State}{locs:List Loc}{cells slots:Nat}{Z:State}{a0:Array Value}{h h':Heap}{Ev:State→Outcome→Prop}
abbrev Md:=eR×(Nat→Option FieldType)×(Nat→Option (Nat×Nat))×(Instr→Option (Nat×Nat×Nat×Nat))×(Instr→Option (Nat×Nat))
def jc (Z:State)(a0:Array Value)(own mn:String)(M:Md):Prop:=cL Z a0 own M.1∧gj Z a0 own mn M.2.1 M.1∧iP Z a0 own M.2.2.1∧fk Z own M.2.2.2.1∧iQ Z a0 own M.2.2.2.2
def Ph (code:ByteArray)(pc:Nat):Bool :=
 match decode code pc with
 | .ok (.ireturn,1)=>true
 | .ok (.lreturn,1)=>true
 | .ok (.dreturn,1)=>true
 | .ok (.areturn,1)=>true
 | .ok (.return_,1)=>true
 | _=>false
abbrev MS:=Nat×Array Slot×List Value×List AD×Nat×Nat×Nat
def run (code:ByteArray)(M:Md)(ml:Nat)(RR:Nat×Nat×Nat×Nat)(to:Nat):Nat→List Sc→List Int32→MS→Option (MS×List Op)
 | 0,_,_,_=>none
 | f+1,sc,orc,(pc,L,st,ds,nD,ce,sl) =>
  if Ph code pc=true∨pc=to then some ((pc,L,st,ds,nD,ce,sl),[])
  else match NC code M.1 ds pc L st with
  | some (pc',L',st')=>run code M ml RR to f sc orc (pc',L',st',ds,nD,ce,sl)
  | none=>match Ap code M.1 M.2.1 ds pc L st with
   | some (pc',L',st',ds')=>run code M ml RR to f sc orc (pc',L',st',ds',nD,ce,sl)
   | none=>match ND code M.1 M.2.2.1 nD ds pc L st with
    | some (pc',st',d,w)=>if ce+1≤RR.2.1∧sl+w≤RR.2.2.1 then run code M ml RR to f sc orc (pc',L,st',ds++[d],nD,ce+1,sl+w) else none
    | none=>match NF code nD ds orc pc L st with
     | some (pc',st',o,orc')=>(run code M ml RR to f sc orc' (pc',L,st',ds,nxN o nD,ce,sl)).map fun r=>(r.1,o::r.2)
     | none=>match Aw code M.2.2.2.2 ml RR nD ce sl ds pc L st with
      | some (pc',st',ds',ops,dc,dsl)=>(run code M ml RR to f sc orc (pc',L,st',ds',fG ops nD,ce+dc,sl+dsl)).map fun r=>(r.1,ops++r.2)
      | none=>match sc with
       | E::sc'=>match Aq code M.2.2.2.1 ml RR nD ce sl ds E pc L st with
        | some (pc',st',ds',ops)=>(run code M ml RR to f sc' orc (pc',L,st',ds',fG ops nD,ce+E.1.2.2.2.1,sl+E.1.2.2.2.2.1)).map fun r=>(r.1,ops++r.2)
        | none=>none
       | []=>none
theorem Ay {code:ByteArray}{P:eR}{pw:Nat→Option FieldType}{ds ds':List AD}{pc pc':Nat}{L L':Array Slot}{st st':List Value}(hs:Ap code P pw ds pc L st=some (pc',L',st',ds')):ds'.length=ds.length:=by
 unfold Ap at hs
 repeat' split at hs
 all_goals first|(cases hs;done)|(cases hs;simp)
theorem Az {code:ByteArray}{nt:Instr→Option (Nat×Nat)}{ml:Nat}{RR:Nat×Nat×Nat×Nat}{nD ce sl dc dsl:Nat}{ds ds':List AD}{ops:List Op}{pc pc':Nat}{L:Array Slot}{st st':List Value}(hs:Aw code nt ml RR nD ce sl ds pc L st=some (pc',st',ds',ops,dc,dsl)):ds.length≤ds'.length:=by
 unfold Aw at hs
 repeat' split at hs
 all_goals first|(cases hs;done)|(cases hs;simp;done)|(cases hs;split<;>simp)
theorem AA {code:ByteArray}{cl:Instr→Option (Nat×Nat×Nat×Nat)}{ml:Nat}{RR:Nat×Nat×Nat×Nat}{nD ce sl:Nat}{ds ds':List AD}{E:Sc}{ops:List Op}{pc pc':Nat}{L:Array Slot}{st st':List Value}(hs:Aq code cl ml RR nD ce sl ds E pc L st=some (pc',st',ds',ops)):ds.length≤ds'.length:=by
 unfold Aq at hs
 split at hs
 ·split at hs
  ·dsimp only at hs
   split at hs
   ·split at hs
    ·split at hs
     ·split at hs
      ·cases hs
       rw[List.length_append,f6]
       omega
      ·cases hs
     ·cases hs
    ·cases hs
   ·cases hs
  ·cases hs
 ·cases hs
theorem AB {W:Nat→Value}{code:ByteArray}{own:String}{M:Md}{ml:Nat}{RR:Nat×Nat×Nat×Nat}{to n0 nB:Nat}{hB:Heap}(hw:HW a0 Z)(hx:p.tables.exec=Jvm.exec)(hby:c.code=code)(hml:c.maxLocals=ml)(hR:R=jb RR)(hZ:Z.Warmed39 s.vm)(hown:s.vm.findClass own=some m.cls)(hM:jc Z a0 own meth.name M)(CL:eS Z a0)(hA:fq Z a0) :
  ∀(f:Nat) (sc:List Sc) (orc:List Int32) (pc:Nat) (L:Array Slot) (st:List Value) (ds:List AD) (nD ce sl pc':Nat) (L':Array Slot) (st':List Value) (ds':List AD) (nD' ce' sl':Nat) (ops:List Op) (T:State) (A:Nat→Addr) (K:Nat→ClassId) (D:Nat→UInt64),run code M ml RR to f sc orc (pc,L,st,ds,nD,ce,sl)=some ((pc',L',st',ds',nD',ce',sl'),ops)→(∀E∈sc,CtH E.1)→D 0=0→0<nD→Sit p l e R s m args below meth c Z n0 nB hB T A K D W ds ce sl→okv ops nD D →
   (∀T' A' K',(∀i,i<ds.length→A' i=A i∧K' i=K i)→ds.length≤ds'.length→Sit p l e R s m args below meth c Z n0 nB hB T' A' K' (ca ops nD D) W ds' ce' sl'→Go p e below Ev T' (mkF m pc' (L'.map (aZ A' (ca ops nD D) W)) (st'.map (den A' (ca ops nD D) W)))) →
   Go p e below Ev T (mkF m pc (L.map (aZ A D W)) (st.map (den A D W))):=by
 obtain⟨m1,m2,m3,m4,m5⟩:=hM
 intro f
 induction f with
 | zero=>intro sc orc pc L st ds nD ce sl pc' L' st' ds' nD' ce' sl' ops T A K D hr;cases hr
 | succ f ih =>
  intro sc orc pc L st ds nD ce sl pc' L' st' ds' nD' ce' sl' ops T A K D hr hsc hD0 hnD S hv K_
  unfold run at hr
  split at hr
  ·cases hr
   exact K_ T A K (fun _ _=>⟨rfl,rfl⟩) (Nat.le_refl _) S
  ·split at hr
   ·next pc1 L1 st1 e1 =>
    obtain⟨h,locs,X,eT,Y,r⟩:=S
    refine HY X hx hby hZ hown m1 eT Y hD0 e1 ?_
    intro T' X' e'
    exact ih sc orc pc1 L1 st1 ds nD ce sl pc' L' st' ds' nD' ce' sl' ops T' A K D hr hsc hD0 hnD ⟨h,locs,X',e',Y,r⟩ hv K_
   ·split at hr
    ·next pc1 L1 st1 ds1 e1 =>
     refine HZ hx hby hZ hown m1 m2 CL S e1 ?_
     intro T' S'
     have hl:=Ay e1
     exact ih sc orc pc1 L1 st1 ds1 nD ce sl pc' L' st' ds' nD' ce' sl' ops T' A K D hr hsc hD0 hnD S' hv (fun T2 A2 K2 ha hle=>K_ T2 A2 K2 (fun i hi=>ha i (by omega)) (by omega))
    ·split at hr
     ·next pc1 st1 d w e1 =>
      split at hr
      ·next hc =>
       refine H4 hx hby hZ hown m1 m3 hA hD0 S (by rw[hR];exact hc.1) (by rw[hR];exact hc.2) e1 ?_
       intro T' A1 K1 hAK S'
       refine ih sc orc pc1 L st1 (ds++[d]) nD (ce+1) (sl+w) pc' L' st' ds' nD' ce' sl' ops T' A1 K1 D hr hsc hD0 hnD S' hv (fun T2 A2 K2 ha hle S2=>K_ T2 A2 K2 (fun i hi=>?_) (by rw[List.length_append] at hle;omega) S2)
       have:=ha i (by rw[List.length_append];omega)
       exact⟨this.1.trans (hAK i hi).1,this.2.trans (hAK i hi).2⟩
      ·cases hr
     ·split at hr
      ·next pc1 st1 o orc1 e1 =>
       cases e2:run code M ml RR to f sc orc1 (pc1,L,st1,ds,nxN o nD,ce,sl) with
       | none=>rw[e2] at hr;cases hr
       | some r =>
        rw[e2] at hr
        obtain⟨⟨a1,a2,a3,a4,a5,a6,a7⟩,ops1⟩:=r
        cases hr
        have hv':vc1 o D∧okv ops1 (nxN o nD) (nxD o nD D):=hv
        refine H5 hx hby S e1 hv'.1 ?_
        intro S'
        exact ih sc orc1 pc1 L st1 ds (nxN o nD) ce sl _ _ _ _ _ _ _ ops1 T A K (nxD o nD D) e2 hsc (by rw[pn o nD D hnD];exact hD0) (Nat.lt_of_lt_of_le hnD (mu o nD)) S' hv'.2 K_
      ·split at hr
       ·next pc1 st1 ds1 ops0 dc dsl e1 =>
        cases e2:run code M ml RR to f sc orc (pc1,L,st1,ds1,fG ops0 nD,ce+dc,sl+dsl) with
        | none=>rw[e2] at hr;cases hr
        | some r =>
         rw[e2] at hr
         obtain⟨⟨a1,a2,a3,a4,a5,a6,a7⟩,ops1⟩:=r
         cases hr
         obtain⟨v1,v2⟩:=(pm ops0 ops1 nD D).mp hv
         have hl:=Az e1
         refine H7 hx hby hml hR hZ hown m5 S e1 v1 ?_
         intro T' A1 K1 hAK S'
         refine ih sc orc pc1 L st1 ds1 (fG ops0 nD) (ce+dc) (sl+dsl) _ _ _ _ _ _ _ ops1 T' A1 K1 (ca ops0 nD D) e2 hsc (by rw[fj ops0 nD D hnD];exact hD0) (Nat.lt_of_lt_of_le hnD (jn ops0 nD)) S' v2 (fun T2 A2 K2 ha hle S2=>?_)
         have G:=K_ T2 A2 K2 (fun i hi=>⟨(ha i (by omega)).1.trans (hAK i hi).1,(ha i (by omega)).2.trans (hAK i hi).2⟩) (by omega)
         rw[mt] at G
         exact G S2
       ·split at hr
        ·next E sc1 =>
         split at hr
         ·next pc1 st1 ds1 ops0 e1 =>
          cases e2:run code M ml RR to f sc1 orc (pc1,L,st1,ds1,fG ops0 nD,ce+E.1.2.2.2.1,sl+E.1.2.2.2.2.1) with
          | none=>rw[e2] at hr;cases hr
          | some r =>
           rw[e2] at hr
           obtain⟨⟨a1,a2,a3,a4,a5,a6,a7⟩,ops1⟩:=r
           cases hr
           obtain⟨v1,v2⟩:=(pm ops0 ops1 nD D).mp hv
           have hl:=AA e1
           refine H6 hw hx hby hml hR hZ hown m4 (hsc E (List.mem_cons_self ..)) hD0 S e1 v1 ?_
           intro T' A1 K1 hAK S'
           refine ih sc1 orc pc1 L st1 ds1 (fG ops0 nD) (ce+E.1.2.2.2.1) (sl+E.1.2.2.2.2.1) _ _ _ _ _ _ _ ops1 T' A1 K1 (ca ops0 nD D) e2 (fun x hx'=>hsc x (List.mem_cons_of_mem _ hx')) (by rw[fj ops0 nD D hnD];exact hD0) (Nat.lt_of_lt_of_le hnD (jn ops0 nD)) S' v2 (fun T2 A2 K2 ha hle S2=>?_)
           have G:=K_ T2 A2 K2 (fun i hi=>⟨(ha i (by omega)).1.trans (hAK i hi).1,(ha i (by omega)).2.trans (hAK i hi).2⟩) (by omega)
           rw[mt] at G
           exact G S2
         ·cases hr
        ·cases hr
def IW (code:ByteArray)(rt:Option FieldType)(pc:Nat)(st:List Value)(res:Option Value):Bool :=
 match rt,decode code pc,st,res with
 | none,.ok (.return_,1),[],none=>true
 | some .int,.ok (.ireturn,1),.int x::_,some (.int y)=>x==y
 | some .int,.ok (.ireturn,1),.float x::_,some (.float y)=>x==y
 | some .boolean,.ok (.ireturn,1),.int x::_,some (.int y)=>x==y&&(nar .boolean x==x)
 | some .long,.ok (.lreturn,1),.long x::_,some (.long y)=>x==y
 | some .double,.ok (.dreturn,1),.double x::_,some (.double y)=>x==y
 | some (.array _),.ok (.areturn,1),.ref x::_,some (.ref y)=>x==y
 | some (.object _),.ok (.areturn,1),.ref x::_,some (.ref y)=>x==y
 | _,_,_,_=>false
def dL (A:Nat→Addr)(D:Nat→UInt64)(W:Nat→Value)(L:Array Slot):Array Slot:=(L.toList.map (aZ A D W)).toArray
theorem AC (A:Nat→Addr)(D:Nat→UInt64)(W:Nat→Value)(L:Array Slot):dL A D W L=L.map (aZ A D W):=by
 unfold dL
 apply Array.ext'
 simp
def ai (r:Option (MS×List Op)) (σ:MS)(ops:List Op):Bool :=
 match r with
 | some (τ,o)=>decide (o=ops)&&(decide (τ.1=σ.1)&&(decide (τ.2.1.toList=σ.2.1.toList)&&(decide (τ.2.2.1=σ.2.2.1)&&(decide (τ.2.2.2.1=σ.2.2.2.1)&&(decide (τ.2.2.2.2.1=σ.2.2.2.2.1)&&(decide (τ.2.2.2.2.2.1=σ.2.2.2.2.2.1)&&decide (τ.2.2.2.2.2.2=σ.2.2.2.2.2.2)))))))
 | none=>false
theorem uN {r:Option (MS×List Op)} {σ:MS}{ops:List Op}(h:ai r σ ops=true):r=some (σ,ops):=by
 unfold ai at h
 split at h
 ·next τ o =>
  simp only[Bool.and_eq_true,decide_eq_true_eq] at h
  obtain⟨rfl,h1,h2,h3,h4,h5,h6,h7⟩:=h
  obtain⟨a1,a2,a3,a4,a5,a6,a7⟩:=τ
  obtain⟨b1,b2,b3,b4,b5,b6,b7⟩:=σ
  dsimp only at h1 h2 h3 h4 h5 h6 h7
  have h2':a2=b2:=Array.ext' h2
  subst h1 h2' h3 h4 h5 h6 h7
  rfl
 ·cases h
theorem seg {W:Nat→Value}{code:ByteArray}{own:String}{M:Md}{ml:Nat}{RR:Nat×Nat×Nat×Nat}{to n0 f nD pc pc' nD' cells' slots':Nat}{sc:List Sc}{orc:List Int32}{L L':Array Slot}{st st':List Value}{ds ds':List AD}{ops:List Op}{A:Nat→Addr}{K:Nat→ClassId}{D:Nat→UInt64}(hr:run code M ml RR to f sc orc (pc,L,st,ds,nD,cells,slots)=some ((pc',L',st',ds',nD',cells',slots'),ops))(hsc:∀E∈sc,CtH E.1)(hw:HW a0 Z)(hx:p.tables.exec=Jvm.exec)(hby:c.code=code)(hml:c.maxLocals=ml)(hR:R=jb RR)(hZ:Z.Warmed39 s.vm)(hown:s.vm.findClass own=some m.cls)(hM:jc Z a0 own meth.name M∧eS Z a0∧fq Z a0)(hD0:D 0=0)(hnD:0<nD)(X:Stand p l e R s m args below meth c T locs cells slots)(eT:T.heap=h)(Y:YgF Z n0 h A K D W ds)(N:Fr n0 locs)(hn:n0≤h.size)(hv:okv ops nD D)
  (K_:∀T' h' locs' A' K',(∀i,i<ds.length→A' i=A i∧K' i=K i)→Stand p l e R s m args below meth c T' locs' cells' slots'→T'.heap=h'→YgF Z n0 h' A' K' (ca ops nD D) W ds'→Fr n0 locs'→Keep h h' ((List.range ds.length).map A)→(∀i,ds.length≤i→i<ds'.length→h.size≤A' i)→n0≤h'.size→Go p e below Ev T' (mkF m pc' (dL A' (ca ops nD D) W L') (st'.map (den A' (ca ops nD D) W)))):Go p e below Ev T (mkF m pc (dL A D W L) (st.map (den A D W))):=by
 rw[AC]
 refine AB (nB:=ds.length) (hB:=h) (n0:=n0) hw hx hby hml hR hZ hown hM.1 hM.2.1 hM.2.2 f sc orc pc L st ds nD cells slots pc' L' st' ds' nD' cells' slots' ops T A K D hr hsc hD0 hnD ⟨h,locs,X,eT,Y,Keep.refl _ _,fun i h1 h2=>by omega,N,hn,Nat.le_refl _⟩ hv ?_
 intro T' A' K' hAK hle S'
 obtain⟨h',locs',X',e',Y',Kp,hsz,N',hn',hnB⟩:=S'
 have hkr:(List.range ds.length).map A'=(List.range ds.length).map A:=List.map_congr_left fun i hi=>(hAK i (List.mem_range.mp hi)).1
 rw[hkr] at Kp
 have G:=K_ T' h' locs' A' K' hAK X' e' Y' N' Kp hsz hn'
 rw[AC] at G
 exact G
def cP:List Value→List Slot
 | []=>[]
 | v::r=>if v.category=2 then .val v :: .second::cP r else .val v::cP r
theorem qm:∀(as:List Value)(acc:Array Slot),as.foldl (fun acc v=>if v.category=2 then (acc.push (.val v)).push .second else acc.push (.val v)) acc=acc++(cP as).toArray
 | [],acc=>by simp [cP]
 | v::r,acc=>by
  rw[List.foldl_cons,qm r]
  show (if v.category=2 then (acc.push (.val v)).push .second else acc.push (.val v))++(cP r).toArray=acc++(if v.category=2 then .val v :: .second::cP r else .val v::cP r).toArray
  by_cases hc:v.category=2
  ·rw[if_pos hc,if_pos hc]
   apply Array.ext'
   simp
  ·rw[if_neg hc,if_neg hc]
   apply Array.ext'
   simp
theorem qn {A:Nat→Addr}{D:Nat→UInt64}{W:Nat→Value}:∀(as:List Value),as.all kn=true→cP (as.map (den A D W))=(cP as).map (aZ A D W)
 | [],_=>rfl
 | v::r,h=>by
  rw[List.all_cons,Bool.and_eq_true] at h
  show (if (den A D W v).category=2 then .val (den A D W v) :: .second::cP (r.map (den A D W)) else .val (den A D W v)::cP (r.map (den A D W)))=(if v.category=2 then .val v :: .second::cP r else .val v::cP r).map (aZ A D W)
  rw[dp h.1,qn r h.2]
  by_cases hc:v.category=2
  ·rw[if_pos hc,if_pos hc]
   rfl
  ·rw[if_neg hc,if_neg hc]
   rfl
def mA (as:List Value)(ml:Nat):List Slot:=cP as++List.replicate (ml-(cP as).length) .unset
theorem AE {as:List Value}{ml:Nat}(h:as.all kn=true)(A:Nat→Addr)(D:Nat→UInt64)(W:Nat→Value)(m:MethodId):entryFrame m (as.map (den A D W)).toArray ml=mkF m 0 (dL A D W (mA as ml).toArray) []:=by
 have e3:(as.map (den A D W)).toArray.foldl (init:=#[]) (fun acc v=>if v.category=2 then (acc.push (.val v)).push .second else acc.push (.val v))=((cP as).map (aZ A D W)).toArray:=by
  rw[List.foldl_toArray,qm,qn as h]
  simp
 have e2:argsToLocals (as.map (den A D W)).toArray ml=dL A D W (mA as ml).toArray:=by
  unfold dL argsToLocals mA
  dsimp only
  rw[e3]
  apply Array.ext'
  simp [aZ]
 show mkF m 0 (argsToLocals (as.map (den A D W)).toArray ml) []=_
 rw[e2]
def chk (mn nD f:Nat)(ds ds':List AD)(res:Option Value)(ops:List Op)(RR:Nat×Nat×Nat×Nat)(M:Md)(L0:Array Slot)(sc:List Sc)(orc:List Int32):Bool :=
 match run (ak mn) M (ib mn) RR 1000000 f sc orc (0,L0,[],ds,nD,0,0) with
 | some (σ,o)=>decide (o=ops)&&(decide (σ.2.2.2.1=ds')&&(decide (0<nD)&&(decide (σ.2.2.2.2.2.1≤RR.2.1)&&(decide (σ.2.2.2.2.2.2≤RR.2.2.1)&&IW (ak mn) (ph mn) σ.1 σ.2.2.1 res))))
 | none=>false
theorem uO {mn:Nat}{own:String}(hcls:(cJ mn).cls=own)(h:plainName own=true∨plainFor (cJ mn)=true):plainFor (cJ mn)=true:=h.elim (fun q=>plainFor_of_name (by rw[hcls];exact q)) id
theorem sc0:∀E∈([]:List Sc),CtH E.1:=fun _ q=>by cases q
theorem scS {E:Sc}{t:List Sc}(h:CtH E.1)(r:∀x∈t,CtH x.1):∀x∈E::t,CtH x.1:=fun x hx=>by
 rcases List.mem_cons.mp hx with rfl|hx
 ·exact h
 ·exact r x hx
theorem ctR {mn nD:Nat}{as:List Value}{ds ds':List AD}{res:Option Value}{ops:List Op}{RR:Nat×Nat×Nat×Nat}{own:String}{M:Md}(f:Nat)(hpn:plainName own=true∨plainFor (cJ mn)=true)(hcls:(cJ mn).cls=own)(hM:∀(Z:State)(a0:Array Value),(∀d∈tables_1,d.before a0 Z=true)→jc Z a0 own (cJ mn).name M∧eS Z a0∧fq Z a0)(sc:List Sc)(orc:List Int32)(hsc:∀E∈sc,CtH E.1)(hc:(as.all kn&&chk mn nD f ds ds' res ops RR M (mA as (ib mn)).toArray sc orc)=true):CtH ((mn,as,ds,nD),(res,ds',ops),RR):=by
 rw[Bool.and_eq_true] at hc
 obtain⟨hkn,hc⟩:=hc
 generalize hL0:(mA as (ib mn)).toArray=L0 at hc
 unfold chk at hc
 split at hc
 case h_2=>cases hc
 next σ o hr =>
 simp only[Bool.and_eq_true,decide_eq_true_eq] at hc
 obtain⟨rfl,hds,hnD,hce,hsl,hret⟩:=hc
 obtain⟨pc',L',st',ds1,nD',ce',sl'⟩:=σ
 dsimp only at hds hce hsl hret
 subst hds
 intro l Z a0 hw A K D W h0 n0 hD0 hn Y hv
 obtain⟨hMd,CL,hAr⟩:=hM Z a0 hw
 refine o8 (uO hcls hpn) (fun m=>(AE hkn A D W m).trans (by rw[hL0,AC])) ?_
 intro p e s m below meth c T X0 hx hby hml hretT hlk hnm hown hZ e0
 rw[hcls] at hown
 rw[←hnm] at hMd
 refine AB (nB:=ds.length) (hB:=h0) (n0:=n0) hw hx hby hml rfl hZ hown hMd CL hAr f sc orc 0 L0 [] ds nD 0 0 pc' L' st' ds1 nD' ce' sl' o T A K D hr hsc hD0 hnD ⟨h0,[],X0,e0,Y,Keep.refl _ _,fun i h1 h2=>by omega,Fr.nil n0,hn,Nat.le_refl _⟩ hv ?_
 intro T' A' K' hAK hle S'
 obtain⟨h',locs',X',e',Y',Kp,hsz,N,hn',hnB⟩:=S'
 have hkr:(List.range ds.length).map A'=(List.range ds.length).map A:=List.map_congr_left fun i hi=>(hAK i (List.mem_range.mp hi)).1
 rw[hkr] at Kp
 have Q:∀r,r=res.map (den A' (ca o nD D) W)→QF Z n0 h0 A K D W ((mn,as,ds,nD),(res,ds1,o),RR) r h' locs':=fun r hr=>⟨A',K',hAK,hsz,hr,N,Kp,Y',hle⟩
 unfold IW at hret
 split at hret
 ·next e1 e2=>exact Nk X' hx hlk (hretT.trans e1) (by rw[hby];exact e2) hce hsl e' (Q _ rfl)
 ·next x r y e1 e2 =>
  have q:x=y:=by simpa using hret
  subst q
  exact zr X' hx hlk (hretT.trans e1) (by rw[hby];exact e2) hce hsl e' (Q _ rfl)
 ·next x r y e1 e2 =>
  have q:x=y:=by simpa using hret
  subst q
  exact zr X' hx hlk (hretT.trans e1) (by rw[hby];exact e2) hce hsl e' (Q _ rfl)
 ·next x r y e1 e2 =>
  simp only[Bool.and_eq_true,beq_iff_eq] at hret
  obtain⟨rfl,q⟩:=hret
  exact h_ X' hx hlk (hretT.trans e1) (by rw[hby];exact e2) hce hsl e' (Q _ (by rw[q];rfl))
 ·next x r y e1 e2 =>
  have q:x=y:=by simpa using hret
  subst q
  exact Nj X' hx hlk (hretT.trans e1) (by rw[hby];exact e2) hce hsl e' (Q _ rfl)
 ·next x r y e1 e2 =>
  have q:x=y:=by simpa using hret
  subst q
  exact Ni X' hx hlk (hretT.trans e1) (by rw[hby];exact e2) hce hsl e' (Q _ rfl)
 ·next t x r y e1 e2 =>
  have q:x=y:=by simpa using hret
  subst q
  exact mh X' hx hlk (hretT.trans e1) rfl rfl rfl (by rw[hby];exact e2) hce hsl e' (Q _ rfl)
 ·next t x r y e1 e2 =>
  have q:x=y:=by simpa using hret
  subst q
  exact mh X' hx hlk (hretT.trans e1) rfl rfl rfl (by rw[hby];exact e2) hce hsl e' (Q _ rfl)
 ·cases hret
end OwnExecZ
abbrev vU (n:Nat):Value := .retAddr n
abbrev vR (n:Nat):Value := .ref n
abbrev vI (n:Int32):Value := .int n
abbrev vD (n:UInt64):Value := .double n
abbrev sR (n:Nat):Slot := .val (.ref n)
abbrev sI (n:Int32):Slot := .val (.int n)
abbrev sD (n:UInt64):Slot := .val (.double n)
abbrev sF (n:UInt32):Slot := .val (.float n)
abbrev sU:Slot := .unset
abbrev s2:Slot := .second
def uS (a n:Nat):List Value:=(List.range n).map fun i => .retAddr (a+i)
def rS (a n:Nat):List Value:=(List.range n).map fun i => .ref (a+i)
abbrev aI (l:List Int32):AD:=(64,l.length,l.map .int)
abbrev aD (l:List UInt64):AD:=(65,l.length,l.map .double)
abbrev aR (c:Nat)(l:List Nat):AD:=(c,l.length,l.map .ref)
abbrev aU (c a n:Nat):AD:=(c,n,uS a n)
def an:List AD→List (Nat×AD)→List AD
 | ds,[]=>ds
 | ds,(i,d)::t=>an (ds.set i d) t
theorem AF {Z:State}{a0:Array Value}(hw:HW a0 Z):Lds Z a0 (cI 0) (a_ 0):=by
 intro f hf
 simp only[a_,List.mem_cons,List.not_mem_nil,or_false] at hf
 rcases hf with rfl|rfl|rfl|rfl|rfl|rfl|rfl|rfl|rfl|rfl|rfl|rfl|rfl|rfl|rfl|rfl|rfl|rfl|rfl|rfl|rfl|rfl|rfl|rfl|rfl|rfl|rfl|rfl|rfl
 ·exact⟨(Or.inl (tw hw 29 rfl)),(.array .int),by decide⟩
 ·exact⟨(Or.inl (tw hw 31 rfl)),(.array .double),by decide⟩
 ·exact⟨(Or.inl (tw hw 33 rfl)),(.array .int),by decide⟩
 ·exact⟨(Or.inl (tw hw 35 rfl)),(.array .double),by decide⟩
 ·exact⟨(Or.inl (tw hw 37 rfl)),(.array .int),by decide⟩
 ·exact⟨(Or.inl (tw hw 39 rfl)),(.array .double),by decide⟩
 ·exact⟨(Or.inl (tw hw 41 rfl)),(.array .int),by decide⟩
 ·exact⟨(Or.inl (tw hw 43 rfl)),(.array .double),by decide⟩
 ·exact⟨(Or.inl (tw hw 45 rfl)),(.array .int),by decide⟩
 ·exact⟨(Or.inl (tw hw 47 rfl)),(.array .double),by decide⟩
 ·exact⟨(Or.inl (tw hw 49 rfl)),(.array .int),by decide⟩
 ·exact⟨(Or.inl (tw hw 51 rfl)),(.array .int),by decide⟩
 ·exact⟨(Or.inl (tw hw 53 rfl)),(.array .double),by decide⟩
 ·exact⟨(Or.inr (tw hw 55 rfl)),.int,by decide⟩
 ·exact⟨(Or.inr (tw hw 57 rfl)),(.array .int),by decide⟩
 ·exact⟨(Or.inr (tw hw 59 rfl)),(.array .int),by decide⟩
 ·exact⟨(Or.inr (tw hw 61 rfl)),(.array .double),by decide⟩
 ·exact⟨(Or.inr (tw hw 63 rfl)),(.array .int),by decide⟩
 ·exact⟨(Or.inr (tw hw 65 rfl)),(.array .int),by decide⟩
 ·exact⟨(Or.inr (tw hw 67 rfl)),(.array .int),by decide⟩
 ·exact⟨(Or.inr (tw hw 69 rfl)),(.array .int),by decide⟩
 ·exact⟨(Or.inr (tw hw 71 rfl)),(.array .int),by decide⟩
 ·exact⟨(Or.inr (tw hw 73 rfl)),(.array .int),by decide⟩
 ·exact⟨(Or.inr (tw hw 89 rfl)),(.object "com/example/tracefold/tracefold/mining/SparseVector"),by decide⟩
 ·exact⟨(Or.inr (tw hw 91 rfl)),(.object "com/example/tracefold/tracefold/mining/SparseVector"),by decide⟩
 ·exact⟨(Or.inr (tw hw 93 rfl)),(.object "com/example/tracefold/tracefold/mining/SparseVector"),by decide⟩
 ·exact⟨(Or.inr (tw hw 95 rfl)),(.object "com/example/tracefold/tracefold/mining/SparseVector"),by decide⟩
 ·exact⟨(Or.inr (tw hw 112 rfl)),(.object "com/example/tracefold/tracefold/mining/FactoredInverse$StepQueue"),by decide⟩
 ·exact⟨(Or.inl (tw hw 121 rfl)),.int,by decide⟩
theorem AG:((a_ 0).map (·.2.1)).Pairwise (·≠·):=by decide +kernel
theorem AH {Z:State}{a0:Array Value}(hw:HW a0 Z):∀(j:Nat)(v:Value)(f:String×String×String),(gU 0)[j]? = some v→(a_ 0)[j]? = some f→Laid Z a0 (cI 0) f.1 f.2.1 f.2.2∧∃t,parseFieldDescriptor f.2.2=some t∧∀(A:Nat→Addr)(D:Nat→UInt64)(W:Nat→Value),D 0=0→den A D W v=defaultValue t:=by
 intro j v f h1 h2
 obtain⟨hl,-⟩:=List.getElem?_eq_some_iff.mp h1
 have hj:j<29:=hl
 match j,hj,h1,h2 with
 | 0,_,h1,h2=>cases h1;cases h2;exact⟨(Or.inl (tw hw 29 rfl)),(.array .int),by decide,fun A D W q=>rfl⟩
 | 1,_,h1,h2=>cases h1;cases h2;exact⟨(Or.inl (tw hw 31 rfl)),(.array .double),by decide,fun A D W q=>rfl⟩
 | 2,_,h1,h2=>cases h1;cases h2;exact⟨(Or.inl (tw hw 33 rfl)),(.array .int),by decide,fun A D W q=>rfl⟩
 | 3,_,h1,h2=>cases h1;cases h2;exact⟨(Or.inl (tw hw 35 rfl)),(.array .double),by decide,fun A D W q=>rfl⟩
 | 4,_,h1,h2=>cases h1;cases h2;exact⟨(Or.inl (tw hw 37 rfl)),(.array .int),by decide,fun A D W q=>rfl⟩
 | 5,_,h1,h2=>cases h1;cases h2;exact⟨(Or.inl (tw hw 39 rfl)),(.array .double),by decide,fun A D W q=>rfl⟩
 | 6,_,h1,h2=>cases h1;cases h2;exact⟨(Or.inl (tw hw 41 rfl)),(.array .int),by decide,fun A D W q=>rfl⟩
 | 7,_,h1,h2=>cases h1;cases h2;exact⟨(Or.inl (tw hw 43 rfl)),(.array .double),by decide,fun A D W q=>rfl⟩
 | 8,_,h1,h2=>cases h1;cases h2;exact⟨(Or.inl (tw hw 45 rfl)),(.array .int),by decide,fun A D W q=>rfl⟩
 | 9,_,h1,h2=>cases h1;cases h2;exact⟨(Or.inl (tw hw 47 rfl)),(.array .double),by decide,fun A D W q=>rfl⟩
 | 10,_,h1,h2=>cases h1;cases h2;exact⟨(Or.inl (tw hw 49 rfl)),(.array .int),by decide,fun A D W q=>rfl⟩
 | 11,_,h1,h2=>cases h1;cases h2;exact⟨(Or.inl (tw hw 51 rfl)),(.array .int),by decide,fun A D W q=>rfl⟩
 | 12,_,h1,h2=>cases h1;cases h2;exact⟨(Or.inl (tw hw 53 rfl)),(.array .double),by decide,fun A D W q=>rfl⟩
 | 13,_,h1,h2=>cases h1;cases h2;exact⟨(Or.inr (tw hw 55 rfl)),.int,by decide,fun A D W q=>rfl⟩
 | 14,_,h1,h2=>cases h1;cases h2;exact⟨(Or.inr (tw hw 57 rfl)),(.array .int),by decide,fun A D W q=>rfl⟩
 | 15,_,h1,h2=>cases h1;cases h2;exact⟨(Or.inr (tw hw 59 rfl)),(.array .int),by decide,fun A D W q=>rfl⟩
 | 16,_,h1,h2=>cases h1;cases h2;exact⟨(Or.inr (tw hw 61 rfl)),(.array .double),by decide,fun A D W q=>rfl⟩
 | 17,_,h1,h2=>cases h1;cases h2;exact⟨(Or.inr (tw hw 63 rfl)),(.array .int),by decide,fun A D W q=>rfl⟩
 | 18,_,h1,h2=>cases h1;cases h2;exact⟨(Or.inr (tw hw 65 rfl)),(.array .int),by decide,fun A D W q=>rfl⟩
 | 19,_,h1,h2=>cases h1;cases h2;exact⟨(Or.inr (tw hw 67 rfl)),(.array .int),by decide,fun A D W q=>rfl⟩
 | 20,_,h1,h2=>cases h1;cases h2;exact⟨(Or.inr (tw hw 69 rfl)),(.array .int),by decide,fun A D W q=>rfl⟩
 | 21,_,h1,h2=>cases h1;cases h2;exact⟨(Or.inr (tw hw 71 rfl)),(.array .int),by decide,fun A D W q=>rfl⟩
 | 22,_,h1,h2=>cases h1;cases h2;exact⟨(Or.inr (tw hw 73 rfl)),(.array .int),by decide,fun A D W q=>rfl⟩
 | 23,_,h1,h2=>cases h1;cases h2;exact⟨(Or.inr (tw hw 89 rfl)),(.object "com/example/tracefold/tracefold/mining/SparseVector"),by decide,fun A D W q=>rfl⟩
 | 24,_,h1,h2=>cases h1;cases h2;exact⟨(Or.inr (tw hw 91 rfl)),(.object "com/example/tracefold/tracefold/mining/SparseVector"),by decide,fun A D W q=>rfl⟩
 | 25,_,h1,h2=>cases h1;cases h2;exact⟨(Or.inr (tw hw 93 rfl)),(.object "com/example/tracefold/tracefold/mining/SparseVector"),by decide,fun A D W q=>rfl⟩
 | 26,_,h1,h2=>cases h1;cases h2;exact⟨(Or.inr (tw hw 95 rfl)),(.object "com/example/tracefold/tracefold/mining/SparseVector"),by decide,fun A D W q=>rfl⟩
 | 27,_,h1,h2=>cases h1;cases h2;exact⟨(Or.inr (tw hw 112 rfl)),(.object "com/example/tracefold/tracefold/mining/FactoredInverse$StepQueue"),by decide,fun A D W q=>rfl⟩
 | 28,_,h1,h2=>cases h1;cases h2;exact⟨(Or.inl (tw hw 121 rfl)),.int,by decide,fun A D W q=>rfl⟩
theorem AI {Z:State}{a0:Array Value}(hw:HW a0 Z):Lds Z a0 (cI 1) (a_ 1):=by
 intro f hf
 simp only[a_,List.mem_cons,List.not_mem_nil,or_false] at hf
 rcases hf with rfl|rfl|rfl|rfl
 ·exact⟨(Or.inr (tw hw 82 rfl)),(.array .double),by decide⟩
 ·exact⟨(Or.inr (tw hw 85 rfl)),(.array .boolean),by decide⟩
 ·exact⟨(Or.inl (tw hw 87 rfl)),(.array .int),by decide⟩
 ·exact⟨(Or.inl (tw hw 306 rfl)),.int,by decide⟩
theorem AJ:((a_ 1).map (·.2.1)).Pairwise (·≠·):=by decide +kernel
theorem qo {Z:State}{a0:Array Value}(hw:HW a0 Z):∀(j:Nat)(v:Value)(f:String×String×String),(gU 1)[j]? = some v→(a_ 1)[j]? = some f→Laid Z a0 (cI 1) f.1 f.2.1 f.2.2∧∃t,parseFieldDescriptor f.2.2=some t∧∀(A:Nat→Addr)(D:Nat→UInt64)(W:Nat→Value),D 0=0→den A D W v=defaultValue t:=by
 intro j v f h1 h2
 obtain⟨hl,-⟩:=List.getElem?_eq_some_iff.mp h1
 have hj:j<4:=hl
 match j,hj,h1,h2 with
 | 0,_,h1,h2=>cases h1;cases h2;exact⟨(Or.inr (tw hw 82 rfl)),(.array .double),by decide,fun A D W q=>rfl⟩
 | 1,_,h1,h2=>cases h1;cases h2;exact⟨(Or.inr (tw hw 85 rfl)),(.array .boolean),by decide,fun A D W q=>rfl⟩
 | 2,_,h1,h2=>cases h1;cases h2;exact⟨(Or.inl (tw hw 87 rfl)),(.array .int),by decide,fun A D W q=>rfl⟩
 | 3,_,h1,h2=>cases h1;cases h2;exact⟨(Or.inl (tw hw 306 rfl)),.int,by decide,fun A D W q=>rfl⟩
theorem AK {Z:State}{a0:Array Value}(hw:HW a0 Z):Lds Z a0 (cI 2) (a_ 2):=by
 intro f hf
 simp only[a_,List.mem_cons,List.not_mem_nil,or_false] at hf
 rcases hf with rfl|rfl|rfl|rfl
 ·exact⟨(Or.inl (tw hw 104 rfl)),.int,by decide⟩
 ·exact⟨(Or.inr (tw hw 106 rfl)),.int,by decide⟩
 ·exact⟨(Or.inr (tw hw 108 rfl)),(.array .int),by decide⟩
 ·exact⟨(Or.inr (tw hw 110 rfl)),(.array .boolean),by decide⟩
theorem AL:((a_ 2).map (·.2.1)).Pairwise (·≠·):=by decide +kernel
theorem AM {Z:State}{a0:Array Value}(hw:HW a0 Z):∀(j:Nat)(v:Value)(f:String×String×String),(gU 2)[j]? = some v→(a_ 2)[j]? = some f→Laid Z a0 (cI 2) f.1 f.2.1 f.2.2∧∃t,parseFieldDescriptor f.2.2=some t∧∀(A:Nat→Addr)(D:Nat→UInt64)(W:Nat→Value),D 0=0→den A D W v=defaultValue t:=by
 intro j v f h1 h2
 obtain⟨hl,-⟩:=List.getElem?_eq_some_iff.mp h1
 have hj:j<4:=hl
 match j,hj,h1,h2 with
 | 0,_,h1,h2=>cases h1;cases h2;exact⟨(Or.inl (tw hw 104 rfl)),.int,by decide,fun A D W q=>rfl⟩
 | 1,_,h1,h2=>cases h1;cases h2;exact⟨(Or.inr (tw hw 106 rfl)),.int,by decide,fun A D W q=>rfl⟩
 | 2,_,h1,h2=>cases h1;cases h2;exact⟨(Or.inr (tw hw 108 rfl)),(.array .int),by decide,fun A D W q=>rfl⟩
 | 3,_,h1,h2=>cases h1;cases h2;exact⟨(Or.inr (tw hw 110 rfl)),(.array .boolean),by decide,fun A D W q=>rfl⟩
theorem AN {Z:State}{a0:Array Value}(hw:HW a0 Z):Lds Z a0 (cI 3) (a_ 3):=by
 intro f hf
 simp only[a_,List.mem_cons,List.not_mem_nil,or_false] at hf
 rcases hf with rfl|rfl|rfl|rfl|rfl|rfl|rfl|rfl|rfl|rfl|rfl
 ·exact⟨(Or.inr (tw hw 129 rfl)),(.object "com/example/tracefold/tracefold/mining/FactoredInverse"),by decide⟩
 ·exact⟨(Or.inr (tw hw 134 rfl)),(.array (.array .int)),by decide⟩
 ·exact⟨(Or.inr (tw hw 137 rfl)),(.array (.array .double)),by decide⟩
 ·exact⟨(Or.inr (tw hw 139 rfl)),(.array .int),by decide⟩
 ·exact⟨(Or.inr (tw hw 141 rfl)),(.array .int),by decide⟩
 ·exact⟨(Or.inr (tw hw 166 rfl)),(.array (.array .int)),by decide⟩
 ·exact⟨(Or.inr (tw hw 191 rfl)),(.object "com/example/tracefold/tracefold/mining/FactoredInverse$Lists"),by decide⟩
 ·exact⟨(Or.inr (tw hw 193 rfl)),(.object "com/example/tracefold/tracefold/mining/FactoredInverse$Lists"),by decide⟩
 ·exact⟨(Or.inr (tw hw 195 rfl)),(.array .int),by decide⟩
 ·exact⟨(Or.inl (tw hw 246 rfl)),.int,by decide⟩
 ·exact⟨(Or.inl (tw hw 275 rfl)),.int,by decide⟩
theorem AO:((a_ 3).map (·.2.1)).Pairwise (·≠·):=by decide +kernel
theorem AP {Z:State}{a0:Array Value}(hw:HW a0 Z):∀(j:Nat)(v:Value)(f:String×String×String),(gU 3)[j]? = some v→(a_ 3)[j]? = some f→Laid Z a0 (cI 3) f.1 f.2.1 f.2.2∧∃t,parseFieldDescriptor f.2.2=some t∧∀(A:Nat→Addr)(D:Nat→UInt64)(W:Nat→Value),D 0=0→den A D W v=defaultValue t:=by
 intro j v f h1 h2
 obtain⟨hl,-⟩:=List.getElem?_eq_some_iff.mp h1
 have hj:j<11:=hl
 match j,hj,h1,h2 with
 | 0,_,h1,h2=>cases h1;cases h2;exact⟨(Or.inr (tw hw 129 rfl)),(.object "com/example/tracefold/tracefold/mining/FactoredInverse"),by decide,fun A D W q=>rfl⟩
 | 1,_,h1,h2=>cases h1;cases h2;exact⟨(Or.inr (tw hw 134 rfl)),(.array (.array .int)),by decide,fun A D W q=>rfl⟩
 | 2,_,h1,h2=>cases h1;cases h2;exact⟨(Or.inr (tw hw 137 rfl)),(.array (.array .double)),by decide,fun A D W q=>rfl⟩
 | 3,_,h1,h2=>cases h1;cases h2;exact⟨(Or.inr (tw hw 139 rfl)),(.array .int),by decide,fun A D W q=>rfl⟩
 | 4,_,h1,h2=>cases h1;cases h2;exact⟨(Or.inr (tw hw 141 rfl)),(.array .int),by decide,fun A D W q=>rfl⟩
 | 5,_,h1,h2=>cases h1;cases h2;exact⟨(Or.inr (tw hw 166 rfl)),(.array (.array .int)),by decide,fun A D W q=>rfl⟩
 | 6,_,h1,h2=>cases h1;cases h2;exact⟨(Or.inr (tw hw 191 rfl)),(.object "com/example/tracefold/tracefold/mining/FactoredInverse$Lists"),by decide,fun A D W q=>rfl⟩
 | 7,_,h1,h2=>cases h1;cases h2;exact⟨(Or.inr (tw hw 193 rfl)),(.object "com/example/tracefold/tracefold/mining/FactoredInverse$Lists"),by decide,fun A D W q=>rfl⟩
 | 8,_,h1,h2=>cases h1;cases h2;exact⟨(Or.inr (tw hw 195 rfl)),(.array .int),by decide,fun A D W q=>rfl⟩
 | 9,_,h1,h2=>cases h1;cases h2;exact⟨(Or.inl (tw hw 246 rfl)),.int,by decide,fun A D W q=>rfl⟩
 | 10,_,h1,h2=>cases h1;cases h2;exact⟨(Or.inl (tw hw 275 rfl)),.int,by decide,fun A D W q=>rfl⟩
theorem AQ {Z:State}{a0:Array Value}(hw:HW a0 Z):Lds Z a0 (cI 4) (a_ 4):=by
 intro f hf
 simp only[a_,List.mem_cons,List.not_mem_nil,or_false] at hf
 rcases hf with rfl|rfl|rfl|rfl
 ·exact⟨(Or.inr (tw hw 176 rfl)),(.array .int),by decide⟩
 ·exact⟨(Or.inr (tw hw 178 rfl)),(.array .int),by decide⟩
 ·exact⟨(Or.inr (tw hw 180 rfl)),(.array .int),by decide⟩
 ·exact⟨(Or.inr (tw hw 182 rfl)),(.array .int),by decide⟩
theorem AR:((a_ 4).map (·.2.1)).Pairwise (·≠·):=by decide +kernel
theorem AS {Z:State}{a0:Array Value}(hw:HW a0 Z):∀(j:Nat)(v:Value)(f:String×String×String),(gU 4)[j]? = some v→(a_ 4)[j]? = some f→Laid Z a0 (cI 4) f.1 f.2.1 f.2.2∧∃t,parseFieldDescriptor f.2.2=some t∧∀(A:Nat→Addr)(D:Nat→UInt64)(W:Nat→Value),D 0=0→den A D W v=defaultValue t:=by
 intro j v f h1 h2
 obtain⟨hl,-⟩:=List.getElem?_eq_some_iff.mp h1
 have hj:j<4:=hl
 match j,hj,h1,h2 with
 | 0,_,h1,h2=>cases h1;cases h2;exact⟨(Or.inr (tw hw 176 rfl)),(.array .int),by decide,fun A D W q=>rfl⟩
 | 1,_,h1,h2=>cases h1;cases h2;exact⟨(Or.inr (tw hw 178 rfl)),(.array .int),by decide,fun A D W q=>rfl⟩
 | 2,_,h1,h2=>cases h1;cases h2;exact⟨(Or.inr (tw hw 180 rfl)),(.array .int),by decide,fun A D W q=>rfl⟩
 | 3,_,h1,h2=>cases h1;cases h2;exact⟨(Or.inr (tw hw 182 rfl)),(.array .int),by decide,fun A D W q=>rfl⟩
theorem ef {Z:State}{a0:Array Value}(hw:HW a0 Z):eS Z a0:=fun c _=>match c with
 | 0=>⟨AF hw,AG⟩
 | 1=>⟨AI hw,AJ⟩
 | 2=>⟨AK hw,AL⟩
 | 3=>⟨AN hw,AO⟩
 | 4=>⟨AQ hw,AR⟩
 | _+5=>⟨(fun _ q=>by cases q),List.Pairwise.nil⟩
theorem eg {Z:State}{a0:Array Value}(hw:HW a0 Z):fq Z a0:=⟨(tw hw 10 rfl),(tw hw 17 rfl),(tw hw 83 rfl),(tw hw 5 rfl),(tw hw 13 rfl)⟩
def gF:Nat→Option (Nat×Nat)
 | 7=>some (0,0)
 | 13=>some (0,1)
 | 17=>some (0,2)
 | 20=>some (0,3)
 | 23=>some (0,4)
 | 26=>some (0,5)
 | 29=>some (0,6)
 | 32=>some (0,7)
 | 35=>some (0,8)
 | 38=>some (0,9)
 | 41=>some (0,10)
 | 44=>some (0,11)
 | 47=>some (0,12)
 | 50=>some (0,13)
 | 54=>some (0,14)
 | 57=>some (0,15)
 | 60=>some (0,16)
 | 63=>some (0,17)
 | 66=>some (0,18)
 | 69=>some (0,19)
 | 72=>some (0,20)
 | 75=>some (0,21)
 | 78=>some (0,22)
 | 86=>some (0,23)
 | 90=>some (0,24)
 | 93=>some (0,25)
 | 96=>some (0,26)
 | 102=>some (0,27)
 | 106=>some (0,28)
 | _=>none
def gG:Nat→Option String
 | 136=>some "[D"
 | _=>none
def ig:Nat→Option Value

 | _=>none
def kA:Nat→Option FieldType
 | 7=>some (.array .int)
 | 13=>some (.array .double)
 | 17=>some (.array .int)
 | 20=>some (.array .double)
 | 23=>some (.array .int)
 | 26=>some (.array .double)
 | 29=>some (.array .int)
 | 32=>some (.array .double)
 | 35=>some (.array .int)
 | 38=>some (.array .double)
 | 41=>some (.array .int)
 | 44=>some (.array .int)
 | 47=>some (.array .double)
 | 50=>some .int
 | 54=>some (.array .int)
 | 57=>some (.array .int)
 | 60=>some (.array .double)
 | 63=>some (.array .int)
 | 66=>some (.array .int)
 | 69=>some (.array .int)
 | 72=>some (.array .int)
 | 75=>some (.array .int)
 | 78=>some (.array .int)
 | 86=>some (.object "com/example/tracefold/tracefold/mining/SparseVector")
 | 90=>some (.object "com/example/tracefold/tracefold/mining/SparseVector")
 | 93=>some (.object "com/example/tracefold/tracefold/mining/SparseVector")
 | 96=>some (.object "com/example/tracefold/tracefold/mining/SparseVector")
 | 102=>some (.object "com/example/tracefold/tracefold/mining/FactoredInverse$StepQueue")
 | _=>none
def kB:Nat→Option FieldType
 | 23=>some (.array .int)
 | 26=>some (.array .double)
 | 29=>some (.array .int)
 | 32=>some (.array .double)
 | 106=>some .int
 | _=>none
def jo:Nat→Option (Nat×Nat)
 | 81=>some (1,4)
 | 99=>some (2,6)
 | 109=>some (3,11)
 | _=>none
def jp:Instr→Option (Nat×Nat×Nat×Nat)
 | .invokespecial 83=>some (2,6,1,0)
 | .invokespecial 101=>some (2,7,1,0)
 | .invokespecial 111=>some (2,9,3,0)
 | .invokestatic 125=>some (0,14,2,0)
 | .invokestatic 131=>some (0,11,2,0)
 | .invokevirtual 114=>some (1,16,0,3)
 | .invokevirtual 118=>some (1,23,3,3)
 | .invokevirtual 122=>some (1,31,0,0)
 | .invokevirtual 162=>some (1,37,1,1)
 | .invokevirtual 173=>some (1,35,0,1)
 | .invokevirtual 176=>some (1,36,1,1)
 | _=>none
def jq:Instr→Option (Nat×Nat)
 | .invokespecial 1=>some (5,0)
 | .invokevirtual 135=>some (1,65)
 | _=>none
theorem qp {Z:State}{a0:Array Value}(hw:HW a0 Z):cL Z a0 "com/example/tracefold/tracefold/mining/FactoredInverse" (gF,gG,ig):=by
 refine⟨fun i c j h=>?_,fun i C h=>?_,fun i v h=>?_⟩
 ·dsimp only at h
  unfold gF at h
  split at h
  ·cases h;exact⟨by decide,_,_,"",rfl,Or.inl (tw hw 28 rfl),Via.refl⟩
  ·cases h;exact⟨by decide,_,_,"",rfl,Or.inl (tw hw 30 rfl),Via.refl⟩
  ·cases h;exact⟨by decide,_,_,"",rfl,Or.inl (tw hw 32 rfl),Via.refl⟩
  ·cases h;exact⟨by decide,_,_,"",rfl,Or.inl (tw hw 34 rfl),Via.refl⟩
  ·cases h;exact⟨by decide,_,_,"",rfl,Or.inl (tw hw 36 rfl),Via.refl⟩
  ·cases h;exact⟨by decide,_,_,"",rfl,Or.inl (tw hw 38 rfl),Via.refl⟩
  ·cases h;exact⟨by decide,_,_,"",rfl,Or.inl (tw hw 40 rfl),Via.refl⟩
  ·cases h;exact⟨by decide,_,_,"",rfl,Or.inl (tw hw 42 rfl),Via.refl⟩
  ·cases h;exact⟨by decide,_,_,"",rfl,Or.inl (tw hw 44 rfl),Via.refl⟩
  ·cases h;exact⟨by decide,_,_,"",rfl,Or.inl (tw hw 46 rfl),Via.refl⟩
  ·cases h;exact⟨by decide,_,_,"",rfl,Or.inl (tw hw 48 rfl),Via.refl⟩
  ·cases h;exact⟨by decide,_,_,"",rfl,Or.inl (tw hw 50 rfl),Via.refl⟩
  ·cases h;exact⟨by decide,_,_,"",rfl,Or.inl (tw hw 52 rfl),Via.refl⟩
  ·cases h;exact⟨by decide,_,_,"",rfl,Or.inl (tw hw 54 rfl),Via.refl⟩
  ·cases h;exact⟨by decide,_,_,"",rfl,Or.inl (tw hw 56 rfl),Via.refl⟩
  ·cases h;exact⟨by decide,_,_,"",rfl,Or.inl (tw hw 58 rfl),Via.refl⟩
  ·cases h;exact⟨by decide,_,_,"",rfl,Or.inl (tw hw 60 rfl),Via.refl⟩
  ·cases h;exact⟨by decide,_,_,"",rfl,Or.inl (tw hw 62 rfl),Via.refl⟩
  ·cases h;exact⟨by decide,_,_,"",rfl,Or.inl (tw hw 64 rfl),Via.refl⟩
  ·cases h;exact⟨by decide,_,_,"",rfl,Or.inl (tw hw 66 rfl),Via.refl⟩
  ·cases h;exact⟨by decide,_,_,"",rfl,Or.inl (tw hw 68 rfl),Via.refl⟩
  ·cases h;exact⟨by decide,_,_,"",rfl,Or.inl (tw hw 70 rfl),Via.refl⟩
  ·cases h;exact⟨by decide,_,_,"",rfl,Or.inl (tw hw 72 rfl),Via.refl⟩
  ·cases h;exact⟨by decide,_,_,"",rfl,Or.inl (tw hw 88 rfl),Via.refl⟩
  ·cases h;exact⟨by decide,_,_,"",rfl,Or.inl (tw hw 90 rfl),Via.refl⟩
  ·cases h;exact⟨by decide,_,_,"",rfl,Or.inl (tw hw 92 rfl),Via.refl⟩
  ·cases h;exact⟨by decide,_,_,"",rfl,Or.inl (tw hw 94 rfl),Via.refl⟩
  ·cases h;exact⟨by decide,_,_,"",rfl,Or.inl (tw hw 111 rfl),Via.refl⟩
  ·cases h;exact⟨by decide,_,_,"",rfl,Or.inl (tw hw 120 rfl),Via.refl⟩
  ·cases h
 ·dsimp only at h
  unfold gG at h
  split at h
  ·cases h;exact (tw hw 299 rfl)
  ·cases h
 ·cases h
theorem x_ {Z:State}{a0:Array Value}(hw:HW a0 Z):gj Z a0 "com/example/tracefold/tracefold/mining/FactoredInverse" "<init>" kA (gF,gG,ig):=by
 intro i ty h
 unfold kA at h
 split at h
 ·cases h;intro cc j hj;cases hj;exact⟨_,_,rfl,Or.inl (tw hw 29 rfl),(tw hw 20 rfl),by decide⟩
 ·cases h;intro cc j hj;cases hj;exact⟨_,_,rfl,Or.inl (tw hw 31 rfl),(tw hw 20 rfl),by decide⟩
 ·cases h;intro cc j hj;cases hj;exact⟨_,_,rfl,Or.inl (tw hw 33 rfl),(tw hw 20 rfl),by decide⟩
 ·cases h;intro cc j hj;cases hj;exact⟨_,_,rfl,Or.inl (tw hw 35 rfl),(tw hw 20 rfl),by decide⟩
 ·cases h;intro cc j hj;cases hj;exact⟨_,_,rfl,Or.inl (tw hw 37 rfl),(tw hw 20 rfl),by decide⟩
 ·cases h;intro cc j hj;cases hj;exact⟨_,_,rfl,Or.inl (tw hw 39 rfl),(tw hw 20 rfl),by decide⟩
 ·cases h;intro cc j hj;cases hj;exact⟨_,_,rfl,Or.inl (tw hw 41 rfl),(tw hw 20 rfl),by decide⟩
 ·cases h;intro cc j hj;cases hj;exact⟨_,_,rfl,Or.inl (tw hw 43 rfl),(tw hw 20 rfl),by decide⟩
 ·cases h;intro cc j hj;cases hj;exact⟨_,_,rfl,Or.inl (tw hw 45 rfl),(tw hw 20 rfl),by decide⟩
 ·cases h;intro cc j hj;cases hj;exact⟨_,_,rfl,Or.inl (tw hw 47 rfl),(tw hw 20 rfl),by decide⟩
 ·cases h;intro cc j hj;cases hj;exact⟨_,_,rfl,Or.inl (tw hw 49 rfl),(tw hw 20 rfl),by decide⟩
 ·cases h;intro cc j hj;cases hj;exact⟨_,_,rfl,Or.inl (tw hw 51 rfl),(tw hw 20 rfl),by decide⟩
 ·cases h;intro cc j hj;cases hj;exact⟨_,_,rfl,Or.inl (tw hw 53 rfl),(tw hw 20 rfl),by decide⟩
 ·cases h;intro cc j hj;cases hj;exact⟨_,_,rfl,Or.inr ⟨(tw hw 55 rfl),rfl,rfl⟩,(tw hw 20 rfl),by decide⟩
 ·cases h;intro cc j hj;cases hj;exact⟨_,_,rfl,Or.inr ⟨(tw hw 57 rfl),rfl,rfl⟩,(tw hw 20 rfl),by decide⟩
 ·cases h;intro cc j hj;cases hj;exact⟨_,_,rfl,Or.inr ⟨(tw hw 59 rfl),rfl,rfl⟩,(tw hw 20 rfl),by decide⟩
 ·cases h;intro cc j hj;cases hj;exact⟨_,_,rfl,Or.inr ⟨(tw hw 61 rfl),rfl,rfl⟩,(tw hw 20 rfl),by decide⟩
 ·cases h;intro cc j hj;cases hj;exact⟨_,_,rfl,Or.inr ⟨(tw hw 63 rfl),rfl,rfl⟩,(tw hw 20 rfl),by decide⟩
 ·cases h;intro cc j hj;cases hj;exact⟨_,_,rfl,Or.inr ⟨(tw hw 65 rfl),rfl,rfl⟩,(tw hw 20 rfl),by decide⟩
 ·cases h;intro cc j hj;cases hj;exact⟨_,_,rfl,Or.inr ⟨(tw hw 67 rfl),rfl,rfl⟩,(tw hw 20 rfl),by decide⟩
 ·cases h;intro cc j hj;cases hj;exact⟨_,_,rfl,Or.inr ⟨(tw hw 69 rfl),rfl,rfl⟩,(tw hw 20 rfl),by decide⟩
 ·cases h;intro cc j hj;cases hj;exact⟨_,_,rfl,Or.inr ⟨(tw hw 71 rfl),rfl,rfl⟩,(tw hw 20 rfl),by decide⟩
 ·cases h;intro cc j hj;cases hj;exact⟨_,_,rfl,Or.inr ⟨(tw hw 73 rfl),rfl,rfl⟩,(tw hw 20 rfl),by decide⟩
 ·cases h;intro cc j hj;cases hj;exact⟨_,_,rfl,Or.inr ⟨(tw hw 89 rfl),rfl,rfl⟩,(tw hw 20 rfl),by decide⟩
 ·cases h;intro cc j hj;cases hj;exact⟨_,_,rfl,Or.inr ⟨(tw hw 91 rfl),rfl,rfl⟩,(tw hw 20 rfl),by decide⟩
 ·cases h;intro cc j hj;cases hj;exact⟨_,_,rfl,Or.inr ⟨(tw hw 93 rfl),rfl,rfl⟩,(tw hw 20 rfl),by decide⟩
 ·cases h;intro cc j hj;cases hj;exact⟨_,_,rfl,Or.inr ⟨(tw hw 95 rfl),rfl,rfl⟩,(tw hw 20 rfl),by decide⟩
 ·cases h;intro cc j hj;cases hj;exact⟨_,_,rfl,Or.inr ⟨(tw hw 112 rfl),rfl,rfl⟩,(tw hw 20 rfl),by decide⟩
 ·cases h
theorem ya {Z:State}{a0:Array Value}(hw:HW a0 Z)(mn:String):gj Z a0 "com/example/tracefold/tracefold/mining/FactoredInverse" mn kB (gF,gG,ig):=by
 intro i ty h
 unfold kB at h
 split at h
 ·cases h;intro cc j hj;cases hj;exact⟨_,_,rfl,Or.inl (tw hw 37 rfl),(tw hw 20 rfl),by decide⟩
 ·cases h;intro cc j hj;cases hj;exact⟨_,_,rfl,Or.inl (tw hw 39 rfl),(tw hw 20 rfl),by decide⟩
 ·cases h;intro cc j hj;cases hj;exact⟨_,_,rfl,Or.inl (tw hw 41 rfl),(tw hw 20 rfl),by decide⟩
 ·cases h;intro cc j hj;cases hj;exact⟨_,_,rfl,Or.inl (tw hw 43 rfl),(tw hw 20 rfl),by decide⟩
 ·cases h;intro cc j hj;cases hj;exact⟨_,_,rfl,Or.inl (tw hw 121 rfl),(tw hw 20 rfl),by decide⟩
 ·cases h
theorem qq {Z:State}{a0:Array Value}(hw:HW a0 Z):iP Z a0 "com/example/tracefold/tracefold/mining/FactoredInverse" jo:=by
 intro i cc n h
 unfold jo at h
 split at h
 ·cases h;exact⟨by decide,(tw hw 74 rfl),(tw hw 75 rfl),(tw hw 76 rfl),qo hw⟩
 ·cases h;exact⟨by decide,(tw hw 96 rfl),(tw hw 97 rfl),(tw hw 98 rfl),AM hw⟩
 ·cases h;exact⟨by decide,(tw hw 122 rfl),(tw hw 123 rfl),(tw hw 124 rfl),AP hw⟩
 ·cases h
theorem qr {Z:State}{a0:Array Value}(hw:HW a0 Z):fk Z "com/example/tracefold/tracefold/mining/FactoredInverse" jp:=by
 intro op kd mn np rc h
 unfold jp at h
 split at h
 ·cases h;intro p l e R s m args below meth c T locs cells slots h Ev rm as' Q argsL rest b pc Ls X hx hZ hown hM eT hE has hsz hnp hf hl hc hs hd K;exact kz X hx hZ rfl hown (tw hw 77 rfl) (tw hw 78 rfl) (tw hw 76 rfl) (tw hw 79 rfl) (by decide) hM eT (a:=b) rfl has _ _ rfl hsz (lenOf iD hnp) (Nat.le_refl _) hf hl hc hs hd K
 ·cases h;intro p l e R s m args below meth c T locs cells slots h Ev rm as' Q argsL rest b pc Ls X hx hZ hown hM eT hE has hsz hnp hf hl hc hs hd K;exact kz X hx hZ rfl hown (tw hw 99 rfl) (tw hw 100 rfl) (tw hw 98 rfl) (tw hw 101 rfl) (by decide) hM eT (a:=b) rfl has _ _ rfl hsz (lenOf iD hnp) (Nat.le_refl _) hf hl hc hs hd K
 ·cases h;intro p l e R s m args below meth c T locs cells slots h Ev rm as' Q argsL rest b pc Ls X hx hZ hown hM eT hE has hsz hnp hf hl hc hs hd K;exact kz X hx hZ rfl hown (tw hw 125 rfl) (tw hw 126 rfl) (tw hw 124 rfl) (tw hw 127 rfl) (by decide) hM eT (a:=b) rfl has _ _ rfl hsz (lenOf HN hnp) (Nat.le_refl _) hf hl hc hs hd K
 ·cases h;intro p l e R s m args below meth c T locs cells slots h Ev rm as' Q argsL rest b pc Ls X hx hZ hown hM eT hE has hsz hnp hf hl hc hs hd K;exact dy X hx hZ hown (tw hw 291 rfl) (tw hw 184 rfl) (tw hw 147 rfl) (tw hw 185 rfl) (by decide) hM eT rfl has _ _ rfl hsz (lenOf mi hnp) (Nat.le_refl _) hf hl hc hs hd K
 ·cases h;intro p l e R s m args below meth c T locs cells slots h Ev rm as' Q argsL rest b pc Ls X hx hZ hown hM eT hE has hsz hnp hf hl hc hs hd K;exact dy X hx hZ hown (tw hw 292 rfl) (tw hw 146 rfl) (tw hw 147 rfl) (tw hw 148 rfl) (by decide) hM eT rfl has _ _ rfl hsz (lenOf uJ hnp) (Nat.le_refl _) hf hl hc hs hd K
 ·cases h;intro p l e R s m args below meth c T locs cells slots h Ev rm as' Q argsL rest b pc Ls X hx hZ hown hM eT hE has hsz hnp hf hl hc hs hd K;exact eB X hx hZ (C := "com/example/tracefold/tracefold/mining/FactoredInverse$Elimination") hown (tw hw 197 rfl) (tw hw 198 rfl) (tw hw 200 rfl) (tw hw 200 rfl) (tw hw 199 rfl) (tw hw 124 rfl) (tw hw 201 rfl) (by decide) hM eT (b:=b) (hE rfl) rfl has _ _ rfl hsz (lenOf zO hnp) (Nat.le_refl _) hf hl hc hs hd K
 ·cases h;intro p l e R s m args below meth c T locs cells slots h Ev rm as' Q argsL rest b pc Ls X hx hZ hown hM eT hE has hsz hnp hf hl hc hs hd K;exact eB X hx hZ (C := "com/example/tracefold/tracefold/mining/FactoredInverse$Elimination") hown (tw hw 230 rfl) (tw hw 231 rfl) (tw hw 233 rfl) (tw hw 233 rfl) (tw hw 232 rfl) (tw hw 124 rfl) (tw hw 234 rfl) (by decide) hM eT (b:=b) (hE rfl) rfl has _ _ rfl hsz (lenOf zQ hnp) (Nat.le_refl _) hf hl hc hs hd K
 ·cases h;intro p l e R s m args below meth c T locs cells slots h Ev rm as' Q argsL rest b pc Ls X hx hZ hown hM eT hE has hsz hnp hf hl hc hs hd K;exact gT X hx hZ (C := "com/example/tracefold/tracefold/mining/FactoredInverse") (z:=({ cls := "com/example/tracefold/tracefold/mining/FactoredInverse",name := "invert",desc := "([[I[[D)Z" }:Jvm.MethodName)) hown (tw hw 287 rfl) (tw hw 289 rfl) (tw hw 118 rfl) rfl (tw hw 288 rfl) (tw hw 21 rfl) (tw hw 290 rfl) (by decide) hM eT (b:=b) (hE rfl) rfl has _ _ rfl hsz (lenOf HL hnp) (Nat.le_refl _) hf hl hc hs hd K
 ·cases h;intro p l e R s m args below meth c T locs cells slots h Ev rm as' Q argsL rest b pc Ls X hx hZ hown hM eT hE has hsz hnp hf hl hc hs hd K;exact eB X hx hZ (C := "com/example/tracefold/tracefold/mining/SparseVector") hown (tw hw 322 rfl) (tw hw 323 rfl) (tw hw 325 rfl) (tw hw 325 rfl) (tw hw 324 rfl) (tw hw 76 rfl) (tw hw 326 rfl) (by decide) hM eT (b:=b) (hE rfl) rfl has _ _ rfl hsz (lenOf zV hnp) (Nat.le_refl _) hf hl hc hs hd K
 ·cases h;intro p l e R s m args below meth c T locs cells slots h Ev rm as' Q argsL rest b pc Ls X hx hZ hown hM eT hE has hsz hnp hf hl hc hs hd K;exact eB X hx hZ (C := "com/example/tracefold/tracefold/mining/SparseVector") hown (tw hw 312 rfl) (tw hw 313 rfl) (tw hw 315 rfl) (tw hw 315 rfl) (tw hw 314 rfl) (tw hw 76 rfl) (tw hw 316 rfl) (by decide) hM eT (b:=b) (hE rfl) rfl has _ _ rfl hsz (lenOf zU hnp) (Nat.le_refl _) hf hl hc hs hd K
 ·cases h;intro p l e R s m args below meth c T locs cells slots h Ev rm as' Q argsL rest b pc Ls X hx hZ hown hM eT hE has hsz hnp hf hl hc hs hd K;exact eB X hx hZ (C := "com/example/tracefold/tracefold/mining/SparseVector") hown (tw hw 317 rfl) (tw hw 318 rfl) (tw hw 320 rfl) (tw hw 320 rfl) (tw hw 319 rfl) (tw hw 76 rfl) (tw hw 321 rfl) (by decide) hM eT (b:=b) (hE rfl) rfl has _ _ rfl hsz (lenOf mj hnp) (Nat.le_refl _) hf hl hc hs hd K
 ·cases h
theorem qs {Z:State}{a0:Array Value}(hw:HW a0 Z):iQ Z a0 "com/example/tracefold/tracefold/mining/FactoredInverse" jq:=by
 intro op k cd h
 unfold jq at h
 split at h
 ·cases h;exact Or.inr (Or.inr (Or.inr (Or.inr ⟨rfl,_,rfl,(tw hw 25 rfl),(tw hw 26 rfl),(tw hw 27 rfl)⟩)))
 ·cases h;exact Or.inl ⟨rfl,by decide,by decide,_,rfl,(tw hw 298 rfl),(tw hw 161 rfl),(tw hw 154 rfl),(tw hw 152 rfl),(tw hw 162 rfl),(tw hw 163 rfl)⟩
 ·cases h
def AT:Md:=((gF,gG,ig),kA,jo,jp,jq)
def ae:Md:=((gF,gG,ig),kB,jo,jp,jq)
theorem yb (Z:State)(a0:Array Value)(hw:HW a0 Z):jc Z a0 "com/example/tracefold/tracefold/mining/FactoredInverse" "<init>" AT∧eS Z a0∧fq Z a0:=⟨⟨qp hw,x_ hw,qq hw,qr hw,qs hw⟩,ef hw,eg hw⟩
theorem aA (mn:String)(Z:State)(a0:Array Value)(hw:HW a0 Z):jc Z a0 "com/example/tracefold/tracefold/mining/FactoredInverse" mn ae∧eS Z a0∧fq Z a0:=⟨⟨qp hw,ya hw mn,qq hw,qr hw,qs hw⟩,ef hw,eg hw⟩
def gH:Nat→Option (Nat×Nat)
 | 3=>some (3,0)
 | 15=>some (0,13)
 | 21=>some (3,1)
 | 27=>some (3,2)
 | 31=>some (3,3)
 | 34=>some (3,4)
 | 52=>some (3,5)
 | 60=>some (3,6)
 | 64=>some (3,7)
 | 67=>some (3,8)
 | 109=>some (0,14)
 | 112=>some (0,15)
 | 115=>some (0,21)
 | 118=>some (0,22)
 | 121=>some (0,16)
 | 124=>some (0,17)
 | 127=>some (3,9)
 | 144=>some (0,18)
 | 147=>some (3,10)
 | 165=>some (0,0)
 | 168=>some (0,1)
 | 171=>some (0,2)
 | 174=>some (0,3)
 | _=>none
def gI:Nat→Option String
 | 19=>some "[I"
 | 25=>some "[D"
 | _=>none
def gJ:Nat→Option Value
 | 74=>some (.long (-1))
 | 78=>some (.long 9223372036854775807)
 | 98=>some (.double 4472406533629990549)
 | 103=>some (.double 4591870180066957722)
 | 163=>some (.double 4397347889687374747)
 | _=>none
def kC:Nat→Option FieldType
 | 3=>some (.object "com/example/tracefold/tracefold/mining/FactoredInverse")
 | 21=>some (.array (.array .int))
 | 27=>some (.array (.array .double))
 | 31=>some (.array .int)
 | 34=>some (.array .int)
 | 52=>some (.array (.array .int))
 | 60=>some (.object "com/example/tracefold/tracefold/mining/FactoredInverse$Lists")
 | 64=>some (.object "com/example/tracefold/tracefold/mining/FactoredInverse$Lists")
 | 67=>some (.array .int)
 | _=>none
def kD:Nat→Option FieldType
 | 127=>some .int
 | 147=>some .int
 | 165=>some (.array .int)
 | 168=>some (.array .double)
 | 171=>some (.array .int)
 | 174=>some (.array .double)
 | _=>none
def jr:Nat→Option (Nat×Nat)
 | 55=>some (4,4)
 | _=>none
def js:Instr→Option (Nat×Nat×Nat×Nat)
 | .invokespecial 57=>some (2,13,2,0)
 | .invokestatic 37=>some (0,10,2,0)
 | .invokestatic 43=>some (0,11,2,0)
 | .invokestatic 49=>some (0,12,2,0)
 | .invokestatic 70=>some (0,14,2,0)
 | .invokevirtual 80=>some (1,17,1,4)
 | .invokevirtual 84=>some (1,18,2,3)
 | .invokevirtual 87=>some (1,19,2,3)
 | .invokevirtual 91=>some (1,22,1,4)
 | .invokevirtual 105=>some (1,24,2,3)
 | .invokevirtual 130=>some (1,25,2,3)
 | .invokevirtual 134=>some (1,26,1,4)
 | .invokevirtual 138=>some (1,27,2,3)
 | .invokevirtual 141=>some (1,28,2,4)
 | .invokevirtual 150=>some (1,29,2,3)
 | .invokevirtual 153=>some (1,30,3,3)
 | _=>none
def jt:Instr→Option (Nat×Nat)
 | .invokespecial 9=>some (5,0)
 | .invokestatic 94=>some (3,0)
 | .invokestatic 100=>some (4,0)
 | _=>none
theorem qt {Z:State}{a0:Array Value}(hw:HW a0 Z):cL Z a0 "com/example/tracefold/tracefold/mining/FactoredInverse$Elimination" (gH,gI,gJ):=by
 refine⟨fun i c j h=>?_,fun i C h=>?_,fun i v h=>?_⟩
 ·dsimp only at h
  unfold gH at h
  split at h
  ·cases h;exact⟨by decide,_,_,"",rfl,Or.inl (tw hw 128 rfl),Via.refl⟩
  ·cases h;exact⟨by decide,_,_,_,rfl,Or.inr (tw hw 131 rfl),Via.refl⟩
  ·cases h;exact⟨by decide,_,_,"",rfl,Or.inl (tw hw 133 rfl),Via.refl⟩
  ·cases h;exact⟨by decide,_,_,"",rfl,Or.inl (tw hw 136 rfl),Via.refl⟩
  ·cases h;exact⟨by decide,_,_,"",rfl,Or.inl (tw hw 138 rfl),Via.refl⟩
  ·cases h;exact⟨by decide,_,_,"",rfl,Or.inl (tw hw 140 rfl),Via.refl⟩
  ·cases h;exact⟨by decide,_,_,"",rfl,Or.inl (tw hw 165 rfl),Via.refl⟩
  ·cases h;exact⟨by decide,_,_,"",rfl,Or.inl (tw hw 190 rfl),Via.refl⟩
  ·cases h;exact⟨by decide,_,_,"",rfl,Or.inl (tw hw 192 rfl),Via.refl⟩
  ·cases h;exact⟨by decide,_,_,"",rfl,Or.inl (tw hw 194 rfl),Via.refl⟩
  ·cases h;exact⟨by decide,_,_,_,rfl,Or.inr (tw hw 239 rfl),Via.refl⟩
  ·cases h;exact⟨by decide,_,_,_,rfl,Or.inr (tw hw 240 rfl),Via.refl⟩
  ·cases h;exact⟨by decide,_,_,_,rfl,Or.inr (tw hw 241 rfl),Via.refl⟩
  ·cases h;exact⟨by decide,_,_,_,rfl,Or.inr (tw hw 242 rfl),Via.refl⟩
  ·cases h;exact⟨by decide,_,_,_,rfl,Or.inr (tw hw 243 rfl),Via.refl⟩
  ·cases h;exact⟨by decide,_,_,_,rfl,Or.inr (tw hw 244 rfl),Via.refl⟩
  ·cases h;exact⟨by decide,_,_,"",rfl,Or.inl (tw hw 245 rfl),Via.refl⟩
  ·cases h;exact⟨by decide,_,_,_,rfl,Or.inr (tw hw 273 rfl),Via.refl⟩
  ·cases h;exact⟨by decide,_,_,"",rfl,Or.inl (tw hw 274 rfl),Via.refl⟩
  ·cases h;exact⟨by decide,_,_,_,rfl,Or.inr (tw hw 251 rfl),Via.refl⟩
  ·cases h;exact⟨by decide,_,_,_,rfl,Or.inr (tw hw 257 rfl),Via.refl⟩
  ·cases h;exact⟨by decide,_,_,_,rfl,Or.inr (tw hw 280 rfl),Via.refl⟩
  ·cases h;exact⟨by decide,_,_,_,rfl,Or.inr (tw hw 281 rfl),Via.refl⟩
  ·cases h
 ·dsimp only at h
  unfold gI at h
  split at h
  ·cases h;exact (tw hw 132 rfl)
  ·cases h;exact (tw hw 135 rfl)
  ·cases h
 ·dsimp only at h
  unfold gJ at h
  split at h
  ·cases h;exact Or.inl ⟨_,rfl,(tw hw 202 rfl)⟩
  ·cases h;exact Or.inl ⟨_,rfl,(tw hw 203 rfl)⟩
  ·cases h;exact Or.inr ⟨_,rfl,by decide,(tw hw 220 rfl)⟩
  ·cases h;exact Or.inr ⟨_,rfl,by decide,(tw hw 224 rfl)⟩
  ·cases h;exact Or.inr ⟨_,rfl,by decide,(tw hw 286 rfl)⟩
  ·cases h
theorem yc {Z:State}{a0:Array Value}(hw:HW a0 Z):gj Z a0 "com/example/tracefold/tracefold/mining/FactoredInverse$Elimination" "<init>" kC (gH,gI,gJ):=by
 intro i ty h
 unfold kC at h
 split at h
 ·cases h;intro cc j hj;cases hj;exact⟨_,_,rfl,Or.inr ⟨(tw hw 129 rfl),rfl,rfl⟩,(tw hw 123 rfl),by decide⟩
 ·cases h;intro cc j hj;cases hj;exact⟨_,_,rfl,Or.inr ⟨(tw hw 134 rfl),rfl,rfl⟩,(tw hw 123 rfl),by decide⟩
 ·cases h;intro cc j hj;cases hj;exact⟨_,_,rfl,Or.inr ⟨(tw hw 137 rfl),rfl,rfl⟩,(tw hw 123 rfl),by decide⟩
 ·cases h;intro cc j hj;cases hj;exact⟨_,_,rfl,Or.inr ⟨(tw hw 139 rfl),rfl,rfl⟩,(tw hw 123 rfl),by decide⟩
 ·cases h;intro cc j hj;cases hj;exact⟨_,_,rfl,Or.inr ⟨(tw hw 141 rfl),rfl,rfl⟩,(tw hw 123 rfl),by decide⟩
 ·cases h;intro cc j hj;cases hj;exact⟨_,_,rfl,Or.inr ⟨(tw hw 166 rfl),rfl,rfl⟩,(tw hw 123 rfl),by decide⟩
 ·cases h;intro cc j hj;cases hj;exact⟨_,_,rfl,Or.inr ⟨(tw hw 191 rfl),rfl,rfl⟩,(tw hw 123 rfl),by decide⟩
 ·cases h;intro cc j hj;cases hj;exact⟨_,_,rfl,Or.inr ⟨(tw hw 193 rfl),rfl,rfl⟩,(tw hw 123 rfl),by decide⟩
 ·cases h;intro cc j hj;cases hj;exact⟨_,_,rfl,Or.inr ⟨(tw hw 195 rfl),rfl,rfl⟩,(tw hw 123 rfl),by decide⟩
 ·cases h
theorem yd {Z:State}{a0:Array Value}(hw:HW a0 Z)(mn:String):gj Z a0 "com/example/tracefold/tracefold/mining/FactoredInverse$Elimination" mn kD (gH,gI,gJ):=by
 intro i ty h
 unfold kD at h
 split at h
 ·cases h;intro cc j hj;cases hj;exact⟨_,_,rfl,Or.inl (tw hw 246 rfl),(tw hw 123 rfl),by decide⟩
 ·cases h;intro cc j hj;cases hj;exact⟨_,_,rfl,Or.inl (tw hw 275 rfl),(tw hw 123 rfl),by decide⟩
 ·cases h;intro cc j hj;cases hj;exact⟨_,_,rfl,Or.inl (tw hw 29 rfl),(tw hw 20 rfl),by decide⟩
 ·cases h;intro cc j hj;cases hj;exact⟨_,_,rfl,Or.inl (tw hw 31 rfl),(tw hw 20 rfl),by decide⟩
 ·cases h;intro cc j hj;cases hj;exact⟨_,_,rfl,Or.inl (tw hw 33 rfl),(tw hw 20 rfl),by decide⟩
 ·cases h;intro cc j hj;cases hj;exact⟨_,_,rfl,Or.inl (tw hw 35 rfl),(tw hw 20 rfl),by decide⟩
 ·cases h
theorem qu {Z:State}{a0:Array Value}(hw:HW a0 Z):iP Z a0 "com/example/tracefold/tracefold/mining/FactoredInverse$Elimination" jr:=by
 intro i cc n h
 unfold jr at h
 split at h
 ·cases h;exact⟨by decide,(tw hw 167 rfl),(tw hw 168 rfl),(tw hw 169 rfl),AS hw⟩
 ·cases h
theorem qv {Z:State}{a0:Array Value}(hw:HW a0 Z):fk Z "com/example/tracefold/tracefold/mining/FactoredInverse$Elimination" js:=by
 intro op kd mn np rc h
 unfold js at h
 split at h
 ·cases h;intro p l e R s m args below meth c T locs cells slots h Ev rm as' Q argsL rest b pc Ls X hx hZ hown hM eT hE has hsz hnp hf hl hc hs hd K;exact kz X hx hZ rfl hown (tw hw 170 rfl) (tw hw 171 rfl) (tw hw 169 rfl) (tw hw 172 rfl) (by decide) hM eT (a:=b) rfl has _ _ rfl hsz (lenOf zN hnp) (Nat.le_refl _) hf hl hc hs hd K
 ·cases h;intro p l e R s m args below meth c T locs cells slots h Ev rm as' Q argsL rest b pc Ls X hx hZ hown hM eT hE has hsz hnp hf hl hc hs hd K;exact dy X hx hZ hown (tw hw 142 rfl) (tw hw 143 rfl) (tw hw 2 rfl) (tw hw 144 rfl) (by decide) hM eT rfl has _ _ rfl hsz (lenOf lZ hnp) (Nat.le_refl _) hf hl hc hs hd K
 ·cases h;intro p l e R s m args below meth c T locs cells slots h Ev rm as' Q argsL rest b pc Ls X hx hZ hown hM eT hE has hsz hnp hf hl hc hs hd K;exact dy X hx hZ hown (tw hw 145 rfl) (tw hw 146 rfl) (tw hw 147 rfl) (tw hw 148 rfl) (by decide) hM eT rfl has _ _ rfl hsz (lenOf uJ hnp) (Nat.le_refl _) hf hl hc hs hd K
 ·cases h;intro p l e R s m args below meth c T locs cells slots h Ev rm as' Q argsL rest b pc Ls X hx hZ hown hM eT hE has hsz hnp hf hl hc hs hd K;exact dy X hx hZ hown (tw hw 157 rfl) (tw hw 158 rfl) (tw hw 147 rfl) (tw hw 159 rfl) (by decide) hM eT rfl has _ _ rfl hsz (lenOf HP hnp) (Nat.le_refl _) hf hl hc hs hd K
 ·cases h;intro p l e R s m args below meth c T locs cells slots h Ev rm as' Q argsL rest b pc Ls X hx hZ hown hM eT hE has hsz hnp hf hl hc hs hd K;exact dy X hx hZ hown (tw hw 196 rfl) (tw hw 184 rfl) (tw hw 147 rfl) (tw hw 185 rfl) (by decide) hM eT rfl has _ _ rfl hsz (lenOf mi hnp) (Nat.le_refl _) hf hl hc hs hd K
 ·cases h;intro p l e R s m args below meth c T locs cells slots h Ev rm as' Q argsL rest b pc Ls X hx hZ hown hM eT hE has hsz hnp hf hl hc hs hd K;exact eB X hx hZ (C := "com/example/tracefold/tracefold/mining/FactoredInverse$Lists") hown (tw hw 204 rfl) (tw hw 205 rfl) (tw hw 207 rfl) (tw hw 207 rfl) (tw hw 206 rfl) (tw hw 169 rfl) (tw hw 208 rfl) (by decide) hM eT (b:=b) (hE rfl) rfl has _ _ rfl hsz (lenOf mj hnp) (Nat.le_refl _) hf hl hc hs hd K
 ·cases h;intro p l e R s m args below meth c T locs cells slots h Ev rm as' Q argsL rest b pc Ls X hx hZ hown hM eT hE has hsz hnp hf hl hc hs hd K;exact gT X hx hZ (C := "com/example/tracefold/tracefold/mining/FactoredInverse$Elimination") (z:=({ cls := "com/example/tracefold/tracefold/mining/FactoredInverse$Elimination",name := "pivot",desc := "()J" }:Jvm.MethodName)) hown (tw hw 209 rfl) (tw hw 211 rfl) (tw hw 200 rfl) rfl (tw hw 210 rfl) (tw hw 124 rfl) (tw hw 212 rfl) (by decide) hM eT (b:=b) (hE rfl) rfl has _ _ rfl hsz (lenOf lZ hnp) (Nat.le_refl _) hf hl hc hs hd K
 ·cases h;intro p l e R s m args below meth c T locs cells slots h Ev rm as' Q argsL rest b pc Ls X hx hZ hown hM eT hE has hsz hnp hf hl hc hs hd K;exact gT X hx hZ (C := "com/example/tracefold/tracefold/mining/FactoredInverse$Elimination") (z:=({ cls := "com/example/tracefold/tracefold/mining/FactoredInverse$Elimination",name := "pivot",desc := "()J" }:Jvm.MethodName)) hown (tw hw 213 rfl) (tw hw 215 rfl) (tw hw 200 rfl) rfl (tw hw 214 rfl) (tw hw 124 rfl) (tw hw 216 rfl) (by decide) hM eT (b:=b) (hE rfl) rfl has _ _ rfl hsz (lenOf zP hnp) (Nat.le_refl _) hf hl hc hs hd K
 ·cases h;intro p l e R s m args below meth c T locs cells slots h Ev rm as' Q argsL rest b pc Ls X hx hZ hown hM eT hE has hsz hnp hf hl hc hs hd K;exact eB X hx hZ (C := "com/example/tracefold/tracefold/mining/FactoredInverse$Lists") hown (tw hw 225 rfl) (tw hw 226 rfl) (tw hw 228 rfl) (tw hw 228 rfl) (tw hw 227 rfl) (tw hw 169 rfl) (tw hw 229 rfl) (by decide) hM eT (b:=b) (hE rfl) rfl has _ _ rfl hsz (lenOf mj hnp) (Nat.le_refl _) hf hl hc hs hd K
 ·cases h;intro p l e R s m args below meth c T locs cells slots h Ev rm as' Q argsL rest b pc Ls X hx hZ hown hM eT hE has hsz hnp hf hl hc hs hd K;exact gT X hx hZ (C := "com/example/tracefold/tracefold/mining/FactoredInverse$Elimination") (z:=({ cls := "com/example/tracefold/tracefold/mining/FactoredInverse$Elimination",name := "pivot",desc := "()J" }:Jvm.MethodName)) hown (tw hw 235 rfl) (tw hw 237 rfl) (tw hw 200 rfl) rfl (tw hw 236 rfl) (tw hw 124 rfl) (tw hw 238 rfl) (by decide) hM eT (b:=b) (hE rfl) rfl has _ _ rfl hsz (lenOf jl hnp) (Nat.le_refl _) hf hl hc hs hd K
 ·cases h;intro p l e R s m args below meth c T locs cells slots h Ev rm as' Q argsL rest b pc Ls X hx hZ hown hM eT hE has hsz hnp hf hl hc hs hd K;exact gT X hx hZ (C := "com/example/tracefold/tracefold/mining/FactoredInverse$Elimination") (z:=({ cls := "com/example/tracefold/tracefold/mining/FactoredInverse$Elimination",name := "pivot",desc := "()J" }:Jvm.MethodName)) hown (tw hw 247 rfl) (tw hw 249 rfl) (tw hw 200 rfl) rfl (tw hw 248 rfl) (tw hw 124 rfl) (tw hw 250 rfl) (by decide) hM eT (b:=b) (hE rfl) rfl has _ _ rfl hsz (lenOf mo hnp) (Nat.le_refl _) hf hl hc hs hd K
 ·cases h;intro p l e R s m args below meth c T locs cells slots h Ev rm as' Q argsL rest b pc Ls X hx hZ hown hM eT hE has hsz hnp hf hl hc hs hd K;exact eB X hx hZ (C := "com/example/tracefold/tracefold/mining/FactoredInverse$Lists") hown (tw hw 258 rfl) (tw hw 259 rfl) (tw hw 261 rfl) (tw hw 261 rfl) (tw hw 260 rfl) (tw hw 169 rfl) (tw hw 262 rfl) (by decide) hM eT (b:=b) (hE rfl) rfl has _ _ rfl hsz (lenOf iD hnp) (Nat.le_refl _) hf hl hc hs hd K
 ·cases h;intro p l e R s m args below meth c T locs cells slots h Ev rm as' Q argsL rest b pc Ls X hx hZ hown hM eT hE has hsz hnp hf hl hc hs hd K;exact gT X hx hZ (C := "com/example/tracefold/tracefold/mining/FactoredInverse$Elimination") (z:=({ cls := "com/example/tracefold/tracefold/mining/FactoredInverse$Elimination",name := "pivot",desc := "()J" }:Jvm.MethodName)) hown (tw hw 263 rfl) (tw hw 265 rfl) (tw hw 200 rfl) rfl (tw hw 264 rfl) (tw hw 124 rfl) (tw hw 266 rfl) (by decide) hM eT (b:=b) (hE rfl) rfl has _ _ rfl hsz (lenOf jl hnp) (Nat.le_refl _) hf hl hc hs hd K
 ·cases h;intro p l e R s m args below meth c T locs cells slots h Ev rm as' Q argsL rest b pc Ls X hx hZ hown hM eT hE has hsz hnp hf hl hc hs hd K;exact eB X hx hZ (C := "com/example/tracefold/tracefold/mining/FactoredInverse$Lists") hown (tw hw 267 rfl) (tw hw 268 rfl) (tw hw 270 rfl) (tw hw 270 rfl) (tw hw 269 rfl) (tw hw 169 rfl) (tw hw 271 rfl) (by decide) hM eT (b:=b) (hE rfl) rfl has _ _ rfl hsz (lenOf jl hnp) (Nat.le_refl _) hf hl hc hs hd K
 ·cases h;intro p l e R s m args below meth c T locs cells slots h Ev rm as' Q argsL rest b pc Ls X hx hZ hown hM eT hE has hsz hnp hf hl hc hs hd K;exact gT X hx hZ (C := "com/example/tracefold/tracefold/mining/FactoredInverse$Elimination") (z:=({ cls := "com/example/tracefold/tracefold/mining/FactoredInverse$Elimination",name := "pivot",desc := "()J" }:Jvm.MethodName)) hown (tw hw 276 rfl) (tw hw 278 rfl) (tw hw 200 rfl) rfl (tw hw 277 rfl) (tw hw 124 rfl) (tw hw 279 rfl) (by decide) hM eT (b:=b) (hE rfl) rfl has _ _ rfl hsz (lenOf mo hnp) (Nat.le_refl _) hf hl hc hs hd K
 ·cases h;intro p l e R s m args below meth c T locs cells slots h Ev rm as' Q argsL rest b pc Ls X hx hZ hown hM eT hE has hsz hnp hf hl hc hs hd K;exact gT X hx hZ (C := "com/example/tracefold/tracefold/mining/FactoredInverse$Elimination") (z:=({ cls := "com/example/tracefold/tracefold/mining/FactoredInverse$Elimination",name := "pivot",desc := "()J" }:Jvm.MethodName)) hown (tw hw 282 rfl) (tw hw 284 rfl) (tw hw 200 rfl) rfl (tw hw 283 rfl) (tw hw 124 rfl) (tw hw 285 rfl) (by decide) hM eT (b:=b) (hE rfl) rfl has _ _ rfl hsz (lenOf zR hnp) (Nat.le_refl _) hf hl hc hs hd K
 ·cases h
theorem qw {Z:State}{a0:Array Value}(hw:HW a0 Z):iQ Z a0 "com/example/tracefold/tracefold/mining/FactoredInverse$Elimination" jt:=by
 intro op k cd h
 unfold jt at h
 split at h
 ·cases h;exact Or.inr (Or.inr (Or.inr (Or.inr ⟨rfl,_,rfl,(tw hw 130 rfl),(tw hw 26 rfl),(tw hw 27 rfl)⟩)))
 ·cases h;exact Or.inr (Or.inr (Or.inl ⟨rfl,_,rfl,(tw hw 217 rfl),(tw hw 218 rfl),(tw hw 2 rfl),(tw hw 219 rfl)⟩))
 ·cases h;exact Or.inr (Or.inr (Or.inr (Or.inl ⟨rfl,_,rfl,(tw hw 221 rfl),(tw hw 222 rfl),(tw hw 2 rfl),(tw hw 223 rfl)⟩)))
 ·cases h
def AU:Md:=((gH,gI,gJ),kC,jr,js,jt)
def AV:Md:=((gH,gI,gJ),kD,jr,js,jt)
theorem cw (Z:State)(a0:Array Value)(hw:HW a0 Z):jc Z a0 "com/example/tracefold/tracefold/mining/FactoredInverse$Elimination" "<init>" AU∧eS Z a0∧fq Z a0:=⟨⟨qt hw,yc hw,qu hw,qv hw,qw hw⟩,ef hw,eg hw⟩
theorem af (mn:String)(Z:State)(a0:Array Value)(hw:HW a0 Z):jc Z a0 "com/example/tracefold/tracefold/mining/FactoredInverse$Elimination" mn AV∧eS Z a0∧fq Z a0:=⟨⟨qt hw,yd hw mn,qu hw,qv hw,qw hw⟩,ef hw,eg hw⟩
def gK:Nat→Option (Nat×Nat)
 | 7=>some (0,13)
 | 13=>some (4,0)
 | 19=>some (4,1)
 | 22=>some (4,2)
 | 25=>some (4,3)
 | _=>none
def ii:Nat→Option String

 | _=>none
def ij:Nat→Option Value

 | _=>none
def kE:Nat→Option FieldType
 | 13=>some (.array .int)
 | 19=>some (.array .int)
 | 22=>some (.array .int)
 | 25=>some (.array .int)
 | _=>none
def nP:Nat→Option FieldType

 | _=>none
def mB:Nat→Option (Nat×Nat)

 | _=>none
def ju:Instr→Option (Nat×Nat×Nat×Nat)
 | .invokestatic 28=>some (0,14,2,0)
 | .invokevirtual 34=>some (1,15,2,4)
 | .invokevirtual 38=>some (1,26,1,4)
 | _=>none
def jv:Instr→Option (Nat×Nat)
 | .invokespecial 1=>some (5,0)
 | _=>none
theorem qx {Z:State}{a0:Array Value}(hw:HW a0 Z):cL Z a0 "com/example/tracefold/tracefold/mining/FactoredInverse$Lists" (gK,ii,ij):=by
 refine⟨fun i c j h=>?_,fun i C h=>?_,fun i v h=>?_⟩
 ·dsimp only at h
  unfold gK at h
  split at h
  ·cases h;exact⟨by decide,_,_,_,rfl,Or.inr (tw hw 174 rfl),Via.refl⟩
  ·cases h;exact⟨by decide,_,_,"",rfl,Or.inl (tw hw 175 rfl),Via.refl⟩
  ·cases h;exact⟨by decide,_,_,"",rfl,Or.inl (tw hw 177 rfl),Via.refl⟩
  ·cases h;exact⟨by decide,_,_,"",rfl,Or.inl (tw hw 179 rfl),Via.refl⟩
  ·cases h;exact⟨by decide,_,_,"",rfl,Or.inl (tw hw 181 rfl),Via.refl⟩
  ·cases h
 ·cases h
 ·cases h
theorem ye {Z:State}{a0:Array Value}(hw:HW a0 Z):gj Z a0 "com/example/tracefold/tracefold/mining/FactoredInverse$Lists" "<init>" kE (gK,ii,ij):=by
 intro i ty h
 unfold kE at h
 split at h
 ·cases h;intro cc j hj;cases hj;exact⟨_,_,rfl,Or.inr ⟨(tw hw 176 rfl),rfl,rfl⟩,(tw hw 168 rfl),by decide⟩
 ·cases h;intro cc j hj;cases hj;exact⟨_,_,rfl,Or.inr ⟨(tw hw 178 rfl),rfl,rfl⟩,(tw hw 168 rfl),by decide⟩
 ·cases h;intro cc j hj;cases hj;exact⟨_,_,rfl,Or.inr ⟨(tw hw 180 rfl),rfl,rfl⟩,(tw hw 168 rfl),by decide⟩
 ·cases h;intro cc j hj;cases hj;exact⟨_,_,rfl,Or.inr ⟨(tw hw 182 rfl),rfl,rfl⟩,(tw hw 168 rfl),by decide⟩
 ·cases h
theorem yf {Z:State}{a0:Array Value}(hw:HW a0 Z)(mn:String):gj Z a0 "com/example/tracefold/tracefold/mining/FactoredInverse$Lists" mn nP (gK,ii,ij):=by
 intro i ty h
 cases h
theorem qy {Z:State}{a0:Array Value}(hw:HW a0 Z):iP Z a0 "com/example/tracefold/tracefold/mining/FactoredInverse$Lists" mB:=by
 intro i cc n h
 cases h
theorem qz {Z:State}{a0:Array Value}(hw:HW a0 Z):fk Z "com/example/tracefold/tracefold/mining/FactoredInverse$Lists" ju:=by
 intro op kd mn np rc h
 unfold ju at h
 split at h
 ·cases h;intro p l e R s m args below meth c T locs cells slots h Ev rm as' Q argsL rest b pc Ls X hx hZ hown hM eT hE has hsz hnp hf hl hc hs hd K;exact dy X hx hZ hown (tw hw 183 rfl) (tw hw 184 rfl) (tw hw 147 rfl) (tw hw 185 rfl) (by decide) hM eT rfl has _ _ rfl hsz (lenOf mi hnp) (Nat.le_refl _) hf hl hc hs hd K
 ·cases h;intro p l e R s m args below meth c T locs cells slots h Ev rm as' Q argsL rest b pc Ls X hx hZ hown hM eT hE has hsz hnp hf hl hc hs hd K;exact gT X hx hZ (C := "com/example/tracefold/tracefold/mining/FactoredInverse$Lists") (z:=({ cls := "com/example/tracefold/tracefold/mining/FactoredInverse$Lists",name := "first",desc := "(I)I" }:Jvm.MethodName)) hown (tw hw 186 rfl) (tw hw 188 rfl) (tw hw 207 rfl) rfl (tw hw 187 rfl) (tw hw 169 rfl) (tw hw 189 rfl) (by decide) hM eT (b:=b) (hE rfl) rfl has _ _ rfl hsz (lenOf jl hnp) (Nat.le_refl _) hf hl hc hs hd K
 ·cases h;intro p l e R s m args below meth c T locs cells slots h Ev rm as' Q argsL rest b pc Ls X hx hZ hown hM eT hE has hsz hnp hf hl hc hs hd K;exact eB X hx hZ (C := "com/example/tracefold/tracefold/mining/FactoredInverse$Lists") hown (tw hw 272 rfl) (tw hw 259 rfl) (tw hw 261 rfl) (tw hw 261 rfl) (tw hw 260 rfl) (tw hw 169 rfl) (tw hw 262 rfl) (by decide) hM eT (b:=b) (hE rfl) rfl has _ _ rfl hsz (lenOf iD hnp) (Nat.le_refl _) hf hl hc hs hd K
 ·cases h
theorem qA {Z:State}{a0:Array Value}(hw:HW a0 Z):iQ Z a0 "com/example/tracefold/tracefold/mining/FactoredInverse$Lists" jv:=by
 intro op k cd h
 unfold jv at h
 split at h
 ·cases h;exact Or.inr (Or.inr (Or.inr (Or.inr ⟨rfl,_,rfl,(tw hw 173 rfl),(tw hw 26 rfl),(tw hw 27 rfl)⟩)))
 ·cases h
def AW:Md:=((gK,ii,ij),kE,mB,ju,jv)
def AX:Md:=((gK,ii,ij),nP,mB,ju,jv)
theorem iE (Z:State)(a0:Array Value)(hw:HW a0 Z):jc Z a0 "com/example/tracefold/tracefold/mining/FactoredInverse$Lists" "<init>" AW∧eS Z a0∧fq Z a0:=⟨⟨qx hw,ye hw,qy hw,qz hw,qA hw⟩,ef hw,eg hw⟩
theorem aM (mn:String)(Z:State)(a0:Array Value)(hw:HW a0 Z):jc Z a0 "com/example/tracefold/tracefold/mining/FactoredInverse$Lists" mn AX∧eS Z a0∧fq Z a0:=⟨⟨qx hw,yf hw mn,qy hw,qz hw,qA hw⟩,ef hw,eg hw⟩
def jw:Nat→Option (Nat×Nat)
 | 7=>some (2,0)
 | 13=>some (2,1)
 | 16=>some (2,2)
 | 20=>some (2,3)
 | _=>none
def mC:Nat→Option String

 | _=>none
def mE:Nat→Option Value

 | _=>none
def kF:Nat→Option FieldType
 | 7=>some .int
 | 13=>some .int
 | 16=>some (.array .int)
 | 20=>some (.array .boolean)
 | _=>none
def qB:Nat→Option (Nat×Nat)

 | _=>none
def qC:Instr→Option (Nat×Nat×Nat×Nat)

 | _=>none
def mF:Instr→Option (Nat×Nat)
 | .invokespecial 1=>some (5,0)
 | _=>none
theorem AY {Z:State}{a0:Array Value}(hw:HW a0 Z):cL Z a0 "com/example/tracefold/tracefold/mining/FactoredInverse$StepQueue" (jw,mC,mE):=by
 refine⟨fun i c j h=>?_,fun i C h=>?_,fun i v h=>?_⟩
 ·dsimp only at h
  unfold jw at h
  split at h
  ·cases h;exact⟨by decide,_,_,"",rfl,Or.inl (tw hw 103 rfl),Via.refl⟩
  ·cases h;exact⟨by decide,_,_,"",rfl,Or.inl (tw hw 105 rfl),Via.refl⟩
  ·cases h;exact⟨by decide,_,_,"",rfl,Or.inl (tw hw 107 rfl),Via.refl⟩
  ·cases h;exact⟨by decide,_,_,"",rfl,Or.inl (tw hw 109 rfl),Via.refl⟩
  ·cases h
 ·cases h
 ·cases h
theorem yg {Z:State}{a0:Array Value}(hw:HW a0 Z):gj Z a0 "com/example/tracefold/tracefold/mining/FactoredInverse$StepQueue" "<init>" kF (jw,mC,mE):=by
 intro i ty h
 unfold kF at h
 split at h
 ·cases h;intro cc j hj;cases hj;exact⟨_,_,rfl,Or.inl (tw hw 104 rfl),(tw hw 97 rfl),by decide⟩
 ·cases h;intro cc j hj;cases hj;exact⟨_,_,rfl,Or.inr ⟨(tw hw 106 rfl),rfl,rfl⟩,(tw hw 97 rfl),by decide⟩
 ·cases h;intro cc j hj;cases hj;exact⟨_,_,rfl,Or.inr ⟨(tw hw 108 rfl),rfl,rfl⟩,(tw hw 97 rfl),by decide⟩
 ·cases h;intro cc j hj;cases hj;exact⟨_,_,rfl,Or.inr ⟨(tw hw 110 rfl),rfl,rfl⟩,(tw hw 97 rfl),by decide⟩
 ·cases h
theorem AZ {Z:State}{a0:Array Value}(hw:HW a0 Z):iP Z a0 "com/example/tracefold/tracefold/mining/FactoredInverse$StepQueue" qB:=by
 intro i cc n h
 cases h
theorem A4 {Z:State}{a0:Array Value}(hw:HW a0 Z):fk Z "com/example/tracefold/tracefold/mining/FactoredInverse$StepQueue" qC:=by
 intro op kd mn np rc h
 cases h
theorem A5 {Z:State}{a0:Array Value}(hw:HW a0 Z):iQ Z a0 "com/example/tracefold/tracefold/mining/FactoredInverse$StepQueue" mF:=by
 intro op k cd h
 unfold mF at h
 split at h
 ·cases h;exact Or.inr (Or.inr (Or.inr (Or.inr ⟨rfl,_,rfl,(tw hw 102 rfl),(tw hw 26 rfl),(tw hw 27 rfl)⟩)))
 ·cases h
def A6:Md:=((jw,mC,mE),kF,qB,qC,mF)
theorem yh (Z:State)(a0:Array Value)(hw:HW a0 Z):jc Z a0 "com/example/tracefold/tracefold/mining/FactoredInverse$StepQueue" "<init>" A6∧eS Z a0∧fq Z a0:=⟨⟨AY hw,yg hw,AZ hw,A4 hw,A5 hw⟩,ef hw,eg hw⟩
def mG:Nat→Option (Nat×Nat)

 | _=>none
def jx:Nat→Option String
 | 13=>some "[I"
 | 21=>some "[D"
 | _=>none
def mH:Nat→Option Value

 | _=>none
def nQ:Nat→Option FieldType

 | _=>none
def mI:Nat→Option (Nat×Nat)
 | 27=>some (0,29)
 | 32=>some (1,4)
 | _=>none
def mJ:Instr→Option (Nat×Nat×Nat×Nat)
 | .invokespecial 29=>some (2,4,1,0)
 | .invokespecial 34=>some (2,6,1,0)
 | .invokestatic 7=>some (0,1,2,0)
 | .invokestatic 15=>some (0,2,3,0)
 | .invokestatic 23=>some (0,3,3,0)
 | .invokevirtual 35=>some (1,8,2,0)
 | .invokevirtual 39=>some (1,33,2,1)
 | .invokevirtual 43=>some (1,34,2,0)
 | .invokevirtual 47=>some (1,32,1,0)
 | _=>none
def qD:Instr→Option (Nat×Nat)

 | _=>none
theorem A7 {Z:State}{a0:Array Value}(hw:HW a0 Z):cL Z a0 "com/example/tracefold/tracefold/mining/FactoredInverseTransposeTimesPinLaw" (mG,jx,mH):=by
 refine⟨fun i c j h=>?_,fun i C h=>?_,fun i v h=>?_⟩
 ·cases h
 ·dsimp only at h
  unfold jx at h
  split at h
  ·cases h;exact (tw hw 4 rfl)
  ·cases h;exact (tw hw 12 rfl)
  ·cases h
 ·cases h
theorem yi {Z:State}{a0:Array Value}(hw:HW a0 Z)(mn:String):gj Z a0 "com/example/tracefold/tracefold/mining/FactoredInverseTransposeTimesPinLaw" mn nQ (mG,jx,mH):=by
 intro i ty h
 cases h
theorem A8 {Z:State}{a0:Array Value}(hw:HW a0 Z):iP Z a0 "com/example/tracefold/tracefold/mining/FactoredInverseTransposeTimesPinLaw" mI:=by
 intro i cc n h
 unfold mI at h
 split at h
 ·cases h;exact⟨by decide,(tw hw 19 rfl),(tw hw 20 rfl),(tw hw 21 rfl),AH hw⟩
 ·cases h;exact⟨by decide,(tw hw 113 rfl),(tw hw 75 rfl),(tw hw 76 rfl),qo hw⟩
 ·cases h
theorem qE {Z:State}{a0:Array Value}(hw:HW a0 Z):fk Z "com/example/tracefold/tracefold/mining/FactoredInverseTransposeTimesPinLaw" mJ:=by
 intro op kd mn np rc h
 unfold mJ at h
 split at h
 ·cases h;intro p l e R s m args below meth c T locs cells slots h Ev rm as' Q argsL rest b pc Ls X hx hZ hown hM eT hE has hsz hnp hf hl hc hs hd K;exact kz X hx hZ rfl hown (tw hw 22 rfl) (tw hw 23 rfl) (tw hw 21 rfl) (tw hw 24 rfl) (by decide) hM eT (a:=b) rfl has _ _ rfl hsz (lenOf iD hnp) (Nat.le_refl _) hf hl hc hs hd K
 ·cases h;intro p l e R s m args below meth c T locs cells slots h Ev rm as' Q argsL rest b pc Ls X hx hZ hown hM eT hE has hsz hnp hf hl hc hs hd K;exact kz X hx hZ rfl hown (tw hw 114 rfl) (tw hw 78 rfl) (tw hw 76 rfl) (tw hw 79 rfl) (by decide) hM eT (a:=b) rfl has _ _ rfl hsz (lenOf iD hnp) (Nat.le_refl _) hf hl hc hs hd K
 ·cases h;intro p l e R s m args below meth c T locs cells slots h Ev rm as' Q argsL rest b pc Ls X hx hZ hown hM eT hE has hsz hnp hf hl hc hs hd K;exact dy X hx hZ hown (tw hw 0 rfl) (tw hw 1 rfl) (tw hw 2 rfl) (tw hw 3 rfl) (by decide) hM eT rfl has _ _ rfl hsz (lenOf lZ hnp) (Nat.le_refl _) hf hl hc hs hd K
 ·cases h;intro p l e R s m args below meth c T locs cells slots h Ev rm as' Q argsL rest b pc Ls X hx hZ hown hM eT hE has hsz hnp hf hl hc hs hd K;exact dy X hx hZ hown (tw hw 6 rfl) (tw hw 7 rfl) (tw hw 8 rfl) (tw hw 9 rfl) (by decide) hM eT rfl has _ _ rfl hsz (lenOf HJ hnp) (Nat.le_refl _) hf hl hc hs hd K
 ·cases h;intro p l e R s m args below meth c T locs cells slots h Ev rm as' Q argsL rest b pc Ls X hx hZ hown hM eT hE has hsz hnp hf hl hc hs hd K;exact dy X hx hZ hown (tw hw 14 rfl) (tw hw 15 rfl) (tw hw 8 rfl) (tw hw 16 rfl) (by decide) hM eT rfl has _ _ rfl hsz (lenOf HK hnp) (Nat.le_refl _) hf hl hc hs hd K
 ·cases h;intro p l e R s m args below meth c T locs cells slots h Ev rm as' Q argsL rest b pc Ls X hx hZ hown hM eT hE has hsz hnp hf hl hc hs hd K;exact eB X hx hZ (C := "com/example/tracefold/tracefold/mining/FactoredInverse") hown (tw hw 115 rfl) (tw hw 116 rfl) (tw hw 118 rfl) (tw hw 118 rfl) (tw hw 117 rfl) (tw hw 21 rfl) (tw hw 119 rfl) (by decide) hM eT (b:=b) (hE rfl) rfl has _ _ rfl hsz (lenOf HM hnp) (Nat.le_refl _) hf hl hc hs hd K
 ·cases h;intro p l e R s m args below meth c T locs cells slots h Ev rm as' Q argsL rest b pc Ls X hx hZ hown hM eT hE has hsz hnp hf hl hc hs hd K;exact eB X hx hZ (C := "com/example/tracefold/tracefold/mining/SparseVector") hown (tw hw 300 rfl) (tw hw 301 rfl) (tw hw 303 rfl) (tw hw 303 rfl) (tw hw 302 rfl) (tw hw 76 rfl) (tw hw 304 rfl) (by decide) hM eT (b:=b) (hE rfl) rfl has _ _ rfl hsz (lenOf mo hnp) (Nat.le_refl _) hf hl hc hs hd K
 ·cases h;intro p l e R s m args below meth c T locs cells slots h Ev rm as' Q argsL rest b pc Ls X hx hZ hown hM eT hE has hsz hnp hf hl hc hs hd K;exact eB X hx hZ (C := "com/example/tracefold/tracefold/mining/FactoredInverse") hown (tw hw 307 rfl) (tw hw 308 rfl) (tw hw 310 rfl) (tw hw 310 rfl) (tw hw 309 rfl) (tw hw 21 rfl) (tw hw 311 rfl) (by decide) hM eT (b:=b) (hE rfl) rfl has _ _ rfl hsz (lenOf zT hnp) (Nat.le_refl _) hf hl hc hs hd K
 ·cases h;intro p l e R s m args below meth c T locs cells slots h Ev rm as' Q argsL rest b pc Ls X hx hZ hown hM eT hE has hsz hnp hf hl hc hs hd K;exact eB X hx hZ (C := "com/example/tracefold/tracefold/mining/FactoredInverse") hown (tw hw 293 rfl) (tw hw 294 rfl) (tw hw 296 rfl) (tw hw 296 rfl) (tw hw 295 rfl) (tw hw 21 rfl) (tw hw 297 rfl) (by decide) hM eT (b:=b) (hE rfl) rfl has _ _ rfl hsz (lenOf zS hnp) (Nat.le_refl _) hf hl hc hs hd K
 ·cases h
theorem A9 {Z:State}{a0:Array Value}(hw:HW a0 Z):iQ Z a0 "com/example/tracefold/tracefold/mining/FactoredInverseTransposeTimesPinLaw" qD:=by
 intro op k cd h
 cases h
def aq:Md:=((mG,jx,mH),nQ,mI,mJ,qD)
theorem bq (mn:String)(Z:State)(a0:Array Value)(hw:HW a0 Z):jc Z a0 "com/example/tracefold/tracefold/mining/FactoredInverseTransposeTimesPinLaw" mn aq∧eS Z a0∧fq Z a0:=⟨⟨A7 hw,yi hw mn,A8 hw,qE hw,A9 hw⟩,ef hw,eg hw⟩
def gL:Nat→Option (Nat×Nat)
 | 7=>some (1,0)
 | 13=>some (1,1)
 | 17=>some (1,2)
 | 30=>some (1,3)
 | _=>none
def ik:Nat→Option String

 | _=>none
def il:Nat→Option Value

 | _=>none
def kG:Nat→Option FieldType
 | 7=>some (.array .double)
 | 13=>some (.array .boolean)
 | 17=>some (.array .int)
 | _=>none
def kH:Nat→Option FieldType
 | 30=>some .int
 | _=>none
def mK:Nat→Option (Nat×Nat)

 | _=>none
def mL:Instr→Option (Nat×Nat×Nat×Nat)

 | _=>none
def jy:Instr→Option (Nat×Nat)
 | .invokespecial 1=>some (5,0)
 | _=>none
theorem qF {Z:State}{a0:Array Value}(hw:HW a0 Z):cL Z a0 "com/example/tracefold/tracefold/mining/SparseVector" (gL,ik,il):=by
 refine⟨fun i c j h=>?_,fun i C h=>?_,fun i v h=>?_⟩
 ·dsimp only at h
  unfold gL at h
  split at h
  ·cases h;exact⟨by decide,_,_,"",rfl,Or.inl (tw hw 81 rfl),Via.refl⟩
  ·cases h;exact⟨by decide,_,_,"",rfl,Or.inl (tw hw 84 rfl),Via.refl⟩
  ·cases h;exact⟨by decide,_,_,"",rfl,Or.inl (tw hw 86 rfl),Via.refl⟩
  ·cases h;exact⟨by decide,_,_,"",rfl,Or.inl (tw hw 305 rfl),Via.refl⟩
  ·cases h
 ·cases h
 ·cases h
theorem yj {Z:State}{a0:Array Value}(hw:HW a0 Z):gj Z a0 "com/example/tracefold/tracefold/mining/SparseVector" "<init>" kG (gL,ik,il):=by
 intro i ty h
 unfold kG at h
 split at h
 ·cases h;intro cc j hj;cases hj;exact⟨_,_,rfl,Or.inr ⟨(tw hw 82 rfl),rfl,rfl⟩,(tw hw 75 rfl),by decide⟩
 ·cases h;intro cc j hj;cases hj;exact⟨_,_,rfl,Or.inr ⟨(tw hw 85 rfl),rfl,rfl⟩,(tw hw 75 rfl),by decide⟩
 ·cases h;intro cc j hj;cases hj;exact⟨_,_,rfl,Or.inl (tw hw 87 rfl),(tw hw 75 rfl),by decide⟩
 ·cases h
theorem yk {Z:State}{a0:Array Value}(hw:HW a0 Z)(mn:String):gj Z a0 "com/example/tracefold/tracefold/mining/SparseVector" mn kH (gL,ik,il):=by
 intro i ty h
 unfold kH at h
 split at h
 ·cases h;intro cc j hj;cases hj;exact⟨_,_,rfl,Or.inl (tw hw 306 rfl),(tw hw 75 rfl),by decide⟩
 ·cases h
theorem qG {Z:State}{a0:Array Value}(hw:HW a0 Z):iP Z a0 "com/example/tracefold/tracefold/mining/SparseVector" mK:=by
 intro i cc n h
 cases h
theorem qH {Z:State}{a0:Array Value}(hw:HW a0 Z):fk Z "com/example/tracefold/tracefold/mining/SparseVector" mL:=by
 intro op kd mn np rc h
 cases h
theorem qI {Z:State}{a0:Array Value}(hw:HW a0 Z):iQ Z a0 "com/example/tracefold/tracefold/mining/SparseVector" jy:=by
 intro op k cd h
 unfold jy at h
 split at h
 ·cases h;exact Or.inr (Or.inr (Or.inr (Or.inr ⟨rfl,_,rfl,(tw hw 80 rfl),(tw hw 26 rfl),(tw hw 27 rfl)⟩)))
 ·cases h
def A_:Md:=((gL,ik,il),kG,mK,mL,jy)
def Ba:Md:=((gL,ik,il),kH,mK,mL,jy)
theorem yl (Z:State)(a0:Array Value)(hw:HW a0 Z):jc Z a0 "com/example/tracefold/tracefold/mining/SparseVector" "<init>" A_∧eS Z a0∧fq Z a0:=⟨⟨qF hw,yj hw,qG hw,qH hw,qI hw⟩,ef hw,eg hw⟩
theorem dI (mn:String)(Z:State)(a0:Array Value)(hw:HW a0 Z):jc Z a0 "com/example/tracefold/tracefold/mining/SparseVector" mn Ba∧eS Z a0∧fq Z a0:=⟨⟨qF hw,yk hw mn,qG hw,qH hw,qI hw⟩,ef hw,eg hw⟩
def mM:Nat→Option (Nat×Nat)

 | _=>none
def mN:Nat→Option String

 | _=>none
def mO:Nat→Option Value

 | _=>none
def nR:Nat→Option FieldType

 | _=>none
def qJ:Nat→Option (Nat×Nat)

 | _=>none
def qK:Instr→Option (Nat×Nat×Nat×Nat)

 | _=>none
def qL:Instr→Option (Nat×Nat)

 | _=>none
theorem Bb {Z:State}{a0:Array Value}(hw:HW a0 Z):cL Z a0 "java/lang/Math" (mM,mN,mO):=by
 refine⟨fun i c j h=>?_,fun i C h=>?_,fun i v h=>?_⟩
 ·cases h
 ·cases h
 ·cases h
theorem ym {Z:State}{a0:Array Value}(hw:HW a0 Z)(mn:String):gj Z a0 "java/lang/Math" mn nR (mM,mN,mO):=by
 intro i ty h
 cases h
theorem Bc {Z:State}{a0:Array Value}(hw:HW a0 Z):iP Z a0 "java/lang/Math" qJ:=by
 intro i cc n h
 cases h
theorem Be {Z:State}{a0:Array Value}(hw:HW a0 Z):fk Z "java/lang/Math" qK:=by
 intro op kd mn np rc h
 cases h
theorem Bf {Z:State}{a0:Array Value}(hw:HW a0 Z):iQ Z a0 "java/lang/Math" qL:=by
 intro op k cd h
 cases h
def Bg:Md:=((mM,mN,mO),nR,qJ,qK,qL)
theorem dJ (mn:String)(Z:State)(a0:Array Value)(hw:HW a0 Z):jc Z a0 "java/lang/Math" mn Bg∧eS Z a0∧fq Z a0:=⟨⟨Bb hw,ym hw mn,Bc hw,Be hw,Bf hw⟩,ef hw,eg hw⟩
def mP:Nat→Option (Nat×Nat)

 | _=>none
def jz:Nat→Option String
 | 317=>some "[I"
 | 329=>some "[D"
 | _=>none
def mQ:Nat→Option Value

 | _=>none
def nS:Nat→Option FieldType

 | _=>none
def qM:Nat→Option (Nat×Nat)

 | _=>none
def mR:Instr→Option (Nat×Nat×Nat×Nat)
 | .invokestatic 304=>some (0,1,2,0)
 | _=>none
def mS:Instr→Option (Nat×Nat)
 | .invokestatic 150=>some (2,0)
 | .invokevirtual 316=>some (1,64)
 | .invokevirtual 328=>some (1,65)
 | _=>none
theorem Bh {Z:State}{a0:Array Value}(hw:HW a0 Z):cL Z a0 "java/util/Arrays" (mP,jz,mQ):=by
 refine⟨fun i c j h=>?_,fun i C h=>?_,fun i v h=>?_⟩
 ·cases h
 ·dsimp only at h
  unfold jz at h
  split at h
  ·cases h;exact (tw hw 156 rfl)
  ·cases h;exact (tw hw 164 rfl)
  ·cases h
 ·cases h
theorem yn {Z:State}{a0:Array Value}(hw:HW a0 Z)(mn:String):gj Z a0 "java/util/Arrays" mn nS (mP,jz,mQ):=by
 intro i ty h
 cases h
theorem Bi {Z:State}{a0:Array Value}(hw:HW a0 Z):iP Z a0 "java/util/Arrays" qM:=by
 intro i cc n h
 cases h
theorem Bj {Z:State}{a0:Array Value}(hw:HW a0 Z):fk Z "java/util/Arrays" mR:=by
 intro op kd mn np rc h
 unfold mR at h
 split at h
 ·cases h;intro p l e R s m args below meth c T locs cells slots h Ev rm as' Q argsL rest b pc Ls X hx hZ hown hM eT hE has hsz hnp hf hl hc hs hd K;exact dy X hx hZ hown (tw hw 252 rfl) (tw hw 1 rfl) (tw hw 2 rfl) (tw hw 3 rfl) (by decide) hM eT rfl has _ _ rfl hsz (lenOf lZ hnp) (Nat.le_refl _) hf hl hc hs hd K
 ·cases h
theorem Bk {Z:State}{a0:Array Value}(hw:HW a0 Z):iQ Z a0 "java/util/Arrays" mS:=by
 intro op k cd h
 unfold mS at h
 split at h
 ·cases h;exact Or.inr (Or.inl ⟨rfl,_,rfl,(tw hw 253 rfl),(tw hw 256 rfl),(tw hw 254 rfl),(tw hw 255 rfl)⟩)
 ·cases h;exact Or.inl ⟨rfl,by decide,by decide,_,rfl,(tw hw 149 rfl),(tw hw 150 rfl),(tw hw 154 rfl),(tw hw 152 rfl),(tw hw 153 rfl),(tw hw 155 rfl)⟩
 ·cases h;exact Or.inl ⟨rfl,by decide,by decide,_,rfl,(tw hw 160 rfl),(tw hw 161 rfl),(tw hw 154 rfl),(tw hw 152 rfl),(tw hw 162 rfl),(tw hw 163 rfl)⟩
 ·cases h
def Bl:Md:=((mP,jz,mQ),nS,qM,mR,mS)
theorem cm (mn:String)(Z:State)(a0:Array Value)(hw:HW a0 Z):jc Z a0 "java/util/Arrays" mn Bl∧eS Z a0∧fq Z a0:=⟨⟨Bh hw,yn hw mn,Bi hw,Bj hw,Bk hw⟩,ef hw,eg hw⟩
theorem aC {n:Nat}:plainName "com/example/tracefold/tracefold/mining/FactoredInverse" = true∨plainFor (cJ n)=true:=Or.inl (by first|(simp [plainName,overriddenIn];done)|decide +kernel)
theorem ag {n:Nat}:plainName "com/example/tracefold/tracefold/mining/FactoredInverse$Elimination" = true∨plainFor (cJ n)=true:=Or.inl (by first|(simp [plainName,overriddenIn];done)|decide +kernel)
theorem aN {n:Nat}:plainName "com/example/tracefold/tracefold/mining/FactoredInverse$Lists" = true∨plainFor (cJ n)=true:=Or.inl (by first|(simp [plainName,overriddenIn];done)|decide +kernel)
theorem Bm {n:Nat}:plainName "com/example/tracefold/tracefold/mining/FactoredInverse$StepQueue" = true∨plainFor (cJ n)=true:=Or.inl (by first|(simp [plainName,overriddenIn];done)|decide +kernel)
theorem cb {n:Nat}:plainName "com/example/tracefold/tracefold/mining/FactoredInverseTransposeTimesPinLaw" = true∨plainFor (cJ n)=true:=Or.inl (by first|(simp [plainName,overriddenIn];done)|decide +kernel)
theorem dZ {n:Nat}:plainName "com/example/tracefold/tracefold/mining/SparseVector" = true∨plainFor (cJ n)=true:=Or.inl (by first|(simp [plainName,overriddenIn];done)|decide +kernel)
theorem fh:plainName "java/lang/Math" = true∨plainFor (cJ 1)=true:=Or.inr (Jvm.Free.JP.mathPlain rfl (by decide))
theorem im:plainName "java/lang/Math" = true∨plainFor (cJ 10)=true:=Or.inr (Jvm.Free.JP.mathPlain rfl (by decide))
theorem cR {n:Nat}:plainName "java/util/Arrays" = true∨plainFor (cJ n)=true:=Or.inl (by first|(simp [plainName,overriddenIn];done)|decide +kernel)
def Pi:List AD:=[]
def aw:Value:=vR 0
def aF:AD:=aI [1]
def dq:Op:=(13,1,0,0)
def NK:Cn:=((2,[.float 1,.float 2,.float 3],Pi,4),(some aw,(Pi++[aF]),[dq,dq]),(0,1,1,0))
theorem Pj:CtH NK:=ctR 12 cb rfl (bq _) [] [0,0] sc0 (by decide +kernel)
def Pk:List AD:=[]
def aG:AD:=aI [0]
def cE:Op:=(13,1,0,1)
def g7:Op:=(13,2,0,0)
def NL:Cn:=((2,[.float 1,.float 2,.float 3],Pk,4),(some aw,(Pk++[aG]),[cE,g7,cE]),(0,1,1,0))
theorem Pl:CtH NL:=ctR 14 cb rfl (bq _) [] [1,0,1] sc0 (by decide +kernel)
def Pm:List AD:=[]
def fJ:Op:=(7,2,0,0)
def NM:Cn:=((3,[.float 1,.float 2,.float 3],Pm,4),(some aw,(Pm++[aD [4]]),[dq,dq,fJ]),(0,1,1,0))
theorem Pn:CtH NM:=ctR 13 cb rfl (bq _) [] [0,0] sc0 (by decide +kernel)
def Po:List AD:=[]
def fK:Op:=(7,1,0,0)
def NN:Cn:=((3,[.float 1,.float 2,.float 3],Po,4),(some aw,(Po++[aD [4]]),[cE,g7,cE,fK]),(0,1,1,0))
theorem Pp:CtH NN:=ctR 15 cb rfl (bq _) [] [1,0,1] sc0 (by decide +kernel)
def Pq:List AD:=[(1,0,uS 0 4)]
def zq0:Value:=vI 0
def gM:AD:=(64,16,rp 16 zq0)
def je:AD:=(66,2,[zq0,zq0])
def ay:Value:=vI 2
def jA:AD:=aD [0,0]
def ct:Value:=vU 3
def ip:List Value:=[aw,ay]
def yo:Cn:=((6,ip,Pq,1),(none,(an Pq [(0,1,0,rS 1 3++[ct])]++[jA,je,gM]),[]),(1,3,20,12))
theorem h9:CtH yo:=ctR 16 dZ rfl (yl) [] [] sc0 (by decide +kernel)
def Ps:List AD:=[(2,0,uS 0 4)]
def zq1:Value:=vI (-1)
def az:AD:=aI [0,0]
def aK:Value:=vR 1
def Pu:Cn:=((7,ip,Ps,1),(none,(an Ps [(0,2,0,[zq1,ay,aK,vR 2])]++[az,je]),[]),(1,2,4,12))
theorem Q6:CtH Pu:=ctR 18 Bm rfl (yh) [] [] sc0 (by decide +kernel)
def Pv:List AD:=[(0,0,uS 0 29)]
def za8:AD:=(64,0,[])
def eH:AD:=(65,0,[])
def bv:AD:=aI [0,0,0]
def ax:Value:=vD 0
def qN:AD:=(65,256,[ax,ax,ax,ax])
def jB:AD:=(64,256,[zq0,zq0,zq0,zq0])
def qO:AD:=(64,17,rp 17 zq0)
def Pw:AD:=(65,16,rp 16 ax)
def fr:Value:=vR 31
def fL:Value:=vR 27
def f7:List AD:=[za8,eH,za8,eH,za8,eH,za8,eH,gM,Pw,qO,jB,qN]
def Px:Cn:=((4,ip,Pv,1),(none,(an Pv [(0,0,0,rS 1 13++[ay]++rS 14 10++[fL,fr,vR 35,vR 39,vU 28])]++(f7++[az,az,jA,bv,bv,bv,bv,az,az,(1,0,rS 24 3++[zq0]),jA,je,gM,(1,0,rS 28 3++[zq0]),jA,je,gM,(1,0,rS 32 3++[zq0]),jA,je,gM,(1,0,rS 36 3++[zq0]),jA,je,gM,(2,0,[zq1,ay,vR 40,vR 41]),az,je])),[]),(2,41,689,27))
def qP:List Value:=[.null,.null,.null,zq0]
theorem jC:CtH Px:=ctR 133 aC rfl (yb) [(yo,[23],[0],qP),(yo,[27],[0],qP),(yo,[31],[0],qP),(yo,[35],[0],qP),(Pu,[39],[0],[zq0,zq0,.null,.null])] [] (scS h9 (scS h9 (scS h9 (scS h9 (scS Q6 sc0))))) (by decide +kernel)
def Py:List AD:=[]
def zq3:Value:=vI 1
def Pz:Cn:=((10,[zq3,zq3],Py,1),(some zq3,(Py),[]),(0,0,0,0))
theorem fZ:CtH Pz:=ctR 7 im rfl (dJ _) [] [] sc0 (by decide +kernel)
def PA:List AD:=[aF]
def g8:List Value:=[aw,zq3]
def th:Cn:=((11,g8,PA,1),(some aK,(PA++[aF]),[]),(1,1,1,14))
theorem yp:CtH th:=ctR 9 cR rfl (cm _) [] [] sc0 (by decide +kernel)
def br:AD:=aD [1]
def PC:List AD:=[br]
def H8:Cn:=((12,g8,PC,2),(some aK,(PC++[br]),[]),(1,1,1,14))
theorem lR:CtH H8:=ctR 9 cR rfl (cm _) [] [] sc0 (by decide +kernel)
def IX:List AD:=[aG]
def mT:Cn:=((11,g8,IX,1),(some aK,(IX++[aG]),[]),(1,1,1,14))
theorem nT:CtH mT:=ctR 9 cR rfl (cm _) [] [] sc0 (by decide +kernel)
def kN:AD:=aU 64 0 3
def IY:List AD:=[kN]
def qQ:Cn:=((14,[aw,zq1],IY,1),(none,(an IY [(0,aI [(-1),(-1),(-1)])]),[]),(0,0,0,0))
theorem uP:CtH qQ:=ctR 37 cR rfl (cm _) [] [] sc0 (by decide +kernel)
def IZ:List AD:=[aU 64 0 2]
def Bn:Cn:=((14,[aw,zq1],IZ,1),(none,(an IZ [(0,aI [(-1),(-1)])]),[]),(0,0,0,0))
theorem fM:CtH Bn:=ctR 28 cR rfl (cm _) [] [] sc0 (by decide +kernel)
def g9:AD:=(4,0,rS 1 4)
def aO:Value:=vU 0
def bi:Value:=vU 1
def uQ:List AD:=[aU 64 2 2,aU 64 4 2,aU 64 6 2]
def uR:List AD:=[g9,(64,3,[aO,zq1,bi])]++uQ
def jD:List Value:=[aw,zq3,zq3]
def uT:Cn:=((15,jD,uR,1),(none,(an uR [(1,64,3,[aO,zq3,bi]),(2,64,2,[vU 2,zq1]),(3,64,2,[vU 4,zq1]),(4,64,2,[vU 6,zq3])]),[]),(0,0,0,0))
theorem Bo:CtH uT:=ctR 30 aN rfl (aM _) [] [] sc0 (by decide +kernel)
def I0:List AD:=[g9,(64,3,[aO,zq3,bi])]++uQ
def jE:List Value:=[aw,zq0,zq3]
def I1:Cn:=((15,jE,I0,1),(none,(an I0 [(1,64,3,[aO,zq0,bi]),(2,64,2,[zq3,ct]),(3,aI [(-1),0]),(4,64,2,[zq3,vU 7])]),[]),(0,0,0,0))
theorem PD:CtH I1:=ctR 38 aN rfl (aM _) [] [] sc0 (by decide +kernel)
def za5:AD:=(0,0,uS 0 13++[ay]++uS 13 15)
def bM:AD:=aI [1,1]
def uU:AD:=(4,0,[.null,.null,.null,.null])
def I2:List AD:=[za5,bM,uU]
def ft:AD:=aI [1,(-1)]
def fy:AD:=aI [(-1),0]
def qR:AD:=aI [(-1),0,(-1)]
def Bp:Cn:=((13,[vR 2,aw,aK],I2,1),(none,(an I2 [(2,4,0,rS 3 4)]++[qR,ft,fy,bM]),[]),(1,4,9,15))
def g_:List Value:=[zq0,zq0,zq0]
def uV:List Value:=[zq1,zq1,zq0,zq0,zq0,zq0,zq1,zq1]
def uW:Sc:=(Bn,[6],[0],[zq0,zq0])
theorem uX:CtH Bp:=ctR 61 aN rfl (iE) [(qQ,[3],[0],g_),uW,(uT,[2,3,4,5,6],[0],uV),(I1,[2,3,4,5,6],[0],[zq1,zq1,zq0,zq1,zq0,zq1,zq1,zq3])] [] (scS uP (scS fM (scS Bo (scS PD sc0)))) (by decide +kernel)
def cV:Value:=vU 32
def ew:Value:=vU 31
def lS:AD:=(3,0,[vU 28]++rp 5 (.null)++[vU 29,vU 30,.null,ew,cV])
def bN:AD:=aR 68 [4,5]
def bE:AD:=aR 67 [1,2]
def I3:List AD:=[bE,aF,aG,bN,br,aD [2],za5,lS]
def za2:AD:=aI [(-1),(-1)]
def co:Value:=vR 20
def cZ:Value:=vR 16
def eU:Value:=vR 25
def dA:Value:=vR 6
def lT:List Value:=[dA]++rS 8 4++[cZ,co,eU,vR 30,ew,cV]
def jF:AD:=(4,0,rS 26 4)
def jG:AD:=(4,0,rS 21 4)
def hG:List Value:=[vR 7,dA,aw,vR 3]
def hH:AD:=aR 68 [13,15]
def mU:AD:=aR 67 [17,18]
def hI:AD:=aR 67 [12,14]
def I4:Cn:=((9,hG,I3,3),(none,(an I3 [(7,3,0,lT)]++[hI,hH,bM,bM,aF,br,aG,aD [2],mU,aF,aG,bM,jG,qR,ft,fy,bM,jF,qR,ft,fy,bM,za2]),[]),(2,23,46,32))
def gh:Sc:=(Pz,[],[0],[])
def iR:Sc:=(Bn,[30],[0],[zq0,zq0])
def nU:Sc:=(H8,[4],[0,1],[])
def I5:List Sc:=[(H8,[5],[0,2],[]),gh,gh,(Bp,[6,10,20],[0],uS 0 28),(Bp,[6,11,25],[0],uS 0 28),iR]
theorem PE:CtH I4:=ctR 335 ag rfl (cw) ([gh,(th,[1],[0],[]),nU,gh,(mT,[2],[0],[])]++I5) [] (scS fZ (scS yp (scS lR (scS fZ (scS nT (scS lR (scS fZ (scS fZ (scS uX (scS uX (scS fM sc0))))))))))) (by decide +kernel)
def uY:AD:=(4,0,[aK]++uS 0 3)
def I6:List AD:=[uY,(64,3,[ct,zq0,vU 4])]
def nV:Cn:=((17,g8,I6,1),(some zq0,(I6),[]),(0,0,0,0))
theorem eV:CtH nV:=ctR 6 aN rfl (aM _) [] [] sc0 (by decide +kernel)
def lU:AD:=(3,0,[aO,aK]++uS 1 9)
def cu:Value:=vU 10
def nW:AD:=(67,2,[cu,vR 2])
def I7:List AD:=[lU,nW,aG]
def jH:List Value:=[aw,zq3,zq0]
def qS:Cn:=((18,jH,I7,1),(some zq0,(I7),[]),(0,0,0,0))
theorem uZ:CtH qS:=ctR 13 ag rfl (af _) [] [] sc0 (by decide +kernel)
def qT:AD:=(3,0,[aO,bi,aK,vR 2]++uS 2 7)
def u7:AD:=(68,2,[vU 9,vR 3])
def qU:AD:=(64,2,[cu,zq3])
def I8:List AD:=[qT,u7,qU,br]
def dB:Op:=(4,1,0,0)
def Q7:Op:=(11,2,4472406533629990549,1)
def Q8:Op:=(2,4591870180066957722,4,0)
def aB:Value:=vD 1
def PF:Op:=(10,2,5,1)
def PG:Op:=(5,0,3,0)
def gk:List Op:=[dB,Q7,dB,PG,Q8,PF]
def I9:Cn:=((19,[aw,zq3,aB],I8,2),(some zq3,(I8),gk),(1,0,0,17))
theorem u8:CtH I9:=ctR 45 ag rfl (af _) [] [1,1] sc0 (by decide +kernel)
def I_:List AD:=[(4,0,[aO,aK,bi,vU 2]),(64,2,[zq3,ct])]
def mV:Cn:=((22,[aw,zq0],I_,1),(some zq3,(I_),[]),(0,0,0,0))
theorem iS:CtH mV:=ctR 6 aN rfl (aM _) [] [] sc0 (by decide +kernel)
def dr:Value:=vR 10
def d3:Value:=vR 12
def cW:Value:=vR 8
def jf:List Value:=[cW,dr,d3]
def lV:AD:=(3,0,[aw]++rS 2 4++jf++uS 28 3)
def d4:Value:=vR 13
def cM:Value:=vU 35
def bH:Value:=vU 45
def ck:Value:=vU 33
def dC:Value:=vR 14
def c8:Value:=vU 42
def dt:Value:=vU 41
def kO:AD:=(4,0,[d4,dC,dt,c8])
def kQ:AD:=(4,0,[vR 11]++uS 36 3)
def cN:Value:=vU 44
def nX:AD:=(67,2,[ew,dA])
def iq:Value:=vU 40
def fC:Value:=vU 43
def eW:Value:=vU 39
def nY:AD:=(68,2,[cV,vR 7])
def dQ:Value:=vU 34
def bO:Value:=vR 9
def kR:AD:=(64,2,[zq3,dQ])
def nZ:AD:=(67,2,[bO,cM])
def qV:AD:=(64,3,[eW,zq0,iq])
def qW:AD:=(64,2,[ck,zq3])
def u_:AD:=(64,3,[fC,zq0,cN])
def Ja:List AD:=[za5,lV,nX,nY,qW,kR,aG,br,nZ,aF,kQ,qV,kO,u_,(64,2,[zq3,bH])]
def Jb:Cn:=((16,[aK],Ja,2),(some (.long 4294967296),(Ja),gk),(2,0,0,37))
def qX:List Value:=[aw,vR 2,vR 5,cW,dr,d3]
def va:Sc:=(I9,[1,3,4,7],[0,1],qX++uS 28 3++[cV,ck])
def qY:Sc:=(nV,[10,11],[0],uS 36 5)
def vb:Sc:=(nV,[12,13],[0],[dC]++uS 41 4)
theorem PH:CtH Jb:=ctR 146 ag rfl (af _) [vb,(qS,[1,2,6],[0],[aw]++rS 3 3++jf++uS 28 4),va,(mV,[12,14],[0],[d4,dt,c8,bH]),qY] [] (scS eV (scS uZ (scS u8 (scS iS (scS eV sc0))))) (by decide +kernel)
def nN:AD:=(3,0,[aO]++rS 1 3++uS 1 7)
def qZ:AD:=(68,2,[vU 9,vR 5])
def q5:AD:=(67,2,[vU 8,vR 4])
def Jc:List AD:=[nN,q5,qZ,qU,aG,br]
def Bq:Cn:=((24,jH,Jc,2),(none,(an Jc [(3,64,2,[cu,zq0])]),[]),(0,0,0,0))
theorem Jd:CtH Bq:=ctR 36 ag rfl (af _) [] [] sc0 (by decide +kernel)
def Je:List AD:=[(4,0,[aO]++rS 1 3),(64,2,[bi,zq1]),(64,2,[vU 2,zq0]),aU 64 3 2]
def Br:Cn:=((26,g8,Je,1),(none,(an Je [(1,aI [(-1),(-1)]),(3,64,2,[ct,zq1])]),[]),(0,0,0,0))
theorem Bs:CtH Br:=ctR 29 aN rfl (aM _) [] [] sc0 (by decide +kernel)
def vc:AD:=(64,2,[zq1,vU 4])
def Jf:List AD:=[g9,kN,(64,2,[zq3,ct]),vc,(64,2,[zq3,vU 5])]
def ve:Cn:=((26,[aw,zq0],Jf,1),(none,(an Jf [(1,64,3,[aO,zq3,vU 2]),(3,aI [(-1),(-1)]),(4,64,2,[zq1,vU 5])]),[]),(0,0,0,0))
theorem Bt:CtH ve:=ctR 39 aN rfl (aM _) [] [] sc0 (by decide +kernel)
def Q9:AD:=(0,0,uS 0 14++rS 1 5++[vU 14,vU 15,dA,vR 7]++uS 16 6)
def bQ:Value:=vR 17
def cg:Value:=vR 15
def bS:Value:=vU 38
def eX:Value:=vU 46
def Bu:AD:=aU 64 28 3
def Jg:AD:=aU 64 22 2
def bx:Value:=vR 21
def PJ:AD:=aU 65 26 2
def PK:AD:=aU 64 36 2
def PL:AD:=aU 64 34 2
def PM:AD:=aU 64 31 3
def PN:AD:=aU 64 24 2
def q6:AD:=(68,2,[iq,dC])
def q7:AD:=(67,2,[eW,d4])
def q8:AD:=(64,2,[dt,zq3])
def q9:AD:=(64,2,[bH,zq1])
def iT:List AD:=[Q9,Jg,PN,PJ,Bu,PM,PL,PK]
def vf:List AD:=[(64,2,[zq3,c8]),aG,br,(67,2,[cZ,fC])]
def Jh:List AD:=iT++([(3,0,[aw]++rS 9 4++[cg,bQ,bx,bS,zq0,zq0]),q7,q6,q8]++vf++[aF,(4,0,[cN]++rS 18 3),q9,(64,2,[eX,zq0]),aU 64 47 2,(4,0,rS 22 4),aU 64 49 3,(64,2,[zq3,vU 52]),(64,2,[zq1,vU 53]),(64,2,[zq3,vU 54])])
def iU:List Value:=[zq0,zq0,vU 30]
def gl:Value:=vU 37
def Ji:Cn:=((23,[cW,zq0,zq3,zq0],Jh,2),(none,(an Jh [(1,64,2,[zq3,vU 23]),(2,64,2,[zq0,vU 25]),(3,65,2,[aB,vU 27]),(4,64,3,iU),(5,64,3,[zq0,zq0,ck]),(6,64,2,[dQ,zq0]),(7,64,2,[zq0,gl]),(11,64,2,[dt,zq0]),(12,64,2,[zq0,c8]),(18,aI [(-1),(-1)]),(20,64,2,[vU 47,zq1]),(22,64,3,[vU 49,zq3,vU 51]),(24,aI [(-1),(-1)]),(25,64,2,[zq1,vU 54])]),[]),(1,0,0,15))
theorem PO:CtH Ji:=ctR 136 ag rfl (af _) [(qS,[8,9,13],[0],[aw]++rS 10 3++[cg,bQ,bx,bS,zq0,zq0,eW]),(Bq,[8,9,10,11,13,14],[0,1],[aw,d3,cg,bQ,bx,bS,zq0,zq0]++uS 39 3),(Br,[17,18,19,20],[0],uS 44 5),(ve,[21,22,23,24,25],[0],uS 49 6)] [] (scS uZ (scS Jd (scS Bs (scS Bt sc0)))) (by decide +kernel)
def Jj:List AD:=[uY,(64,3,[ct,zq3,vU 4])]
def kS:Cn:=((17,g8,Jj,1),(some zq3,(Jj),[]),(0,0,0,0))
theorem eY:CtH kS:=ctR 6 aN rfl (aM _) [] [] sc0 (by decide +kernel)
def n5:AD:=(67,2,[vR 2,cu])
def Jk:List AD:=[lU,n5,aF]
def q_:Cn:=((18,jE,Jk,1),(some zq0,(Jk),[]),(0,0,0,0))
theorem vg:CtH q_:=ctR 13 ag rfl (af _) [] [] sc0 (by decide +kernel)
def vh:AD:=(68,2,[vR 3,vU 9])
def rd:AD:=(64,2,[zq3,cu])
def Jl:List AD:=[qT,vh,rd,br]
def kT:List Value:=[aw,zq0,aB]
def Jm:Cn:=((19,kT,Jl,2),(some zq3,(Jl),gk),(1,0,0,17))
theorem vi:CtH Jm:=ctR 45 ag rfl (af _) [] [1,1] sc0 (by decide +kernel)
def Jn:List AD:=[(4,0,[aO,aK,bi,vU 2]),(64,2,[ct,zq1])]
def jI:Cn:=((22,g8,Jn,1),(some zq1,(Jn),[]),(0,0,0,0))
theorem eZ:CtH jI:=ctR 6 aN rfl (aM _) [] [] sc0 (by decide +kernel)
def n6:AD:=(67,2,[dA,ew])
def iV:AD:=(64,2,[dQ,zq3])
def n7:AD:=(68,2,[vR 7,cV])
def n8:AD:=(67,2,[cM,bO])
def rf:AD:=(64,2,[zq3,ck])
def vj:AD:=(64,3,[fC,zq3,cN])
def Jo:List AD:=[za5,lV,n6,n7,rf,iV,aF,br,n8,aG,kQ,qV,kO,vj,q9]
def Jp:Cn:=((16,[aK],Jo,2),(some (.long 1),(Jo),gk),(2,0,0,37))
def vk:Sc:=(Jm,[1,3,4,7],[0,1],qX++uS 28 3++[cV,ck])
def vl:Sc:=(jI,[12,14],[0],[d4,dt,c8,bH])
def vn:Sc:=(kS,[12,13],[0],[dC]++uS 41 4)
theorem PP:CtH Jp:=ctR 139 ag rfl (af _) [vn,(q_,[1,2,6],[0],[aw]++rS 3 3++jf++uS 28 4),vk,vl,qY] [] (scS eY (scS vg (scS vi (scS eZ (scS eV sc0))))) (by decide +kernel)
def rg:AD:=(68,2,[vR 5,vU 9])
def rh:AD:=(67,2,[vR 4,vU 8])
def Jq:List AD:=[nN,rh,rg,rd,aF,br]
def jJ:List Value:=[aw,zq0,zq0]
def Bv:Cn:=((24,jJ,Jq,2),(none,(an Jq [(3,64,2,[zq0,cu])]),[]),(0,0,0,0))
theorem Jr:CtH Bv:=ctR 36 ag rfl (af _) [] [] sc0 (by decide +kernel)
def Js:List AD:=[g9,kN,(64,2,[zq1,ct]),vc,(64,2,[zq3,vU 5])]
def kU:Cn:=((26,[aw,zq0],Js,1),(none,(an Js [(1,64,3,[aO,zq1,vU 2]),(4,64,2,[zq1,vU 5])]),[]),(0,0,0,0))
theorem iX:CtH kU:=ctR 28 aN rfl (aM _) [] [] sc0 (by decide +kernel)
def Jt:List AD:=[g9,kN,(64,2,[ct,zq1]),(64,2,[vU 4,zq1]),(64,2,[vU 5,zq3])]
def hO:Cn:=((26,g8,Jt,1),(none,(an Jt [(1,64,3,[aO,zq1,vU 2]),(4,64,2,[vU 5,zq1])]),[]),(0,0,0,0))
theorem gm:CtH hO:=ctR 28 aN rfl (aM _) [] [] sc0 (by decide +kernel)
def dR:Value:=vR 22
def ri:AD:=(4,0,rS 23 4)
def mW:AD:=(4,0,rS 18 4)
def Bw:AD:=(3,0,[aw]++rS 9 4++[cg,bQ,dR,bS,zq0,zq0])
def Bx:AD:=(64,2,[c8,zq3])
def f8:Value:=vU 55
def rj:AD:=(68,2,[dC,iq])
def rk:AD:=(67,2,[d4,eW])
def rl:AD:=(64,2,[zq3,dt])
def By:AD:=(64,2,[zq1,vU 48])
def Ju:AD:=(64,2,[vU 54,zq1])
def Jv:List AD:=[ri,aU 64 50 3,(64,2,[vU 53,zq1]),Ju,(64,2,[f8,zq3])]
def vo:List AD:=[Bx,aF,br,(67,2,[fC,cZ])]
def Jw:List AD:=iT++(([Bw,rk,rj,rl]++vo++[aG,mW,aU 64 44 3,(64,2,[zq1,vU 47]),By,(64,2,[zq3,vU 49])])++Jv)
def bI:Value:=vU 36
def cX:Value:=vU 22
def e6:Value:=vU 24
def kV:List Value:=[vU 26,aB]
def Jx:Cn:=((23,[cW,zq3,zq0,zq3],Jw,2),(none,(an Jw [(1,64,2,[cX,zq0]),(2,64,2,[e6,zq3]),(3,65,2,kV),(4,64,3,[vU 28,zq0,zq0]),(5,64,3,[ew,zq0,zq0]),(6,64,2,[zq3,cM]),(7,64,2,[bI,zq3]),(11,64,2,[zq0,dt]),(12,64,2,[c8,zq0]),(18,64,3,[cN,zq1,eX]),(21,64,2,[zq1,vU 49]),(23,64,3,[vU 50,zq1,vU 52]),(26,64,2,[f8,zq1])]),[]),(1,0,0,15))
theorem PQ:CtH Jx:=ctR 136 ag rfl (af _) [(q_,[8,9,13],[0],[aw]++rS 10 3++[cg,bQ,dR,bS,zq0,zq0,eW]),(Bv,[8,9,10,11,13,14],[0,1],[aw,d3,cg,bQ,dR,bS,zq0,zq0]++uS 39 3),(kU,[17,18,19,20,21],[0],uS 44 6),(hO,[22,23,24,25,26],[0],uS 50 6)] [] (scS vg (scS Jr (scS iX (scS gm sc0)))) (by decide +kernel)
def Jy:List AD:=[kN]
def jK:Cn:=((14,[aw,zq0],Jy,1),(none,(an Jy [(0,aI [0,0,0])]),[]),(0,0,0,0))
theorem iY:CtH jK:=ctR 37 cR rfl (cm _) [] [] sc0 (by decide +kernel)
def Jz:List AD:=[]
def Bz:Cn:=((1,[vI 3,ay],Jz,1),(some ay,(Jz),[]),(0,0,0,0))
theorem JA:CtH Bz:=ctR 6 fh rfl (dJ _) [] [] sc0 (by decide +kernel)
def JB:List AD:=[(64,3,[zq0,zq0,aO])]
def kW:Cn:=((11,ip,JB,1),(some aK,(JB++[az]),[]),(1,1,2,40))
theorem kX:CtH kW:=ctR 19 cR rfl (cm _) [(Bz,[],[0],[])] [] (scS JA sc0) (by decide +kernel)
def JC:List AD:=[(0,0,uS 0 4++[aK,vU 4,vR 2]++uS 5 6++[ay]++uS 11 3++rS 3 4++uS 14 8),za8,za8,bv,bv,bv,bv]
def JD:Cn:=((31,[aw],JC,1),(none,(JC++[az,az]),[]),(2,2,4,54))
theorem JE:CtH JD:=ctR 194 aC rfl (aA _) [(jK,[5],[0],g_),(jK,[6],[0],g_),(kW,[5],[0],[zq0]),(kW,[6],[0],[zq0])] [] (scS iY (scS iY (scS kX (scS kX sc0)))) (by decide +kernel)
def gN:List Value:=[vR 7,vU 4,cW]
def rn:AD:=aU 64 19 2
def BA:AD:=aU 64 17 2
def PR:AD:=(0,0,uS 0 4++gN++uS 5 6++[ay]++rS 9 9++uS 11 6)
def JF:AD:=aU 65 21 2
def JG:List AD:=[bN,br,aD [2],PR,za8,za8,BA,rn,JF,bv,bv,bv,bv,aU 64 23 2,aU 64 25 2]
def JI:List AD:=[bE,aF,aG]++JG
def za7:AD:=aI [(-1),(-1),(-1)]
def ti:Op:=(11,3,4472406533629990549,1)
def eI:Op:=(4,2,0,0)
def ro:Op:=(2,4591870180066957722,9,0)
def gn:List Value:=[dA,aw,vR 3]
def mY:Op:=(5,0,4,0)
def JJ:AD:=(3,0,[dA]++rS 19 4++[fL,fr,vR 36,vR 41,zq0,zq0])
def vp:List AD:=[za7,ft,za2,za2,za2,az,az]
def JK:Cn:=((8,gn,JI,3),(some zq3,(an JI [(6,0,0,uS 0 4++gN++uS 5 6++[ay]++rS 9 9++uS 11 5++[zq0]),(9,aI [1,0]),(10,aI [0,1]),(11,aD [2,1]),(16,aI [1,0]),(17,aI [0,1])]++([JJ,aR 67 [23,25],aR 68 [24,26],az,az,aF,br,aG,aD [2],aR 67 [28,29],aF,aG,bM,(4,0,rS 32 4),za7,za2,fy,za2,(4,0,rS 37 4)]++vp)),[eI,ti,eI,mY,(2,4591870180066957722,5,0),(10,3,6,1),dB,(11,7,4472406533629990549,1),dB,(5,0,8,0),ro,(10,7,10,1)]),(3,26,61,73))
def lW:List Value:=[zq0,.null,.null,.null,zq0,zq0]
def aW:Value:=vR 29
def bT:Value:=vR 24
def dw:Value:=vU 20
def JL:Sc:=(JD,[6,7,8,12,13,14,15],[0],uS 0 11++rS 9 3++[cZ,bQ]++uS 11 5++[zq0])
def bU:Value:=vD 2
def e7:Value:=vR 28
def e_:Value:=vR 26
def fD:Value:=vR 32
theorem PS:CtH JK:=ctR 65 aC rfl (aA _) [(I4,[0,1,2,3,4,5,6,18],[0,1,2],uS 0 4++gN++uS 5 6++rS 9 9++uS 11 5++lW),(Jb,[6,18,19,20,21,22,25,26,27,28,31,32,36,37,38],[0,2],uS 0 4++gN++uS 5 6++rS 9 9++uS 11 5++[zq0,vR 41,zq0,zq0,vR 23,bT,zq3,zq3,aW]++rS 33 3++[zq1,zq1,vR 39,vR 40,zq1,zq1,zq1]),(Ji,[6,9,10,11,12,13,16,17,18,19,20,21,22,25,26,27,28,31,33,34,35,36,37,38,39,40],[0,2],uS 0 4++gN++uS 5 6++[ay,dC,cg]++uS 11 5++[zq0]++uS 17 6++rp 6 zq0++uS 23 4++[vR 41,vR 23,bT,zq3,zq3,aW,fD,zq3,zq1,zq3,zq3,zq1,zq0,zq1,zq1,zq0,zq3]),(Jp,[6,18,19,20,21,22,23,24,27,29,31,32,36,37,38],[0,1],uS 0 4++gN++uS 5 6++rS 9 9++uS 11 5++[zq0,vR 41,zq0,zq0,eU,e_,zq0,zq0,e7]++rS 33 3++[zq1,zq1,vR 39,vR 40,zq1,zq1,zq3]),(Jx,[6,9,10,11,12,13,16,17,18,19,20,21,22,23,24,27,29,31,32,33,34,35,36,37,38,39,40],[0,1],uS 0 4++gN++uS 5 6++[ay,dC,cg]++uS 11 5++[zq0,zq3,vU 18,zq0,dw,bU,cX]++rp 6 zq0++[vU 23,zq0,zq0,vU 26,vR 41,eU,e_,zq0,zq0,e7,zq1,zq0,zq1,zq1,zq0,zq1,zq1,zq3,zq1,zq3,zq1,zq1]),JL] [] (scS PE (scS PH (scS PO (scS PP (scS PQ (scS JE sc0)))))) (by decide +kernel)
def JN:List AD:=[]
def BB:Cn:=((2,[.float 1,.float 2,zq0],JN,3),(some aw,(JN++[aF]),[dq,dq]),(0,1,1,0))
theorem JO:CtH BB:=ctR 12 cb rfl (bq _) [] [0,0] sc0 (by decide +kernel)
def JQ:List AD:=[]
def za4:AD:=aI [0,1]
def eA:Op:=(13,2,0,1)
def BC:Cn:=((2,[.float 1,.float 2,zq0],JQ,3),(some aw,(JQ++[za4]),[cE,eA]),(0,1,2,0))
theorem kY:CtH BC:=ctR 18 cb rfl (bq _) [] [1,1] sc0 (by decide +kernel)
def JR:List AD:=[]
def fb:AD:=aD [3]
def BD:Cn:=((3,[.float 1,.float 2,zq0],JR,3),(some aw,(JR++[fb]),[dq,dq,fJ]),(0,1,1,0))
theorem JS:CtH BD:=ctR 13 cb rfl (bq _) [] [0,0] sc0 (by decide +kernel)
def JU:List AD:=[]
def fe:AD:=aD [3,4]
def BE:Cn:=((3,[.float 1,.float 2,zq0],JU,3),(some aw,(JU++[fe]),[cE,eA,fK,fJ]),(0,1,2,0))
theorem kZ:CtH BE:=ctR 20 cb rfl (bq _) [] [1,1] sc0 (by decide +kernel)
def JV:List AD:=[]
def JW:Cn:=((10,[ay,zq3],JV,1),(some ay,(JV),[]),(0,0,0,0))
theorem dx:CtH JW:=ctR 7 im rfl (dJ _) [] [] sc0 (by decide +kernel)
def JX:List AD:=[za4]
def mZ:Cn:=((11,ip,JX,1),(some aK,(JX++[za4]),[]),(1,1,2,14))
theorem n9:CtH mZ:=ctR 9 cR rfl (cm _) [] [] sc0 (by decide +kernel)
def aL:AD:=aD [1,2]
def JY:List AD:=[aL]
def vq:Cn:=((12,ip,JY,3),(some aK,(JY++[aL]),[]),(1,1,2,14))
theorem hS:CtH vq:=ctR 9 cR rfl (cm _) [] [] sc0 (by decide +kernel)
def vr:List AD:=[g9,(64,3,[aO,bi,zq1])]++uQ
def BF:Cn:=((15,[aw,zq3,ay],vr,1),(none,(an vr [(1,64,3,[aO,bi,zq3]),(2,64,2,[vU 2,zq1]),(3,64,2,[vU 4,zq1]),(4,64,2,[vU 6,ay])]),[]),(0,0,0,0))
theorem JZ:CtH BF:=ctR 30 aN rfl (aM _) [] [] sc0 (by decide +kernel)
def BG:Cn:=((15,jE,uR,1),(none,(an uR [(1,64,3,[aO,zq0,bi]),(2,64,2,[zq1,ct]),(3,64,2,[zq1,vU 5]),(4,64,2,[zq3,vU 7])]),[]),(0,0,0,0))
theorem J2:CtH BG:=ctR 30 aN rfl (aM _) [] [] sc0 (by decide +kernel)
def d5:AD:=aI [1,2]
def J3:List AD:=[za5,d5,uU]
def rq:AD:=aI [(-1),0,1]
def BH:Cn:=((13,[vR 2,aw,aK],J3,1),(none,(an J3 [(2,4,0,rS 3 4)]++[rq,za2,za2,d5]),[]),(1,4,9,15))
theorem k_:CtH BH:=ctR 61 aN rfl (iE) [(qQ,[3],[0],g_),uW,(BF,[2,3,4,5,6],[0],uV),(BG,[2,3,4,5,6],[0],[zq1,zq3,zq0,zq1,zq0,zq1,zq1,ay])] [] (scS uP (scS fM (scS JZ (scS J2 sc0)))) (by decide +kernel)
def hT:AD:=aD [2,3]
def J4:List AD:=[bE,aF,za4,bN,br,hT,za5,lS]
def J5:List AD:=[hT,mU,aF,za4,d5,jG,rq,za2,za2,d5,jF,rq,za2,za2,d5,za2]
def J6:Cn:=((9,hG,J4,4),(none,(an J4 [(7,3,0,lT)]++([hI,hH,d5,d5,aF,br,za4]++J5)),[]),(2,23,49,32))
def gi:Sc:=(JW,[],[0],[])
def vt:Sc:=(BH,[6,11,25],[0],uS 0 28)
def vu:Sc:=(BH,[6,10,20],[0],uS 0 28)
def vw:Sc:=(vq,[5],[0,2,3],[])
theorem PT:CtH J6:=ctR 375 ag rfl (cw) [gh,(th,[1],[0],[]),nU,gi,(mZ,[2],[0],[]),vw,gh,gi,vu,vt,iR] [] (scS fZ (scS yp (scS lR (scS dx (scS n9 (scS hS (scS fZ (scS dx (scS k_ (scS k_ (scS fM sc0))))))))))) (by decide +kernel)
def J7:List AD:=[lU,nW,(64,2,[zq0,vU 11])]
def n_:Cn:=((18,jH,J7,1),(some zq0,(J7),[]),(0,0,0,0))
theorem ru:CtH n_:=ctR 13 ag rfl (af _) [] [] sc0 (by decide +kernel)
def J8:List AD:=[qT,u7,(64,2,[cu,ay]),aL]
def BI:Op:=(2,4591870180066957722,7,0)
def rv:Op:=(5,5,6,0)
def BJ:Op:=(10,3,8,1)
def hV:List Op:=[ti,dB,mY,eI,rv,BI,BJ]
def BK:Cn:=((19,[aw,zq3,aB],J8,3),(some zq3,(J8),[dB]++hV),(1,0,0,17))
theorem BL:CtH BK:=ctR 63 ag rfl (af _) [] [1,1] sc0 (by decide +kernel)
def J9:List AD:=[(4,0,[aO,aK,bi,vU 2]),(64,2,[zq1,ct])]
def vx:Cn:=((22,[aw,zq0],J9,1),(some zq1,(J9),[]),(0,0,0,0))
theorem oa:CtH vx:=ctR 6 aN rfl (aM _) [] [] sc0 (by decide +kernel)
def J_:AD:=(4,0,[d4,dC,c8,fC])
def lb:AD:=(4,0,[vR 11]++uS 37 3)
def vy:AD:=(64,3,[iq,zq0,dt])
def PU:AD:=(64,3,[cN,zq0,bH])
def vz:List AD:=[za5,lV,nX,nY,(64,2,[ck,ay])]
def vA:List AD:=[J_,PU,(64,2,[zq1,eX])]
def Ka:List AD:=vz++([kR,(64,2,[zq0,cM]),aL,(67,2,[bO,bI]),aF,lb,vy]++vA)
def Kc:Cn:=((16,[aK],Ka,3),(some (.long 4294967296),(Ka),[dB]++hV),(2,0,0,37))
def vB:Sc:=(vx,[12,14],[0],[d4,c8,fC,eX])
def vC:Sc:=(nV,[12,13],[0],[dC]++uS 42 4)
def vE:Sc:=(nV,[10,11],[0],uS 37 5)
def Kd:Sc:=(BK,[1,3,4,7],[0,1,2],qX++uS 28 3++[cV,ck])
theorem PV:CtH Kc:=ctR 139 ag rfl (af _) [vC,(n_,[1,2,6],[0],[aw]++rS 3 3++jf++uS 28 4++[cM]),Kd,vB,vE] [] (scS eV (scS ru (scS BL (scS oa (scS eV sc0))))) (by decide +kernel)
def vF:AD:=(65,2,[vU 12,aB])
def vG:List AD:=[nN,q5,qZ,(64,2,[cu,ay]),(64,2,[vU 11,zq3]),vF]
def vH:Cn:=((24,jH,vG,2),(none,(an vG [(3,64,2,[cu,zq3]),(4,aI [1,1]),(5,aD [1,1])]),[]),(0,0,0,0))
theorem BM:CtH vH:=ctR 36 ag rfl (af _) [] [] sc0 (by decide +kernel)
def Ke:List AD:=[]
def Kg:Cn:=((10,[zq0,ay],Ke,1),(some ay,(Ke),[]),(0,0,0,0))
theorem vJ:CtH Kg:=ctR 6 im rfl (dJ _) [] [] sc0 (by decide +kernel)
def Kh:List AD:=[]
def BN:Cn:=((1,[zq0,ay],Kh,1),(some zq0,(Kh),[]),(0,0,0,0))
theorem Ki:CtH BN:=ctR 7 fh rfl (dJ _) [] [] sc0 (by decide +kernel)
def Kj:List AD:=[za8]
def Kk:Cn:=((11,ip,Kj,1),(some aK,(Kj++[az]),[]),(1,1,2,40))
theorem vK:CtH Kk:=ctR 19 cR rfl (cm _) [(BN,[],[0],[])] [] (scS Ki sc0) (by decide +kernel)
def Kl:List AD:=[eH]
def Km:Cn:=((12,ip,Kl,1),(some aK,(Kl++[jA]),[]),(1,1,2,40))
theorem vL:CtH Km:=ctR 19 cR rfl (cm _) [(BN,[],[0],[])] [] (scS Ki sc0) (by decide +kernel)
def vM:List AD:=[(0,0,[aK,vR 2]++uS 0 11++[ay]++uS 11 15),za8,eH,(3,0,[aw]++uS 26 8++[zq0,dQ])]
def za9:AD:=aI [1,0]
def eJ:AD:=aD [1,0]
def m0:Cn:=((25,[vR 3,zq3,aB],vM,2),(none,(an vM [(0,0,0,[vR 4,vR 5]++uS 0 11++[ay]++uS 11 15),(3,3,0,[aw]++uS 26 8++[zq3,dQ])]++[za9,eJ]),[]),(2,2,4,55))
def vN:List Sc:=[(Kg,[],[0],[]),(Kk,[1],[0],[]),(Km,[2],[0],[])]
theorem lf:CtH m0:=ctR 54 ag rfl (af _) vN [] (scS vJ (scS vK (scS vL sc0))) (by decide +kernel)
def Kn:List AD:=[g9,kN,(64,2,[ct,zq1]),(64,2,[vU 4,zq1]),(64,2,[vU 5,ay])]
def BO:Cn:=((26,g8,Kn,1),(none,(an Kn [(1,64,3,[aO,bi,zq1]),(4,64,2,[vU 5,zq1])]),[]),(0,0,0,0))
theorem rx:CtH BO:=ctR 28 aN rfl (aM _) [] [] sc0 (by decide +kernel)
def vO:List AD:=[(3,0,uS 0 4++[aK,vR 2]++uS 4 5),(64,2,[vU 9,ay]),(67,2,[cu,vR 3]),za4]
def BP:Cn:=((27,jD,vO,1),(none,(an vO [(1,64,2,[vU 9,zq3])]),[]),(0,0,0,0))
theorem vP:CtH BP:=ctR 42 ag rfl (af _) [] [] sc0 (by decide +kernel)
def Ko:List AD:=[g9,(64,3,[aO,zq1,bi]),(64,2,[vU 2,zq1]),(64,2,[ct,zq1]),(64,2,[vU 4,ay])]
def m6:Cn:=((28,jD,Ko,1),(none,(an Ko [(1,64,3,[aO,zq3,zq1]),(4,64,2,[vU 4,zq3])]),[]),(1,0,0,14))
theorem iZ:CtH m6:=ctR 20 aN rfl (aM _) [(BO,[0,1,2,3,4],[0],[aO,zq1]++uS 1 4),(uT,[0,1,2,3,4],[0],[aO,zq1,vU 2,zq1,ct,zq1,vU 4,zq1])] [] (scS rx (scS Bo sc0)) (by decide +kernel)
def ob:List Value:=[vU 11,vU 12,cW,bO]
def PW:AD:=(0,0,[aK,vR 2]++uS 0 11++[ay]++rS 3 5++ob++uS 13 6)
def PX:AD:=(3,0,[aw]++rS 11 4++[bQ,co,eU,cM,zq0,zq0])
def BQ:AD:=aU 64 31 2
def lg:AD:=aR 67 [18,19]
def Kq:AD:=aU 65 23 2
def Kr:AD:=aU 64 39 3
def Ks:AD:=aU 64 33 2
def Ku:AD:=aU 64 25 3
def Kv:AD:=aU 64 21 2
def vQ:AD:=(64,3,[bH,zq0,eX])
def vS:List AD:=[PW,za8,eH,rn,Kv,Kq,Ku,Bu,BQ,Ks,PX,(67,2,[bI,cg]),(68,2,[gl,cZ]),(64,2,[bS,ay])]
def vT:List AD:=[jG,Kr,(64,2,[c8,zq1]),(64,2,[fC,zq1]),(64,2,[cN,ay]),jF]
def Kw:List AD:=vS++([d5,za4,aL,lg,aF,za4]++vT++[vQ,za2,za2,d5])
def ry:List Value:=[vR 30,fr]++uS 0 11++[ay]++rS 3 5++ob++uS 13 6
def rz:List Value:=[aw]++rS 11 4++[bQ,co,eU,cM,zq3,zq0]
def fE:AD:=aD [2,0]
def lh:List Value:=[zq0,zq3,vU 27]
def lk:List Value:=[eW,iq,zq1]
def Kx:Cn:=((23,[dr,zq0,zq3,zq0],Kw,3),(none,(an Kw [(0,0,0,ry),(3,64,2,[zq3,dw]),(4,64,2,[zq0,cX]),(5,65,2,[aB,e6]),(6,64,3,lh),(7,64,3,iU),(8,64,2,[ew,zq0]),(9,64,2,[zq0,dQ]),(10,3,0,rz),(13,64,2,[bS,zq3]),(14,aI [0,1]),(15,aI [1,1]),(16,aD [2,2]),(21,64,3,lk),(24,64,2,[cN,zq1]),(26,64,3,[bH,zq3,zq1]),(29,aI [(-1),1])]++[za9,fE]),[]),(3,2,4,70))
def ll:List Value:=[aw,dC,bQ,co,eU,cM,zq0,zq0]
def vV:Sc:=(kU,[25,26,27,28,29],[0],[bH,zq0,eX,zq1,zq1,ay])
def vW:Sc:=(m6,[25,26,27,28,29],[0],[bH,eX,zq1,zq1,zq1])
def vX:List Value:=[bQ,co,eU,cM,zq0]
def BR:Sc:=(BO,[20,21,22,23,24],[0],uS 39 6)
def ff:Value:=vR 18
def Ky:Sc:=(m0,[0,1,2,10],[0,2],uS 0 11++rS 3 5++ob++uS 13 6++rS 11 4++vX)
def Kz:Sc:=(BP,[10,14,17,19],[0],[aw]++rS 11 3++[co,eU,cM,zq3,zq0,zq3,ff])
theorem PY:CtH Kx:=ctR 185 ag rfl (af _) [(n_,[10,11,15],[0],[aw]++rS 12 3++[bQ,co,eU,cM,zq0,zq0,bI,zq3]),(vH,[10,11,12,13,15,16],[0,2],ll++uS 36 3++[zq0,aB]),Ky,BR,vV,Kz,vW] [] (scS ru (scS BM (scS lf (scS rx (scS iX (scS vP (scS iZ sc0))))))) (by decide +kernel)
def PZ:AD:=(64,3,[cN,zq3,bH])
def vY:List AD:=[J_,PZ,(64,2,[eX,zq1])]
def KA:List AD:=[za5,lV,n6,n7,rf,iV,aF,br,n8,(64,2,[zq0,bI]),lb,vy]++vY
def KB:Cn:=((16,[aK],KA,2),(some (.long 1),(KA),gk),(2,0,0,37))
def vZ:Sc:=(jI,[12,14],[0],[d4,c8,fC,eX])
def v3:Sc:=(kS,[12,13],[0],[dC]++uS 42 4)
theorem KC:CtH KB:=ctR 139 ag rfl (af _) [v3,(q_,[1,2,6],[0],[aw]++rS 3 3++jf++uS 28 4),vk,vZ,vE] [] (scS eY (scS vg (scS vi (scS eZ (scS eV sc0))))) (by decide +kernel)
def v4:AD:=(3,0,[aw]++rS 9 4++[cg,bQ,dR,bS,zq3,zq0])
def KD:List AD:=[ri,aU 64 51 3,Ju,(64,2,[f8,zq1]),(64,2,[vU 56,zq3])]
def KE:List AD:=[(64,2,[zq0,cN]),mW,aU 64 45 3,By,(64,2,[zq1,vU 49]),(64,2,[zq3,vU 50])]
def KF:List AD:=iT++((([v4,rk,rj,rl]++vo)++KE)++KD)
def oe:List Value:=[vU 28,zq3,zq3]
def BS:Cn:=((23,[cW,zq3,zq0,zq3],KF,2),(none,(an KF [(1,64,2,[cX,zq0]),(2,64,2,[e6,zq3]),(3,65,2,kV),(4,64,3,oe),(5,64,3,[ew,zq0,zq0]),(6,64,2,[zq3,cM]),(7,64,2,[bI,zq3]),(11,64,2,[zq0,dt]),(12,64,2,[c8,zq0]),(18,64,3,[bH,zq1,vU 47]),(21,64,2,[zq1,vU 50]),(23,64,3,[vU 51,zq1,vU 53]),(26,64,2,[vU 56,zq1])]),[]),(1,0,0,15))
def v5:List Value:=[aw,d3,cg,bQ,dR,bS,zq3,zq0]
def v6:List Value:=[cg,bQ,dR,bS,zq3,zq0,eW]
theorem KG:CtH BS:=ctR 136 ag rfl (af _) [(q_,[8,9,13],[0],[aw]++rS 10 3++v6),(Bv,[8,9,10,11,13,14],[0,1],v5++uS 39 3),(kU,[17,18,19,20,21],[0],uS 45 6),(hO,[22,23,24,25,26],[0],uS 51 6)] [] (scS vg (scS Jr (scS iX (scS gm sc0)))) (by decide +kernel)
def dU:AD:=aI [0,1,1]
def KH:AD:=(0,0,[cW,bO,aO,bi]++rS 1 3++uS 2 6++[ay]++uS 8 3++rS 4 4++uS 11 8)
def KI:List AD:=[KH,za8,eH,za8,dU,bv,bv,bv,(64,2,[zq3,vU 19]),(65,2,[aB,dw])]
def KJ:List Value:=[cW,bO,aO,bi,dr,vR 11,vR 3]++uS 2 6++[ay]++uS 8 3++rS 4 4++uS 11 8
def v7:Cn:=((31,[aw],KI,2),(none,(an KI [(0,0,0,KJ),(6,aI [0,0,1])]++[az,eJ,za4,az]),[]),(2,4,8,54))
theorem v8:CtH v7:=ctR 259 aC rfl (aA _) [(jK,[6],[0],g_),(jK,[7],[0],g_),(kW,[6],[0],[zq3]),(kW,[7],[0],[zq0])] [] (scS iY (scS iY (scS kX (scS kX sc0)))) (by decide +kernel)
def ir:List Value:=[vR 7,cW,aO,bi]
def Q_:AD:=(0,0,ir++rS 9 3++uS 2 6++[ay]++rS 12 9++uS 8 6)
def P3:AD:=aU 65 18 2
def P4:AD:=aU 64 20 2
def P5:AD:=aU 64 16 2
def P6:AD:=aU 64 14 2
def lm:List AD:=[Q_,za8,eH,za8,eH,za8,P6,P5,P3,bv,bv,bv,bv,P4,Jg]
def KL:List AD:=[bE,aF,za4,bN,br,hT]++lm
def rA:List Value:=[vR 45,vR 46,aO,bi,vR 47,vR 48,vR 11]++uS 2 6++[ay]++rS 12 9++uS 8 5++[zq0]
def bF:Value:=vR 34
def cF:Value:=vR 44
def rB:AD:=(3,0,[dA]++rS 22 4++[vR 30,bF,vR 39,cF,zq3,zq0])
def KN:Op:=(11,10,4472406533629990549,1)
def KO:Op:=(2,4591870180066957722,12,0)
def KP:Op:=(11,4,4472406533629990549,1)
def KQ:Op:=(2,4591870180066957722,8,0)
def it:Op:=(4,3,0,0)
def lo:AD:=aR 68 [27,29]
def lp:AD:=aR 67 [31,32]
def lq:AD:=aR 67 [26,28]
def P7:AD:=(4,0,rS 40 4)
def P8:AD:=(4,0,rS 35 4)
def KR:Op:=(10,10,13,1)
def KS:Op:=(5,0,11,0)
def KT:Op:=(10,4,9,1)
def KU:Op:=(5,6,7,0)
def KV:Op:=(5,0,5,0)
def lr:List AD:=[P8,za7,za2,za2,za2,P7,za7,za2,za2,za2,za2]
def v9:List Op:=[KP,eI,KV,it,KU,KQ,KT,dB,KN,dB,KS,KO,KR]
def KW:Cn:=((8,gn,KL,4),(some zq3,(an KL [(6,0,0,rA),(12,aI [1,0]),(13,aI [0,1]),(14,aD [2,1]),(15,aI [0,1,1]),(17,aI [0,0,1]),(19,aI [1,0]),(20,aI [0,1])]++([rB,lq,lo,za4,az,aF,br,bM,aD [3,3],lp,aF,za4,d5]++lr++[za9,aD [3,0],az,aD [3,0],za4,az])),[eI]++v9),(4,30,72,93))
def lX:List Value:=[vR 45,vR 46,aO,bi]
def v_:List Value:=[zq1,zq1,vR 42,vR 43,zq1,zq1,zq1]
def KX:Sc:=(KB,[6,21,22,23,24,25,26,27,30,32,34,35,39,40,41],[0,1],lX++rS 9 3++uS 2 6++rS 12 9++uS 8 5++[zq0,cF,zq3,zq0,e7,aW,zq3,zq0,fr,zq3]++rS 36 3++v_)
def ls:List Value:=[ay,bQ,ff]
theorem P9:CtH KW:=ctR 65 aC rfl (aA _) [(J6,[0,1,2,3,4,5,6,21],[0,1,2,3],ir++rS 9 3++uS 2 6++rS 12 9++uS 8 5++lW),(Kc,[6,21,22,23,24,25,28,29,30,31,34,35,39,40,41],[0,2,3],ir++rS 9 3++uS 2 6++rS 12 9++uS 8 5++[zq0,cF,zq0,zq0,e_,fL,zq3,ay,zq3,fD]++rS 36 3++[zq1,zq3,vR 42,vR 43,zq1,zq3,zq1]),(Kx,[6,7,8,12,13,14,15,16,19,20,21,22,23,24,25,28,29,30,31,32,34,35,36,37,38,39,40,41,42,43],[0,2,3],[aO,bi]++rS 9 3++uS 2 6++[bQ,ff]++uS 8 5++[zq0]++uS 14 6++rp 6 zq0++uS 20 4++[cF,e_,fL,zq3,zq1,zq0,zq3,zq1,zq1,zq3,zq1,zq3]),KX,(BS,[6,12,13,14,15,16,19,20,21,22,23,24,25,26,27,30,32,34,35,36,37,38,39,40,41,42,43],[0,1],lX++rS 9 3++uS 2 6++ls++uS 8 5++[zq0,zq3,vU 15,zq0,vU 17,bU,vU 19,zq0,zq3,zq0,zq0,zq0,zq0,dw,zq0,zq0,vU 23,cF,e7,aW,zq3,zq0,fr,zq3,zq1,zq0]++rp 5 zq1++[zq3,zq1,zq1,zq1,zq1]),(v7,[6,9,10,11,15,16,17,18,45,46],[0,3],uS 0 8++rS 12 3++[vR 19,co]++uS 8 5++[zq0,zq0,ax])] [] (scS PT (scS PV (scS PY (scS KC (scS KG (scS v8 sc0)))))) (by decide +kernel)
def KY:List AD:=[]
def BT:Cn:=((2,[.float 1,.float 2,zq3],KY,3),(some aw,(KY++[aF]),[dq,dq]),(0,1,1,0))
theorem KZ:CtH BT:=ctR 12 cb rfl (bq _) [] [0,0] sc0 (by decide +kernel)
def K0:List AD:=[]
def BU:Cn:=((2,[.float 1,.float 2,zq3],K0,3),(some aw,(K0++[za9]),[cE,eA]),(0,1,2,0))
theorem lw:CtH BU:=ctR 19 cb rfl (bq _) [] [1,1] sc0 (by decide +kernel)
def K4:List AD:=[]
def BV:Cn:=((3,[.float 1,.float 2,zq3],K4,3),(some aw,(K4++[fb]),[dq,dq,fJ]),(0,1,1,0))
theorem K5:CtH BV:=ctR 13 cb rfl (bq _) [] [0,0] sc0 (by decide +kernel)
def K6:List AD:=[]
def BW:Cn:=((3,[.float 1,.float 2,zq3],K6,3),(some aw,(K6++[fe]),[cE,eA,fJ,fK]),(0,1,2,0))
theorem lx:CtH BW:=ctR 21 cb rfl (bq _) [] [1,1] sc0 (by decide +kernel)
def K7:List AD:=[za9]
def m7:Cn:=((11,ip,K7,1),(some aK,(K7++[za9]),[]),(1,1,2,14))
theorem og:CtH m7:=ctR 9 cR rfl (cm _) [] [] sc0 (by decide +kernel)
def K8:List AD:=[bE,aF,za9,bN,br,hT,za5,lS]
def K9:Cn:=((9,hG,K8,4),(none,(an K8 [(7,3,0,lT)]++([hI,hH,d5,d5,aF,br,za9]++J5)),[]),(2,23,49,32))
theorem P_:CtH K9:=ctR 375 ag rfl (cw) [gh,(th,[1],[0],[]),nU,gi,(m7,[2],[0],[]),vw,gh,gi,vu,vt,iR] [] (scS fZ (scS yp (scS lR (scS dx (scS og (scS hS (scS fZ (scS dx (scS k_ (scS k_ (scS fM sc0))))))))))) (by decide +kernel)
def La:List AD:=[lU,nW,za9]
def oh:Cn:=((18,jH,La,1),(some zq3,(La),[]),(0,0,0,0))
theorem rC:CtH oh:=ctR 23 ag rfl (af _) [] [] sc0 (by decide +kernel)
def Lb:List AD:=[qT,u7,(64,2,[cu,ay]),aD [2,1]]
def BX:Cn:=((19,[aw,zq3,aB],Lb,3),(some zq3,(Lb),[dB,ti,eI,mY,dB,rv,BI,BJ]),(1,0,0,17))
theorem BZ:CtH BX:=ctR 63 ag rfl (af _) [] [1,1] sc0 (by decide +kernel)
def Lc:List AD:=vz++[kR,za9,aL,nZ,aF,kQ,qV,kO,u_,(64,2,[zq1,bH])]
def Ld:Cn:=((16,[aK],Lc,3),(some (.long 4294967296),(Lc),[eI]++hV),(2,0,0,37))
def Le:Sc:=(BX,[1,3,4,7],[0,2,1],qX++uS 28 3++[cV,ck])
theorem Qa:CtH Ld:=ctR 139 ag rfl (af _) [vb,(oh,[1,2,6],[0],[aw]++rS 3 3++jf++uS 28 4),Le,(vx,[12,14],[0],[d4,dt,c8,bH]),qY] [] (scS eV (scS rC (scS BZ (scS oa (scS eV sc0))))) (by decide +kernel)
def wa:List AD:=[nN,q5,qZ,(64,2,[cu,ay]),(64,2,[vU 11,zq0]),vF]
def wb:Cn:=((24,jD,wa,2),(none,(an wa [(3,64,2,[cu,zq3])]),[]),(0,0,0,0))
theorem B4:CtH wb:=ctR 36 ag rfl (af _) [] [] sc0 (by decide +kernel)
def Lf:List AD:=vS++([d5,za9,aL,lg,aF,za4]++vT++[vQ,za2,za2,d5])
def Lg:Cn:=((23,[dr,zq0,zq3,zq0],Lf,3),(none,(an Lf [(0,0,0,ry),(3,64,2,[zq3,dw]),(4,64,2,[zq0,cX]),(5,65,2,[bU,e6]),(6,64,3,lh),(7,64,3,iU),(8,64,2,[ew,zq0]),(9,64,2,[zq0,dQ]),(10,3,0,rz),(13,64,2,[bS,zq3]),(14,aI [0,1]),(21,64,3,lk),(24,64,2,[cN,zq1]),(26,64,3,[bH,zq3,zq1]),(29,aI [(-1),1])]++[za9,eJ]),[]),(3,2,4,70))
def Lh:Sc:=(m0,[0,1,2,10],[0,1],uS 0 11++rS 3 5++ob++uS 13 6++rS 11 4++vX)
def wc:List Value:=[bQ,co,eU,cM,zq0,zq0,bI]
theorem Qb:CtH Lg:=ctR 185 ag rfl (af _) [(oh,[10,11,15],[0],[aw]++rS 12 3++wc),(wb,[10,11,12,13,15,16],[0,2],ll++uS 36 3++[zq3,aB]),Lh,BR,vV,Kz,vW] [] (scS rC (scS B4 (scS lf (scS rx (scS iX (scS vP (scS iZ sc0))))))) (by decide +kernel)
def Li:List AD:=[bE,aF,za9,bN,br,hT]++lm
def Lj:Cn:=((8,gn,Li,4),(some zq3,(an Li [(6,0,0,rA),(12,aI [1,0]),(13,aI [0,1]),(14,aD [3,1]),(15,aI [0,1,1]),(17,aI [0,0,1]),(19,aI [1,0]),(20,aI [0,1])]++([rB,lq,lo,za4,az,aF,br,za9,hT,lp,aF,za4,d5]++lr++[za9,fE,az,fE,za4,az])),[it]++v9),(4,30,72,93))
def Lk:Sc:=(v7,[6,9,10,11,15,16,17,18,45,46],[0,2],uS 0 8++rS 12 3++[vR 19,co]++uS 8 5++[zq0,zq0,ax])
theorem Qc:CtH Lj:=ctR 65 aC rfl (aA _) [(K9,[0,1,2,3,4,5,6,21],[0,1,2,3],ir++rS 9 3++uS 2 6++rS 12 9++uS 8 5++lW),(Ld,[6,21,22,23,24,25,28,29,30,31,34,35,39,40,41],[0,2,3],ir++rS 9 3++uS 2 6++rS 12 9++uS 8 5++[zq0,cF,zq0,zq0,e_,fL,zq3,ay,fD]++rS 36 3++[zq1,zq3,vR 42,vR 43,zq1,zq3,zq1]),(Lg,[6,7,8,12,13,14,15,16,19,20,21,22,23,24,25,28,29,30,31,32,34,35,36,37,38,39,40,41,42,43],[0,2,3],[aO,bi]++rS 9 3++uS 2 6++[bQ,ff]++uS 8 5++[zq0]++uS 14 6++rp 6 zq0++uS 20 4++[cF,e_,fL,zq3,zq1,zq0,zq3,zq1,zq1,zq3,zq1,zq3]),KX,(BS,[6,12,13,14,15,16,19,20,21,22,23,24,25,26,27,30,32,34,35,36,37,38,39,40,41,42,43],[0,1],lX++rS 9 3++uS 2 6++ls++uS 8 5++[zq0,zq3,vU 15,zq0,vU 17,vD 3,vU 19,zq0,zq3,zq0,zq0,zq0,zq0,dw,zq0,zq0,vU 23,cF,e7,aW,zq3,zq0,fr,zq3,zq1,zq0]++rp 5 zq1++[zq3,zq1,zq1,zq1,zq1]),Lk] [] (scS P_ (scS Qa (scS Qb (scS KC (scS KG (scS v8 sc0)))))) (by decide +kernel)
def Ll:List AD:=[bE,aG,aF,bN,br,aD [2],za5,lS]
def Lm:Cn:=((9,hG,Ll,3),(none,(an Ll [(7,3,0,lT)]++[hI,hH,bM,bM,aG,br,aF,aD [2],mU,aG,aF,bM,jG,qR,ft,fy,bM,jF,qR,ft,fy,bM,za2]),[]),(2,23,46,32))
theorem Qd:CtH Lm:=ctR 335 ag rfl (cw) ([gh,(mT,[1],[0],[]),nU,gh,(th,[2],[0],[])]++I5) [] (scS fZ (scS nT (scS lR (scS fZ (scS yp (scS lR (scS fZ (scS fZ (scS uX (scS uX (scS fM sc0))))))))))) (by decide +kernel)
def Ln:List AD:=[lU,n5,aG]
def wd:Cn:=((18,jJ,Ln,1),(some zq0,(Ln),[]),(0,0,0,0))
theorem we:CtH wd:=ctR 13 ag rfl (af _) [] [] sc0 (by decide +kernel)
def Lo:List AD:=[za5,lV,n6,n7,rf,kR,aG,br,nZ,aG,kQ,qV,kO,u_,(64,2,[zq3,bH])]
def Lp:Cn:=((16,[aK],Lo,2),(some (.long 0),(Lo),gk),(2,0,0,37))
def Lr:Sc:=(wd,[1,2,6],[0],[aw]++rS 3 3++jf++uS 28 4)
theorem Qe:CtH Lp:=ctR 146 ag rfl (af _) [vb,Lr,vk,(mV,[12,14],[0],[d4,dt,c8,bH]),qY] [] (scS eV (scS we (scS vi (scS iS (scS eV sc0))))) (by decide +kernel)
def Lt:List AD:=[nN,rh,rg,rd,aG,br]
def B5:Cn:=((24,jJ,Lt,2),(none,(an Lt [(3,64,2,[zq0,cu])]),[]),(0,0,0,0))
theorem Lu:CtH B5:=ctR 36 ag rfl (af _) [] [] sc0 (by decide +kernel)
def Lv:List AD:=iT++([Bw,rk,rj,rl]++vf++[aG,mW,aU 64 44 3,(64,2,[zq3,vU 47]),By,(64,2,[zq3,vU 49]),ri,aU 64 50 3,(64,2,[zq3,vU 53]),(64,2,[zq1,vU 54]),(64,2,[zq3,f8])])
def Lw:Cn:=((23,[cW,zq0,zq0,zq0],Lv,2),(none,(an Lv [(1,64,2,[zq0,vU 23]),(2,64,2,[zq0,vU 25]),(3,65,2,[aB,vU 27]),(4,64,3,iU),(5,64,3,[zq0,zq0,ck]),(6,64,2,[zq0,cM]),(7,64,2,[zq0,gl]),(11,64,2,[zq0,dt]),(12,64,2,[zq0,c8]),(18,64,3,[cN,zq3,eX]),(20,aI [(-1),(-1)]),(21,64,2,[zq1,vU 49]),(23,64,3,[vU 50,zq3,vU 52]),(25,aI [(-1),(-1)]),(26,64,2,[zq1,f8])]),[]),(1,0,0,15))
theorem Qf:CtH Lw:=ctR 136 ag rfl (af _) [(wd,[8,9,13],[0],[aw]++rS 10 3++[cg,bQ,dR,bS,zq0,zq0,eW]),(B5,[8,9,10,11,13,14],[0,1],[aw,d3,cg,bQ,dR,bS,zq0,zq0]++uS 39 3),(ve,[17,18,19,20,21],[0],uS 44 6),(ve,[22,23,24,25,26],[0],uS 50 6)] [] (scS we (scS Lu (scS Bt (scS Bt sc0)))) (by decide +kernel)
def Lx:List AD:=[lU,nW,aF]
def wf:Cn:=((18,jD,Lx,1),(some zq0,(Lx),[]),(0,0,0,0))
theorem wg:CtH wf:=ctR 13 ag rfl (af _) [] [] sc0 (by decide +kernel)
def Ly:List AD:=[za5,lV,nX,nY,qW,iV,aF,br,n8,aF,kQ,(64,3,[eW,zq3,iq]),kO,vj,q9]
def Lz:Cn:=((16,[aK],Ly,2),(some (.long 4294967297),(Ly),gk),(2,0,0,37))
def B6:Sc:=(kS,[10,11],[0],uS 36 5)
def LA:Sc:=(wf,[1,2,6],[0],[aw]++rS 3 3++jf++uS 28 4)
theorem Qg:CtH Lz:=ctR 139 ag rfl (af _) [vn,LA,va,vl,B6] [] (scS eY (scS wg (scS u8 (scS eZ (scS eY sc0))))) (by decide +kernel)
def LB:List AD:=[nN,q5,qZ,qU,aF,br]
def B7:Cn:=((24,jH,LB,2),(none,(an LB [(3,64,2,[cu,zq0])]),[]),(0,0,0,0))
theorem LC:CtH B7:=ctR 36 ag rfl (af _) [] [] sc0 (by decide +kernel)
def wh:AD:=(64,2,[vU 48,zq1])
def LD:List AD:=iT++(([Bw,q7,q6,q8]++vo++[aF,mW,aU 64 44 3,(64,2,[vU 47,zq1]),wh,(64,2,[vU 49,zq3])])++Jv)
def LE:Cn:=((23,[cW,zq3,zq3,zq3],LD,2),(none,(an LD [(1,64,2,[cX,zq3]),(2,64,2,[e6,zq3]),(3,65,2,kV),(4,64,3,[vU 28,zq0,zq0]),(5,64,3,[ew,zq0,zq0]),(6,64,2,[dQ,zq3]),(7,64,2,[bI,zq3]),(11,64,2,[dt,zq0]),(12,64,2,[c8,zq0]),(18,64,3,[cN,zq1,eX]),(21,64,2,[vU 49,zq1]),(23,64,3,[vU 50,zq1,vU 52]),(26,64,2,[f8,zq1])]),[]),(1,0,0,15))
theorem Qh:CtH LE:=ctR 136 ag rfl (af _) [(wf,[8,9,13],[0],[aw]++rS 10 3++[cg,bQ,dR,bS,zq0,zq0,eW]),(B7,[8,9,10,11,13,14],[0,1],[aw,d3,cg,bQ,dR,bS,zq0,zq0]++uS 39 3),(hO,[17,18,19,20,21],[0],uS 44 6),(hO,[22,23,24,25,26],[0],uS 50 6)] [] (scS wg (scS LC (scS gm (scS gm sc0)))) (by decide +kernel)
def LF:List AD:=[bE,aG,aF]++JG
def LG:Cn:=((8,gn,LF,3),(some zq3,(an LF [(6,0,0,uS 0 4++gN++uS 5 6++[ay]++rS 9 9++uS 11 5++[zq0]),(9,aI [0,1]),(10,aI [0,1]),(11,aD [1,2]),(16,aI [0,1]),(17,aI [0,1])]++([JJ,aR 67 [23,25],aR 68 [24,26],az,az,aG,br,aF,aD [2],aR 67 [28,29],aG,aF,bM,(4,0,rS 32 4),za7,ft,za2,za2,(4,0,rS 37 4)]++vp)),[dB,ti,dB,mY,(2,4591870180066957722,5,0),(10,3,6,1),eI,(11,7,4472406533629990549,1),eI,(5,0,8,0),ro,(10,7,10,1)]),(3,26,61,73))
theorem Qi:CtH LG:=ctR 65 aC rfl (aA _) [(Lm,[0,1,2,3,4,5,6,18],[0,1,2],uS 0 4++gN++uS 5 6++rS 9 9++uS 11 5++lW),(Lp,[6,18,19,20,21,22,23,24,27,28,31,32,36,37,38],[0,1],uS 0 4++gN++uS 5 6++rS 9 9++uS 11 5++[zq0,vR 41,zq0,zq0,eU,e_,zq3,zq3,aW]++rS 33 3++[zq1,zq1,vR 39,vR 40,zq1,zq1,zq1]),(Lw,[6,9,10,11,12,13,16,17,18,19,20,21,22,23,24,27,28,31,32,33,34,35,36,37,38,39,40],[0,1],uS 0 4++gN++uS 5 6++[ay,dC,cg]++uS 11 5++[zq0]++uS 17 6++rp 6 zq0++uS 23 4++[vR 41,eU,e_,zq3,zq3,aW,zq1,zq0,zq1,zq1,zq0,zq3,zq1,zq0,zq1,zq1,zq0,zq3]),(Lz,[6,18,19,20,21,22,25,26,27,29,31,32,36,37,38],[0,2],uS 0 4++gN++uS 5 6++rS 9 9++uS 11 5++[zq0,vR 41,zq0,zq0,vR 23,bT,zq0,zq0,e7]++rS 33 3++[zq1,zq1,vR 39,vR 40,zq1,zq1,zq3]),(LE,[6,9,10,11,12,13,16,17,18,19,20,21,22,25,26,27,29,31,32,33,34,35,36,37,38,39,40],[0,2],uS 0 4++gN++uS 5 6++[ay,dC,cg]++uS 11 5++[zq0,zq0,vU 18,zq0,dw,aB,cX]++rp 7 zq0++[e6,zq0,vU 26,vR 41,vR 23,bT,zq0,zq0,e7,zq1,zq3,zq1,zq3,zq1,zq1,zq1,zq3,zq1,zq3,zq1,zq1]),JL] [] (scS Qd (scS Qe (scS Qf (scS Qg (scS Qh (scS JE sc0)))))) (by decide +kernel)
def LH:List AD:=[]
def B9:Cn:=((2,[.float 1,.float 2,zq0],LH,3),(some aw,(LH++[aG]),[cE,g7,cE]),(0,1,1,0))
theorem LI:CtH B9:=ctR 14 cb rfl (bq _) [] [1,0,1] sc0 (by decide +kernel)
def LJ:List AD:=[]
def B_:Cn:=((3,[.float 1,.float 2,zq0],LJ,3),(some aw,(LJ++[fb]),[cE,g7,cE,fK]),(0,1,1,0))
theorem LK:CtH B_:=ctR 15 cb rfl (bq _) [] [1,0,1] sc0 (by decide +kernel)
def LL:Cn:=((15,[aw,zq0,ay],vr,1),(none,(an vr [(1,64,3,[aO,bi,zq0]),(2,64,2,[zq1,ct]),(3,64,2,[zq1,vU 5]),(4,64,2,[ay,vU 7])]),[]),(0,0,0,0))
theorem Qj:CtH LL:=ctR 30 aN rfl (aM _) [] [] sc0 (by decide +kernel)
def d6:AD:=aI [2,1]
def LM:List AD:=[za5,d6,uU]
def rD:AD:=aI [(-1),1,0]
def Ca:Cn:=((13,[vR 2,aw,aK],LM,1),(none,(an LM [(2,4,0,rS 3 4)]++[rD,za2,za2,d6]),[]),(1,4,9,15))
theorem ly:CtH Ca:=ctR 61 aN rfl (iE) [(qQ,[3],[0],g_),uW,(uT,[2,3,4,5,6],[0],uV),(LL,[2,3,4,5,6],[0],[zq1,zq3,zq0,zq1,zq0,zq1,zq1,zq3])] [] (scS uP (scS fM (scS Bo (scS Qj sc0)))) (by decide +kernel)
def LN:List AD:=[bE,aG,za4,bN,br,hT,za5,lS]
def LO:List AD:=[hT,mU,za4,aF,d6,jG,rq,za2,za2,d5,jF,rD,za2,za2,d6,za2]
def LP:Cn:=((9,hG,LN,4),(none,(an LN [(7,3,0,lT)]++([hI,hH,d5,d6,aG,br,za4]++LO)),[]),(2,23,49,32))
def wj:Sc:=(Ca,[6,11,25],[0],uS 0 28)
theorem Qk:CtH LP:=ctR 375 ag rfl (cw) [gh,(mT,[1],[0],[]),nU,gi,(mZ,[2],[0],[]),vw,gi,gh,vu,wj,iR] [] (scS fZ (scS nT (scS lR (scS dx (scS n9 (scS hS (scS dx (scS fZ (scS k_ (scS ly (scS fM sc0))))))))))) (by decide +kernel)
def LQ:List AD:=[lU,nW,za4]
def Cb:Cn:=((18,jD,LQ,1),(some zq3,(LQ),[]),(0,0,0,0))
theorem LR:CtH Cb:=ctR 23 ag rfl (af _) [] [] sc0 (by decide +kernel)
def LS:List AD:=vz++[iV,za4,aL,n8,aF,kQ,qV,kO,vj,q9]
def LT:Cn:=((16,[aK],LS,3),(some (.long 4294967297),(LS),[eI]++hV),(2,0,0,37))
theorem Ql:CtH LT:=ctR 139 ag rfl (af _) [vn,(Cb,[1,2,6],[0],[aw]++rS 3 3++jf++uS 28 4),Le,vl,qY] [] (scS eY (scS LR (scS BZ (scS eZ (scS eV sc0))))) (by decide +kernel)
def LU:Cn:=((24,jD,vG,2),(none,(an vG [(3,64,2,[cu,zq3])]),[]),(0,0,0,0))
theorem Qm:CtH LU:=ctR 36 ag rfl (af _) [] [] sc0 (by decide +kernel)
def Cc:Cn:=((25,[vR 3,zq0,aB],vM,2),(none,(an vM [(0,0,0,[vR 4,vR 5]++uS 0 11++[ay]++uS 11 15),(3,3,0,[aw]++uS 26 8++[zq3,dQ])]++[az,eJ]),[]),(2,2,4,55))
theorem wk:CtH Cc:=ctR 54 ag rfl (af _) vN [] (scS vJ (scS vK (scS vL sc0))) (by decide +kernel)
def po:List AD:=[(3,0,uS 0 4++[aK,vR 2]++uS 4 5),(64,2,[ay,vU 9]),(67,2,[vR 3,cu]),za4]
def Cd:Cn:=((27,jE,po,1),(none,(an po [(1,64,2,[zq3,vU 9])]),[]),(0,0,0,0))
theorem Ce:CtH Cd:=ctR 42 ag rfl (af _) [] [] sc0 (by decide +kernel)
def Cf:List AD:=[g9,kN,(64,2,[zq1,ct]),vc,(64,2,[ay,vU 5])]
def tj:Cn:=((26,[aw,zq0],Cf,1),(none,(an Cf [(1,64,3,[aO,bi,zq1]),(4,64,2,[zq1,vU 5])]),[]),(0,0,0,0))
theorem m8:CtH tj:=ctR 28 aN rfl (aM _) [] [] sc0 (by decide +kernel)
def Cg:List AD:=[g9,(64,3,[aO,zq1,bi]),(64,2,[zq1,vU 2]),(64,2,[zq1,ct]),(64,2,[ay,vU 4])]
def pq:Cn:=((28,jE,Cg,1),(none,(an Cg [(1,64,3,[aO,zq0,zq1]),(4,64,2,[zq3,vU 4])]),[]),(1,0,0,14))
theorem kI:CtH pq:=ctR 20 aN rfl (aM _) [(tj,[0,1,2,3,4],[0],[aO,zq1]++uS 1 4),(BG,[0,1,2,3,4],[0],[aO,zq1,zq1,vU 2,zq1,ct,zq1,vU 4])] [] (scS m8 (scS J2 sc0)) (by decide +kernel)
def wm:AD:=(64,3,[bH,zq3,eX])
def Ch:List AD:=vS++([d6,za4,aL,lg,za4,aF]++vT++[wm,za2,za2,d6])
def Ci:Cn:=((23,[dr,zq0,zq3,zq3],Ch,3),(none,(an Ch [(0,0,0,ry),(3,64,2,[zq3,dw]),(4,64,2,[zq3,cX]),(5,65,2,[bU,e6]),(6,64,3,lh),(7,64,3,iU),(8,64,2,[ew,zq0]),(9,64,2,[ck,zq0]),(10,3,0,rz),(13,64,2,[bS,zq3]),(14,aI [1,0]),(21,64,3,lk),(24,64,2,[cN,zq1]),(26,64,3,[bH,zq0,zq1]),(29,aI [1,(-1)])]++[az,eJ]),[]),(3,2,4,70))
def LV:Sc:=(hO,[25,26,27,28,29],[0],[bH,zq3,eX,zq1,zq1,ay])
def LW:Sc:=(pq,[25,26,27,28,29],[0],[bH,eX,zq1,zq1,zq1])
def LX:List Value:=[co,eU,cM,zq3,zq0,zq3,vR 19]
def LY:Sc:=(Cc,[0,1,2,10],[0,1],uS 0 11++rS 3 5++ob++uS 13 6++rS 11 4++vX)
def LZ:List Sc:=[BR,LV,(Cd,[10,14,17,18],[0],[aw]++rS 11 3++LX),LW]
theorem NO:CtH Ci:=ctR 185 ag rfl (af _) ([(Cb,[10,11,15],[0],[aw]++rS 12 3++wc),(LU,[10,11,12,13,15,16],[0,2],ll++uS 36 3++[zq0,aB]),LY]++LZ) [] (scS LR (scS Qm (scS wk (scS rx (scS gm (scS Ce (scS kI sc0))))))) (by decide +kernel)
def Cj:List AD:=[za5,lV,n6,n7,rf,kR,aG,br,nZ,(64,2,[zq0,bI]),lb,vy]++vA
def Ck:Cn:=((16,[aK],Cj,2),(some (.long 0),(Cj),gk),(2,0,0,37))
theorem Cl:CtH Ck:=ctR 139 ag rfl (af _) [vC,Lr,vk,vB,vE] [] (scS eV (scS we (scS vi (scS oa (scS eV sc0))))) (by decide +kernel)
def L4:List AD:=[ri,aU 64 51 3,(64,2,[zq1,vU 54]),(64,2,[zq1,f8]),(64,2,[zq3,vU 56])]
def Cm:List AD:=iT++([v4,rk,rj,rl]++vf++(KE++L4))
def tk:Cn:=((23,[cW,zq3,zq0,zq0],Cm,2),(none,(an Cm [(1,64,2,[cX,zq0]),(2,64,2,[e6,zq0]),(3,65,2,kV),(4,64,3,oe),(5,64,3,[ew,zq0,zq0]),(6,64,2,[zq3,cM]),(7,64,2,[zq3,gl]),(11,64,2,[zq0,dt]),(12,64,2,[zq0,c8]),(18,64,3,[bH,zq1,vU 47]),(21,64,2,[zq1,vU 50]),(23,64,3,[vU 51,zq1,vU 53]),(26,64,2,[zq1,vU 56])]),[]),(1,0,0,15))
theorem Co:CtH tk:=ctR 136 ag rfl (af _) [(wd,[8,9,13],[0],[aw]++rS 10 3++v6),(B5,[8,9,10,11,13,14],[0,1],v5++uS 39 3),(kU,[17,18,19,20,21],[0],uS 45 6),(kU,[22,23,24,25,26],[0],uS 51 6)] [] (scS we (scS Lu (scS iX (scS iX sc0)))) (by decide +kernel)
def Cp:List AD:=[(64,3,[zq0,zq3,aO])]
def tl:Cn:=((11,ip,Cp,1),(some aK,(Cp++[za4]),[]),(1,1,2,40))
theorem Cq:CtH tl:=ctR 19 cR rfl (cm _) [(Bz,[],[0],[])] [] (scS JA sc0) (by decide +kernel)
def Cr:List AD:=[KH,za8,eH,za8,dU,bv,bv,bv,(64,2,[zq0,vU 19]),(65,2,[aB,dw])]
def ps:Cn:=((31,[aw],Cr,2),(none,(an Cr [(0,0,0,KJ),(6,aI [0,1,1])]++[az,eJ,bM,az]),[]),(2,4,8,54))
theorem pt:CtH ps:=ctR 259 aC rfl (aA _) [(jK,[6],[0],g_),(jK,[7],[0],g_),(tl,[6],[0],[zq3]),(kW,[7],[0],[zq0])] [] (scS iY (scS iY (scS Cq (scS kX sc0)))) (by decide +kernel)
def Cs:List AD:=[bE,aG,za4,bN,br,hT]++lm
def Ct:Cn:=((8,gn,Cs,4),(some zq3,(an Cs [(6,0,0,rA),(12,aI [1,0]),(13,aI [1,0]),(14,aD [3,1]),(15,aI [0,1,1]),(17,aI [0,1,1]),(19,aI [1,0]),(20,aI [1,0])]++([rB,lq,lo,za4,az,aG,br,za4,hT,lp,za4,aF,d6]++lr++[az,fE,az,fE,bM,az])),[it]++v9),(4,30,72,93))
def L5:Sc:=(Ck,[6,21,22,23,24,25,26,27,30,31,34,35,39,40,41],[0,1],lX++rS 9 3++uS 2 6++rS 12 9++uS 8 5++[zq0,cF,zq3,zq0,e7,aW,zq3,zq0,fD,zq3]++rS 36 3++v_)
def L6:Sc:=(ps,[6,9,10,11,15,16,17,18,45,46],[0,2],uS 0 8++rS 12 3++[vR 19,co]++uS 8 5++[zq0,zq0,ax])
theorem NP:CtH Ct:=ctR 65 aC rfl (aA _) [(LP,[0,1,2,3,4,5,6,21],[0,1,2,3],ir++rS 9 3++uS 2 6++rS 12 9++uS 8 5++lW),(LT,[6,21,22,23,24,25,28,29,30,32,34,35,39,40,41],[0,2,3],ir++rS 9 3++uS 2 6++rS 12 9++uS 8 5++[zq0,cF,zq0,zq0,e_,fL,zq3,ay,fr]++rS 36 3++[zq1,zq3,vR 42,vR 43,zq1,zq0,zq1]),(Ci,[6,7,8,12,13,14,15,16,19,20,21,22,23,24,25,28,29,30,31,32,34,35,36,37,38,39,40,41,42,43],[0,2,3],[aO,bi]++rS 9 3++uS 2 6++[bQ,ff]++uS 8 5++[zq0]++uS 14 6++rp 6 zq0++uS 20 4++[cF,e_,fL,zq3,zq1,zq0,zq3,zq1,zq1,zq3,zq1,zq0]),L5,(tk,[6,12,13,14,15,16,19,20,21,22,23,24,25,26,27,30,31,34,35,36,37,38,39,40,41,42,43],[0,1],lX++rS 9 3++uS 2 6++ls++uS 8 5++[zq0,zq3,vU 15,zq3,vU 17,vD 3,vU 19,zq0,zq3,zq0,zq0,zq0,zq0,dw,zq0,cX,zq0,cF,e7,aW,zq3,zq0,fD,zq3,zq1,zq0]++rp 5 zq1++[zq0,zq1,zq1,zq1,zq1]),L6] [] (scS Qk (scS Ql (scS NO (scS Cl (scS Co (scS pt sc0)))))) (by decide +kernel)
def Cu:List AD:=[]
def tm:Cn:=((2,[.float 1,.float 2,zq3],Cu,3),(some aw,(Cu++[aG]),[cE,g7,cE]),(0,1,1,0))
theorem Cv:CtH tm:=ctR 14 cb rfl (bq _) [] [1,0,1] sc0 (by decide +kernel)
def Cw:List AD:=[]
def tn:Cn:=((3,[.float 1,.float 2,zq3],Cw,3),(some aw,(Cw++[fb]),[cE,g7,cE,fK]),(0,1,1,0))
theorem Cx:CtH tn:=ctR 15 cb rfl (bq _) [] [1,0,1] sc0 (by decide +kernel)
def Cy:List AD:=[bE,aG,za9,bN,br,hT,za5,lS]
def Cz:Cn:=((9,hG,Cy,4),(none,(an Cy [(7,3,0,lT)]++([hI,hH,d5,d6,aG,br,za9]++LO)),[]),(2,23,49,32))
theorem NQ:CtH Cz:=ctR 375 ag rfl (cw) [gh,(mT,[1],[0],[]),nU,gi,(m7,[2],[0],[]),vw,gi,gh,vu,wj,iR] [] (scS fZ (scS nT (scS lR (scS dx (scS og (scS hS (scS dx (scS fZ (scS k_ (scS ly (scS fM sc0))))))))))) (by decide +kernel)
def wn:AD:=(64,2,[zq3,vU 11])
def CA:List AD:=[lU,nW,wn]
def pu:Cn:=((18,jD,CA,1),(some zq0,(CA),[]),(0,0,0,0))
theorem pv:CtH pu:=ctR 13 ag rfl (af _) [] [] sc0 (by decide +kernel)
def CB:List AD:=vz++([iV,(64,2,[zq3,cM]),aL,(67,2,[bI,bO]),aF,lb,vy]++vY)
def CC:Cn:=((16,[aK],CB,3),(some (.long 4294967297),(CB),[dB]++hV),(2,0,0,37))
def L7:Sc:=(pu,[1,2,6],[0],[aw]++rS 3 3++jf++uS 28 4++[cM])
theorem NR:CtH CC:=ctR 139 ag rfl (af _) [v3,L7,Kd,vZ,vE] [] (scS eY (scS pv (scS BL (scS eZ (scS eV sc0))))) (by decide +kernel)
def CD:Cn:=((24,jH,wa,2),(none,(an wa [(3,64,2,[cu,zq3]),(4,aI [0,0]),(5,aD [1,1])]),[]),(0,0,0,0))
theorem NS:CtH CD:=ctR 36 ag rfl (af _) [] [] sc0 (by decide +kernel)
def CE:List AD:=vS++([d6,za9,aL,lg,za4,aF]++vT++[wm,za2,za2,d6])
def CF:Cn:=((23,[dr,zq0,zq3,zq3],CE,3),(none,(an CE [(0,0,0,ry),(3,64,2,[zq3,dw]),(4,64,2,[zq3,cX]),(5,65,2,[aB,e6]),(6,64,3,lh),(7,64,3,iU),(8,64,2,[ew,zq0]),(9,64,2,[ck,zq0]),(10,3,0,rz),(13,64,2,[bS,zq3]),(14,aI [1,0]),(15,aI [0,0]),(16,aD [2,2]),(21,64,3,lk),(24,64,2,[cN,zq1]),(26,64,3,[bH,zq0,zq1]),(29,aI [1,(-1)])]++[az,fE]),[]),(3,2,4,70))
def L8:Sc:=(Cc,[0,1,2,10],[0,2],uS 0 11++rS 3 5++ob++uS 13 6++rS 11 4++vX)
theorem NT:CtH CF:=ctR 185 ag rfl (af _) ([(pu,[10,11,15],[0],[aw]++rS 12 3++[bQ,co,eU,cM,zq0,zq0,bI,zq0]),(CD,[10,11,12,13,15,16],[0,2],ll++uS 36 3++[zq3,aB]),L8]++LZ) [] (scS pv (scS NS (scS wk (scS rx (scS gm (scS Ce (scS kI sc0))))))) (by decide +kernel)
def CG:List AD:=[bE,aG,za9,bN,br,hT]++lm
def CH:Cn:=((8,gn,CG,4),(some zq3,(an CG [(6,0,0,rA),(12,aI [1,0]),(13,aI [1,0]),(14,aD [2,1]),(15,aI [0,1,1]),(17,aI [0,1,1]),(19,aI [1,0]),(20,aI [1,0])]++([rB,lq,lo,za4,az,aG,br,az,aD [3,3],lp,za4,aF,d6]++lr++[az,aD [3,0],az,aD [3,0],bM,az])),[eI]++v9),(4,30,72,93))
theorem NU:CtH CH:=ctR 65 aC rfl (aA _) [(Cz,[0,1,2,3,4,5,6,21],[0,1,2,3],ir++rS 9 3++uS 2 6++rS 12 9++uS 8 5++lW),(CC,[6,21,22,23,24,25,28,29,30,32,34,35,39,40,41],[0,2,3],ir++rS 9 3++uS 2 6++rS 12 9++uS 8 5++[zq0,cF,zq0,zq0,e_,fL,zq3,ay,zq0,fr]++rS 36 3++[zq1,zq3,vR 42,vR 43,zq1,zq0,zq1]),(CF,[6,7,8,12,13,14,15,16,19,20,21,22,23,24,25,28,29,30,31,32,34,35,36,37,38,39,40,41,42,43],[0,2,3],[aO,bi]++rS 9 3++uS 2 6++[bQ,ff]++uS 8 5++[zq0]++uS 14 6++rp 6 zq0++uS 20 4++[cF,e_,fL,zq3,zq1,zq0,zq3,zq1,zq1,zq3,zq1,zq0]),L5,(tk,[6,12,13,14,15,16,19,20,21,22,23,24,25,26,27,30,31,34,35,36,37,38,39,40,41,42,43],[0,1],lX++rS 9 3++uS 2 6++ls++uS 8 5++[zq0,zq3,vU 15,zq3,vU 17,bU,vU 19,zq0,zq3,zq0,zq0,zq0,zq0,dw,zq0,cX,zq0,cF,e7,aW,zq3,zq0,fD,zq3,zq1,zq0]++rp 5 zq1++[zq0,zq1,zq1,zq1,zq1]),(ps,[6,9,10,11,15,16,17,18,45,46],[0,3],uS 0 8++rS 12 3++[vR 19,co]++uS 8 5++[zq0,zq0,ax])] [] (scS NQ (scS NR (scS NT (scS Cl (scS Co (scS pt sc0)))))) (by decide +kernel)
def CI:List AD:=[bE,za4,aF,bN,aL,fb,za5,lS]
def L9:List AD:=[aL,aF,fb,mU,aG,za4,d5,jG,rD,za2,za2,d6,jF,rq,za2,za2,d5,za2]
def CJ:Cn:=((9,hG,CI,4),(none,(an CI [(7,3,0,lT)]++([hI,hH,d6,d5,za4]++L9)),[]),(2,23,49,32))
def oi:Sc:=(vq,[4],[0,1,2],[])
def wo:Sc:=(Ca,[6,10,20],[0],uS 0 28)
def wp:Sc:=(H8,[5],[0,3],[])
theorem NV:CtH CJ:=ctR 375 ag rfl (cw) [gi,(mZ,[1],[0],[]),oi,gh,(th,[2],[0],[]),wp,gh,gi,wo,vt,iR] [] (scS dx (scS n9 (scS hS (scS fZ (scS yp (scS lR (scS fZ (scS dx (scS ly (scS k_ (scS fM sc0))))))))))) (by decide +kernel)
def CM:List AD:=[lU,n5,(64,2,[zq0,vU 11])]
def jg:Cn:=((18,jJ,CM,1),(some zq0,(CM),[]),(0,0,0,0))
theorem kJ:CtH jg:=ctR 13 ag rfl (af _) [] [] sc0 (by decide +kernel)
def px:List AD:=[qT,vh,(64,2,[ay,cu]),aL]
def tp:Cn:=((19,kT,px,3),(some zq3,(px),[dB]++hV),(1,0,0,17))
theorem tq:CtH tp:=ctR 63 ag rfl (af _) [] [1,1] sc0 (by decide +kernel)
def wq:AD:=(64,3,[iq,zq3,dt])
def wt:List AD:=[za5,lV,n6,n7,(64,2,[ay,ck])]
def CN:List AD:=wt++([kR,(64,2,[zq0,cM]),aL,(67,2,[bO,bI]),aG,lb,wq]++vA)
def CO:Cn:=((16,[aK],CN,3),(some (.long 0),(CN),[dB]++hV),(2,0,0,37))
def wu:Sc:=(kS,[10,11],[0],uS 37 5)
def L_:Sc:=(tp,[1,3,4,7],[0,1,2],qX++uS 28 3++[cV,ck])
theorem NW:CtH CO:=ctR 139 ag rfl (af _) [vC,(jg,[1,2,6],[0],[aw]++rS 3 3++jf++uS 28 4++[cM]),L_,vB,wu] [] (scS eV (scS kJ (scS tq (scS oa (scS eY sc0))))) (by decide +kernel)
def pz:List AD:=[nN,rh,rg,(64,2,[ay,cu]),(64,2,[vU 11,zq3]),vF]
def pB:Cn:=((24,jJ,pz,2),(none,(an pz [(3,64,2,[zq3,cu]),(4,aI [1,1]),(5,aD [1,1])]),[]),(0,0,0,0))
theorem tr:CtH pB:=ctR 36 ag rfl (af _) [] [] sc0 (by decide +kernel)
def tt:Cn:=((27,jH,vO,1),(none,(an vO [(1,64,2,[vU 9,zq3]),(3,aI [1,1])]),[]),(0,0,0,0))
theorem pC:CtH tt:=ctR 32 ag rfl (af _) [] [] sc0 (by decide +kernel)
def wv:List AD:=[PW,za8,eH,rn,Kv,Kq,Ku,Bu,BQ,Ks,PX,(67,2,[cg,bI]),(68,2,[cZ,gl]),(64,2,[ay,bS])]
def ww:List AD:=[jG,Kr,(64,2,[zq1,c8]),(64,2,[zq1,fC]),(64,2,[ay,cN]),jF]
def CP:List AD:=wv++([d5,za4,aL,lg,aG,za4]++ww++[vQ,za2,za2,d5])
def CQ:Cn:=((23,[dr,zq0,zq0,zq0],CP,3),(none,(an CP [(0,0,0,ry),(3,64,2,[zq0,dw]),(4,64,2,[zq0,cX]),(5,65,2,[aB,e6]),(6,64,3,lh),(7,64,3,iU),(8,64,2,[zq0,cV]),(9,64,2,[zq0,dQ]),(10,3,0,rz),(13,64,2,[zq3,bS]),(14,aI [0,1]),(15,aI [1,1]),(16,aD [2,2]),(19,aI [1,1]),(21,64,3,lk),(24,64,2,[zq1,cN]),(26,64,3,[bH,zq3,zq1]),(29,aI [(-1),1])]++[za9,fE]),[]),(3,2,4,70))
def CR:Sc:=(tj,[20,21,22,23,24],[0],uS 39 6)
def Ma:Sc:=(tt,[10,14,17,19],[0],[aw]++rS 11 3++[co,eU,cM,zq3,zq0,zq3,ff])
theorem NX:CtH CQ:=ctR 185 ag rfl (af _) [(jg,[10,11,15],[0],[aw]++rS 12 3++[bQ,co,eU,cM,zq0,zq0,bI,zq3]),(pB,[10,11,12,13,15,16],[0,2],ll++uS 36 3++[zq0,aB]),Ky,CR,vV,Ma,vW] [] (scS kJ (scS tr (scS lf (scS m8 (scS iX (scS pC (scS iZ sc0))))))) (by decide +kernel)
def CS:List AD:=[za5,lV,nX,nY,qW,iV,aF,br,n8,(64,2,[zq3,bI]),lb,wq]++vY
def CT:Cn:=((16,[aK],CS,2),(some (.long 4294967297),(CS),gk),(2,0,0,37))
theorem CU:CtH CT:=ctR 139 ag rfl (af _) [v3,LA,va,vZ,wu] [] (scS eY (scS wg (scS u8 (scS eZ (scS eY sc0))))) (by decide +kernel)
def Mb:List AD:=[(64,2,[zq3,cN]),mW,aU 64 45 3,wh,(64,2,[vU 49,zq1]),(64,2,[vU 50,zq3])]
def CV:List AD:=iT++((([v4,q7,q6,q8]++vo)++Mb)++KD)
def tu:Cn:=((23,[cW,zq3,zq3,zq3],CV,2),(none,(an CV [(1,64,2,[cX,zq3]),(2,64,2,[e6,zq3]),(3,65,2,kV),(4,64,3,oe),(5,64,3,[ew,zq0,zq0]),(6,64,2,[dQ,zq3]),(7,64,2,[bI,zq3]),(11,64,2,[dt,zq0]),(12,64,2,[c8,zq0]),(18,64,3,[bH,zq1,vU 47]),(21,64,2,[vU 50,zq1]),(23,64,3,[vU 51,zq1,vU 53]),(26,64,2,[vU 56,zq1])]),[]),(1,0,0,15))
theorem CW:CtH tu:=ctR 136 ag rfl (af _) [(wf,[8,9,13],[0],[aw]++rS 10 3++v6),(B7,[8,9,10,11,13,14],[0,1],v5++uS 39 3),(hO,[17,18,19,20,21],[0],uS 45 6),(hO,[22,23,24,25,26],[0],uS 51 6)] [] (scS wg (scS LC (scS gm (scS gm sc0)))) (by decide +kernel)
def CX:List AD:=[bE,za4,aF,bN,aL,fb]++lm
def wx:List Op:=[KP,dB,KV,eI,KU,KQ,KT,it,KN,it,KS,KO,KR]
def CY:Cn:=((8,gn,CX,4),(some zq3,(an CX [(6,0,0,rA),(12,aI [0,1]),(13,aI [0,1]),(14,aD [1,3]),(15,aI [0,1,1]),(17,aI [0,0,1]),(19,aI [0,1]),(20,aI [0,1])]++([rB,lq,lo,za9,az,bM,aD [2,2],aF,fb,lp,aG,bM,d5]++lr++[za9,fE,az,fE,za4,az])),[dB]++wx),(4,30,72,93))
def Mc:Sc:=(CT,[6,21,22,23,24,25,28,29,30,32,34,35,39,40,41],[0,3],lX++rS 9 3++uS 2 6++rS 12 9++uS 8 5++[zq0,cF,zq3,zq0,e_,fL,zq3,zq0,fr,zq3]++rS 36 3++v_)
theorem NY:CtH CY:=ctR 65 aC rfl (aA _) [(CJ,[0,1,2,3,4,5,6,21],[0,1,2,3],ir++rS 9 3++uS 2 6++rS 12 9++uS 8 5++lW),(CO,[6,21,22,23,24,25,26,27,30,31,34,35,39,40,41],[0,1,2],ir++rS 9 3++uS 2 6++rS 12 9++uS 8 5++[zq0,cF,zq0,zq0,e7,aW,zq3,ay,zq3,fD]++rS 36 3++[zq1,zq0,vR 42,vR 43,zq1,zq3,zq1]),(CQ,[6,7,8,12,13,14,15,16,19,20,21,22,23,24,25,26,27,30,31,32,34,35,36,37,38,39,40,41,42,43],[0,1,2],[aO,bi]++rS 9 3++uS 2 6++[bQ,ff]++uS 8 5++[zq0]++uS 14 6++rp 6 zq0++uS 20 4++[cF,e7,aW,zq3,zq1,zq3,zq0,zq1,zq1,zq3,zq1,zq3]),Mc,(tu,[6,12,13,14,15,16,19,20,21,22,23,24,25,28,29,30,32,34,35,36,37,38,39,40,41,42,43],[0,3],lX++rS 9 3++uS 2 6++ls++uS 8 5++[zq0,zq0,vU 15,zq0,vU 17,aB,vU 19,zq0,zq3]++rp 5 zq0++[vU 21,zq0,vU 23,cF,e_,fL,zq3,zq0,fr,zq3,zq1,zq3]++rp 5 zq1++[zq3,zq1,zq1,zq1,zq1]),Lk] [] (scS NV (scS NW (scS NX (scS CU (scS CW (scS v8 sc0)))))) (by decide +kernel)
def CZ:List AD:=[bE,za9,aF,bN,aL,fb,za5,lS]
def C2:Cn:=((9,hG,CZ,4),(none,(an CZ [(7,3,0,lT)]++([hI,hH,d6,d5,za9]++L9)),[]),(2,23,49,32))
theorem NZ:CtH C2:=ctR 375 ag rfl (cw) [gi,(m7,[1],[0],[]),oi,gh,(th,[2],[0],[]),wp,gh,gi,wo,vt,iR] [] (scS dx (scS og (scS hS (scS fZ (scS yp (scS lR (scS fZ (scS dx (scS ly (scS k_ (scS fM sc0))))))))))) (by decide +kernel)
def C3:List AD:=[lU,n5,za9]
def jh:Cn:=((18,jJ,C3,1),(some zq3,(C3),[]),(0,0,0,0))
theorem kK:CtH jh:=ctR 23 ag rfl (af _) [] [] sc0 (by decide +kernel)
def pE:List AD:=[qT,vh,(64,2,[ay,cu]),aD [2,1]]
def tv:Cn:=((19,kT,pE,3),(some zq3,(pE),[dB,ti,eI,mY,dB,rv,BI,BJ]),(1,0,0,17))
theorem tx:CtH tv:=ctR 63 ag rfl (af _) [] [1,1] sc0 (by decide +kernel)
def C4:List AD:=wt++[kR,za9,aL,nZ,aG,kQ,(64,3,[eW,zq3,iq]),kO,u_,(64,2,[zq1,bH])]
def C5:Cn:=((16,[aK],C4,3),(some (.long 0),(C4),[eI]++hV),(2,0,0,37))
def Me:Sc:=(tv,[1,3,4,7],[0,2,1],qX++uS 28 3++[cV,ck])
theorem N3:CtH C5:=ctR 139 ag rfl (af _) [vb,(jh,[1,2,6],[0],[aw]++rS 3 3++jf++uS 28 4),Me,(vx,[12,14],[0],[d4,dt,c8,bH]),B6] [] (scS eV (scS kK (scS tx (scS oa (scS eY sc0))))) (by decide +kernel)
def pF:List AD:=[nN,rh,rg,(64,2,[ay,cu]),(64,2,[vU 11,zq0]),vF]
def pG:Cn:=((24,jE,pF,2),(none,(an pF [(3,64,2,[zq3,cu])]),[]),(0,0,0,0))
theorem tz:CtH pG:=ctR 36 ag rfl (af _) [] [] sc0 (by decide +kernel)
def C6:List AD:=wv++([d5,za9,aL,lg,aG,za4]++ww++[vQ,za2,za2,d5])
def C7:Cn:=((23,[dr,zq0,zq0,zq0],C6,3),(none,(an C6 [(0,0,0,ry),(3,64,2,[zq0,dw]),(4,64,2,[zq0,cX]),(5,65,2,[bU,e6]),(6,64,3,lh),(7,64,3,iU),(8,64,2,[zq0,cV]),(9,64,2,[zq0,dQ]),(10,3,0,rz),(13,64,2,[zq3,bS]),(14,aI [0,1]),(19,aI [1,1]),(21,64,3,lk),(24,64,2,[zq1,cN]),(26,64,3,[bH,zq3,zq1]),(29,aI [(-1),1])]++[za9,eJ]),[]),(3,2,4,70))
theorem N4:CtH C7:=ctR 185 ag rfl (af _) [(jh,[10,11,15],[0],[aw]++rS 12 3++wc),(pG,[10,11,12,13,15,16],[0,2],ll++uS 36 3++[zq3,aB]),Lh,CR,vV,Ma,vW] [] (scS kK (scS tz (scS lf (scS m8 (scS iX (scS pC (scS iZ sc0))))))) (by decide +kernel)
def C8:List AD:=[bE,za9,aF,bN,aL,fb]++lm
def C9:Cn:=((8,gn,C8,4),(some zq3,(an C8 [(6,0,0,rA),(12,aI [0,1]),(13,aI [0,1]),(14,aD [2,3]),(15,aI [0,1,1]),(17,aI [0,0,1]),(19,aI [0,1]),(20,aI [0,1])]++([rB,lq,lo,za9,az,za9,aL,aF,fb,lp,aG,bM,d5]++lr++[za9,eJ,az,eJ,za4,az])),[eI]++wx),(4,30,72,93))
theorem N5:CtH C9:=ctR 65 aC rfl (aA _) [(C2,[0,1,2,3,4,5,6,21],[0,1,2,3],ir++rS 9 3++uS 2 6++rS 12 9++uS 8 5++lW),(C5,[6,21,22,23,24,25,26,27,30,31,34,35,39,40,41],[0,1,2],ir++rS 9 3++uS 2 6++rS 12 9++uS 8 5++[zq0,cF,zq0,zq0,e7,aW,zq3,ay,fD]++rS 36 3++[zq1,zq0,vR 42,vR 43,zq1,zq3,zq1]),(C7,[6,7,8,12,13,14,15,16,19,20,21,22,23,24,25,26,27,30,31,32,34,35,36,37,38,39,40,41,42,43],[0,1,2],[aO,bi]++rS 9 3++uS 2 6++[bQ,ff]++uS 8 5++[zq0]++uS 14 6++rp 6 zq0++uS 20 4++[cF,e7,aW,zq3,zq1,zq3,zq0,zq1,zq1,zq3,zq1,zq3]),Mc,(tu,[6,12,13,14,15,16,19,20,21,22,23,24,25,28,29,30,32,34,35,36,37,38,39,40,41,42,43],[0,3],lX++rS 9 3++uS 2 6++ls++uS 8 5++[zq0,zq0,vU 15,zq0,vU 17,bU,vU 19,zq0,zq3]++rp 5 zq0++[vU 21,zq0,vU 23,cF,e_,fL,zq3,zq0,fr,zq3,zq1,zq3]++rp 5 zq1++[zq3,zq1,zq1,zq1,zq1]),(v7,[6,9,10,11,15,16,17,18,45,46],[0,1],uS 0 8++rS 12 3++[vR 19,co]++uS 8 5++[zq0,zq0,ax])] [] (scS NZ (scS N3 (scS N4 (scS CU (scS CW (scS v8 sc0)))))) (by decide +kernel)
def C_:List AD:=[bE,za4,aG,bN,aL,fb,za5,lS]
def Mf:List AD:=[aL,aG,fb,mU,za4,aG,d6,jG,rD,za2,za2,d6,jF,rD,za2,za2,d6,za2]
def Da:Cn:=((9,hG,C_,4),(none,(an C_ [(7,3,0,lT)]++([hI,hH,d6,d6,za4]++Mf)),[]),(2,23,49,32))
theorem N6:CtH Da:=ctR 375 ag rfl (cw) [gi,(mZ,[1],[0],[]),oi,gh,(mT,[2],[0],[]),wp,gi,gh,wo,wj,iR] [] (scS dx (scS n9 (scS hS (scS fZ (scS nT (scS lR (scS dx (scS fZ (scS ly (scS ly (scS fM sc0))))))))))) (by decide +kernel)
def Db:List AD:=[lU,n5,za4]
def tA:Cn:=((18,jE,Db,1),(some zq3,(Db),[]),(0,0,0,0))
theorem De:CtH tA:=ctR 23 ag rfl (af _) [] [] sc0 (by decide +kernel)
def Df:List AD:=wt++[iV,za4,aL,n8,aG,kQ,(64,3,[eW,zq3,iq]),kO,vj,q9]
def Dg:Cn:=((16,[aK],Df,3),(some (.long 1),(Df),[eI]++hV),(2,0,0,37))
theorem N7:CtH Dg:=ctR 139 ag rfl (af _) [vn,(tA,[1,2,6],[0],[aw]++rS 3 3++jf++uS 28 4),Me,vl,B6] [] (scS eY (scS De (scS tx (scS eZ (scS eY sc0))))) (by decide +kernel)
def Dh:Cn:=((24,jE,pz,2),(none,(an pz [(3,64,2,[zq3,cu])]),[]),(0,0,0,0))
theorem N8:CtH Dh:=ctR 36 ag rfl (af _) [] [] sc0 (by decide +kernel)
def Di:Cn:=((27,jJ,po,1),(none,(an po [(1,64,2,[zq3,vU 9]),(3,aI [1,1])]),[]),(0,0,0,0))
theorem Dj:CtH Di:=ctR 32 ag rfl (af _) [] [] sc0 (by decide +kernel)
def Dk:List AD:=wv++([d6,za4,aL,lg,za4,aG]++ww++[wm,za2,za2,d6])
def Dm:Cn:=((23,[dr,zq0,zq0,zq3],Dk,3),(none,(an Dk [(0,0,0,ry),(3,64,2,[zq0,dw]),(4,64,2,[zq3,cX]),(5,65,2,[bU,e6]),(6,64,3,lh),(7,64,3,iU),(8,64,2,[zq0,cV]),(9,64,2,[ck,zq0]),(10,3,0,rz),(13,64,2,[zq3,bS]),(14,aI [1,0]),(18,aI [1,1]),(21,64,3,lk),(24,64,2,[zq1,cN]),(26,64,3,[bH,zq0,zq1]),(29,aI [1,(-1)])]++[az,eJ]),[]),(3,2,4,70))
def Mg:List Sc:=[CR,LV,(Di,[10,14,17,18],[0],[aw]++rS 11 3++LX),LW]
theorem N9:CtH Dm:=ctR 185 ag rfl (af _) ([(tA,[10,11,15],[0],[aw]++rS 12 3++wc),(Dh,[10,11,12,13,15,16],[0,2],ll++uS 36 3++[zq0,aB]),LY]++Mg) [] (scS De (scS N8 (scS wk (scS m8 (scS gm (scS Dj (scS kI sc0))))))) (by decide +kernel)
def Dn:List AD:=[za5,lV,nX,nY,qW,kR,aG,br,nZ,(64,2,[zq3,bI]),lb,wq]++vA
def Do:Cn:=((16,[aK],Dn,2),(some (.long 4294967296),(Dn),gk),(2,0,0,37))
theorem Dp:CtH Do:=ctR 139 ag rfl (af _) [vC,(qS,[1,2,6],[0],[aw]++rS 3 3++jf++uS 28 4),va,vB,wu] [] (scS eV (scS uZ (scS u8 (scS oa (scS eY sc0))))) (by decide +kernel)
def Dq:List AD:=iT++([v4,q7,q6,q8]++vf++(Mb++L4))
def tB:Cn:=((23,[cW,zq3,zq3,zq0],Dq,2),(none,(an Dq [(1,64,2,[cX,zq3]),(2,64,2,[e6,zq0]),(3,65,2,kV),(4,64,3,oe),(5,64,3,[ew,zq0,zq0]),(6,64,2,[dQ,zq3]),(7,64,2,[zq3,gl]),(11,64,2,[dt,zq0]),(12,64,2,[zq0,c8]),(18,64,3,[bH,zq1,vU 47]),(21,64,2,[vU 50,zq1]),(23,64,3,[vU 51,zq1,vU 53]),(26,64,2,[zq1,vU 56])]),[]),(1,0,0,15))
theorem Dr:CtH tB:=ctR 136 ag rfl (af _) [(qS,[8,9,13],[0],[aw]++rS 10 3++v6),(Bq,[8,9,10,11,13,14],[0,1],v5++uS 39 3),(hO,[17,18,19,20,21],[0],uS 45 6),(kU,[22,23,24,25,26],[0],uS 51 6)] [] (scS uZ (scS Jd (scS gm (scS iX sc0)))) (by decide +kernel)
def Ds:List AD:=[bE,za4,aG,bN,aL,fb]++lm
def Dt:Cn:=((8,gn,Ds,4),(some zq3,(an Ds [(6,0,0,rA),(12,aI [0,1]),(13,aI [1,0]),(14,aD [2,3]),(15,aI [0,1,1]),(17,aI [0,1,1]),(19,aI [0,1]),(20,aI [1,0])]++([rB,lq,lo,za9,az,za4,aL,aG,fb,lp,bM,aG,d6]++lr++[az,eJ,az,eJ,bM,az])),[eI]++wx),(4,30,72,93))
def Mh:Sc:=(Do,[6,21,22,23,24,25,28,29,30,31,34,35,39,40,41],[0,3],lX++rS 9 3++uS 2 6++rS 12 9++uS 8 5++[zq0,cF,zq3,zq0,e_,fL,zq3,zq0,fD,zq3]++rS 36 3++v_)
theorem N_:CtH Dt:=ctR 65 aC rfl (aA _) [(Da,[0,1,2,3,4,5,6,21],[0,1,2,3],ir++rS 9 3++uS 2 6++rS 12 9++uS 8 5++lW),(Dg,[6,21,22,23,24,25,26,27,30,32,34,35,39,40,41],[0,1,2],ir++rS 9 3++uS 2 6++rS 12 9++uS 8 5++[zq0,cF,zq0,zq0,e7,aW,zq3,ay,fr]++rS 36 3++[zq1,zq0,vR 42,vR 43,zq1,zq0,zq1]),(Dm,[6,7,8,12,13,14,15,16,19,20,21,22,23,24,25,26,27,30,31,32,34,35,36,37,38,39,40,41,42,43],[0,1,2],[aO,bi]++rS 9 3++uS 2 6++[bQ,ff]++uS 8 5++[zq0]++uS 14 6++rp 6 zq0++uS 20 4++[cF,e7,aW,zq3,zq1,zq3,zq0,zq1,zq1,zq3,zq1,zq0]),Mh,(tB,[6,12,13,14,15,16,19,20,21,22,23,24,25,28,29,30,31,34,35,36,37,38,39,40,41,42,43],[0,3],lX++rS 9 3++uS 2 6++ls++uS 8 5++[zq0,zq0,vU 15,zq3,vU 17,bU,vU 19,zq0,zq3]++rp 5 zq0++[vU 21,cX,zq0,cF,e_,fL,zq3,zq0,fD,zq3,zq1,zq3]++rp 5 zq1++[zq0,zq1,zq1,zq1,zq1]),(ps,[6,9,10,11,15,16,17,18,45,46],[0,1],uS 0 8++rS 12 3++[vR 19,co]++uS 8 5++[zq0,zq0,ax])] [] (scS N6 (scS N7 (scS N9 (scS Dp (scS Dr (scS pt sc0)))))) (by decide +kernel)
def Dw:List AD:=[bE,za9,aG,bN,aL,fb,za5,lS]
def Dx:Cn:=((9,hG,Dw,4),(none,(an Dw [(7,3,0,lT)]++([hI,hH,d6,d6,za9]++Mf)),[]),(2,23,49,32))
theorem Oa:CtH Dx:=ctR 375 ag rfl (cw) [gi,(m7,[1],[0],[]),oi,gh,(mT,[2],[0],[]),wp,gi,gh,wo,wj,iR] [] (scS dx (scS og (scS hS (scS fZ (scS nT (scS lR (scS dx (scS fZ (scS ly (scS ly (scS fM sc0))))))))))) (by decide +kernel)
def Dy:List AD:=[lU,n5,wn]
def pH:Cn:=((18,jE,Dy,1),(some zq0,(Dy),[]),(0,0,0,0))
theorem pI:CtH pH:=ctR 13 ag rfl (af _) [] [] sc0 (by decide +kernel)
def Dz:List AD:=wt++([iV,(64,2,[zq3,cM]),aL,(67,2,[bI,bO]),aG,lb,wq]++vY)
def DA:Cn:=((16,[aK],Dz,3),(some (.long 1),(Dz),[dB]++hV),(2,0,0,37))
def Mi:Sc:=(pH,[1,2,6],[0],[aw]++rS 3 3++jf++uS 28 4++[cM])
theorem Ob:CtH DA:=ctR 139 ag rfl (af _) [v3,Mi,L_,vZ,wu] [] (scS eY (scS pI (scS tq (scS eZ (scS eY sc0))))) (by decide +kernel)
def DB:Cn:=((24,jJ,pF,2),(none,(an pF [(3,64,2,[zq3,cu]),(4,aI [0,0]),(5,aD [1,1])]),[]),(0,0,0,0))
theorem Oc:CtH DB:=ctR 36 ag rfl (af _) [] [] sc0 (by decide +kernel)
def DC:List AD:=wv++([d6,za9,aL,lg,za4,aG]++ww++[wm,za2,za2,d6])
def DE:Cn:=((23,[dr,zq0,zq0,zq3],DC,3),(none,(an DC [(0,0,0,ry),(3,64,2,[zq0,dw]),(4,64,2,[zq3,cX]),(5,65,2,[aB,e6]),(6,64,3,lh),(7,64,3,iU),(8,64,2,[zq0,cV]),(9,64,2,[ck,zq0]),(10,3,0,rz),(13,64,2,[zq3,bS]),(14,aI [1,0]),(15,aI [0,0]),(16,aD [2,2]),(18,aI [1,1]),(21,64,3,lk),(24,64,2,[zq1,cN]),(26,64,3,[bH,zq0,zq1]),(29,aI [1,(-1)])]++[az,fE]),[]),(3,2,4,70))
theorem Od:CtH DE:=ctR 185 ag rfl (af _) ([(pH,[10,11,15],[0],[aw]++rS 12 3++[bQ,co,eU,cM,zq0,zq0,bI,zq0]),(DB,[10,11,12,13,15,16],[0,2],ll++uS 36 3++[zq3,aB]),L8]++Mg) [] (scS pI (scS Oc (scS wk (scS m8 (scS gm (scS Dj (scS kI sc0))))))) (by decide +kernel)
def DF:List AD:=[bE,za9,aG,bN,aL,fb]++lm
def DG:Cn:=((8,gn,DF,4),(some zq3,(an DF [(6,0,0,rA),(12,aI [0,1]),(13,aI [1,0]),(14,aD [1,3]),(15,aI [0,1,1]),(17,aI [0,1,1]),(19,aI [0,1]),(20,aI [1,0])]++([rB,lq,lo,za9,az,az,aD [2,2],aG,fb,lp,bM,aG,d6]++lr++[az,fE,az,fE,bM,az])),[dB]++wx),(4,30,72,93))
theorem Oe:CtH DG:=ctR 65 aC rfl (aA _) [(Dx,[0,1,2,3,4,5,6,21],[0,1,2,3],ir++rS 9 3++uS 2 6++rS 12 9++uS 8 5++lW),(DA,[6,21,22,23,24,25,26,27,30,32,34,35,39,40,41],[0,1,2],ir++rS 9 3++uS 2 6++rS 12 9++uS 8 5++[zq0,cF,zq0,zq0,e7,aW,zq3,ay,zq0,fr]++rS 36 3++[zq1,zq0,vR 42,vR 43,zq1,zq0,zq1]),(DE,[6,7,8,12,13,14,15,16,19,20,21,22,23,24,25,26,27,30,31,32,34,35,36,37,38,39,40,41,42,43],[0,1,2],[aO,bi]++rS 9 3++uS 2 6++[bQ,ff]++uS 8 5++[zq0]++uS 14 6++rp 6 zq0++uS 20 4++[cF,e7,aW,zq3,zq1,zq3,zq0,zq1,zq1,zq3,zq1,zq0]),Mh,(tB,[6,12,13,14,15,16,19,20,21,22,23,24,25,28,29,30,31,34,35,36,37,38,39,40,41,42,43],[0,3],lX++rS 9 3++uS 2 6++ls++uS 8 5++[zq0,zq0,vU 15,zq3,vU 17,aB,vU 19,zq0,zq3]++rp 5 zq0++[vU 21,cX,zq0,cF,e_,fL,zq3,zq0,fD,zq3,zq1,zq3]++rp 5 zq1++[zq0,zq1,zq1,zq1,zq1]),L6] [] (scS Oa (scS Ob (scS Od (scS Dp (scS Dr (scS pt sc0)))))) (by decide +kernel)
def DH:List AD:=[g9,(64,3,[aO,bi,zq3])]++uQ
def DJ:Cn:=((15,[aw,zq0,ay],DH,1),(none,(an DH [(1,64,3,[aO,bi,zq0]),(2,64,2,[zq3,ct]),(3,aI [(-1),0]),(4,64,2,[ay,vU 7])]),[]),(0,0,0,0))
theorem Of:CtH DJ:=ctR 38 aN rfl (aM _) [] [] sc0 (by decide +kernel)
def f9:AD:=aI [2,2]
def DK:List AD:=[za5,f9,uU]
def DL:AD:=aI [(-1),(-1),0]
def tC:Cn:=((13,[vR 2,aw,aK],DK,1),(none,(an DK [(2,4,0,rS 3 4)]++[DL,ft,fy,f9]),[]),(1,4,9,15))
theorem pJ:CtH tC:=ctR 61 aN rfl (iE) [(qQ,[3],[0],g_),uW,(BF,[2,3,4,5,6],[0],uV),(DJ,[2,3,4,5,6],[0],[zq1,zq1,zq0,zq1,zq0,zq1,zq1,ay])] [] (scS uP (scS fM (scS JZ (scS Of sc0)))) (by decide +kernel)
def DM:List AD:=[bE,za4,za4,bN,aL,fe,za5,lS]
def Mj:List AD:=[fe,mU,za4,za4,f9,jG,DL,ft,fy,f9,jF,DL,ft,fy,f9,za2]
def DN:Cn:=((9,hG,DM,5),(none,(an DM [(7,3,0,lT)]++([hI,hH,f9,f9,za4,aL,za4]++Mj)),[]),(2,23,52,32))
def Mk:List Sc:=[(vq,[5],[0,3,4],[]),gi,gi,(tC,[6,10,20],[0],uS 0 28),(tC,[6,11,25],[0],uS 0 28),iR]
theorem DO:CtH DN:=ctR 415 ag rfl (cw) ([gi,(mZ,[1],[0],[]),oi,gi,(mZ,[2],[0],[])]++Mk) [] (scS dx (scS n9 (scS hS (scS dx (scS n9 (scS hS (scS dx (scS dx (scS pJ (scS pJ (scS fM sc0))))))))))) (by decide +kernel)
def DP:List AD:=[uY,(64,3,[ct,zq1,vU 4])]
def m9:Cn:=((17,g8,DP,1),(some zq1,(DP),[]),(0,0,0,0))
theorem iu:CtH m9:=ctR 6 aN rfl (aM _) [] [] sc0 (by decide +kernel)
def DQ:List AD:=[uY,(64,3,[ct,vU 4,zq0])]
def m_:Cn:=((17,ip,DQ,1),(some zq0,(DQ),[]),(0,0,0,0))
theorem iv:CtH m_:=ctR 6 aN rfl (aM _) [] [] sc0 (by decide +kernel)
def Ml:List AD:=[aR 67 [10,11],za4,za4,(4,0,[d4,dC,cV,ck]),(64,3,[dQ,zq1,zq0]),ft,(4,0,[cZ,bQ,cM,bI]),(64,3,[gl,zq1,zq0]),ft]
def Mm:List AD:=[za5,(3,0,[aw]++rS 2 4++[bO,d3,cg]++uS 28 3),aR 67 [6,8],(68,2,[vR 7,ew]),f9,f9]
def DR:List AD:=Mm++[za4,aL,za4]++Ml
def DS:Cn:=((16,[aK],DR,3),(some (.long 0),(DR),[dB]++hV),(2,0,0,37))
def Mn:List Sc:=[(mV,[15,17],[0],[cZ,cM,bI,zq1]),(jI,[15,17],[0],[cZ,cM,bI,zq3]),(m_,[12,13],[0],[dC]++uS 32 3++[zq1]),(mV,[12,14],[0],[d4,cV,ck,zq1]),(jI,[12,14],[0],[d4,cV,ck,zq3])]
def Mo:List Sc:=[(m9,[15,16],[0],[bQ]++uS 35 3++[zq0]),(m9,[12,13],[0],[dC]++uS 32 3++[zq0]),(m_,[15,16],[0],[bQ]++uS 35 3++[zq1])]
theorem Og:CtH DS:=ctR 455 ag rfl (af _) ((Mo++[(jg,[1,2,6],[0],[aw]++rS 3 3++[bO,d3,cg]++uS 28 3++[cW,zq3]),(tp,[1,3,4,7],[0,1,2],[aw,vR 2,vR 5,bO,d3,cg]++uS 28 4++[ay])])++Mn) [] (scS iu (scS iu (scS iv (scS kJ (scS tq (scS iS (scS eZ (scS iv (scS iS (scS eZ sc0)))))))))) (by decide +kernel)
def DT:List AD:=[g9,kN,(64,2,[zq3,ct]),vc,(64,2,[ay,vU 5])]
def pK:Cn:=((26,[aw,zq0],DT,1),(none,(an DT [(1,64,3,[aO,bi,zq3]),(3,aI [(-1),(-1)]),(4,64,2,[zq1,vU 5])]),[]),(0,0,0,0))
theorem kL:CtH pK:=ctR 39 aN rfl (aM _) [] [] sc0 (by decide +kernel)
def pL:List AD:=[(0,0,[aO,bi,aK,vR 2]++uS 2 9++[ay]++uS 11 15),za8,eH,(3,0,[aw]++uS 26 9++[zq0])]
def DU:Cn:=((29,[vR 3,zq3,aB],pL,2),(none,(an pL [(0,0,0,[aO,bi,vR 4,vR 5]++uS 2 9++[ay]++uS 11 15),(3,3,0,[aw]++uS 26 9++[zq3])]++[za9,eJ]),[]),(2,2,4,55))
theorem DV:CtH DU:=ctR 54 ag rfl (af _) vN [] (scS vJ (scS vK (scS vL sc0))) (by decide +kernel)
def DW:List AD:=[(4,0,uS 0 3++[aK]),(64,2,[ct,zq3])]
def tD:Cn:=((28,jD,DW,1),(none,(DW),[]),(0,0,0,0))
theorem DX:CtH tD:=ctR 13 aN rfl (aM _) [] [] sc0 (by decide +kernel)
def pM:List AD:=[(3,0,[aO]++rS 1 4++[bi,vU 2,bO,vR 11,ct,vU 4]),aR 67 [5,7],aR 68 [6,8],bM,(64,2,[vU 5,zq3]),(64,2,[zq3,vU 6]),(65,2,[bU,vU 7]),(64,2,[zq3,vU 8]),(65,2,[vD 3,vU 9]),(4,0,uS 10 3++[dr]),(64,2,[vU 13,zq3]),(64,2,[vU 14,zq1])]
def na:Op:=(4,4,0,0)
def rE:Op:=(5,7,8,0)
def tE:Cn:=((30,[aw,zq3,zq0,aB],pM,4),(none,(an pM [(8,65,2,[vD 5,vU 9])]),[(2,1,2,0),(1,3,4,0),(4,5,0,0),it,na,rE,(2,4397347889687374747,9,0),(11,6,10,1)]),(1,0,0,21))
theorem DY:CtH tE:=ctR 130 ag rfl (af _) [(tD,[9,10],[0],uS 10 4)] [1] (scS DX sc0) (by decide +kernel)
def nb:List Value:=[vU 9,cu,dr,vR 11]
def Qn:AD:=(0,0,rS 1 4++uS 0 9++[ay]++rS 5 5++nb++uS 11 6)
def Qo:AD:=(3,0,[aw]++rS 13 4++[bx,bT,aW,bF,zq0,zq0])
def Mp:AD:=(64,3,[ck,zq1,dQ])
def wy:List AD:=[Qn,za8,eH,za8,eH,BA,rn,JF,aU 64 23 3,aU 64 26 3,aU 64 29 2,BQ,Qo,aR 67 [17,19],aR 68 [18,20],f9,f9]
def Mq:List AD:=[fe,aR 67 [22,23],za4,za4,(4,0,rS 25 4),Mp,ft,fy,f9,(4,0,rS 30 4),(64,3,[cM,zq1,bI]),ft,fy,f9,(64,2,[gl,zq1])]
def DZ:List AD:=wy++([za4,aL,za4]++Mq)
def wA:List Value:=[aw]++rS 13 4++[bx,bT,aW,bF,zq3,zq3]
def Qp:Op:=(2,4397347889687374747,11,0)
def wB:List Op:=[(4,6,0,0),(5,9,10,0),Qp,(11,8,12,1)]
def D3:Cn:=((23,[d3,zq0,zq0,zq0],DZ,5),(none,(an DZ [(0,0,0,rS 35 4++uS 0 9++[ay]++rS 5 5++nb++uS 11 6),(5,64,2,[zq0,vU 18]),(6,64,2,[zq0,dw]),(7,65,2,[aB,cX]),(8,64,3,[zq0,zq3,vU 25]),(9,64,3,[zq0,zq3,vU 28]),(10,64,2,[zq0,vU 30]),(11,64,2,[zq0,cV]),(12,3,0,wA),(15,aI [1,1]),(16,aI [0,1]),(17,aI [1,1]),(18,aD [2,2]),(19,aI [1,1]),(20,aD [7,4]),(23,aI [1,1]),(25,64,3,[ck,zq3,zq1]),(27,aI [(-1),(-1)]),(28,aI [(-1),1]),(30,64,3,[cM,zq3,zq1]),(32,aI [(-1),(-1)]),(33,aI [(-1),1])]++[za9,fE,za9,aD [5,0]]),[(3,3,1,0),(2,5,2,0),(1,4,6,0),(4,7,0,0),na]++wB),(3,4,8,70))
def Mr:Sc:=(DU,[0,3,4,12],[0,5],[vR 35,vR 36]++uS 0 9++rS 5 5++nb++uS 11 6++rS 13 4++[bx,bT,aW,bF,zq3])
def Ms:Sc:=(tt,[12,16,21,23],[0],[aw]++rS 13 3++[bT,aW,bF,zq3,zq0,ay,dR])
def Mt:Sc:=(pK,[29,30,31,32,33],[0],[cM,zq1,bI,zq1,zq0,ay])
def Mu:Sc:=(pK,[24,25,26,27,28],[0],[ck,zq1,dQ,zq1,zq0,ay])
theorem Oh:CtH D3:=ctR 238 ag rfl (af _) [(jg,[12,13,17],[0],[aw]++rS 14 3++[bx,bT,aW,bF,zq0,zq0,vR 19,zq3]),(pB,[12,13,14,15,17,18],[0,2],[aw,cZ,bx,bT,aW,bF,zq0,zq0,vR 19,co,ay,zq0,aB]),(m0,[0,1,2,12],[0,2],[vR 3,vR 4]++uS 0 9++rS 5 5++nb++uS 11 6++rS 13 4++[bx,bT,aW,bF,zq0]),Mu,Mt,Ms,(m6,[29,30,31,32,33],[0],[cM,zq3,zq3,zq1,zq1]),(n_,[12,13,19],[0],[aw]++rS 14 3++[bx,bT,aW,bF,zq3,zq0,bQ,zq3]),(vH,[12,13,14,15,19,20],[0,4],[aw,cZ,bx,bT,aW,bF,zq3,zq0,bQ,ff,zq3,zq0,vD 3]),Mr,(tE,[12,13,14,15,16,17,18,19,20,29,33,34],[0,5,2,4],[aw,bx,bT,zq3,zq3,ay,zq3,bU,zq3,vD 4]++rS 30 3++[zq1,gl]),(m6,[24,25,26,27,28],[0],[ck,zq3,zq3,zq1,zq1])] [] (scS kJ (scS tr (scS lf (scS kL (scS kL (scS pC (scS iZ (scS ru (scS BM (scS DV (scS DY (scS iZ sc0)))))))))))) (by decide +kernel)
def D4:List AD:=[qT,u7,qU,(65,2,[aB,vU 11])]
def D5:Cn:=((19,[aw,zq3,aB],D4,2),(some zq3,(D4),gk),(1,0,0,17))
theorem Oi:CtH D5:=ctR 45 ag rfl (af _) [] [1,1] sc0 (by decide +kernel)
def D6:List AD:=[za5,lV,nX,nY,qW,iV,(64,2,[zq3,cM]),(65,2,[aB,bI]),(67,2,[gl,bO]),(64,2,[zq3,bS]),(4,0,[vR 11]++uS 39 3),(64,3,[c8,zq3,fC]),(4,0,[d4,dC,cN,bH]),(64,3,[eX,zq3,vU 47]),wh]
def tF:Cn:=((16,[aK],D6,2),(some (.long 4294967297),(D6),gk),(2,0,0,37))
theorem D7:CtH tF:=ctR 139 ag rfl (af _) [(kS,[12,13],[0],[dC]++uS 44 4),L7,(D5,[1,3,4,7],[0,1],qX++uS 28 3++[cV,ck,bI]),(jI,[12,14],[0],[d4,cN,bH,vU 48]),(kS,[10,11],[0],uS 39 5)] [] (scS eY (scS pv (scS Oi (scS eZ (scS eY sc0))))) (by decide +kernel)
def D8:List AD:=[nN,q5,qZ,qU,wn,(65,2,[aB,vU 12])]
def D9:Cn:=((24,jH,D8,2),(none,(an D8 [(3,64,2,[cu,zq0])]),[]),(0,0,0,0))
theorem Oj:CtH D9:=ctR 36 ag rfl (af _) [] [] sc0 (by decide +kernel)
def Mv:List AD:=[ri,aU 64 53 3,(64,2,[vU 56,zq1]),(64,2,[vU 57,zq1]),(64,2,[vU 58,zq3])]
def D_:List AD:=iT++([(3,0,[aw]++rS 9 4++[cg,bQ,dR,bS,zq3,zq3]),q7,q6,q8,Bx,(64,2,[zq3,fC]),(65,2,[aB,cN]),(67,2,[bH,cZ]),(64,2,[zq3,eX]),mW,aU 64 47 3,(64,2,[vU 50,zq1]),(64,2,[vU 51,zq1]),(64,2,[vU 52,zq3])]++Mv)
def tG:Cn:=((23,[cW,zq3,zq3,zq3],D_,2),(none,(an D_ [(1,64,2,[cX,zq3]),(2,64,2,[e6,zq3]),(3,65,2,kV),(4,64,3,oe),(5,64,3,[ew,zq3,zq3]),(6,64,2,[dQ,zq3]),(7,64,2,[bI,zq3]),(11,64,2,[dt,zq0]),(12,64,2,[c8,zq0]),(18,64,3,[vU 47,zq1,vU 49]),(21,64,2,[vU 52,zq1]),(23,64,3,[vU 53,zq1,f8]),(26,64,2,[vU 58,zq1])]),[]),(1,0,0,15))
theorem Eb:CtH tG:=ctR 136 ag rfl (af _) [(pu,[8,9,13],[0],[aw]++rS 10 3++[cg,bQ,dR,bS,zq3,zq3,eW,fC]),(D9,[8,9,10,11,13,14],[0,1],[aw,d3,cg,bQ,dR,bS,zq3,zq3]++uS 39 3++[fC,cN]),(hO,[17,18,19,20,21],[0],uS 47 6),(hO,[22,23,24,25,26],[0],uS 53 6)] [] (scS pv (scS Oj (scS gm (scS gm sc0)))) (by decide +kernel)
def Qq:AD:=(0,0,rS 9 4++rS 1 4++uS 0 5++[ay]++uS 5 3++rS 5 4++uS 8 8)
def Mw:List AD:=[Qq,za8,eH,za8,eH,dU,dU,bv,bv,(64,2,[zq3,vU 16]),(65,2,[aB,vU 17])]
def Ec:List AD:=Mw++[(64,2,[zq3,vU 18]),(65,2,[bU,vU 19])]
def tH:Cn:=((31,[aw],Ec,3),(none,(an Ec [(0,0,0,rS 9 8++uS 0 5++[ay]++uS 5 3++rS 5 4++uS 8 8),(7,aI [0,0,1]),(8,aI [0,0,1])]++[az,eJ,az,fE,za4,za4]),[]),(2,6,12,54))
def Mx:List Sc:=[(jK,[7],[0],g_),(jK,[8],[0],g_),(kW,[7],[0],[zq3])]
theorem Ed:CtH tH:=ctR 324 aC rfl (aA _) (Mx++[(kW,[8],[0],[zq3])]) [] (scS iY (scS iY (scS kX (scS kX sc0)))) (by decide +kernel)
def Qr:AD:=(0,0,rS 7 8++uS 0 5++[ay]++rS 15 9++uS 5 6)
def My:List AD:=[bN,aL,fe,Qr,za8,eH,za8,eH,za8,eH,za8,eH,aU 64 11 2,aU 64 13 2,aU 65 15 2,bv,bv,bv,bv,BA,rn]
def pN:List AD:=[bE,za4,za4]++My
def Qs:AD:=(3,0,[dA]++rS 25 4++[vR 33,vR 37,vR 42,vR 47,zq3,zq3])
def Ee:Op:=(11,5,4472406533629990549,1)
def Mz:List Op:=[(4,12,0,0),(5,15,16,0),(2,4397347889687374747,17,0),(11,14,18,1),(4,13,0,0),(11,19,4472406533629990549,1),(4,13,0,0),(5,0,20,0),(2,4591870180066957722,21,0),(10,19,22,1)]
def MA:List AD:=[aD [13,4],aR 67 [34,35],za4,bM,f9,(4,0,rS 38 4),za7,ft,za2,za2,(4,0,rS 43 4),za7,ft,za2,za2,za2,za9]
def wC:List AD:=[Qs,aR 67 [29,31],aR 68 [30,32]]
def Ef:Cn:=((8,gn,pN,5),(some zq3,(an pN [(6,0,0,rS 48 8++uS 0 5++[ay]++rS 15 9++uS 5 5++[zq0]),(15,aI [0,1]),(16,aI [0,1]),(17,aD [1,13]),(18,aI [0,1,1]),(19,aI [0,1,1]),(20,aI [0,0,1]),(21,aI [0,0,1]),(22,aI [0,1]),(23,aI [0,1])]++((wC++[za9,az,bM,aD [2,2],bM])++MA++[fE,za9,aD [11,0],az,fE,az,aD [11,0],za4,za4])),[dB,Ee,dB,(5,0,6,0),eI,rE,ro,(10,5,10,1),(3,3,1,0),(2,11,2,0),(1,4,12,0),(4,13,0,0),na]++Mz),(4,34,83,93))
def wD:List Value:=[zq1,zq1,vR 45,vR 46,zq1,zq1,zq3]
def MB:Sc:=(DN,[0,1,2,3,4,5,6,24],[0,1,2,3,4],rS 7 8++uS 0 5++rS 15 9++uS 5 5++lW)
theorem Ok:CtH Ef:=ctR 65 aC rfl (aA _) [MB,(DS,[6,24,25,26,27,28,29,30,31,33,34,35,37,38,39,42,43,44],[0,1,2],rS 7 8++uS 0 5++rS 15 9++uS 5 5++[zq0,vR 47,zq0,zq0,fD,vR 40,vR 41,zq1,vR 45,vR 46,zq1]),(D3,[6,7,8,9,10,15,16,17,18,19,22,23,24,25,26,27,28,29,30,31,32,33,34,35,37,38,39,40,41,42,43,44,45,46,47],[0,1,2,3,4],rS 11 4++uS 0 5++[co,bx]++uS 5 5++[zq0]++uS 11 6++rp 6 zq0++uS 17 4++[zq1,zq0,zq1,zq0,zq1]),(tF,[6,24,25,26,27,28,31,32,33,35,37,38,42,43,44],[0,13],rS 48 4++rS 11 4++uS 0 5++rS 15 9++uS 5 5++[zq0,vR 47,zq3,zq3,aW,vR 30,zq3,zq0,zq3,vD 4,bF,zq3]++rS 39 3++wD),(tG,[6,15,16,17,18,19,22,23,24,25,26,27,28,31,32,33,35,37,38,39,40,41,42,43,44,45,46],[0,13],rS 48 4++rS 11 4++uS 0 5++[ay,co,bx]++uS 5 5++[zq0,zq0,vU 12,zq0,vU 14,aB,vU 16,zq0,zq3,zq0,zq0,zq3,zq0,zq0,vU 18,zq0,dw,vR 47,aW,vR 30,zq3,zq0,zq3,vD 4,bF,zq3,zq1,zq3,zq1,zq3,zq1,zq1,zq1,zq3,zq1,zq3,zq1,zq1]),(tH,[6,11,12,13,14,18,19,20,21,48,49,50,51],[0,2,11],uS 0 5++rS 15 3++[dR,vR 23]++uS 5 5++[zq0,zq0,ax,zq0,ax])] [] (scS DO (scS Og (scS Oh (scS D7 (scS Eb (scS Ed sc0)))))) (by decide +kernel)
def Eg:List AD:=[bE,za9,za9,bN,aL,fe,za5,lS]
def Eh:Cn:=((9,hG,Eg,5),(none,(an Eg [(7,3,0,lT)]++([hI,hH,f9,f9,za9,aL,za9]++Mj)),[]),(2,23,52,32))
theorem Ei:CtH Eh:=ctR 415 ag rfl (cw) ([gi,(m7,[1],[0],[]),oi,gi,(m7,[2],[0],[])]++Mk) [] (scS dx (scS og (scS hS (scS dx (scS og (scS hS (scS dx (scS dx (scS pJ (scS pJ (scS fM sc0))))))))))) (by decide +kernel)
def Ej:List AD:=Mm++[za9,aL,za9]++Ml
def Ek:Cn:=((16,[aK],Ej,3),(some (.long 0),(Ej),[eI]++hV),(2,0,0,37))
theorem Ol:CtH Ek:=ctR 455 ag rfl (af _) ((Mo++[(jh,[1,2,6],[0],[aw]++rS 3 3++[bO,d3,cg]++uS 28 3++[cW]),(tv,[1,3,4,7],[0,2,1],[aw,vR 2,vR 5,bO,d3,cg]++uS 28 4++[ay])])++Mn) [] (scS iu (scS iu (scS iv (scS kK (scS tx (scS iS (scS eZ (scS iv (scS iS (scS eZ sc0)))))))))) (by decide +kernel)
def El:List AD:=wy++([za9,aL,za9]++Mq)
def Em:Cn:=((23,[d3,zq0,zq0,zq0],El,5),(none,(an El [(0,0,0,rS 35 4++uS 0 9++[ay]++rS 5 5++nb++uS 11 6),(5,64,2,[zq0,vU 18]),(6,64,2,[zq0,dw]),(7,65,2,[bU,cX]),(8,64,3,[zq0,zq3,vU 25]),(9,64,3,[zq0,zq3,vU 28]),(10,64,2,[zq0,vU 30]),(11,64,2,[zq0,cV]),(12,3,0,wA),(15,aI [1,1]),(16,aI [0,1]),(20,aD [7,4]),(23,aI [1,1]),(25,64,3,[ck,zq3,zq1]),(27,aI [(-1),(-1)]),(28,aI [(-1),1]),(30,64,3,[cM,zq3,zq1]),(32,aI [(-1),(-1)]),(33,aI [(-1),1])]++[za9,eJ,za9,aD [5,0]]),[(3,4,2,0),(2,5,1,0),(1,3,6,0),(4,7,0,0),it]++wB),(3,4,8,70))
theorem Om:CtH Em:=ctR 238 ag rfl (af _) [(jh,[12,13,17],[0],[aw]++rS 14 3++[bx,bT,aW,bF,zq0,zq0,vR 19]),(pG,[12,13,14,15,17,18],[0,2],[aw,cZ,bx,bT,aW,bF,zq0,zq0,vR 19,co,ay,zq3,aB]),(m0,[0,1,2,12],[0,1],[vR 3,vR 4]++uS 0 9++rS 5 5++nb++uS 11 6++rS 13 4++[bx,bT,aW,bF,zq0]),Mu,Mt,Ms,(m6,[29,30,31,32,33],[0],[cM,zq3,zq3,zq1,zq1]),(oh,[12,13,19],[0],[aw]++rS 14 3++[bx,bT,aW,bF,zq3,zq0,bQ]),(wb,[12,13,14,15,19,20],[0,4],[aw,cZ,bx,bT,aW,bF,zq3,zq0,bQ,ff,zq3,zq3,vD 3]),Mr,(tE,[12,13,14,15,16,17,18,19,20,29,33,34],[0,5,1,3],[aw,bx,bT,zq3,zq3,ay,zq0,bU,zq0,vD 4]++rS 30 3++[zq1,gl]),(m6,[24,25,26,27,28],[0],[ck,zq3,zq3,zq1,zq1])] [] (scS kK (scS tz (scS lf (scS kL (scS kL (scS pC (scS iZ (scS rC (scS B4 (scS DV (scS DY (scS iZ sc0)))))))))))) (by decide +kernel)
def pO:List AD:=[bE,za9,za9]++My
def En:Cn:=((8,gn,pO,5),(some zq3,(an pO [(6,0,0,rS 48 8++uS 0 5++[ay]++rS 15 9++uS 5 5++[zq0]),(15,aI [0,1]),(16,aI [0,1]),(17,aD [2,13]),(18,aI [0,1,1]),(19,aI [0,1,1]),(20,aI [0,0,1]),(21,aI [0,0,1]),(22,aI [0,1]),(23,aI [0,1])]++((wC++[za9,az,za9,aL,za9])++MA++[eJ,za9,aD [11,0],az,eJ,az,aD [11,0],za4,za4])),[eI,Ee,dB,(5,0,6,0),eI,rE,ro,(10,5,10,1),(3,4,2,0),(2,11,1,0),(1,3,12,0),(4,13,0,0),it]++Mz),(4,34,83,93))
def MC:Sc:=(Eh,[0,1,2,3,4,5,6,24],[0,1,2,3,4],rS 7 8++uS 0 5++rS 15 9++uS 5 5++lW)
theorem On:CtH En:=ctR 65 aC rfl (aA _) [MC,(Ek,[6,24,25,26,27,28,29,30,31,33,34,35,37,38,39,42,43,44],[0,1,2],rS 7 8++uS 0 5++rS 15 9++uS 5 5++[zq0,vR 47,zq0,zq0,fD,vR 40,vR 41,zq1,vR 45,vR 46,zq1]),(Em,[6,7,8,9,10,15,16,17,18,19,22,23,24,25,26,27,28,29,30,31,32,33,34,35,37,38,39,40,41,42,43,44,45,46,47],[0,1,2,3,4],rS 11 4++uS 0 5++[co,bx]++uS 5 5++[zq0]++uS 11 6++rp 6 zq0++uS 17 4++[zq1,zq0,zq1,zq0,zq1]),(tF,[6,24,25,26,27,28,31,32,33,35,37,38,42,43,44],[0,13],rS 48 4++rS 11 4++uS 0 5++rS 15 9++uS 5 5++[zq0,vR 47,zq3,zq3,aW,vR 30,zq3,zq0,zq0,vD 4,bF,zq3]++rS 39 3++wD),(tG,[6,15,16,17,18,19,22,23,24,25,26,27,28,31,32,33,35,37,38,39,40,41,42,43,44,45,46],[0,13],rS 48 4++rS 11 4++uS 0 5++[ay,co,bx]++uS 5 5++[zq0,zq0,vU 12,zq0,vU 14,bU,vU 16,zq0,zq3,zq0,zq0,zq3,zq0,zq0,vU 18,zq0,dw,vR 47,aW,vR 30,zq3,zq0,zq0,vD 4,bF,zq3,zq1,zq3,zq1,zq3,zq1,zq1,zq1,zq3,zq1,zq3,zq1,zq1]),(tH,[6,11,12,13,14,18,19,20,21,48,49,50,51],[0,1,11],uS 0 5++rS 15 3++[dR,vR 23]++uS 5 5++[zq0,zq0,ax,zq0,ax])] [] (scS Ei (scS Ol (scS Om (scS D7 (scS Eb (scS Ed sc0)))))) (by decide +kernel)
def Eo:Cn:=((19,kT,px,3),(some zq0,(px),[dB,ti,dB,mY,eI,rv,BI,(10,3,8,(-1))]),(1,0,0,17))
theorem Oo:CtH Eo:=ctR 62 ag rfl (af _) [] [1,(-1)] sc0 (by decide +kernel)
def MD:List AD:=[fe,aR 67 [11,12],za4,za4,(4,0,[dC,cg,ew,cV]),(64,3,[ck,zq1,zq0]),ft,(4,0,[bQ,ff,dQ,cM]),(64,3,[bI,zq1,zq0]),ft]
def ME:List AD:=[za5,(3,0,[aw]++rS 2 4++[dr,d4,cZ]++uS 28 3),aR 67 [6,8],aR 68 [7,9],f9,f9]
def Ep:List AD:=ME++[za4,aL,za4]++MD
def Qt:Op:=(11,11,4472406533629990549,1)
def Qu:Op:=(2,4591870180066957722,15,0)
def wE:List Op:=[Qt,it,(5,0,12,0),na,(5,13,14,0),Qu,(10,11,16,1)]
def wF:List Op:=[Ee,dB,(5,0,6,0),eI,rE,ro,(10,5,10,(-1))]
def Er:Cn:=((16,[aK],Ep,5),(some (.long 4294967296),(Ep),[dB]++wF++[it]++wE),(2,0,0,37))
def wG:List Value:=[aw,vR 2,vR 5,dr,d4,cZ]
def MF:List Sc:=[(mV,[16,18],[0],[bQ,dQ,cM,zq1]),(jI,[16,18],[0],[bQ,dQ,cM,zq3]),(m_,[13,14],[0],[cg]++uS 31 3++[zq1]),(mV,[13,15],[0],[dC,ew,cV,zq1]),(jI,[13,15],[0],[dC,ew,cV,zq3])]
def MG:List Sc:=[(m9,[16,17],[0],[ff]++uS 34 3++[zq0]),(m9,[13,14],[0],[cg]++uS 31 3++[zq0]),(m_,[16,17],[0],[ff]++uS 34 3++[zq1])]
theorem Oq:CtH Er:=ctR 468 ag rfl (af _) ((MG++[(jg,[1,2,6],[0],[aw]++rS 3 3++[dr,d4,cZ]++uS 28 3++[cW,zq3]),(Eo,[1,3,4,7],[0,1,2],wG++uS 28 3++[bO,ay]),(n_,[1,2,8],[0],[aw]++rS 3 3++[dr,d4,cZ]++uS 28 3++[dA,zq3]),(BK,[1,3,4,9],[0,3,4],wG++uS 28 3++[vR 7,ay])])++MF) [] (scS iu (scS iu (scS iv (scS kJ (scS Oo (scS ru (scS BL (scS iS (scS eZ (scS iv (scS iS (scS eZ sc0)))))))))))) (by decide +kernel)
def Es:Cn:=((29,[vR 3,zq0,aB],pL,2),(none,(an pL [(0,0,0,[aO,bi,vR 4,vR 5]++uS 2 9++[ay]++uS 11 15),(3,3,0,[aw]++uS 26 9++[zq3])]++[az,eJ]),[]),(2,2,4,55))
theorem Eu:CtH Es:=ctR 54 ag rfl (af _) vN [] (scS vJ (scS vK (scS vL sc0))) (by decide +kernel)
def tI:Cn:=((30,[aw,zq0,zq3,aB],pM,4),(none,(an pM [(6,65,2,[vD 5,vU 7])]),[(2,1,3,0),(1,2,4,0),(4,5,0,0),eI,na,rE,(2,4397347889687374747,9,0),(11,6,10,1)]),(1,0,0,21))
theorem Ew:CtH tI:=ctR 130 ag rfl (af _) [(tD,[9,10],[0],uS 10 4)] [1] (scS DX sc0) (by decide +kernel)
def MH:List AD:=[fe,aR 67 [22,23],za4,za4,(4,0,rS 25 4),Mp,ft,fy,(64,2,[ay,cM]),(4,0,rS 30 4),(64,3,[bI,zq1,gl]),ft,fy,f9,(64,2,[bS,zq1])]
def Ey:List AD:=wy++([za4,aL,za4]++MH)
def fN:Op:=(3,1,3,0)
def Ez:Cn:=((23,[d3,zq0,zq3,zq0],Ey,5),(none,(an Ey [(0,0,0,rS 35 4++uS 0 9++[ay]++rS 5 5++nb++uS 11 6),(5,64,2,[zq3,vU 18]),(6,64,2,[zq0,dw]),(7,65,2,[vD 3,cX]),(8,64,3,[zq0,zq3,vU 25]),(9,64,3,[zq0,zq3,vU 28]),(10,64,2,[vU 29,zq0]),(11,64,2,[zq0,cV]),(12,3,0,wA),(15,aI [1,1]),(16,aI [0,1]),(17,aI [1,1]),(18,aD [7,2]),(19,aI [1,1]),(20,aD [4,4]),(25,64,3,[ck,zq0,zq1]),(26,aI [(-1),(-1)]),(28,aI [1,(-1)]),(30,64,3,[bI,zq3,zq1]),(32,aI [(-1),(-1)]),(33,aI [(-1),1])]++[za9,aD [4,0],az,aD [5,0]]),[fN,(2,5,4,0),(1,2,6,0),(4,7,0,0),eI]++wB),(3,4,8,70))
def MI:Sc:=(Es,[0,3,4,12],[0,5],[vR 35,vR 36]++uS 0 9++rS 5 5++nb++uS 11 6++rS 13 4++[bx,bT,aW,bF,zq3])
def Qv:Sc:=(BP,[12,16,21,23],[0],[aw]++rS 13 3++[bT,aW,bF,zq3,zq0,ay,dR])
def Qw:Sc:=(pK,[29,30,31,32,33],[0],[bI,zq1,gl,zq1,zq0,ay])
def MJ:List Sc:=[(Br,[24,26,27,28],[0],[eU,zq3,zq1,ay,cM]),Qw,Qv,(m6,[29,30,31,32,33],[0],[bI,zq3,zq3,zq1,zq1])]
theorem Os:CtH Ez:=ctR 238 ag rfl (af _) ([(n_,[12,13,19],[0],[aw]++rS 14 3++[bx,bT,aW,bF,zq0,zq0,bQ,zq3]),(vH,[12,13,14,15,19,20],[0,4],[aw,cZ,bx,bT,aW,bF,zq0,zq0,bQ,ff,ay,zq0,vD 3]),(m0,[0,1,2,12],[0,4],[vR 3,vR 4]++uS 0 9++rS 5 5++nb++uS 11 6++rS 13 4++[bx,bT,aW,bF,zq0])]++MJ++[(jg,[12,13,17],[0],[aw]++rS 14 3++[bx,bT,aW,bF,zq3,zq0,vR 19,zq3]),(pB,[12,13,14,15,17,18],[0,2],[aw,cZ,bx,bT,aW,bF,zq3,zq0,vR 19,co,zq3,zq0,aB]),MI,(tI,[12,13,14,15,16,17,18,19,20,29,33,34],[0,5,2,4],[aw,bx,bT,zq3,zq3,ay,zq3,bU,zq3,vD 4]++rS 30 3++[zq1,bS]),(pq,[24,25,26,27,28],[0],[ck,dQ,zq1,zq0,zq1])]) [] (scS ru (scS BM (scS lf (scS Bs (scS kL (scS vP (scS iZ (scS kJ (scS tr (scS Eu (scS Ew (scS kI sc0)))))))))))) (by decide +kernel)
def EA:List AD:=[qT,vh,rd,(65,2,[aB,vU 11])]
def EB:Cn:=((19,kT,EA,2),(some zq3,(EA),gk),(1,0,0,17))
theorem Ot:CtH EB:=ctR 45 ag rfl (af _) [] [1,1] sc0 (by decide +kernel)
def ED:List AD:=[za5,lV,n6,n7,rf,iV,(64,2,[zq3,cM]),(65,2,[aB,bI]),(67,2,[gl,bO]),(64,2,[zq0,bS]),(4,0,[vR 11]++uS 39 3),(64,3,[c8,zq0,fC]),(4,0,[d4,dC,cN,bH]),(64,3,[eX,zq3,vU 47]),wh]
def tJ:Cn:=((16,[aK],ED,2),(some (.long 1),(ED),gk),(2,0,0,37))
theorem EE:CtH tJ:=ctR 139 ag rfl (af _) [(kS,[12,13],[0],[dC]++uS 44 4),Mi,(EB,[1,3,4,7],[0,1],qX++uS 28 3++[cV,ck,bI]),(jI,[12,14],[0],[d4,cN,bH,vU 48]),(nV,[10,11],[0],uS 39 5)] [] (scS eY (scS pI (scS Ot (scS eZ (scS eV sc0))))) (by decide +kernel)
def EF:List AD:=[nN,rh,rg,rd,wn,(65,2,[aB,vU 12])]
def EG:Cn:=((24,jJ,EF,2),(none,(an EF [(3,64,2,[zq0,cu])]),[]),(0,0,0,0))
theorem Ou:CtH EG:=ctR 36 ag rfl (af _) [] [] sc0 (by decide +kernel)
def EH:List AD:=iT++([(3,0,[aw]++rS 9 4++[cg,bQ,dR,bS,zq3,zq3]),rk,rj,rl,Bx,(64,2,[zq3,fC]),(65,2,[aB,cN]),(67,2,[bH,cZ]),(64,2,[zq0,eX]),mW,aU 64 47 3,(64,2,[zq1,vU 50]),(64,2,[zq1,vU 51]),(64,2,[zq3,vU 52])]++Mv)
def tK:Cn:=((23,[cW,zq3,zq0,zq3],EH,2),(none,(an EH [(1,64,2,[cX,zq0]),(2,64,2,[e6,zq3]),(3,65,2,kV),(4,64,3,oe),(5,64,3,[ew,zq3,zq3]),(6,64,2,[zq3,cM]),(7,64,2,[bI,zq3]),(11,64,2,[zq0,dt]),(12,64,2,[c8,zq0]),(18,64,3,[vU 47,zq1,vU 49]),(21,64,2,[zq1,vU 52]),(23,64,3,[vU 53,zq1,f8]),(26,64,2,[vU 58,zq1])]),[]),(1,0,0,15))
theorem EI:CtH tK:=ctR 136 ag rfl (af _) [(pH,[8,9,13],[0],[aw]++rS 10 3++[cg,bQ,dR,bS,zq3,zq3,eW,fC]),(EG,[8,9,10,11,13,14],[0,1],[aw,d3,cg,bQ,dR,bS,zq3,zq3]++uS 39 3++[fC,cN]),(kU,[17,18,19,20,21],[0],uS 47 6),(hO,[22,23,24,25,26],[0],uS 53 6)] [] (scS pI (scS Ou (scS iX (scS gm sc0)))) (by decide +kernel)
def EJ:List AD:=Mw++[(64,2,[zq0,vU 18]),(65,2,[bU,vU 19])]
def tL:Cn:=((31,[aw],EJ,3),(none,(an EJ [(0,0,0,rS 9 8++uS 0 5++[ay]++uS 5 3++rS 5 4++uS 8 8),(7,aI [0,0,1]),(8,aI [0,1,1])]++[az,eJ,az,fE,za4,bM]),[]),(2,6,12,54))
theorem EK:CtH tL:=ctR 324 aC rfl (aA _) (Mx++[(tl,[8],[0],[zq3])]) [] (scS iY (scS iY (scS kX (scS Cq sc0)))) (by decide +kernel)
def MK:List Op:=[(4,18,0,0),(5,21,22,0),(2,4397347889687374747,23,0),(11,20,24,1),(4,19,0,0),(11,25,4472406533629990549,1),(4,19,0,0),(5,0,26,0),(2,4591870180066957722,27,0),(10,25,28,1)]
def ML:List AD:=[aR 67 [34,35],za4,za4,f9,(4,0,rS 38 4),za7,za2,fy,za2,(4,0,rS 43 4),za7,ft,za2,za2,za2,za9]
def EL:Cn:=((8,gn,pN,5),(some zq3,(an pN [(6,0,0,rS 48 8++uS 0 5++[ay]++rS 15 9++uS 5 5++[zq0]),(15,aI [1,0]),(16,aI [0,1]),(17,aD [3,19]),(18,aI [0,1,1]),(19,aI [0,1,1]),(20,aI [0,0,1]),(21,aI [0,1,1]),(22,aI [1,0]),(23,aI [0,1])]++(wC++([za4,az,bM,aD [19,2],bM,aD [4,4]]++ML++[aD [4,0],az,aD [17,0],az,aD [4,0],az,aD [17,0],za4,bM]))),[dB]++wF++[it]++wE++[fN,(2,17,4,0),(1,2,18,0),(4,19,0,0),eI]++MK),(4,34,83,93))
theorem Ov:CtH EL:=ctR 65 aC rfl (aA _) [MB,(Er,[6,24,25,26,27,28,29,30,31,32,33,34,35,37,38,39,42,43,44],[0,1,2,3,4],rS 7 8++uS 0 5++rS 15 9++uS 5 5++[zq0,vR 47,zq0,zq0,vR 40,vR 41,zq1,vR 45,vR 46,zq1]),(Ez,[6,7,8,9,10,15,16,17,18,19,22,23,24,25,26,27,28,29,30,31,32,33,34,35,37,38,39,40,41,42,43,44,45,46,47],[0,1,2,3,4],rS 11 4++uS 0 5++[co,bx]++uS 5 5++[zq0]++uS 11 6++rp 6 zq0++uS 17 4++[zq1,zq0,ay,zq1,zq0,zq1]),(tJ,[6,24,25,26,27,28,29,30,33,35,37,38,42,43,44],[0,19],rS 48 4++rS 11 4++uS 0 5++rS 15 9++uS 5 5++[zq0,vR 47,zq3,zq3,fr,fD,zq3,zq0,zq3,bU,bF,zq3]++rS 39 3++wD),(tK,[6,15,16,17,18,19,22,23,24,25,26,27,28,29,30,33,35,37,38,39,40,41,42,43,44,45,46],[0,19],rS 48 4++rS 11 4++uS 0 5++[ay,co,bx]++uS 5 5++[zq0,zq3,vU 12,zq0,vU 14,vD 3,vU 16,zq0,zq3,zq0,zq0,zq3,zq0,vU 17,zq0,zq0,dw,vR 47,fr,fD,zq3,zq0,zq3,bU,bF,zq3,zq1,zq0,zq1,zq1,zq0,zq1,zq1,zq3,zq1,zq3,zq1,zq1]),(tL,[6,11,12,13,14,18,19,20,21,48,49,50,51],[0,4,17],uS 0 5++rS 15 3++[dR,vR 23]++uS 5 5++[zq0,zq0,ax,zq0,ax])] [] (scS DO (scS Oq (scS Os (scS EE (scS EI (scS EK sc0)))))) (by decide +kernel)
def EM:Cn:=((19,kT,pE,3),(some zq0,(pE),[dB,ti,eI,mY,dB,rv,BI,(10,3,8,(-1))]),(1,0,0,17))
theorem Ow:CtH EM:=ctR 62 ag rfl (af _) [] [1,(-1)] sc0 (by decide +kernel)
def EN:List AD:=ME++[za9,aL,za9]++MD
def EO:Cn:=((16,[aK],EN,5),(some (.long 4294967296),(EN),[eI]++wF++[na]++wE),(2,0,0,37))
theorem Ox:CtH EO:=ctR 468 ag rfl (af _) ((MG++[(jh,[1,2,6],[0],[aw]++rS 3 3++[dr,d4,cZ]++uS 28 3++[cW]),(EM,[1,3,4,7],[0,2,1],wG++uS 28 3++[bO,ay]),(oh,[1,2,8],[0],[aw]++rS 3 3++[dr,d4,cZ]++uS 28 3++[dA]),(BX,[1,3,4,9],[0,4,3],wG++uS 28 3++[vR 7,ay])])++MF) [] (scS iu (scS iu (scS iv (scS kK (scS Ow (scS rC (scS BZ (scS iS (scS eZ (scS iv (scS iS (scS eZ sc0)))))))))))) (by decide +kernel)
def EP:List AD:=wy++([za9,aL,za9]++MH)
def EQ:Cn:=((23,[d3,zq0,zq3,zq0],EP,5),(none,(an EP [(0,0,0,rS 35 4++uS 0 9++[ay]++rS 5 5++nb++uS 11 6),(5,64,2,[zq3,vU 18]),(6,64,2,[zq0,dw]),(7,65,2,[vD 4,cX]),(8,64,3,[zq0,zq3,vU 25]),(9,64,3,[zq0,zq3,vU 28]),(10,64,2,[vU 29,zq0]),(11,64,2,[zq0,cV]),(12,3,0,wA),(15,aI [1,1]),(16,aI [0,1]),(18,aD [7,2]),(25,64,3,[ck,zq0,zq1]),(26,aI [(-1),(-1)]),(28,aI [1,(-1)]),(30,64,3,[bI,zq3,zq1]),(32,aI [(-1),(-1)]),(33,aI [(-1),1])]++[za9,aD [3,0],az,aD [5,0]]),[(3,2,4,0),(2,5,3,0),(1,1,6,0),(4,7,0,0),dB]++wB),(3,4,8,70))
theorem Oy:CtH EQ:=ctR 238 ag rfl (af _) ([(oh,[12,13,19],[0],[aw]++rS 14 3++[bx,bT,aW,bF,zq0,zq0,bQ]),(wb,[12,13,14,15,19,20],[0,4],[aw,cZ,bx,bT,aW,bF,zq0,zq0,bQ,ff,ay,zq3,vD 3]),(m0,[0,1,2,12],[0,3],[vR 3,vR 4]++uS 0 9++rS 5 5++nb++uS 11 6++rS 13 4++[bx,bT,aW,bF,zq0])]++MJ++[(jh,[12,13,17],[0],[aw]++rS 14 3++[bx,bT,aW,bF,zq3,zq0,vR 19]),(pG,[12,13,14,15,17,18],[0,2],[aw,cZ,bx,bT,aW,bF,zq3,zq0,vR 19,co,zq3,zq3,aB]),MI,(tI,[12,13,14,15,16,17,18,19,20,29,33,34],[0,5,1,3],[aw,bx,bT,zq3,zq3,ay,zq0,bU,zq0,vD 4]++rS 30 3++[zq1,bS]),(pq,[24,25,26,27,28],[0],[ck,dQ,zq1,zq0,zq1])]) [] (scS rC (scS B4 (scS lf (scS Bs (scS kL (scS vP (scS iZ (scS kK (scS tz (scS Eu (scS Ew (scS kI sc0)))))))))))) (by decide +kernel)
def ER:Cn:=((8,gn,pO,5),(some zq3,(an pO [(6,0,0,rS 48 8++uS 0 5++[ay]++rS 15 9++uS 5 5++[zq0]),(15,aI [1,0]),(16,aI [0,1]),(17,aD [4,19]),(18,aI [0,1,1]),(19,aI [0,1,1]),(20,aI [0,0,1]),(21,aI [0,1,1]),(22,aI [1,0]),(23,aI [0,1])]++(wC++([za4,az,za9,aD [19,2],za9,fe]++ML++[aD [3,0],az,aD [17,0],az,aD [3,0],az,aD [17,0],za4,bM]))),[eI]++wF++[na]++wE++[(3,2,4,0),(2,17,3,0),(1,1,18,0),(4,19,0,0),dB]++MK),(4,34,83,93))
theorem Oz:CtH ER:=ctR 65 aC rfl (aA _) [MC,(EO,[6,24,25,26,27,28,29,30,31,32,33,34,35,37,38,39,42,43,44],[0,1,2,3,4],rS 7 8++uS 0 5++rS 15 9++uS 5 5++[zq0,vR 47,zq0,zq0,vR 40,vR 41,zq1,vR 45,vR 46,zq1]),(EQ,[6,7,8,9,10,15,16,17,18,19,22,23,24,25,26,27,28,29,30,31,32,33,34,35,37,38,39,40,41,42,43,44,45,46,47],[0,1,2,3,4],rS 11 4++uS 0 5++[co,bx]++uS 5 5++[zq0]++uS 11 6++rp 6 zq0++uS 17 4++[zq1,zq0,ay,zq1,zq0,zq1]),(tJ,[6,24,25,26,27,28,29,30,33,35,37,38,42,43,44],[0,19],rS 48 4++rS 11 4++uS 0 5++rS 15 9++uS 5 5++[zq0,vR 47,zq3,zq3,fr,fD,zq3,zq0,zq0,bU,bF,zq3]++rS 39 3++wD),(tK,[6,15,16,17,18,19,22,23,24,25,26,27,28,29,30,33,35,37,38,39,40,41,42,43,44,45,46],[0,19],rS 48 4++rS 11 4++uS 0 5++[ay,co,bx]++uS 5 5++[zq0,zq3,vU 12,zq0,vU 14,vD 4,vU 16,zq0,zq3,zq0,zq0,zq3,zq0,vU 17,zq0,zq0,dw,vR 47,fr,fD,zq3,zq0,zq0,bU,bF,zq3,zq1,zq0,zq1,zq1,zq0,zq1,zq1,zq3,zq1,zq3,zq1,zq1]),(tL,[6,11,12,13,14,18,19,20,21,48,49,50,51],[0,3,17],uS 0 5++rS 15 3++[dR,vR 23]++uS 5 5++[zq0,zq0,ax,zq0,ax])] [] (scS Ei (scS Ox (scS Oy (scS EE (scS EI (scS EK sc0)))))) (by decide +kernel)
def ES:List AD:=[(1,0,rS 1 3++[zq0]),aU 65 0 2,(66,2,[zq0,vU 2]),aU 64 3 16]
def ET:Cn:=((33,kT,ES,2),(none,(an ES [(0,1,0,rS 1 3++[zq3]),(1,65,2,[aB,bi]),(2,66,2,[zq3,vU 2]),(3,64,16,[zq0]++uS 4 15)]),[]),(0,0,0,0))
theorem cS:CtH ET:=ctR 34 dZ rfl (dI _) [] [] sc0 (by decide +kernel)
def EU:List AD:=[(1,0,rS 1 3++[zq3]),aU 65 0 2,(66,2,[vU 2,zq0]),aU 64 3 16]
def EV:Cn:=((33,[aw,zq3,aB],EU,2),(none,(an EU [(0,1,0,rS 1 3++[ay]),(1,65,2,[aO,aB]),(2,66,2,[vU 2,zq3]),(3,64,16,[ct,zq3]++uS 5 14)]),[]),(0,0,0,0))
theorem cT:CtH EV:=ctR 34 dZ rfl (dI _) [] [] sc0 (by decide +kernel)
def EW:List AD:=[(1,0,uS 0 3++[ay])]
def tM:Cn:=((35,[aw],EW,1),(some ay,(EW),[]),(0,0,0,0))
theorem aT:CtH tM:=ctR 4 dZ rfl (dI _) [] [] sc0 (by decide +kernel)
def EX:List AD:=[(1,0,[aO,bi,aK,vU 2]),(64,16,[zq0]++uS 3 15)]
def tN:Cn:=((36,[aw,zq0],EX,1),(some zq0,(EX),[]),(0,0,0,0))
theorem fH:CtH tN:=ctR 6 dZ rfl (dI _) [] [] sc0 (by decide +kernel)
def EY:List AD:=[(1,0,[aO,bi,aK,vU 2]),(64,16,[ct,zq3]++uS 4 14)]
def tO:Cn:=((36,g8,EY,1),(some zq3,(EY),[]),(0,0,0,0))
theorem fI:CtH tO:=ctR 6 dZ rfl (dI _) [] [] sc0 (by decide +kernel)
def EZ:List AD:=[(1,0,[aK]++uS 0 3),(65,2,[ct,aB])]
def tP:Cn:=((37,g8,EZ,2),(some aB,(EZ),[]),(0,0,0,0))
theorem el:CtH tP:=ctR 6 dZ rfl (dI _) [] [] sc0 (by decide +kernel)
def E3:List AD:=[(1,0,[aK]++uS 0 3),(65,2,[aB,ct])]
def tQ:Cn:=((37,[aw,zq0],E3,2),(some aB,(E3),[]),(0,0,0,0))
theorem em:CtH tQ:=ctR 6 dZ rfl (dI _) [] [] sc0 (by decide +kernel)
def lz:List Value:=[zq0,zq3]
def Qx:AD:=(1,0,[vR 7,vU 79,cW,ay])
def E4:List AD:=[(64,256,uS 71 4),(65,256,uS 75 4),Qx,aL,(64,16,lz++uS 80 14)]
def pP:List AD:=[(0,0,uS 0 8++rS 1 5++uS 8 15++[zq0]),aU 64 23 16,aU 65 39 16,(64,17,[zq0]++uS 55 16)]++E4
def E5:Cn:=((34,[aw,zq0,dA],pP,3),(none,(an pP [(0,0,0,uS 0 8++rS 1 5++uS 8 15++[zq3]),(1,64,16,[zq0]++uS 24 15),(2,65,16,[aB]++uS 40 15),(3,64,17,lz++uS 56 15),(4,64,256,[zq3]++uS 72 3),(5,65,256,[bU]++uS 76 3)]),[(12,2,0,1)]),(1,0,0,15))
def yq:Sc:=(tM,[6],[0],[vR 7,vU 79,cW])
def OA:Sc:=(tQ,[6,7],[0,1],[vU 79,cW,ay,bU])
def OC:Sc:=(tP,[6,7],[0,2],[vU 79,cW,ay,aB])
def MM:Sc:=(tO,[6,8],[0],[vR 7,vU 79,ay,zq0]++uS 80 14)
def MN:Sc:=(tN,[6,8],[0],[vR 7,vU 79,ay,zq3]++uS 80 14)
def E6:List Sc:=[yq,MN,yq,MM,OC,OC,yq,OA]
theorem nd:CtH E5:=ctR 96 aC rfl (aA _) E6 [1] (scS aT (scS fH (scS aT (scS fI (scS el (scS el (scS aT (scS em sc0)))))))) (by decide +kernel)
def Qy:AD:=(1,0,[vR 5,vU 73,dA,ay])
def E7:List AD:=[Qy,aL,(64,16,lz++uS 74 14)]
def pQ:List AD:=[(0,0,uS 0 8++rS 1 3++uS 8 17++[zq0]),aU 64 25 16,aU 65 41 16,(64,17,[zq0]++uS 57 16)]++E7
def E8:Cn:=((34,[aw,zq0,vR 4],pQ,3),(none,(an pQ [(0,0,0,uS 0 8++rS 1 3++uS 8 17++[zq3]),(1,64,16,[zq0]++uS 26 15),(2,65,16,[aB]++uS 42 15),(3,64,17,[zq0,zq0]++uS 58 15)]),[(12,2,0,0)]),(1,0,0,15))
def yr:Sc:=(tM,[4],[0],[vR 5,vU 73,dA])
def MO:Sc:=(tO,[4,6],[0],[vR 5,vU 73,ay,zq0]++uS 74 14)
def MP:Sc:=(tN,[4,6],[0],[vR 5,vU 73,ay,zq3]++uS 74 14)
def MQ:Sc:=(tQ,[4,5],[0,1],[vU 73,dA,ay,bU])
def MR:Sc:=(tP,[4,5],[0,2],[vU 73,dA,ay,aB])
def E9:List Sc:=[yr,MP,yr,MO,MR,yr,MQ]
theorem ng:CtH E8:=ctR 78 aC rfl (aA _) E9 [0] (scS aT (scS fH (scS aT (scS fI (scS el (scS aT (scS em sc0))))))) (by decide +kernel)
def E_:Cn:=((34,[aw,zq3,dA],pP,3),(none,(an pP [(0,0,0,uS 0 8++rS 1 5++uS 8 15++[zq3]),(1,64,16,[zq3]++uS 24 15),(2,65,16,[bU]++uS 40 15),(3,64,17,lz++uS 56 15),(4,64,256,[zq0]++uS 72 3),(5,65,256,[aB]++uS 76 3)]),[(12,1,0,1)]),(1,0,0,15))
def Fa:List Sc:=[yq,MN,OA,OA,yq,MM,yq,OC]
theorem nh:CtH E_:=ctR 96 aC rfl (aA _) Fa [1] (scS aT (scS fH (scS em (scS em (scS aT (scS fI (scS aT (scS el sc0)))))))) (by decide +kernel)
def Fb:Cn:=((34,[aw,zq3,vR 4],pQ,3),(none,(an pQ [(0,0,0,uS 0 8++rS 1 3++uS 8 17++[zq3]),(1,64,16,[zq3]++uS 26 15),(2,65,16,[bU]++uS 42 15),(3,64,17,[zq0,zq0]++uS 58 15)]),[(12,1,0,0)]),(1,0,0,15))
def Fc:List Sc:=[yr,MP,MQ,yr,MO,yr,MR]
theorem ni:CtH Fb:=ctR 78 aC rfl (aA _) Fc [0] (scS aT (scS fH (scS em (scS aT (scS fI (scS aT (scS el sc0))))))) (by decide +kernel)
def Fd:List AD:=[(1,0,[aK,vR 2,aO,bi]),aU 65 2 2,(66,2,[zq3,vU 4])]
def Fe:Cn:=((33,kT,Fd,2),(none,(an Fd [(1,65,2,[aB,ct])]),[]),(0,0,0,0))
theorem dV:CtH Fe:=ctR 12 dZ rfl (dI _) [] [] sc0 (by decide +kernel)
def Ff:List AD:=[(1,0,[aK,vR 2,aO,bi]),aU 65 2 2,(66,2,[vU 4,zq3])]
def Fg:Cn:=((33,[aw,zq3,aB],Ff,2),(none,(an Ff [(1,65,2,[vU 2,aB])]),[]),(0,0,0,0))
theorem dW:CtH Fg:=ctR 12 dZ rfl (dI _) [] [] sc0 (by decide +kernel)
def MT:List AD:=[(0,0,uS 0 8++rS 1 5++uS 8 15++[zq3]),aU 64 23 16,aU 65 39 16]
def pR:List AD:=MT++[(64,17,[f8,zq3]++uS 56 15)]++E4
def tR:Cn:=((34,[aw,zq0,dA],pR,3),(none,(an pR [(0,0,0,uS 0 8++rS 1 5++uS 8 15++[ay]),(1,64,16,[vU 23,zq0]++uS 25 14),(2,65,16,[eW,aB]++uS 41 14),(3,64,17,[f8,zq3,ay]++uS 57 14),(4,64,256,[vU 71,zq3,vU 73,vU 74]),(5,65,256,[vU 75,bU,vU 77,vU 78])]),[(12,2,0,1)]),(1,0,0,15))
theorem Fh:CtH tR:=ctR 96 aC rfl (aA _) E6 [1] (scS aT (scS fH (scS aT (scS fI (scS el (scS el (scS aT (scS em sc0)))))))) (by decide +kernel)
def MU:List AD:=[(0,0,uS 0 8++rS 1 3++uS 8 17++[zq3]),aU 64 25 16,aU 65 41 16]
def pS:List AD:=MU++([(64,17,[vU 57,zq3]++uS 58 15)]++E7)
def tS:Cn:=((34,[aw,zq0,vR 4],pS,3),(none,(an pS [(0,0,0,uS 0 8++rS 1 3++uS 8 17++[ay]),(1,64,16,[vU 25,zq0]++uS 27 14),(2,65,16,[dt,aB]++uS 43 14),(3,64,17,[vU 57,zq3,zq3]++uS 59 14)]),[(12,2,0,0)]),(1,0,0,15))
theorem Fi:CtH tS:=ctR 78 aC rfl (aA _) E9 [0] (scS aT (scS fH (scS aT (scS fI (scS el (scS aT (scS em sc0))))))) (by decide +kernel)
def tT:Cn:=((34,[aw,zq3,dA],pR,3),(none,(an pR [(0,0,0,uS 0 8++rS 1 5++uS 8 15++[ay]),(1,64,16,[vU 23,zq3]++uS 25 14),(2,65,16,[eW,bU]++uS 41 14),(3,64,17,[f8,zq3,ay]++uS 57 14),(4,64,256,[vU 71,zq0,vU 73,vU 74]),(5,65,256,[vU 75,aB,vU 77,vU 78])]),[(12,1,0,1)]),(1,0,0,15))
theorem Fj:CtH tT:=ctR 96 aC rfl (aA _) Fa [1] (scS aT (scS fH (scS em (scS em (scS aT (scS fI (scS aT (scS el sc0)))))))) (by decide +kernel)
def tU:Cn:=((34,[aw,zq3,vR 4],pS,3),(none,(an pS [(0,0,0,uS 0 8++rS 1 3++uS 8 17++[ay]),(1,64,16,[vU 25,zq3]++uS 27 14),(2,65,16,[dt,bU]++uS 43 14),(3,64,17,[vU 57,zq3,zq3]++uS 59 14)]),[(12,1,0,0)]),(1,0,0,15))
theorem Fk:CtH tU:=ctR 78 aC rfl (aA _) Fc [0] (scS aT (scS fH (scS em (scS aT (scS fI (scS aT (scS el sc0))))))) (by decide +kernel)
def pT:List AD:=MT++[(64,17,[f8,zq0]++uS 56 15)]++E4
def tV:Cn:=((34,[aw,zq0,dA],pT,3),(none,(an pT [(0,0,0,uS 0 8++rS 1 5++uS 8 15++[ay]),(1,64,16,[vU 23,zq0]++uS 25 14),(2,65,16,[eW,aB]++uS 41 14),(3,64,17,[f8,zq0,zq3]++uS 57 14),(4,64,256,[zq3]++uS 72 3),(5,65,256,[bU]++uS 76 3)]),[(12,2,0,1)]),(1,0,0,15))
theorem Fm:CtH tV:=ctR 96 aC rfl (aA _) E6 [1] (scS aT (scS fH (scS aT (scS fI (scS el (scS el (scS aT (scS em sc0)))))))) (by decide +kernel)
def pU:List AD:=MU++([(64,17,[vU 57,zq0]++uS 58 15)]++E7)
def tW:Cn:=((34,[aw,zq0,vR 4],pU,3),(none,(an pU [(0,0,0,uS 0 8++rS 1 3++uS 8 17++[ay]),(1,64,16,[vU 25,zq0]++uS 27 14),(2,65,16,[dt,aB]++uS 43 14),(3,64,17,[vU 57,zq0,zq0]++uS 59 14)]),[(12,2,0,0)]),(1,0,0,15))
theorem Fn:CtH tW:=ctR 78 aC rfl (aA _) E9 [0] (scS aT (scS fH (scS aT (scS fI (scS el (scS aT (scS em sc0))))))) (by decide +kernel)
def tX:Cn:=((34,[aw,zq3,dA],pT,3),(none,(an pT [(0,0,0,uS 0 8++rS 1 5++uS 8 15++[ay]),(1,64,16,[vU 23,zq3]++uS 25 14),(2,65,16,[eW,bU]++uS 41 14),(3,64,17,[f8,zq0,zq3]++uS 57 14),(4,64,256,[zq0]++uS 72 3),(5,65,256,[aB]++uS 76 3)]),[(12,1,0,1)]),(1,0,0,15))
theorem Fo:CtH tX:=ctR 96 aC rfl (aA _) Fa [1] (scS aT (scS fH (scS em (scS em (scS aT (scS fI (scS aT (scS el sc0)))))))) (by decide +kernel)
def tY:Cn:=((34,[aw,zq3,vR 4],pU,3),(none,(an pU [(0,0,0,uS 0 8++rS 1 3++uS 8 17++[ay]),(1,64,16,[vU 25,zq3]++uS 27 14),(2,65,16,[dt,bU]++uS 43 14),(3,64,17,[vU 57,zq0,zq0]++uS 59 14)]),[(12,1,0,0)]),(1,0,0,15))
theorem Fp:CtH tY:=ctR 78 aC rfl (aA _) Fc [0] (scS aT (scS fH (scS em (scS aT (scS fI (scS aT (scS el sc0))))))) (by decide +kernel)
def Fq:List AD:=[]
def Ft:Cn:=((1,[.float 1,ay],Fq,2),(some (.float 1),(Fq),[(15,1,1099511627778,1)]),(0,0,0,0))
theorem OD:CtH Ft:=ctR 7 fh rfl (dJ _) [] [1] sc0 (by decide +kernel)
def Fu:List AD:=[]
def Fv:Cn:=((1,[.float 1,ay],Fu,2),(some ay,(Fu),[(15,1,1099511627778,0)]),(0,0,0,0))
theorem OE:CtH Fv:=ctR 6 fh rfl (dJ _) [] [0] sc0 (by decide +kernel)
def Fw:List AD:=[]
def tZ:Cn:=((1,[.float 1,.float 2],Fw,3),(some (.float 1),(Fw),[(15,1,2,1)]),(0,0,0,0))
theorem Fx:CtH tZ:=ctR 7 fh rfl (dJ _) [] [1] sc0 (by decide +kernel)
def Fy:List AD:=[]
def t6:Cn:=((1,[.float 1,.float 2],Fy,3),(some (.float 2),(Fy),[(15,1,2,0)]),(0,0,0,0))
theorem Fz:CtH t6:=ctR 6 fh rfl (dJ _) [] [0] sc0 (by decide +kernel)
section Fix
open Jvm.FP Jvm.FP.Core Jvm.Free.Fl
def shd (k:Int):Datum→Datum
 | .fin s c q => .fin s c (q+k)
 | .nan => .nan
 | .inf s => .inf s
def ah (i:Int)(k:Nat)(a:UInt64):Prop:=Whole i (shd (k:Int) (val64 a))
theorem bG {i:Int}{k:Nat}{d:Datum}(h:Whole i (shd k d)):∃s c q,d = .fin s c q:=by
 cases d with
 | nan=>exact h.elim
 | inf=>exact h.elim
 | fin s c q=>exact⟨s,c,q,rfl⟩
theorem aj {i:Int}{k:Nat}{a:UInt64}(h:ah i k a):NoNaN64 a:=by
 obtain⟨s,c,q,e⟩:=bG h
 exact noNaN64_no.mpr ((notNaN_iff a).mpr (by rw[e];intro q;cases q))
theorem H9 {i:Int}{s:Bool}(h:s=decide (i<0)):signed s i.natAbs=i:=by
 subst h
 unfold signed
 by_cases hn:i<0<;>simp [hn]<;>omega
theorem oj {i:Int}{k:Nat}{s:Bool}(h0:i≠0)(hi:i.natAbs≤2 ^ 53)(hk:k≤1000)(hs:s=decide (i<0)):Whole i (shd k (roundRatio b64 s i.natAbs 1 (-(k:Int)))):=by
 obtain⟨c',q',hfit,hv⟩:=natFit good_b64 wide_b64 s (n:=i.natAbs) hi
 obtain⟨f1,f2,f3,f4⟩:=hfit
 have hp:b64.p=53:=by decide
 have hmin:b64.qmin=-1074:=by decide
 have hq:-52≤q':=by
  refine Int.le_of_not_gt fun hlt=>?_
  rw[show (q'-0).toNat=0 by omega,Nat.pow_zero,Nat.mul_one,Nat.mul_one] at hv
  have h53:2 ^ 53≤2 ^ (0-q').toNat:=Nat.pow_le_pow_right (by decide) (by omega)
  have:1*2 ^ (0-q').toNat≤i.natAbs*2 ^ (0-q').toNat:=Nat.mul_le_mul_right _ (by omega)
  rw[hp] at f1
  omega
 have hfit2:Core.fits b64 (.fin s c' (q'-k)):=⟨f1,by rw[hmin];omega,by omega,f4.elim (fun q=>by rw[hmin] at q;omega) Or.inr⟩
 rw[roundRatio_exact good_b64 (by decide) hfit2 (by rw[show -(k:Int)-(q'-k)=0-q' by omega,show q'-k - -(k:Int)=q'-0 by omega];exact hv)]
 show signed s (c'*2 ^ (q'-k+k).toNat)=i*((2 ^ (-(q'-k+k)).toNat:Nat):Int)
 rw[show q'-k+k=q' by omega]
 rw[show (0-q').toNat=(-q').toNat by omega,show (q'-0).toNat=q'.toNat by omega,Nat.mul_one] at hv
 rw[←hv,signed_mul,H9 hs]
theorem jL {i:Int}{k:Nat}{d:Datum}(hi:i.natAbs≤2 ^ 53)(hk:k≤1000)(h:Whole i (shd k d)):Whole i (shd k (round b64 d)):=by
 obtain⟨s,c,q,rfl⟩:=bG h
 have h':Whole i (.fin s c (q+k)):=h
 by_cases h0:i=0
 ·subst h0
  have hc:c=0:=(whole_zero h').mpr rfl
  subst hc
  show Whole 0 (shd k (roundRatio b64 s 0 1 q))
  unfold roundRatio
  rw[if_pos rfl]
  show signed s (0*_)=0*_
  rw[Nat.zero_mul,Int.zero_mul,signed_zero]
 ·have hn:=whole_natAbs h'
  have e1:round b64 (.fin s c q)=roundRatio b64 s i.natAbs 1 (-(k:Int)):=by
   refine roundRatio_congr (by decide) (by decide) ?_
   rw[show q - -(k:Int)=q+k by omega,show -(k:Int)-q=-(q+k) by omega,Nat.mul_one,Nat.mul_one]
   exact hn
  rw[e1]
  exact oj h0 hi hk (whole_sign h' h0)
theorem ji {i j:Int}{k:Nat}{a b:UInt64}(ha:ah i k a)(hb:ah j k b)(h:(i+j).natAbs≤2 ^ 53)(hk:k≤1000):ah (i+j) k (FP.dadd a b):=by
 show Whole _ (shd k (val64 (Core.dadd a b)))
 rw[val64_dadd]
 refine jL h hk ?_
 obtain⟨s,c,q,ea⟩:=bG ha
 obtain⟨t,d,r,eb⟩:=bG hb
 have ha':Whole i (.fin s c (q+k)):=by have:=ha;unfold ah at this;rw[ea] at this;exact this
 have hb':Whole j (.fin t d (r+k)):=by have:=hb;unfold ah at this;rw[eb] at this;exact this
 rw[ea,eb]
 have e:shd k (exactSum (.fin s c q) (.fin t d r))=exactSum (.fin s c (q+k)) (.fin t d (r+k)):=by
  simp only[exactSum,shd]
  have e0:min (q+(k:Int)) (r+k)=min q r+k:=by omega
  have e1:sumUnits s c (q+k) t d (r+k) (min q r+k)=sumUnits s c q t d r (min q r):=by
   unfold sumUnits inUnits
   rw[show q+(k:Int)-(min q r+k)=q-min q r by omega,show r+(k:Int)-(min q r+k)=r-min q r by omega]
  rw[e0,e1]
 rw[e]
 exact whole_sum ha' hb'
theorem t7 {i:Int}{k:Nat}{a:UInt64}(ha:ah i k a):Whole (-i) (shd k (negate (val64 a))):=by
 obtain⟨s,c,q,ea⟩:=bG ha
 have ha':Whole i (.fin s c (q+k)):=by have:=ha;unfold ah at this;rw[ea] at this;exact this
 rw[ea]
 exact whole_negate ha'
theorem gW {i j:Int}{k:Nat}{a b:UInt64}(ha:ah i k a)(hb:ah j k b)(h:(i-j).natAbs≤2 ^ 53)(hk:k≤1000):ah (i-j) k (FP.dsub a b):=by
 have hb2:ah (-j) k (Core.dneg b):=by
  show Whole _ (shd k (val64 (Core.dneg b)))
  rw[Core.val64_dneg];exact t7 hb
 have:=ji ha hb2 (by rw[←Int.sub_eq_add_neg];exact h) hk
 rw[←Int.sub_eq_add_neg] at this
 show ah (i-j) k (Core.dsub a b)
 rw[dsub_eq];exact this
theorem dD {i j:Int}{k l:Nat}{a b:UInt64}(ha:ah i k a)(hb:ah j l b)(h:(i*j).natAbs≤2 ^ 53)(hk:k+l≤1000):ah (i*j) (k+l) (FP.dmul a b):=by
 show Whole _ (shd _ (val64 (Core.dmul a b)))
 rw[val64_dmul]
 refine jL h hk ?_
 obtain⟨s,c,q,ea⟩:=bG ha
 obtain⟨t,d,r,eb⟩:=bG hb
 have ha':Whole i (.fin s c (q+k)):=by have:=ha;unfold ah at this;rw[ea] at this;exact this
 have hb':Whole j (.fin t d (r+l)):=by have:=hb;unfold ah at this;rw[eb] at this;exact this
 rw[ea,eb]
 have e:shd ((k+l:Nat):Int) (exactProduct (.fin s c q) (.fin t d r))=exactProduct (.fin s c (q+k)) (.fin t d (r+l)):=by
  simp only[exactProduct,shd]
  rw[show q+r+((k+l:Nat):Int)=q+k+(r+l) by omega]
 rw[e]
 exact whole_product ha' hb'
theorem nj {i j:Int}{k:Nat}{a b:UInt64}(ha:ah i k a)(hb:ah j k b):FP.dcmp a b=some (compare i j):=by
 obtain⟨s,c,q,ea⟩:=bG ha
 obtain⟨t,d,r,eb⟩:=bG hb
 have ha':Whole i (.fin s c (q+k)):=by have:=ha;unfold ah at this;rw[ea] at this;exact this
 have hb':Whole j (.fin t d (r+k)):=by have:=hb;unfold ah at this;rw[eb] at this;exact this
 show order (val64 a) (val64 b)=_
 rw[ea,eb,←order_whole ha' hb']
 simp only[order]
 have e0:min (q+(k:Int)) (r+k)=min q r+k:=by omega
 unfold inUnits
 rw[e0,show q+(k:Int)-(min q r+k)=q-min q r by omega,show r+(k:Int)-(min q r+k)=r-min q r by omega]
theorem lA {i:Int}{k:Nat}{a:UInt64}(ha:ah i k a)(m:Nat):ah (i*((2 ^ m:Nat):Int)) (k+m) a:=by
 obtain⟨s,c,q,ea⟩:=bG ha
 have h:signed s (c*2 ^ (q+k).toNat)=i*((2 ^ (-(q+(k:Int))).toNat:Nat):Int):=by have:=ha;unfold ah at this;rw[ea] at this;exact this
 show Whole _ (shd _ (val64 a))
 rw[ea]
 show signed s (c*2 ^ (q+((k+m:Nat):Int)).toNat)=i*((2 ^ m:Nat):Int)*((2 ^ (-(q+((k+m:Nat):Int))).toNat:Nat):Int)
 have p2:((2 ^ (-(q+(k:Int))).toNat:Nat):Int)≠0:=by have:=Nat.two_pow_pos (-(q+(k:Int))).toNat;omega
 refine Int.eq_of_mul_eq_mul_right p2 ?_
 rw[←signed_mul,Nat.mul_assoc,←Nat.pow_add]
 rw[show (q+((k+m:Nat):Int)).toNat+(-(q+(k:Int))).toNat=(q+k).toNat+(m+(-(q+((k+m:Nat):Int))).toNat) by omega]
 rw[Nat.pow_add,←Nat.mul_assoc,signed_mul,h,Nat.pow_add]
 rw[Int.natCast_mul]
 simp only[Int.mul_assoc]
 rw[Int.mul_comm ((2 ^ (-(q+(k:Int))).toNat:Nat):Int),Int.mul_assoc]
theorem am {i:Int}{a:UInt64}:ah i 0 a↔DInt i a:=by
 have e:shd ((0:Nat):Int) (val64 a)=val64 a:=by
  cases val64 a with
  | nan=>rfl
  | inf=>rfl
  | fin s c q=>show Datum.fin s c (q+((0:Nat):Int))=_;rw[show q+((0:Nat):Int)=q by omega]
 unfold ah DInt
 rw[e]
theorem t8 {i:Int}{a:UInt64}(h:DInt i a)(m:Nat):ah (i*((2 ^ m:Nat):Int)) m a:=by
 have:=lA (am.mpr h) m
 rwa [Nat.zero_add] at this
theorem gX {i j t:Int}{k l M:Nat}{a b:UInt64}(ha:ah i k a)(hb:ah j l b)(hj:j≠0)(ht:i*((2 ^ (l+M):Nat):Int)=t*j*((2 ^ k:Nat):Int))(h:t.natAbs≤2 ^ 53)(hM:M≤1000):ah t M (FP.ddiv a b):=by
 show Whole _ (shd _ (val64 (Core.ddiv a b)))
 rw[val64_ddiv]
 obtain⟨s,c,q,ea⟩:=bG ha
 obtain⟨u,d,r,eb⟩:=bG hb
 have ha':Whole i (.fin s c (q+k)):=by have:=ha;unfold ah at this;rw[ea] at this;exact this
 have hb':Whole j (.fin u d (r+l)):=by have:=hb;unfold ah at this;rw[eb] at this;exact this
 have hd:d≠0:=fun q=>hj ((whole_zero hb').mp q)
 have p1:(0:Int)<((2 ^ (l+M):Nat):Int):=by have:=Nat.two_pow_pos (l+M);omega
 have p2:(0:Int)<((2 ^ k:Nat):Int):=by have:=Nat.two_pow_pos k;omega
 rw[ea,eb]
 show Whole t (shd M (if d=0 then _ else roundRatio b64 (s != u) c d (q-r)))
 rw[if_neg hd]
 by_cases h0:t=0
 ·subst h0
  have hi0:i=0:=by
   rw[Int.zero_mul,Int.zero_mul] at ht
   rcases Int.mul_eq_zero.mp ht with q|q
   ·exact q
   ·omega
  have hc:c=0:=(whole_zero ha').mpr hi0
  subst hc
  unfold roundRatio
  rw[if_pos rfl]
  show signed _ (0*_)=0*_
  rw[Nat.zero_mul,Int.zero_mul,signed_zero]
 ·have hi0:i≠0:=by
   intro q;subst q
   rw[Int.zero_mul] at ht
   rcases Int.mul_eq_zero.mp ht.symm with q|q
   ·rcases Int.mul_eq_zero.mp q with q|q
    ·exact h0 q
    ·exact hj q
   ·omega
  have hsg:(s != u)=decide (t<0):=by
   rw[whole_sign ha' hi0,whole_sign hb' hj]
   have m1:i<0↔t*j<0:=by
    constructor
    ·intro q
     refine Int.lt_of_not_ge fun g=>?_
     have a1:=Int.mul_nonneg g (Int.le_of_lt p2)
     have a2:=Int.mul_neg_of_neg_of_pos q p1
     omega
    ·intro q
     refine Int.lt_of_not_ge fun g=>?_
     have a1:=Int.mul_nonneg g (Int.le_of_lt p1)
     have a2:=Int.mul_neg_of_neg_of_pos q p2
     omega
   have m2:decide (i<0)=decide (t*j<0):=decide_eq_decide.mpr m1
   rw[m2]
   rcases Int.lt_or_gt_of_ne hj with g|g
   ·rcases Int.lt_or_gt_of_ne h0 with f|f
    ·have:=Int.mul_pos_of_neg_of_neg f g
     simp [f,g,show ¬t*j<0 by omega]
    ·have:=Int.mul_neg_of_pos_of_neg f g
     simp [g,show ¬t<0 by omega,this]
   ·rcases Int.lt_or_gt_of_ne h0 with f|f
    ·have:=Int.mul_neg_of_neg_of_pos f g
     simp [f,this,show ¬j<0 by omega]
    ·have:=Int.mul_pos f g
     simp [show ¬t<0 by omega,show ¬j<0 by omega,show ¬t*j<0 by omega]
  have hn1:=whole_natAbs ha'
  have hn2:=whole_natAbs hb'
  have hn3:i.natAbs*2 ^ (l+M)=t.natAbs*j.natAbs*2 ^ k:=by
   have:=congrArg Int.natAbs ht
   rw[Int.natAbs_mul,Int.natAbs_mul,Int.natAbs_mul,Int.natAbs_natCast,Int.natAbs_natCast] at this
   exact this
  have hjp:0<j.natAbs:=by omega
  have key:c*1*2 ^ (q-r - -(M:Int)).toNat=t.natAbs*d*2 ^ (-(M:Int)-(q-r)).toNat:=by
   have hF:0<j.natAbs*2 ^ (-(r+(l:Int))).toNat*2 ^ (q+(k:Int)).toNat*2 ^ k:=Nat.mul_pos (Nat.mul_pos (Nat.mul_pos hjp (Nat.two_pow_pos _)) (Nat.two_pow_pos _)) (Nat.two_pow_pos _)
   refine Nat.eq_of_mul_eq_mul_right hF ?_
   have hex:(-(q+(k:Int))).toNat+(q-r - -(M:Int)).toNat+(r+(l:Int)).toNat+k=(-(M:Int)-(q-r)).toNat+(-(r+(l:Int))).toNat+(q+(k:Int)).toNat+(l+M):=by omega
   have L:c*1*2 ^ (q-r - -(M:Int)).toNat*(j.natAbs*2 ^ (-(r+(l:Int))).toNat*2 ^ (q+(k:Int)).toNat*2 ^ k)=i.natAbs*d*2 ^ ((-(q+(k:Int))).toNat+(q-r - -(M:Int)).toNat+(r+(l:Int)).toNat+k):=by
    calc c*1*2 ^ (q-r - -(M:Int)).toNat*(j.natAbs*2 ^ (-(r+(l:Int))).toNat*2 ^ (q+(k:Int)).toNat*2 ^ k)=(c*2 ^ (q+(k:Int)).toNat)*(j.natAbs*2 ^ (-(r+(l:Int))).toNat)*2 ^ (q-r - -(M:Int)).toNat*2 ^ k:=by rw[Nat.mul_one];ac_rfl
     _=(i.natAbs*2 ^ (-(q+(k:Int))).toNat)*(d*2 ^ (r+(l:Int)).toNat)*2 ^ (q-r - -(M:Int)).toNat*2 ^ k:=by rw[hn1,hn2]
     _=_:=by simp only[Nat.pow_add];ac_rfl
   have Rr:t.natAbs*d*2 ^ (-(M:Int)-(q-r)).toNat*(j.natAbs*2 ^ (-(r+(l:Int))).toNat*2 ^ (q+(k:Int)).toNat*2 ^ k)=i.natAbs*d*2 ^ ((-(M:Int)-(q-r)).toNat+(-(r+(l:Int))).toNat+(q+(k:Int)).toNat+(l+M)):=by
    calc t.natAbs*d*2 ^ (-(M:Int)-(q-r)).toNat*(j.natAbs*2 ^ (-(r+(l:Int))).toNat*2 ^ (q+(k:Int)).toNat*2 ^ k)=(t.natAbs*j.natAbs*2 ^ k)*(d*2 ^ (-(M:Int)-(q-r)).toNat*2 ^ (-(r+(l:Int))).toNat*2 ^ (q+(k:Int)).toNat):=by ac_rfl
     _=(i.natAbs*2 ^ (l+M))*(d*2 ^ (-(M:Int)-(q-r)).toNat*2 ^ (-(r+(l:Int))).toNat*2 ^ (q+(k:Int)).toNat):=by rw[hn3]
     _=_:=by simp only[Nat.pow_add];ac_rfl
   rw[L,Rr,hex]
  rw[roundRatio_congr (A':=t.natAbs) (B':=1) (e':=-(M:Int)) (by omega) (by decide) (by simpa using key)]
  exact oj h0 h hM hsg
end Fix
theorem cp {i:Int}(h:-9007199254740992≤i∧i≤9007199254740992):i.natAbs≤2 ^ 53:=by
 have:(2:Nat) ^ 53=9007199254740992:=by decide
 omega
def zI (n:Nat)(l:List Value):List Value:=l++List.replicate (n-l.length) (.int 0)
def zD (n:Nat)(l:List Value):List Value:=l++List.replicate (n-l.length) (.double 0)
theorem OF {i:Int}{k:Nat}{x:UInt64}(h:ah i k x):(i=0∧(cmpValue (FP.dcmp x 0) .l).toInt=0)∨(i≠0∧(cmpValue (FP.dcmp x 0) .l).toInt≠0):=by
 have h0:ah 0 k 0:=by have:=t8 x4 k;rwa [Int.zero_mul] at this
 have hc:=nj h h0
 have Q:=qh i 0 .l
 rw[hc]
 have C:i<0∨i=0∨0<i:=by omega
 rcases C with C|C|C
 ·have:=Q.1 C;exact Or.inr ⟨by omega,by omega⟩
 ·have:=Q.2.1 C;exact Or.inl ⟨C,by omega⟩
 ·have:=Q.2.2 C;exact Or.inr ⟨by omega,by omega⟩
def ac (l:List UInt64):Nat→UInt64:=fun i=>l.getD i 0
theorem YgF.congr {Z:State}{n0:Nat}{h:Heap}{A:Nat→Addr}{K:Nat→ClassId}{D D':Nat→UInt64}{W W':Nat→Value}{ds ds':List AD}(Y:YgF Z n0 h A K D W ds)(e:ds'.map (fun d=>(d.1,d.2.1,d.2.2.map (den A D' W')))=ds.map (fun d=>(d.1,d.2.1,d.2.2.map (den A D W)))):YgF Z n0 h A K D' W' ds':=by
 have hl:ds'.length=ds.length:=by simpa using congrArg List.length e
 refine⟨fun i d' hi=>?_,fun i j hi hj q=>Y.2 i j (by omega) (by omega) q⟩
 have e1:(ds'.map (fun d=>(d.1,d.2.1,d.2.2.map (den A D' W'))))[i]? = some (d'.1,d'.2.1,d'.2.2.map (den A D' W')):=by rw[List.getElem?_map,hi];rfl
 rw[e,List.getElem?_map] at e1
 cases e2:ds[i]? with
 | none=>rw[e2] at e1;cases e1
 | some d =>
  rw[e2] at e1
  have e3:(d.1,d.2.1,d.2.2.map (den A D W))=(d'.1,d'.2.1,d'.2.2.map (den A D' W')):=Option.some.inj e1
  simp only[Prod.mk.injEq] at e3
  exact⟨(Y.1 i d e2).1,HdF.congr (d:=d) e3.1.symm e3.2.1.symm e3.2.2.symm (Y.1 i d e2).2⟩
theorem goE {p:Program}{e:Env}{below:List Frame}{Ev:State→Outcome→Prop}{T:State}{F F':JFrame}(G:Go p e below Ev T F')(h:F'=F):Go p e below Ev T F:=by
 subst h
 exact G
section OwnYf
variable {Z:State}{n0:Nat}{h h':Heap}{A A':Nat→Addr}{K K':Nat→ClassId}{D:Nat→UInt64}{W:Nat→Value}{ds:List AD}
abbrev OB:=Addr×ClassId×Nat×Nat×List Value
def aP (l:List Addr):Nat→Addr:=fun i=>l.getD i 0
def aQ (l:List ClassId):Nat→ClassId:=fun i=>l.getD i 0
def rF (l:List Value):Nat→Value:=fun i=>l.getD i .null
theorem FA (vs:List Value):(uS 0 vs.length).map (den A D (fun k=>vs.getD k .null))=vs:=by
 unfold uS
 rw[List.map_map]
 refine List.ext_getElem (by simp) fun i h1 h2=>?_
 simp only[List.getElem_map,List.getElem_range,Function.comp,den,Nat.zero_add]
 rw[List.getD_eq_getElem?_getD,List.getElem?_eq_getElem h2]
 rfl
def HO (Z:State)(h:Heap)(o:OB):Prop:=HdF Z h o.1 o.2.1 (fun _=>0) (fun _=>0) (fun k=>o.2.2.2.2.getD k .null) (o.2.2.1,o.2.2.2.1,uS 0 o.2.2.2.2.length)
theorem HO.of {a:Addr}{k:ClassId}{d:AD}(H:HdF Z h a k A D W d):HO Z h (a,k,d.1,d.2.1,d.2.2.map (den A D W)):=HdF.congr (d:=d) rfl rfl (FA _) H
theorem HO.to {o:OB}{d:AD}(H:HO Z h o)(h1:d.1=o.2.2.1)(h2:d.2.1=o.2.2.2.1)(e:d.2.2.map (den A D W)=o.2.2.2.2):HdF Z h o.1 o.2.1 A D W d:=HdF.congr (d:=(o.2.2.1,o.2.2.2.1,uS 0 o.2.2.2.2.length)) h1 h2 (e.trans (FA _).symm) H
def Yf (Z:State)(n0:Nat)(h:Heap)(os:List OB):Prop:=(∀(i:Nat)(o:OB),os[i]? = some o→n0≤o.1∧HO Z h o)∧∀(i j:Nat)(o o':OB),os[i]? = some o→os[j]? = some o'→o.1=o'.1→i=j
def ap (A:Nat→Addr)(K:Nat→ClassId)(D:Nat→UInt64)(W:Nat→Value):Nat→List AD→List OB
 | _,[]=>[]
 | i,d::t=>(A i,K i,d.1,d.2.1,d.2.2.map (den A D W))::ap A K D W (i+1) t
theorem l6:∀(ds:List AD)(i j:Nat),(ap A K D W i ds)[j]? = (ds[j]?).map fun d=>(A (i+j),K (i+j),d.1,d.2.1,d.2.2.map (den A D W))
 | [],i,j=>by simp [ap]
 | d::t,i,0=>by simp [ap]
 | d::t,i,j+1=>by
  show (ap A K D W (i+1) t)[j]? = _
  rw[l6 t (i+1) j,show i+1+j=i+(j+1) by omega]
  rfl
theorem eK {j:Nat}{d:AD}(e:ds[j]? = some d):(ap A K D W 0 ds)[j]? = some (A j,K j,d.1,d.2.1,d.2.2.map (den A D W)):=by
 rw[l6,e,Nat.zero_add]
 rfl
theorem jM {j:Nat}{o:OB}(e:(ap A K D W 0 ds)[j]? = some o):∃d,ds[j]? = some d∧o=(A j,K j,d.1,d.2.1,d.2.2.map (den A D W)):=by
 cases e1:ds[j]? with
 | none=>rw[l6,e1] at e;cases e
 | some d=>rw[eK e1] at e;exact⟨d,rfl,(Option.some.inj e).symm⟩
theorem YgF.fl (Y:YgF Z n0 h A K D W ds):Yf Z n0 h (ap A K D W 0 ds):=by
 refine⟨fun i o hi=>?_,fun i j o o' hi hj q=>?_⟩
 ·obtain⟨d,e,rfl⟩:=jM hi
  exact⟨(Y.1 i d e).1,HO.of (Y.1 i d e).2⟩
 ·obtain⟨d,e,rfl⟩:=jM hi
  obtain⟨d',e',rfl⟩:=jM hj
  exact Y.2 i j (List.getElem?_eq_some_iff.mp e).1 (List.getElem?_eq_some_iff.mp e').1 q
theorem Yf.to {os:List OB}(Y:Yf Z n0 h os)(e:ap A K D W 0 ds=os):YgF Z n0 h A K D W ds:=by
 subst e
 refine⟨fun i d hi=>?_,fun i j hi hj q=>?_⟩
 ·have y:=Y.1 i _ (eK hi)
  exact⟨y.1,HO.to y.2 rfl rfl rfl⟩
 ·exact Y.2 i j _ _ (eK (List.getElem?_eq_getElem hi)) (eK (List.getElem?_eq_getElem hj)) q
theorem Yf.pick {os os':List OB}(Y:Yf Z n0 h os)(J:List Nat)(hJ:J.Nodup)(e:J.map (fun j=>os[j]?)=os'.map some):Yf Z n0 h os':=by
 have key:∀(i:Nat) (o:OB),os'[i]? = some o→∃j,J[i]? = some j∧os[j]? = some o:=by
  intro i o hi
  have e1:(os'.map some)[i]? = some (some o):=by rw[List.getElem?_map,hi];rfl
  rw[←e,List.getElem?_map] at e1
  cases e2:J[i]? with
  | none=>rw[e2] at e1;cases e1
  | some j=>rw[e2] at e1;exact⟨j,rfl,Option.some.inj e1⟩
 refine⟨fun i o hi=>?_,fun i j o o' hi hj q=>?_⟩
 ·obtain⟨j,-,hj⟩:=key i o hi
  exact Y.1 j o hj
 ·obtain⟨x,hx,ex⟩:=key i o hi
  obtain⟨y,hy,ey⟩:=key j o' hj
  have exy:=Y.2 x y o o' ex ey q
  obtain⟨l1,g1⟩:=List.getElem?_eq_some_iff.mp hx
  obtain⟨l2,g2⟩:=List.getElem?_eq_some_iff.mp hy
  exact (List.getElem_inj hJ).mp (g1.trans (exy.trans g2.symm))
theorem Yf.join {os1 os2 os1':List OB}(Y:Yf Z n0 h (os1++os2))(Y':Yf Z n0 h' os1')(hK:Keep h h' (os1.map (·.1)))(hs:∀o∈os1',o.1∈os1.map (·.1)∨h.size≤o.1):Yf Z n0 h' (os1'++os2):=by
 have k2:∀(i:Nat) (o:OB),os2[i]? = some o→(os1++os2)[os1.length+i]? = some o:=fun i o hi=>by
  rw[List.getElem?_append_right (by omega),Nat.add_sub_cancel_left]
  exact hi
 have nm:∀(i:Nat) (o:OB),os2[i]? = some o→o.1 ∉ os1.map (·.1):=fun i o hi hm=>by
  obtain⟨o1,h1,e1⟩:=List.mem_map.mp hm
  obtain⟨j,hj⟩:=List.mem_iff_getElem?.mp h1
  have hl:j<os1.length:=(List.getElem?_eq_some_iff.mp hj).1
  have:=Y.2 j (os1.length+i) o1 o (by rw[List.getElem?_append_left hl];exact hj) (k2 i o hi) e1
  omega
 have lt2:∀(i:Nat) (o:OB),os2[i]? = some o→o.1<h.size:=fun i o hi=>HdF.lt (Y.1 _ o (k2 i o hi)).2
 have cr:∀(i j:Nat) (o o':OB),os1'[i]? = some o→os2[j]? = some o'→o.1=o'.1→False:=fun i j o o' hi hj q=>by
  rcases hs o (List.mem_of_getElem? hi) with z|z
  ·rw[q] at z
   exact nm j o' hj z
  ·have:=lt2 j o' hj
   rw[←q] at this
   exact absurd this (Nat.not_lt.mpr z)
 refine⟨fun i o hi=>?_,fun i j o o' hi hj q=>?_⟩
 ·by_cases c:i<os1'.length
  ·rw[List.getElem?_append_left c] at hi
   exact Y'.1 i o hi
  ·rw[List.getElem?_append_right (by omega)] at hi
   have y:=Y.1 _ o (k2 _ o hi)
   exact⟨y.1,HdF.keep y.2 hK (nm _ o hi)⟩
 ·by_cases c:i<os1'.length<;>by_cases c':j<os1'.length
  ·rw[List.getElem?_append_left c] at hi
   rw[List.getElem?_append_left c'] at hj
   exact Y'.2 i j o o' hi hj q
  ·rw[List.getElem?_append_left c] at hi
   rw[List.getElem?_append_right (by omega)] at hj
   exact (cr _ _ _ _ hi hj q).elim
  ·rw[List.getElem?_append_right (by omega)] at hi
   rw[List.getElem?_append_left c'] at hj
   exact (cr _ _ _ _ hj hi q.symm).elim
  ·rw[List.getElem?_append_right (by omega)] at hi hj
   have:=Y.2 _ _ o o' (k2 _ o hi) (k2 _ o' hj) q
   omega
theorem YgF.bare (Y:YgF Z n0 h A K D W ds)(i:Nat){c z:Nat}{vs:List Value}(e:ds[i]? = some (c,z,vs))(hc:c<64):YgF Z n0 h A K D W (ds.set i (c,z,[])):=by
 refine⟨fun j d hj=>?_,fun x y hx hy q=>Y.2 x y (by simpa using hx) (by simpa using hy) q⟩
 by_cases q:i=j
 ·subst q
  have hl:i<ds.length:=(List.getElem?_eq_some_iff.mp e).1
  rw[List.getElem?_set_self hl] at hj
  cases hj
  have H:=(Y.1 i _ e).2
  refine⟨(Y.1 i _ e).1,?_⟩
  unfold HdF at H ⊢
  rw[if_pos hc] at H ⊢
  exact⟨H.1,fun j v f hj _=>by cases hj⟩
 ·rw[List.getElem?_set_ne q] at hj
  exact Y.1 j d hj
theorem FB {hM:Heap}{ws:List Addr}{n n':Nat}(K1:Keep hM h ws)(hf:∀i,i<n→A i∈ws∨hM.size≤A i)(K2:Keep h h' ((List.range n).map A))(hA:∀i,i<n→A' i=A i∧K' i=K i)(hn:∀i,n≤i→i<n'→h.size≤A' i):Keep hM h' ws∧∀i,i<n'→A' i∈ws∨hM.size≤A' i:=by
 refine⟨K1.trans K2 fun x hx=>?_,fun i hi=>?_⟩
 ·obtain⟨i,hi,rfl⟩:=List.mem_map.mp hx
  exact hf i (List.mem_range.mp hi)
 ·by_cases q:i<n
  ·rw[(hA i q).1]
   exact hf i q
  ·exact Or.inr (Nat.le_trans K1.1 (hn i (by omega) hi))
theorem au {i:Int}{k:Nat}{x z:UInt64}(h:ah i k x)(hz:z=0):(i=0∧(cmpValue (FP.dcmp x z) .l).toInt=0)∨(i≠0∧(cmpValue (FP.dcmp x z) .l).toInt≠0):=by
 subst hz
 exact OF h
end OwnYf
theorem HdF.obj {Z:State}{h:Heap}{a:Addr}{k:ClassId}{A:Nat→Addr}{D:Nat→UInt64}{W:Nat→Value}{d:AD}(H:HdF Z h a k A D W d)(q:d.1<64):Exa Z h a (cI d.1):=by
 unfold HdF at H
 rw[if_pos q] at H
 exact H.1
theorem YgF.nil {Z:State}{n0:Nat}{h:Heap}{A:Nat→Addr}{K:Nat→ClassId}{D:Nat→UInt64}{W:Nat→Value}:YgF Z n0 h A K D W []:=⟨fun i d q=>by simp at q,fun i j q=>absurd q (Nat.not_lt_zero _)⟩
theorem wH {A:Nat→Addr}{K:Nat→ClassId}{D:Nat→UInt64}{W:Nat→Value}{ds:List AD}:(ap A K D W 0 ds).map (·.1)=(List.range ds.length).map A:=by
 apply List.ext_getElem?
 intro i
 rw[List.getElem?_map,List.getElem?_map,l6]
 by_cases q:i<ds.length
 ·rw[List.getElem?_eq_getElem q,List.getElem?_range q]
  simp
 ·rw[List.getElem?_eq_none (by omega),List.getElem?_eq_none (by rw[List.length_range];omega)]
  rfl
theorem Yf.segj {Z:State}{n0:Nat}{h h':Heap}{A A':Nat→Addr}{K K':Nat→ClassId}{D D':Nat→UInt64}{W:Nat→Value}{ds ds':List AD}{os2:List OB}(Y:Yf Z n0 h (ap A K D W 0 ds++os2))(Y':YgF Z n0 h' A' K' D' W ds')(Kp:Keep h h' ((List.range ds.length).map A))(hA:∀i,i<ds.length→A' i=A i∧K' i=K i)(hf:∀i,ds.length≤i→i<ds'.length→h.size≤A' i):Yf Z n0 h' (ap A' K' D' W 0 ds'++os2):=by
 refine Yf.join Y Y'.fl (by rw[wH];exact Kp) (fun o ho=>?_)
 obtain⟨i,hi⟩:=List.mem_iff_getElem?.mp ho
 obtain⟨d,e,rfl⟩:=jM hi
 have hl:i<ds'.length:=(List.getElem?_eq_some_iff.mp e).1
 rw[wH]
 by_cases q:i<ds.length
 ·exact Or.inl (List.mem_map.mpr ⟨i,List.mem_range.mpr q,(hA i q).1.symm⟩)
 ·exact Or.inr (hf i (by omega) hl)
theorem Yf.swap {Z:State}{n0:Nat}{h:Heap}{a b c:List OB}(Y:Yf Z n0 h (a++(b++c))):Yf Z n0 h (a++(c++b)):=by
 have key:∀(i:Nat) (o:OB),(a++(c++b))[i]? = some o→∃j,(a++(b++c))[j]? = some o∧((i<a.length∧j=i)∨(a.length≤i∧i<a.length+c.length∧j=i+b.length)∨(a.length+c.length≤i∧i=j+c.length∧j<a.length+b.length)):=by
  intro i o hi
  by_cases h1:i<a.length
  ·rw[List.getElem?_append_left h1] at hi
   exact⟨i,by rw[List.getElem?_append_left h1];exact hi,Or.inl ⟨h1,rfl⟩⟩
  ·rw[List.getElem?_append_right (by omega)] at hi
   by_cases h2:i<a.length+c.length
   ·rw[List.getElem?_append_left (by omega)] at hi
    refine⟨i+b.length,?_,Or.inr (Or.inl ⟨by omega,h2,rfl⟩)⟩
    rw[List.getElem?_append_right (by omega),List.getElem?_append_right (by omega),show i+b.length-a.length-b.length=i-a.length by omega]
    exact hi
   ·rw[List.getElem?_append_right (by omega)] at hi
    have hb:=(List.getElem?_eq_some_iff.mp hi).1
    refine⟨i-c.length,?_,Or.inr (Or.inr ⟨by omega,by omega,by omega⟩)⟩
    rw[List.getElem?_append_right (by omega),List.getElem?_append_left (by omega),show i-c.length-a.length=i-a.length-c.length by omega]
    exact hi
 refine⟨fun i o hi=>?_,fun i j o o' hi hj q=>?_⟩
 ·obtain⟨x,hx,-⟩:=key i o hi
  exact Y.1 x o hx
 ·obtain⟨x,hx,cx⟩:=key i o hi
  obtain⟨y,hy,cy⟩:=key j o' hj
  have:=Y.2 x y o o' hx hy q
  omega
theorem jN {i:Int}{k:Nat}{a:UInt64}(m:Nat)(ha:ah (i*((2 ^ m:Nat):Int)) (k+m) a):ah i k a:=by
 obtain⟨s,c,q,ea⟩:=bG ha
 have h:Jvm.FP.Core.signed s (c*2 ^ (q+((k+m:Nat):Int)).toNat)=i*((2 ^ m:Nat):Int)*((2 ^ (-(q+((k+m:Nat):Int))).toNat:Nat):Int):=by have:=ha;unfold ah at this;rw[ea] at this;exact this
 show Jvm.FP.Core.Whole _ (shd _ (Jvm.FP.Core.val64 a))
 rw[ea]
 show Jvm.FP.Core.signed s (c*2 ^ (q+(k:Int)).toNat)=i*((2 ^ (-(q+(k:Int))).toNat:Nat):Int)
 have p2:((2 ^ (m+(-(q+((k+m:Nat):Int))).toNat):Nat):Int)≠0:=by have:=Nat.two_pow_pos (m+(-(q+((k+m:Nat):Int))).toNat);omega
 refine Int.eq_of_mul_eq_mul_right p2 ?_
 rw[←Jvm.FP.Core.signed_mul,Nat.mul_assoc,←Nat.pow_add]
 rw[show (q+(k:Int)).toNat+(m+(-(q+((k+m:Nat):Int))).toNat)=(q+((k+m:Nat):Int)).toNat+(-(q+(k:Int))).toNat by omega]
 rw[Nat.pow_add,←Nat.mul_assoc,Jvm.FP.Core.signed_mul,h,Nat.pow_add 2 m]
 rw[Int.natCast_mul]
 simp only[Int.mul_assoc]
 rw[Int.mul_comm ((2 ^ (-(q+(k:Int))).toNat:Nat):Int),Int.mul_assoc]
theorem aH {i j:Int}{k:Nat}{x:UInt64}(m:Nat)(N:Int)(h:ah i k x)(hN:((2 ^ m:Nat):Int)=N)(hj:i*N=j):ah j (k+m) x:=by
 have:=lA h m
 rw[hN,hj] at this
 exact this
def S7 (Du Dl:Prop)(a u Lq Dd m00 m01 m10 m11:Int)(pv0 pv1:UInt64):Prop:=(a=1∨a=-1∨a=2∨a=-2∨a=4∨a=-4∨a=8∨a=-8∨a=16∨a=-16∨a=32∨a=-32∨a=64∨a=-64∨a=128∨a=-128)∧(-128≤u∧u≤128)∧(-2048≤Lq∧Lq≤2048)∧Dd≠0∧ah a 0 pv0∧Du∧Dl∧ah Dd 1 pv1∧m00=a∧m01=u∧128*m10=Lq*a∧128*m11=64*Dd+Lq*u
def JH (m00 m01 m10 m11 J0 J1 R0 R1:Int):Prop:=m00*J0+m10*J1=128*R0∧m01*J0+m11*J1=128*R1∧(-134217728≤J0∧J0≤134217728)∧(-134217728≤J1∧J1≤134217728)∧(-65536≤R0∧R0≤65536)∧(-65536≤R1∧R1≤65536)
theorem cv {u x U N:Int}(hu:-U≤u∧u≤U)(hx:-N≤x∧x≤N):-(U*N)≤u*x∧u*x≤U*N:=by
 have hU:0≤U:=by omega
 have hN:0≤N:=by omega
 have h1:(u*x).natAbs≤U.natAbs*N.natAbs:=by
  rw[Int.natAbs_mul]
  exact Nat.mul_le_mul (by omega) (by omega)
 have h2:((U.natAbs*N.natAbs:Nat):Int)=U*N:=by
  rw[Int.natCast_mul,Int.natAbs_of_nonneg hU,Int.natAbs_of_nonneg hN]
 omega
theorem gp {a u Lq Dd m00 m01 m10 m11 J0 J1 R0 R1:Int}{pv0 pv1 vd:UInt64}{Du Dl:Prop}(S:S7 Du Dl a u Lq Dd m00 m01 m10 m11 pv0 pv1)(H:JH m00 m01 m10 m11 J0 J1 R0 R1)(f:Jvm.FP.Core.DInt R0 vd) :
  ∃P0:Int,ah P0 7 (FP.ddiv vd pv0)∧(-8388608≤P0∧P0≤8388608)∧128*P0=128*J0+Lq*J1∧2*(128*R1-u*P0)=Dd*J1:=by
 obtain⟨sa,su,sL,sD,da,-,-,dd,q00,q01,q10,q11⟩:=S
 obtain⟨h0,h1,b0,b1,r0,r1⟩:=H
 have key:∃P0:Int,P0*a=128*R0∧(-8388608≤P0∧P0≤8388608)∧a≠0:=by
  rcases sa with rfl|rfl|rfl|rfl|rfl|rfl|rfl|rfl|rfl|rfl|rfl|rfl|rfl|rfl|rfl|rfl
  ·exact⟨128*R0,by omega,by omega,by decide⟩
  ·exact⟨-(128*R0),by omega,by omega,by decide⟩
  ·exact⟨64*R0,by omega,by omega,by decide⟩
  ·exact⟨-(64*R0),by omega,by omega,by decide⟩
  ·exact⟨32*R0,by omega,by omega,by decide⟩
  ·exact⟨-(32*R0),by omega,by omega,by decide⟩
  ·exact⟨16*R0,by omega,by omega,by decide⟩
  ·exact⟨-(16*R0),by omega,by omega,by decide⟩
  ·exact⟨8*R0,by omega,by omega,by decide⟩
  ·exact⟨-(8*R0),by omega,by omega,by decide⟩
  ·exact⟨4*R0,by omega,by omega,by decide⟩
  ·exact⟨-(4*R0),by omega,by omega,by decide⟩
  ·exact⟨2*R0,by omega,by omega,by decide⟩
  ·exact⟨-(2*R0),by omega,by omega,by decide⟩
  ·exact⟨R0,by omega,by omega,by decide⟩
  ·exact⟨-R0,by omega,by omega,by decide⟩
 obtain⟨P0,e0,bP,ha⟩:=key
 have F:ah P0 7 (FP.ddiv vd pv0):=gX (am.mpr f) da ha (M:=7) (by rw[show ((2 ^ (0+7):Nat):Int)=128 from rfl,show ((2 ^ 0:Nat):Int)=1 from rfl,e0];omega) (cp (by omega)) (by decide)
 have E1:128*P0=128*J0+Lq*J1:=by
  refine Int.eq_of_mul_eq_mul_right ha ?_
  have e1:m10*J1*128=Lq*a*J1:=by rw[←q10,Int.mul_assoc,Int.mul_comm J1,Int.mul_left_comm,Int.mul_assoc]
  have e2:Lq*a*J1=Lq*J1*a:=by rw[Int.mul_assoc,Int.mul_comm a,←Int.mul_assoc]
  rw[Int.add_mul,←e2,←e1,Int.mul_assoc 128 P0,e0,←h0,q00,Int.mul_assoc 128 J0,Int.mul_comm J0 a]
  omega
 refine⟨P0,F,bP,E1,?_⟩
 have e3:u*(128*P0)=u*(128*J0+Lq*J1):=by rw[E1]
 rw[Int.mul_add,Int.mul_left_comm u 128 P0,Int.mul_left_comm u 128 J0] at e3
 have e4:128*(m11*J1)=(64*Dd+Lq*u)*J1:=by rw[←q11,Int.mul_assoc]
 rw[Int.add_mul,Int.mul_assoc 64,Int.mul_assoc Lq,Int.mul_left_comm Lq] at e4
 rw[q01] at h1
 omega
theorem gO {u R1 P0:Int}{uv x vd:UInt64}(du:ah u 0 uv)(fx:ah P0 7 x)(f:Jvm.FP.Core.DInt R1 vd)(bu:-128≤u∧u≤128)(bP:-8388608≤P0∧P0≤8388608)(bR:-65536≤R1∧R1≤65536):ah (u*P0) 7 (FP.dmul uv x)∧ah (128*R1-u*P0) 7 (FP.dsub vd (FP.dmul uv x)):=by
 have b:=cv bu bP
 have fp:ah (u*P0) 7 (FP.dmul uv x):=dD (k:=0) (l:=7) du fx (cp (by omega)) (by decide)
 exact⟨fp,gW (aH 7 128 (am.mpr f) rfl (by omega)) fp (cp (by omega)) (by decide)⟩
theorem ch {Dd J1 i:Int}{w pv1:UInt64}(fi:ah i 7 w)(dd:ah Dd 1 pv1)(hD:Dd≠0)(e:2*i=Dd*J1)(bJ:-134217728≤J1∧J1≤134217728):ah J1 7 (FP.ddiv w pv1):=gX fi dd hD (M:=7) (by rw[show ((2 ^ (1+7):Nat):Int)=256 from rfl,show ((2 ^ 7:Nat):Int)=128 from rfl,Int.mul_comm J1,←e];omega) (cp (by omega)) (by decide)
theorem rG {Lq J0 J1 P0:Int}{lv x0 x1:UInt64}(dl:ah Lq 7 lv)(f0:ah P0 7 x0)(f1:ah J1 7 x1)(e:128*P0=128*J0+Lq*J1)(bL:-2048≤Lq∧Lq≤2048)(bJ1:-134217728≤J1∧J1≤134217728)(bJ0:-134217728≤J0∧J0≤134217728):ah (Lq*J1) 14 (FP.dmul lv x1)∧Jvm.Free.Fl.NoNaN64 (FP.dsub x0 (FP.dmul lv x1))∧ah J0 7 (FP.dsub x0 (FP.dmul lv x1)):=by
 have b:=cv bL bJ1
 have fp:ah (Lq*J1) 14 (FP.dmul lv x1):=dD (k:=7) (l:=7) dl f1 (cp (by omega)) (by decide)
 have fs:ah (128*P0-Lq*J1) 14 (FP.dsub x0 (FP.dmul lv x1)):=gW (aH 7 128 f0 rfl (by omega)) fp (cp (by omega)) (by decide)
 refine⟨fp,aj fs,jN 7 ?_⟩
 rw[show 128*P0-Lq*J1=J0*((2 ^ 7:Nat):Int) by rw[show ((2 ^ 7:Nat):Int)=128 from rfl];omega] at fs
 exact fs
section OwnLu7
variable {p:Program}{l:Launch}{e:Env}{s:State}{m:MethodId}{args:Array Value}{below:List Frame}{meth:Method}{c:Code}{T0 Z:State}{a0:Array Value}{h0 hM:Heap}{n0:Nat}{L0:List Loc}{A Ab:Nat→Addr}{K Kb:Nat→ClassId}{D:Nat→UInt64}{W:Nat→Value}{oM rest:List OB}{v0 v1:UInt64}{ce sl:Nat}{ds:List AD}{Ev:State→Outcome→Prop}{M00 M01 M10 M11 a u Lq Dd J0 J1 R0 R1 P0 i0 i1:Int}
def LVS (p:Program)(l:Launch)(e:Env)(s:State)(m:MethodId)(args:Array Value)(below:List Frame)(meth:Method)(c:Code)(T0 Z:State)(a0:Array Value)(h0:Heap)(n0:Nat)(L0:List Loc)(ce sl:Nat):Prop:=Stand p l e (jb (1,3,6,14)) s m args below meth c T0 L0 ce sl∧p.tables.exec=Jvm.exec∧c.code=ak 32∧c.maxLocals=10∧meth.sig.returnType=some (.array .double)∧meth.locks=false∧s.vm.findClass "com/example/tracefold/tracefold/mining/FactoredInverse" = some m.cls∧Z.Warmed39 s.vm∧(∀d∈tables_1,d.before a0 Z=true)∧T0.heap=h0∧n0≤h0.size∧Fr n0 L0
theorem Qz {f to pc pc' nD nD' ce' sl':Nat}{orc:List Int32}{L L':Array Slot}{st st':List Value}{ds':List AD}{ops:List Op}(hr:ai (run (ak 32) ae 10 (1,3,6,14) to f [] orc (pc,L,st,ds,nD,ce,sl)) (pc',L',st',ds',nD',ce',sl') ops=true)(B:LVS p l e s m args below meth c T0 Z a0 h0 n0 L0 ce sl)(Y:YgF Z n0 h0 A K D W ds)(D0:D 0=0)(hnD:0<nD)(hv:okv ops nD D)
  (K_:∀T1 h1 L1 A1 K1,LVS p l e s m args below meth c T1 Z a0 h1 n0 L1 ce' sl'→(∀i,i<ds.length→A1 i=A i∧K1 i=K i)→Keep h0 h1 ((List.range ds.length).map A)→(∀i,ds.length≤i→i<ds'.length→h0.size≤A1 i)→YgF Z n0 h1 A1 K1 (ca ops nD D) W ds'→Go p e below Ev T1 (mkF m pc' (dL A1 (ca ops nD D) W L') (st'.map (den A1 (ca ops nD D) W)))):Go p e below Ev T0 (mkF m pc (dL A D W L) (st.map (den A D W))):=by
 obtain⟨XS,hx,hby,hml,hret,hlk,hown,hZ,hw,e0,Z0,N0⟩:=B
 refine seg (uN hr) sc0 hw hx hby hml rfl hZ hown (aA _ Z a0 hw) D0 hnD XS e0 Y N0 Z0 hv ?_
 intro T1 h1 L1 A1 K1 hA1 X1 e1 Y1 N1 Kp f1 n1
 exact K_ T1 h1 L1 A1 K1 ⟨X1,hx,hby,hml,hret,hlk,hown,hZ,hw,e1,n1,N1⟩ hA1 Kp f1 Y1
def LVH (p:Program)(l:Launch)(e:Env)(s:State)(m:MethodId)(args:Array Value)(below:List Frame)(meth:Method)(c:Code)(T0 Z:State)(a0:Array Value)(h0 hM:Heap)(n0:Nat)(L0:List Loc)(A Ab:Nat→Addr)(K Kb:Nat→ClassId)(D:Nat→UInt64)(W:Nat→Value)(oM rest:List OB)(v0 v1:UInt64)(ce sl:Nat)(ds:List AD):Prop:=LVS p l e s m args below meth c T0 Z a0 h0 n0 L0 ce sl∧D 0=0∧YgF Z n0 h0 A K D W ds∧Yf Z n0 hM (oM++rest)∧Keep hM h0 (oM.map (·.1))∧(∀i,i<ds.length→A i∈oM.map (·.1)∨hM.size≤A i)∧(∀i,i<11→A i=Ab i∧K i=Kb i)∧D 1=v0∧D 2=v1
theorem aX {f to pc pc' nD nD' ce' sl':Nat}{orc:List Int32}{L L':Array Slot}{st st':List Value}{ds':List AD}{ops:List Op}(hr:ai (run (ak 32) ae 10 (1,3,6,14) to f [] orc (pc,L,st,ds,nD,ce,sl)) (pc',L',st',ds',nD',ce',sl') ops=true)(H:LVH p l e s m args below meth c T0 Z a0 h0 hM n0 L0 A Ab K Kb D W oM rest v0 v1 ce sl ds)(hnD:3≤nD)(h2:11≤ds.length)(hv:okv ops nD D)
  (K_:∀T1 h1 L1 A1 K1,LVH p l e s m args below meth c T1 Z a0 h1 hM n0 L1 A1 Ab K1 Kb (ca ops nD D) W oM rest v0 v1 ce' sl' ds'→Go p e below Ev T1 (mkF m pc' (dL A1 (ca ops nD D) W L') (st'.map (den A1 (ca ops nD D) W)))):Go p e below Ev T0 (mkF m pc (dL A D W L) (st.map (den A D W))):=by
 obtain⟨B,D0,Y,YM,KM,hf,hAb,d1,d2⟩:=H
 refine Qz hr B Y D0 (by omega) hv ?_
 intro T1 h1 L1 A1 K1 B1 hA1 Kp f1 Y1
 obtain⟨KM1,hf1⟩:=FB (n':=ds'.length) KM hf Kp hA1 f1
 exact K_ T1 h1 L1 A1 K1 ⟨B1,(fj ops nD D (by omega)).trans D0,Y1,YM,KM1,hf1,fun i hi=>⟨(hA1 i (by omega)).1.trans (hAb i hi).1,(hA1 i (by omega)).2.trans (hAb i hi).2⟩,(fj ops nD D (by omega)).trans d1,(fj ops nD D (by omega)).trans d2⟩
theorem LVH.re {D':Nat→UInt64}{ds':List AD}(H:LVH p l e s m args below meth c T0 Z a0 h0 hM n0 L0 A Ab K Kb D W oM rest v0 v1 ce sl ds)(e0:D' 0=D 0)(e1:D' 1=D 1)(e2:D' 2=D 2)(e':ds'.map (fun d=>(d.1,d.2.1,d.2.2.map (den A D' W)))=ds.map (fun d=>(d.1,d.2.1,d.2.2.map (den A D W)))):LVH p l e s m args below meth c T0 Z a0 h0 hM n0 L0 A Ab K Kb D' W oM rest v0 v1 ce sl ds':=by
 obtain⟨B,D0,Y,YM,KM,hf,hAb,d1,d2⟩:=H
 have hl:ds'.length=ds.length:=by simpa using congrArg List.length e'
 exact⟨B,e0.trans D0,Y.congr e',YM,KM,fun i hi=>hf i (by omega),hAb,e1.trans d1,e2.trans d2⟩
def dsE (cnt:Int32)(er ep es eo ev:List Value):List AD:=[(65,2,[vD 1,vD 2]),(0,0,[vU 0,vU 1,vU 2,vU 3,vU 4,vU 5,vU 6,vU 7,vR 2,vR 3,vR 4,vR 5,vR 6,vU 8,vU 9,vU 10,vU 11,vU 12,vU 13,vU 14,vU 15,vU 16,vU 17,vU 18,vU 19,vU 20,vU 21,vU 22,vI cnt]),(64,16,er),(65,16,ep),(64,17,es),(64,256,eo),(65,256,ev)]
theorem rH {T1:State}{h1:Heap}{L1:List Loc}{A1:Nat→Addr}{K1:Nat→ClassId}{D1:Nat→UInt64}{fv pp:List Value}(H:LVH p l e s m args below meth c T1 Z a0 h1 hM n0 L1 A1 Ab K1 Kb D1 W oM rest v0 v1 3 6 ds)(g0:ds[0]? = some (0,0,fv))(g1:ds[1]? = some (65,2,[vD 1,vD 2]))(g11:ds[11]? = some (65,2,[vD 10,vD 11]))(g12:ds[12]? = some (65,2,[vD 7,vD 9]))(g13:ds[13]? = some (65,2,pp))(hfv:fv.all (okV 11 0)=true):Yf Z n0 h1 ([(A1 13,K1 13,65,2,pp.map (den A1 D1 W)),(A1 11,K1 11,65,2,[.double (D1 10),.double (D1 11)]),(A1 12,K1 12,65,2,[.double (D1 7),.double (D1 9)]),(Ab 1,Kb 1,65,2,[.double v0,.double v1]),(Ab 0,Kb 0,0,0,fv.map (den Ab (fun _=>0) W))]++rest):=by
 obtain⟨B,D0,Y,YM,KM,hf,hAb,d1,d2⟩:=H
 have hl:13<ds.length:=(List.getElem?_eq_some_iff.mp g13).1
 have c0:=eK (A:=A1) (K:=K1) (D:=D1) (W:=W) g0
 have c1:=eK (A:=A1) (K:=K1) (D:=D1) (W:=W) g1
 have c11:=eK (A:=A1) (K:=K1) (D:=D1) (W:=W) g11
 have c12:=eK (A:=A1) (K:=K1) (D:=D1) (W:=W) g12
 have c13:=eK (A:=A1) (K:=K1) (D:=D1) (W:=W) g13
 have Yp:Yf Z n0 h1 [(A1 13,K1 13,65,2,pp.map (den A1 D1 W)),(A1 11,K1 11,65,2,[.double (D1 10),.double (D1 11)]),(A1 12,K1 12,65,2,[.double (D1 7),.double (D1 9)]),(A1 1,K1 1,65,2,[.double (D1 1),.double (D1 2)]),(A1 0,K1 0,0,0,fv.map (den A1 D1 W))]:=Yf.pick Y.fl [13,11,12,1,0] (by decide) (by
  simp only[List.map_cons,List.map_nil]
  rw[c13,c11,c12,c1,c0]
  all_goals rfl)
 rw[eG (A:=Ab) (D:=fun _=>0) (nA:=11) (nD:=0) (fun i hi=>(hAb i hi).1) (fun j hj=>absurd hj (Nat.not_lt_zero _)) hfv,d1,d2,(hAb 1 (by decide)).1,(hAb 1 (by decide)).2,(hAb 0 (by decide)).1,(hAb 0 (by decide)).2] at Yp
 refine Yf.join YM Yp KM (fun o ho=>?_)
 simp only[List.mem_cons,List.not_mem_nil,or_false] at ho
 rcases ho with rfl|rfl|rfl|rfl|rfl
 ·exact hf 13 (by omega)
 ·exact hf 11 (by omega)
 ·exact hf 12 (by omega)
 ·exact (hAb 1 (by decide)).1▸hf 1 (by omega)
 ·exact (hAb 0 (by decide)).1▸hf 0 (by omega)
def ttA (A la:Nat→Addr):Nat→Addr:=aP [A 1,A 0,la 0,la 1,la 2,la 3,la 4,la 5,la 6,la 7,la 8]
def ttK (A la:Nat→ClassId):Nat→ClassId:=aQ [A 1,A 0,la 0,la 1,la 2,la 3,la 4,la 5,la 6,la 7,la 8]
def tmL (g:Nat→Value)(la:Nat→Addr):Nat→Value:=rF [.ref (la 4),.ref (la 5),g 2,g 3,g 4,g 5,.ref (la 7),.ref (la 8),.int 2,.ref (la 0),.ref (la 1),.ref (la 2),.ref (la 3),g 13,g 14,.ref (la 6),g 16,g 17,g 18,g 19,g 20,g 21,g 22,g 23,g 24,g 25,g 26]
def ttW (A:Nat→Addr)(cnt:Int32)(g:Nat→Value):Nat→Value:=rF [g 2,g 3,g 4,g 5,.ref (A 2),.ref (A 3),.ref (A 4),.ref (A 5),.ref (A 6),g 13,g 14,g 16,g 17,g 18,g 19,g 20,g 21,g 22,.int cnt]
def JT (M00 M01 M10 M11 J0 J1 i0 i1:Int):Prop:=M00*J0+M10*J1=128*i0∧M01*J0+M11*J1=128*i1∧(-134217728≤J0∧J0≤134217728)∧(-134217728≤J1∧J1≤134217728)∧(-65536≤i0∧i0≤65536)∧(-65536≤i1∧i1≤65536)
def bl (l:Launch)(Z:State)(n0:Nat)(M00 M01 M10 M11:Int)(W:Nat→Value)(lu:List OB):Prop:=∀(p:Program)(e:Env)(s:State)(m:MethodId)(args:Array Value)(below:List Frame)(meth:Method)(c:Code)(T0:State)(a0:Array Value)(Ev:State→Outcome→Prop)(h0:Heap)(A:Nat→Addr)(K:Nat→ClassId)(D:Nat→UInt64)(J0 J1 i0 i1:Int)(cnt:Int32)(er ep es eo ev:List Value)(rest:List OB),LVS p l e s m args below meth c T0 Z a0 h0 n0 [] 0 0→D 0=0→Jvm.FP.Core.DInt i0 (D 1)→Jvm.FP.Core.DInt i1 (D 2)→JT M00 M01 M10 M11 J0 J1 i0 i1→Yf Z n0 h0 (ap A K D W 0 (dsE cnt er ep es eo ev)++(lu++rest))→(∀(T1:State)(h1:Heap)(L1:List Loc)(pr rs st:Addr)(kp kr ks:ClassId)(y0 y1 x7 ra rb sa sb:UInt64)(w6 j9:Int32)(b9:Bool),LVS p l e s m args below meth c T1 Z a0 h1 n0 L1 3 6→Yf Z n0 h1 ([(pr,kp,65,2,[.double y0,.double y1]),(rs,kr,65,2,[.double ra,.double rb]),(st,ks,65,2,[.double sa,.double sb])]++(ap A K D W 0 (dsE cnt er ep es eo ev)++rest))→ah J0 7 y0→ah J1 7 y1→Go p e below Ev T1 (mkF m 226 #[.val (.ref (A 1)),.val (.ref (A 0)),.val (.ref rs),.val (.ref st),.val (.ref pr),.val (.int 0),.val (.int w6),.val (.double x7),.second,(bif b9 then .val (.int j9) else .unset)] []))→Go p e below Ev T0 (mkF m 0 #[.val (.ref (A 1)),.val (.ref (A 0)),.unset,.unset,.unset,.unset,.unset,.unset,.unset,.unset] [])
def rI:AD:=(0,0,[dA,vR 7]++uS 0 4++[bO,dr]++uS 4 5++[ay]++rS 2 4++[vU 9,cu,cW]++uS 11 8)
def c9:List AD:=[rI,aL,za9,za4,fe,bv,za8,eH,bv,za8,eH]
def lB:AD:=aD [12,0]
theorem OG:ai (run (ak 32) ae 10 (1,3,6,14) 52 32 [] [] (0,#[sR 0,sR 1,sU,sU,sU,sU,sU,sU,sU,sU],[],c9,12,0,0)) (52,#[sR 0,sR 1,sR 11,sR 12,sI 0,sD 12,s2,sU,sU,sU],[],c9++[aL,lB],13,2,4) [fN]=true:=by decide +kernel
def za6:AD:=aD [10,11]
def dK:AD:=aD [7,0]
def d7:Op:=(12,7,0,0)
def i6:List Value:=[vD 12,zq3,d3]
def lC:Op:=(3,11,4,0)
theorem H_:ai (run (ak 32) ae 10 (1,3,6,14) 51 26 [] [0] (52,#[sR 0,sR 1,sR 11,sR 12,sI 0,sD 7,s2,sU,sU,sU],[],c9++[za6,dK],12,2,4)) (51,#[sR 0,sR 1,sR 11,sR 12,sI 1,sD 12,s2,sU,sU,sU],i6,c9++[za6,dK],13,2,4) [d7,lC]=true:=by decide +kernel
def eM:Op:=(12,7,0,1)
theorem Ia:ai (run (ak 32) ae 10 (1,3,6,14) 51 39 [] [1] (52,#[sR 0,sR 1,sR 11,sR 12,sI 0,sD 7,s2,sU,sU,sU],[],c9++[za6,dK],12,2,4)) (51,#[sR 0,sR 1,sR 11,sR 12,sI 1,sD 12,s2,sI 0,sU,sU],i6,c9++[za6,dK],13,2,4) [eM,lC]=true:=by decide +kernel
def QA:AD:=aD [8,7]
def fO:List Value:=[vD 7,zq3,d3]
def fP:AD:=aD [8,0]
def dF:List AD:=[za6,QA,dK]
theorem Ib:∀b7:Bool,ai (run (ak 32) ae 10 (1,3,6,14) 159 36 [] [0] (51,#[sR 0,sR 1,sR 11,sR 12,sI 1,sD 7,s2,(bif b7 then sI 0 else sU),sU,sU],fO,c9++[za6,fP],12,2,4)) (159,#[sR 0,sR 1,sR 11,sR 12,sR 13,sI 1,sI 0,sD 7,s2,sU],[],c9++dF,12,3,6) [d7]=true:=by decide +kernel
theorem Ic:∀b7:Bool,ai (run (ak 32) ae 10 (1,3,6,14) 159 49 [] [1] (51,#[sR 0,sR 1,sR 11,sR 12,sI 1,sD 7,s2,(bif b7 then sI 0 else sU),sU,sU],fO,c9++[za6,fP],12,2,4)) (159,#[sR 0,sR 1,sR 11,sR 12,sR 13,sI 1,sI 0,sD 7,s2,sU],[],c9++dF,12,3,6) [eM]=true:=by decide +kernel
def nk:List Value:=[vD 8,zq3,d4]
theorem Id:ai (run (ak 32) ae 10 (1,3,6,14) 158 21 [] [0] (159,#[sR 0,sR 1,sR 11,sR 12,sR 13,sI 1,sI 0,sD 7,s2,sU],[],c9++dF,12,3,6)) (158,#[sR 0,sR 1,sR 11,sR 12,sR 13,sI 0,sI 1,sD 8,s2,sU],nk,c9++dF,12,3,6) [d7]=true:=by decide +kernel
theorem Ie:ai (run (ak 32) ae 10 (1,3,6,14) 158 34 [] [1] (159,#[sR 0,sR 1,sR 11,sR 12,sR 13,sI 1,sI 0,sD 7,s2,sU],[],c9++dF,12,3,6)) (158,#[sR 0,sR 1,sR 11,sR 12,sR 13,sI 0,sI 1,sD 8,s2,sI 0],nk,c9++dF,12,3,6) [eM]=true:=by decide +kernel
def FC:AD:=aD [7,9]
def lD:List Value:=[vD 7,zq3,d4]
def QB:AD:=aD [9,7]
def QC:AD:=aD [9,0]
def lE:List AD:=[za6,FC,QC]
def lF:List AD:=[za6,FC,QB]
theorem If:∀b9:Bool,ai (run (ak 32) ae 10 (1,3,6,14) 226 12 [] [0] (158,#[sR 0,sR 1,sR 11,sR 12,sR 13,sI 0,sI 1,sD 7,s2,(bif b9 then sI 0 else sU)],lD,c9++lE,12,3,6)) (226,#[sR 0,sR 1,sR 11,sR 12,sR 13,sI 0,sI 1,sD 7,s2,(bif b9 then sI 0 else sU)],[],c9++lF,12,3,6) [d7]=true:=by decide +kernel
theorem Ig:∀b9:Bool,ai (run (ak 32) ae 10 (1,3,6,14) 226 25 [] [1] (158,#[sR 0,sR 1,sR 11,sR 12,sR 13,sI 0,sI 1,sD 7,s2,(bif b9 then sI 0 else sU)],lD,c9++lE,12,3,6)) (226,#[sR 0,sR 1,sR 11,sR 12,sR 13,sI 0,sI 1,sD 7,s2,sI 0],[],c9++lF,12,3,6) [eM]=true:=by decide +kernel
def rJ (p:Program)(l:Launch)(e:Env)(s:State)(m:MethodId)(args:Array Value)(below:List Frame)(meth:Method)(c:Code)(Z:State)(a0:Array Value)(hM:Heap)(n0:Nat)(Ab:Nat→Addr)(Kb:Nat→ClassId)(W:Nat→Value)(oM rest:List OB)(v0 v1:UInt64)(J0 J1:Int)(Ev:State→Outcome→Prop):Prop:=∀(T1:State)(h1:Heap)(L1:List Loc)(A1:Nat→Addr)(K1:Nat→ClassId)(D1:Nat→UInt64)(b9:Bool)(j9:Int32),LVH p l e s m args below meth c T1 Z a0 h1 hM n0 L1 A1 Ab K1 Kb D1 W oM rest v0 v1 3 6 (c9++[(65,2,[vD 10,vD 11]),(65,2,[vD 7,vD 9]),(65,2,[vD 9,vD 7])])→ah J0 7 (D1 7)→ah J1 7 (D1 9)→Go p e below Ev T1 (mkF m 226 #[.val (.ref (A1 0)),.val (.ref (A1 1)),.val (.ref (A1 11)),.val (.ref (A1 12)),.val (.ref (A1 13)),.val (.int 0),.val (.int 1),.val (.double (D1 7)),.second,(bif b9 then .val (.int j9) else .unset)] [])
theorem rK (b9:Bool)(H:LVH p l e s m args below meth c T0 Z a0 h0 hM n0 L0 A Ab K Kb D W oM rest v0 v1 3 6 (c9++[(65,2,[vD 10,vD 11]),(65,2,[vD 7,vD 9]),(65,2,[vD 9,vD 0])]))(S:S7 (u=0) (Lq=0) a u Lq Dd M10 M11 M00 M01 (D 3) (D 4))(J:JH M10 M11 M00 M01 J0 J1 R0 R1)(f0:ah J0 7 (D 7))(f1:ah J1 7 (D 9))(KK:rJ p l e s m args below meth c Z a0 hM n0 Ab Kb W oM rest v0 v1 J0 J1 Ev):Go p e below Ev T0 (mkF m 158 (dL A D W #[sR 0,sR 1,sR 11,sR 12,sR 13,sI 0,sI 1,sD 7,s2,(bif b9 then sI 0 else sU)]) [.double (D 7),.int 1,.ref (A 13)]):=by
 rcases au f0 H.2.1 with ⟨hz,hc⟩|⟨hz,hc⟩
 ·refine goE (aX (If b9) H (by decide) (by decide) ⟨hc,trivial⟩ ?_) rfl
  intro T1 h1 L1 A1 K1 H1
  exact goE (KK T1 h1 L1 A1 K1 _ b9 0 H1 f0 f1) (by cases b9<;>rfl)
 ·refine goE (aX (Ig b9) H (by decide) (by decide) ⟨hc,trivial⟩ ?_) rfl
  intro T1 h1 L1 A1 K1 H1
  exact goE (KK T1 h1 L1 A1 K1 _ true 0 H1 f0 f1) rfl
theorem rL (H:LVH p l e s m args below meth c T0 Z a0 h0 hM n0 L0 A Ab K Kb D W oM rest v0 v1 3 6 (c9++[(65,2,[vD 10,vD 11]),(65,2,[vD 8,vD 7]),(65,2,[vD 7,vD 0])]))(S:S7 (u=0) (Lq=0) a u Lq Dd M10 M11 M00 M01 (D 3) (D 4))(J:JH M10 M11 M00 M01 J0 J1 R0 R1)(f0:ah P0 7 (D 8))(f1:ah J1 7 (D 7))(e1:128*P0=128*J0+Lq*J1)(KK:rJ p l e s m args below meth c Z a0 hM n0 Ab Kb W oM rest v0 v1 J0 J1 Ev):Go p e below Ev T0 (mkF m 159 (dL A D W #[sR 0,sR 1,sR 11,sR 12,sR 13,sI 1,sI 0,sD 7,s2,sU]) []):=by
 rcases au f1 H.2.1 with ⟨hz,hc⟩|⟨hz,hc⟩
 ·refine goE (aX (Id) H (by decide) (by decide) ⟨hc,trivial⟩ ?_) rfl
  intro T1 h1 L1 A1 K1 H1
  exact goE (rK (D:=(ac [(D 0),(D 1),(D 2),(D 3),(D 4),(D 5),(D 6),(D 8),(D 8),(D 7),(D 10),(D 11)])) false (H1.re rfl rfl rfl rfl) S J (by rw[show J0=P0 by rw[S.2.2.2.2.2.2.1,Int.zero_mul] at e1;omega];exact f0) f1 KK) rfl
 ·refine goE (aX (Ie) H (by decide) (by decide) ⟨hc,trivial⟩ ?_) rfl
  intro T1 h1 L1 A1 K1 H1
  exact goE (rK (D:=(ac [(D 0),(D 1),(D 2),(D 3),(D 4),(D 5),(D 6),(D 8),(D 8),(D 7),(D 10),(D 11)])) true (H1.re rfl rfl rfl rfl) S J (by rw[show J0=P0 by rw[S.2.2.2.2.2.2.1,Int.zero_mul] at e1;omega];exact f0) f1 KK) rfl
theorem rM (b7:Bool)(H:LVH p l e s m args below meth c T0 Z a0 h0 hM n0 L0 A Ab K Kb D W oM rest v0 v1 2 4 (c9++[(65,2,[vD 10,vD 11]),(65,2,[vD 8,vD 0])]))(S:S7 (u=0) (Lq=0) a u Lq Dd M10 M11 M00 M01 (D 3) (D 4))(J:JH M10 M11 M00 M01 J0 J1 R0 R1)(f0:ah P0 7 (D 8))(f1:ah J1 7 (D 7))(e1:128*P0=128*J0+Lq*J1)(KK:rJ p l e s m args below meth c Z a0 hM n0 Ab Kb W oM rest v0 v1 J0 J1 Ev):Go p e below Ev T0 (mkF m 51 (dL A D W #[sR 0,sR 1,sR 11,sR 12,sI 1,sD 7,s2,(bif b7 then sI 0 else sU),sU,sU]) [.double (D 7),.int 1,.ref (A 12)]):=by
 rcases au f1 H.2.1 with ⟨hz,hc⟩|⟨hz,hc⟩
 ·refine goE (aX (Ib b7) H (by decide) (by decide) ⟨hc,trivial⟩ ?_) rfl
  intro T1 h1 L1 A1 K1 H1
  exact goE (rL (D:=(ac [(D 0),(D 1),(D 2),(D 3),(D 4),(D 5),(D 6),(D 7),(D 8),(D 9),(D 10),(D 11)])) (H1.re rfl rfl rfl rfl) S J f0 f1 e1 KK) rfl
 ·refine goE (aX (Ic b7) H (by decide) (by decide) ⟨hc,trivial⟩ ?_) rfl
  intro T1 h1 L1 A1 K1 H1
  exact goE (rL (D:=(ac [(D 0),(D 1),(D 2),(D 3),(D 4),(D 5),(D 6),(D 7),(D 8),(D 9),(D 10),(D 11)])) (H1.re rfl rfl rfl rfl) S J f0 f1 e1 KK) rfl
theorem FD (H:LVH p l e s m args below meth c T0 Z a0 h0 hM n0 L0 A Ab K Kb D W oM rest v0 v1 2 4 (c9++[(65,2,[vD 10,vD 11]),(65,2,[vD 7,vD 0])]))(S:S7 (u=0) (Lq=0) a u Lq Dd M10 M11 M00 M01 (D 3) (D 4))(J:JH M10 M11 M00 M01 J0 J1 R0 R1)(fx:ah P0 7 (D 7))(fz:Jvm.FP.Core.DInt R1 (D 11))(bP:-8388608≤P0∧P0≤8388608)(e1:128*P0=128*J0+Lq*J1)(e2:2*(128*R1-u*P0)=Dd*J1)(KK:rJ p l e s m args below meth c Z a0 hM n0 Ab Kb W oM rest v0 v1 J0 J1 Ev):Go p e below Ev T0 (mkF m 52 (dL A D W #[sR 0,sR 1,sR 11,sR 12,sI 0,sD 7,s2,sU,sU,sU]) []):=by
 rcases au fx H.2.1 with ⟨hz,hc⟩|⟨hz,hc⟩
 ·have fi:ah (128*R1-u*P0) 7 (D 11):=(by rw[show 128*R1-u*P0=128*R1 by rw[S.2.2.2.2.2.1,Int.zero_mul];omega];exact aH 7 128 (am.mpr fz) rfl (by omega))
  have f1:=ch fi S.2.2.2.2.2.2.2.1 S.2.2.2.1 e2 J.2.2.2.1
  refine goE (aX (H_) H (by decide) (by decide) ⟨hc,aj f1,trivial⟩ ?_) rfl
  intro T1 h1 L1 A1 K1 H1
  exact goE (rM (D:=(ac [(D 0),(D 1),(D 2),(D 3),(D 4),(D 5),(D 6),(FP.ddiv (D 11) (D 4)),(D 7),(D 9),(D 10),(D 11)])) false (H1.re rfl rfl rfl rfl) S J fx f1 e1 KK) rfl
 ·have fi:ah (128*R1-u*P0) 7 (D 11):=(by rw[show 128*R1-u*P0=128*R1 by rw[S.2.2.2.2.2.1,Int.zero_mul];omega];exact aH 7 128 (am.mpr fz) rfl (by omega))
  have f1:=ch fi S.2.2.2.2.2.2.2.1 S.2.2.2.1 e2 J.2.2.2.1
  refine goE (aX (Ia) H (by decide) (by decide) ⟨hc,aj f1,trivial⟩ ?_) rfl
  intro T1 h1 L1 A1 K1 H1
  exact goE (rM (D:=(ac [(D 0),(D 1),(D 2),(D 3),(D 4),(D 5),(D 6),(FP.ddiv (D 11) (D 4)),(D 7),(D 9),(D 10),(D 11)])) true (H1.re rfl rfl rfl rfl) S J fx f1 e1 KK) rfl
theorem FE (H:LVH p l e s m args below meth c T0 Z a0 h0 hM n0 L0 A Ab K Kb D W oM rest v0 v1 0 0 (c9))(S:S7 (u=0) (Lq=0) a u Lq Dd M10 M11 M00 M01 (D 3) (D 4))(J:JH M10 M11 M00 M01 J0 J1 R0 R1)(fv:Jvm.FP.Core.DInt R0 (D 1))(fz:Jvm.FP.Core.DInt R1 (D 2))(KK:rJ p l e s m args below meth c Z a0 hM n0 Ab Kb W oM rest v0 v1 J0 J1 Ev):Go p e below Ev T0 (mkF m 0 (dL A D W #[sR 0,sR 1,sU,sU,sU,sU,sU,sU,sU,sU]) []):=by
 obtain⟨P0,fx,bP,e1,e2⟩:=gp S J fv
 refine goE (aX (OG) H (by decide) (by decide) ⟨aj fx,trivial⟩ ?_) rfl
 intro T1 h1 L1 A1 K1 H1
 exact goE (FD (D:=(ac [(D 0),(D 1),(D 2),(D 3),(D 4),(D 5),(D 6),(FP.ddiv (D 1) (D 3)),(D 8),(D 9),(D 1),(D 2)])) (H1.re rfl rfl rfl rfl) S J fx fz bP e1 e2 KK) rfl
def t9 (la:Nat→Addr)(kl:Nat→ClassId)(pv0 pv1:UInt64):List OB:=[(la 0,kl 0,64,2,[.int 1,.int 0]),(la 1,kl 1,64,2,[.int 0,.int 1]),(la 2,kl 2,65,2,[.double pv0,.double pv1]),(la 3,kl 3,64,3,[.int 0,.int 0,.int 0]),(la 4,kl 4,64,0,[]),(la 5,kl 5,65,0,[]),(la 6,kl 6,64,3,[.int 0,.int 0,.int 0]),(la 7,kl 7,64,0,[]),(la 8,kl 8,65,0,[])]
theorem QD {la:Nat→Addr}{kl:Nat→ClassId}{g:Nat→Value}{pv0 pv1:UInt64}(S:S7 (u=0) (Lq=0) a u Lq Dd M10 M11 M00 M01 pv0 pv1):bl l Z n0 M00 M01 M10 M11 (tmL g la) (t9 la kl pv0 pv1):=by
 intro p e s m args below meth c T0 a0 Ev h0 A K D J0 J1 i0 i1 cnt er ep es eo ev rest B D0 d0 d1 J YM KK
 have YS:Yf Z n0 h0 (([(A 0,K 0,65,2,[.double (D 1),.double (D 2)]),(A 1,K 1,0,0,[tmL g la 0,tmL g la 1,tmL g la 2,tmL g la 3,tmL g la 4,tmL g la 5,tmL g la 6,tmL g la 7,.ref (A 2),.ref (A 3),.ref (A 4),.ref (A 5),.ref (A 6),tmL g la 8,tmL g la 9,tmL g la 10,tmL g la 11,tmL g la 12,tmL g la 13,tmL g la 14,tmL g la 15,tmL g la 16,tmL g la 17,tmL g la 18,tmL g la 19,tmL g la 20,tmL g la 21,tmL g la 22,.int cnt])]++t9 la kl pv0 pv1)++(rest++(ap A K D (tmL g la) 0 (dsE cnt er ep es eo ev)).drop 2)):=by
  have:=Yf.swap (a:=[(A 0,K 0,65,2,[.double (D 1),.double (D 2)]),(A 1,K 1,0,0,[tmL g la 0,tmL g la 1,tmL g la 2,tmL g la 3,tmL g la 4,tmL g la 5,tmL g la 6,tmL g la 7,.ref (A 2),.ref (A 3),.ref (A 4),.ref (A 5),.ref (A 6),tmL g la 8,tmL g la 9,tmL g la 10,tmL g la 11,tmL g la 12,tmL g la 13,tmL g la 14,tmL g la 15,tmL g la 16,tmL g la 17,tmL g la 18,tmL g la 19,tmL g la 20,tmL g la 21,tmL g la 22,.int cnt])]) (b:=(ap A K D (tmL g la) 0 (dsE cnt er ep es eo ev)).drop 2) (c:=t9 la kl pv0 pv1++rest) YM
  exact this
 refine goE (FE (A:=ttA A la) (Ab:=ttA A la) (K:=ttK K kl) (Kb:=ttK K kl) (D:=(ac [0,D 1,D 2,pv0,pv1,0,0,0,0,0,0,0])) (W:=(ttW A cnt g)) (hM:=h0) (v0:=D 1) (v1:=D 2) (M00:=M00) (M01:=M01) (M10:=M10) (M11:=M11) (J0:=J1) (J1:=J0) (R0:=i0) (R1:=i1) ⟨B,rfl,Yf.to (Yf.pick (os':=ap (ttA A la) (ttK K kl) (ac [0,D 1,D 2,pv0,pv1,0,0,0,0,0,0,0]) (ttW A cnt g) 0 c9) YS [1,0,2,3,4,5,6,7,8,9,10] (by decide) rfl) rfl,YS,Keep.refl _ _,fun i hi=>?_,fun i _=>⟨rfl,rfl⟩,rfl,rfl⟩ S ?_ d0 d1 ?_) rfl
 ·exact match i,hi with
   | 0,_=>Or.inl (show A 1∈[A 0,A 1,la 0,la 1,la 2,la 3,la 4,la 5,la 6,la 7,la 8] by simp)
   | 1,_=>Or.inl (show A 0∈[A 0,A 1,la 0,la 1,la 2,la 3,la 4,la 5,la 6,la 7,la 8] by simp)
   | 2,_=>Or.inl (show la 0∈[A 0,A 1,la 0,la 1,la 2,la 3,la 4,la 5,la 6,la 7,la 8] by simp)
   | 3,_=>Or.inl (show la 1∈[A 0,A 1,la 0,la 1,la 2,la 3,la 4,la 5,la 6,la 7,la 8] by simp)
   | 4,_=>Or.inl (show la 2∈[A 0,A 1,la 0,la 1,la 2,la 3,la 4,la 5,la 6,la 7,la 8] by simp)
   | 5,_=>Or.inl (show la 3∈[A 0,A 1,la 0,la 1,la 2,la 3,la 4,la 5,la 6,la 7,la 8] by simp)
   | 6,_=>Or.inl (show la 4∈[A 0,A 1,la 0,la 1,la 2,la 3,la 4,la 5,la 6,la 7,la 8] by simp)
   | 7,_=>Or.inl (show la 5∈[A 0,A 1,la 0,la 1,la 2,la 3,la 4,la 5,la 6,la 7,la 8] by simp)
   | 8,_=>Or.inl (show la 6∈[A 0,A 1,la 0,la 1,la 2,la 3,la 4,la 5,la 6,la 7,la 8] by simp)
   | 9,_=>Or.inl (show la 7∈[A 0,A 1,la 0,la 1,la 2,la 3,la 4,la 5,la 6,la 7,la 8] by simp)
   | 10,_=>Or.inl (show la 8∈[A 0,A 1,la 0,la 1,la 2,la 3,la 4,la 5,la 6,la 7,la 8] by simp)
 ·obtain⟨j0,j1,j2,j3,j4,j5⟩:=J
  exact⟨by omega,by omega,by omega,by omega,by omega,by omega⟩
 ·intro T1 h1 L1 A1 K1 D1 b9 j9 H1 f0 f1
  have YE:=rH H1 rfl rfl rfl rfl rfl (by decide)
  have YF:=Yf.swap (a:=[(A1 13,K1 13,65,2,[.double (D1 9),.double (D1 7)]),(A1 11,K1 11,65,2,[.double (D1 10),.double (D1 11)]),(A1 12,K1 12,65,2,[.double (D1 7),.double (D1 9)]),(A 0,K 0,65,2,[.double (D 1),.double (D 2)]),(A 1,K 1,0,0,[tmL g la 0,tmL g la 1,tmL g la 2,tmL g la 3,tmL g la 4,tmL g la 5,tmL g la 6,tmL g la 7,.ref (A 2),.ref (A 3),.ref (A 4),.ref (A 5),.ref (A 6),tmL g la 8,tmL g la 9,tmL g la 10,tmL g la 11,tmL g la 12,tmL g la 13,tmL g la 14,tmL g la 15,tmL g la 16,tmL g la 17,tmL g la 18,tmL g la 19,tmL g la 20,tmL g la 21,tmL g la 22,.int cnt])]) (b:=rest) (c:=(ap A K D (tmL g la) 0 (dsE cnt er ep es eo ev)).drop 2) YE
  have a0:=(H1.2.2.2.2.2.2.1 0 (by decide)).1
  have a1:=(H1.2.2.2.2.2.2.1 1 (by decide)).1
  have G:=KK T1 h1 L1 (A1 13) (A1 11) (A1 12) (K1 13) (K1 11) (K1 12) _ _ (D1 7) _ _ _ _ 1 j9 b9 H1.1 YF f1 f0
  rw[a0,a1]
  exact G
def bV:List AD:=[rI,aL,za9,za4,fe,dU,za9,aD [6,0],bv,za8,eH]
theorem Ih:ai (run (ak 32) ae 10 (1,3,6,14) 52 32 [] [] (0,#[sR 0,sR 1,sU,sU,sU,sU,sU,sU,sU,sU],[],bV,12,0,0)) (52,#[sR 0,sR 1,sR 11,sR 12,sI 0,sD 12,s2,sU,sU,sU],[],bV++[aL,lB],13,2,4) [fN]=true:=by decide +kernel
theorem FG:ai (run (ak 32) ae 10 (1,3,6,14) 51 26 [] [0] (52,#[sR 0,sR 1,sR 11,sR 12,sI 0,sD 7,s2,sU,sU,sU],[],bV++[za6,dK],12,2,4)) (51,#[sR 0,sR 1,sR 11,sR 12,sI 1,sD 12,s2,sU,sU,sU],i6,bV++[za6,dK],13,2,4) [d7,lC]=true:=by decide +kernel
def ol:List Value:=[vD 14,zq3,d3]
def wI:List Op:=[eM,(2,6,7,0),(1,11,12,0),(3,13,4,0)]
theorem FH:ai (run (ak 32) ae 10 (1,3,6,14) 51 64 [] [1] (52,#[sR 0,sR 1,sR 11,sR 12,sI 0,sD 7,s2,sU,sU,sU],[],bV++[za6,dK],12,2,4)) (51,#[sR 0,sR 1,sR 11,sR 12,sI 1,sD 14,s2,sI 1,sU,sU],ol,bV++[aD [10,13],dK],15,2,4) wI=true:=by decide +kernel
theorem FI:∀b7:Bool,ai (run (ak 32) ae 10 (1,3,6,14) 159 36 [] [0] (51,#[sR 0,sR 1,sR 11,sR 12,sI 1,sD 7,s2,(bif b7 then sI 1 else sU),sU,sU],fO,bV++[za6,fP],12,2,4)) (159,#[sR 0,sR 1,sR 11,sR 12,sR 13,sI 1,sI 0,sD 7,s2,sU],[],bV++dF,12,3,6) [d7]=true:=by decide +kernel
theorem FJ:∀b7:Bool,ai (run (ak 32) ae 10 (1,3,6,14) 159 49 [] [1] (51,#[sR 0,sR 1,sR 11,sR 12,sI 1,sD 7,s2,(bif b7 then sI 1 else sU),sU,sU],fO,bV++[za6,fP],12,2,4)) (159,#[sR 0,sR 1,sR 11,sR 12,sR 13,sI 1,sI 0,sD 7,s2,sU],[],bV++dF,12,3,6) [eM]=true:=by decide +kernel
theorem FK:ai (run (ak 32) ae 10 (1,3,6,14) 158 21 [] [0] (159,#[sR 0,sR 1,sR 11,sR 12,sR 13,sI 1,sI 0,sD 7,s2,sU],[],bV++dF,12,3,6)) (158,#[sR 0,sR 1,sR 11,sR 12,sR 13,sI 0,sI 1,sD 8,s2,sU],nk,bV++dF,12,3,6) [d7]=true:=by decide +kernel
theorem FL:ai (run (ak 32) ae 10 (1,3,6,14) 158 34 [] [1] (159,#[sR 0,sR 1,sR 11,sR 12,sR 13,sI 1,sI 0,sD 7,s2,sU],[],bV++dF,12,3,6)) (158,#[sR 0,sR 1,sR 11,sR 12,sR 13,sI 0,sI 1,sD 8,s2,sI 0],nk,bV++dF,12,3,6) [eM]=true:=by decide +kernel
theorem FM:∀b9:Bool,ai (run (ak 32) ae 10 (1,3,6,14) 226 12 [] [0] (158,#[sR 0,sR 1,sR 11,sR 12,sR 13,sI 0,sI 1,sD 7,s2,(bif b9 then sI 0 else sU)],lD,bV++lE,12,3,6)) (226,#[sR 0,sR 1,sR 11,sR 12,sR 13,sI 0,sI 1,sD 7,s2,(bif b9 then sI 0 else sU)],[],bV++lF,12,3,6) [d7]=true:=by decide +kernel
theorem FN:∀b9:Bool,ai (run (ak 32) ae 10 (1,3,6,14) 226 25 [] [1] (158,#[sR 0,sR 1,sR 11,sR 12,sR 13,sI 0,sI 1,sD 7,s2,(bif b9 then sI 0 else sU)],lD,bV++lE,12,3,6)) (226,#[sR 0,sR 1,sR 11,sR 12,sR 13,sI 0,sI 1,sD 7,s2,sI 0],[],bV++lF,12,3,6) [eM]=true:=by decide +kernel
def nl (p:Program)(l:Launch)(e:Env)(s:State)(m:MethodId)(args:Array Value)(below:List Frame)(meth:Method)(c:Code)(Z:State)(a0:Array Value)(hM:Heap)(n0:Nat)(Ab:Nat→Addr)(Kb:Nat→ClassId)(W:Nat→Value)(oM rest:List OB)(v0 v1:UInt64)(J0 J1:Int)(Ev:State→Outcome→Prop):Prop:=∀(T1:State)(h1:Heap)(L1:List Loc)(A1:Nat→Addr)(K1:Nat→ClassId)(D1:Nat→UInt64)(b9:Bool)(j9:Int32),LVH p l e s m args below meth c T1 Z a0 h1 hM n0 L1 A1 Ab K1 Kb D1 W oM rest v0 v1 3 6 (bV++[(65,2,[vD 10,vD 11]),(65,2,[vD 7,vD 9]),(65,2,[vD 9,vD 7])])→ah J0 7 (D1 7)→ah J1 7 (D1 9)→Go p e below Ev T1 (mkF m 226 #[.val (.ref (A1 0)),.val (.ref (A1 1)),.val (.ref (A1 11)),.val (.ref (A1 12)),.val (.ref (A1 13)),.val (.int 0),.val (.int 1),.val (.double (D1 7)),.second,(bif b9 then .val (.int j9) else .unset)] [])
theorem om (b9:Bool)(H:LVH p l e s m args below meth c T0 Z a0 h0 hM n0 L0 A Ab K Kb D W oM rest v0 v1 3 6 (bV++[(65,2,[vD 10,vD 11]),(65,2,[vD 7,vD 9]),(65,2,[vD 9,vD 0])]))(S:S7 (ah u 0 (D 6)) (Lq=0) a u Lq Dd M10 M11 M00 M01 (D 3) (D 4))(J:JH M10 M11 M00 M01 J0 J1 R0 R1)(f0:ah J0 7 (D 7))(f1:ah J1 7 (D 9))(KK:nl p l e s m args below meth c Z a0 hM n0 Ab Kb W oM rest v0 v1 J0 J1 Ev):Go p e below Ev T0 (mkF m 158 (dL A D W #[sR 0,sR 1,sR 11,sR 12,sR 13,sI 0,sI 1,sD 7,s2,(bif b9 then sI 0 else sU)]) [.double (D 7),.int 1,.ref (A 13)]):=by
 rcases au f0 H.2.1 with ⟨hz,hc⟩|⟨hz,hc⟩
 ·refine goE (aX (FM b9) H (by decide) (by decide) ⟨hc,trivial⟩ ?_) rfl
  intro T1 h1 L1 A1 K1 H1
  exact goE (KK T1 h1 L1 A1 K1 _ b9 0 H1 f0 f1) (by cases b9<;>rfl)
 ·refine goE (aX (FN b9) H (by decide) (by decide) ⟨hc,trivial⟩ ?_) rfl
  intro T1 h1 L1 A1 K1 H1
  exact goE (KK T1 h1 L1 A1 K1 _ true 0 H1 f0 f1) rfl
theorem oo (H:LVH p l e s m args below meth c T0 Z a0 h0 hM n0 L0 A Ab K Kb D W oM rest v0 v1 3 6 (bV++[(65,2,[vD 10,vD 11]),(65,2,[vD 8,vD 7]),(65,2,[vD 7,vD 0])]))(S:S7 (ah u 0 (D 6)) (Lq=0) a u Lq Dd M10 M11 M00 M01 (D 3) (D 4))(J:JH M10 M11 M00 M01 J0 J1 R0 R1)(f0:ah P0 7 (D 8))(f1:ah J1 7 (D 7))(e1:128*P0=128*J0+Lq*J1)(KK:nl p l e s m args below meth c Z a0 hM n0 Ab Kb W oM rest v0 v1 J0 J1 Ev):Go p e below Ev T0 (mkF m 159 (dL A D W #[sR 0,sR 1,sR 11,sR 12,sR 13,sI 1,sI 0,sD 7,s2,sU]) []):=by
 rcases au f1 H.2.1 with ⟨hz,hc⟩|⟨hz,hc⟩
 ·refine goE (aX (FK) H (by decide) (by decide) ⟨hc,trivial⟩ ?_) rfl
  intro T1 h1 L1 A1 K1 H1
  exact goE (om (D:=(ac [(D 0),(D 1),(D 2),(D 3),(D 4),(D 5),(D 6),(D 8),(D 8),(D 7),(D 10),(D 11)])) false (H1.re rfl rfl rfl rfl) S J (by rw[show J0=P0 by rw[S.2.2.2.2.2.2.1,Int.zero_mul] at e1;omega];exact f0) f1 KK) rfl
 ·refine goE (aX (FL) H (by decide) (by decide) ⟨hc,trivial⟩ ?_) rfl
  intro T1 h1 L1 A1 K1 H1
  exact goE (om (D:=(ac [(D 0),(D 1),(D 2),(D 3),(D 4),(D 5),(D 6),(D 8),(D 8),(D 7),(D 10),(D 11)])) true (H1.re rfl rfl rfl rfl) S J (by rw[show J0=P0 by rw[S.2.2.2.2.2.2.1,Int.zero_mul] at e1;omega];exact f0) f1 KK) rfl
theorem oq (b7:Bool)(H:LVH p l e s m args below meth c T0 Z a0 h0 hM n0 L0 A Ab K Kb D W oM rest v0 v1 2 4 (bV++[(65,2,[vD 10,vD 11]),(65,2,[vD 8,vD 0])]))(S:S7 (ah u 0 (D 6)) (Lq=0) a u Lq Dd M10 M11 M00 M01 (D 3) (D 4))(J:JH M10 M11 M00 M01 J0 J1 R0 R1)(f0:ah P0 7 (D 8))(f1:ah J1 7 (D 7))(e1:128*P0=128*J0+Lq*J1)(KK:nl p l e s m args below meth c Z a0 hM n0 Ab Kb W oM rest v0 v1 J0 J1 Ev):Go p e below Ev T0 (mkF m 51 (dL A D W #[sR 0,sR 1,sR 11,sR 12,sI 1,sD 7,s2,(bif b7 then sI 1 else sU),sU,sU]) [.double (D 7),.int 1,.ref (A 12)]):=by
 rcases au f1 H.2.1 with ⟨hz,hc⟩|⟨hz,hc⟩
 ·refine goE (aX (FI b7) H (by decide) (by decide) ⟨hc,trivial⟩ ?_) rfl
  intro T1 h1 L1 A1 K1 H1
  exact goE (oo (D:=(ac [(D 0),(D 1),(D 2),(D 3),(D 4),(D 5),(D 6),(D 7),(D 8),(D 9),(D 10),(D 11)])) (H1.re rfl rfl rfl rfl) S J f0 f1 e1 KK) rfl
 ·refine goE (aX (FJ b7) H (by decide) (by decide) ⟨hc,trivial⟩ ?_) rfl
  intro T1 h1 L1 A1 K1 H1
  exact goE (oo (D:=(ac [(D 0),(D 1),(D 2),(D 3),(D 4),(D 5),(D 6),(D 7),(D 8),(D 9),(D 10),(D 11)])) (H1.re rfl rfl rfl rfl) S J f0 f1 e1 KK) rfl
theorem ys (H:LVH p l e s m args below meth c T0 Z a0 h0 hM n0 L0 A Ab K Kb D W oM rest v0 v1 2 4 (bV++[(65,2,[vD 10,vD 11]),(65,2,[vD 7,vD 0])]))(S:S7 (ah u 0 (D 6)) (Lq=0) a u Lq Dd M10 M11 M00 M01 (D 3) (D 4))(J:JH M10 M11 M00 M01 J0 J1 R0 R1)(fx:ah P0 7 (D 7))(fz:Jvm.FP.Core.DInt R1 (D 11))(bP:-8388608≤P0∧P0≤8388608)(e1:128*P0=128*J0+Lq*J1)(e2:2*(128*R1-u*P0)=Dd*J1)(KK:nl p l e s m args below meth c Z a0 hM n0 Ab Kb W oM rest v0 v1 J0 J1 Ev):Go p e below Ev T0 (mkF m 52 (dL A D W #[sR 0,sR 1,sR 11,sR 12,sI 0,sD 7,s2,sU,sU,sU]) []):=by
 obtain⟨fp,fw⟩:=gO S.2.2.2.2.2.1 fx fz S.2.1 bP J.2.2.2.2.2
 rcases au fx H.2.1 with ⟨hz,hc⟩|⟨hz,hc⟩
 ·have fi:ah (128*R1-u*P0) 7 (D 11):=(by rw[show 128*R1-u*P0=128*R1 by rw[hz,Int.mul_zero];omega];exact aH 7 128 (am.mpr fz) rfl (by omega))
  have f1:=ch fi S.2.2.2.2.2.2.2.1 S.2.2.2.1 e2 J.2.2.2.1
  refine goE (aX (FG) H (by decide) (by decide) ⟨hc,aj f1,trivial⟩ ?_) rfl
  intro T1 h1 L1 A1 K1 H1
  exact goE (oq (D:=(ac [(D 0),(D 1),(D 2),(D 3),(D 4),(D 5),(D 6),(FP.ddiv (D 11) (D 4)),(D 7),(D 9),(D 10),(D 11)])) false (H1.re rfl rfl rfl rfl) S J fx f1 e1 KK) rfl
 ·have fi:ah (128*R1-u*P0) 7 (FP.dsub (D 11) (FP.dmul (D 6) (D 7))):=fw
  have f1:=ch fi S.2.2.2.2.2.2.2.1 S.2.2.2.1 e2 J.2.2.2.1
  refine goE (aX (FH) H (by decide) (by decide) ⟨hc,aj fp,aj fw,aj f1,trivial⟩ ?_) rfl
  intro T1 h1 L1 A1 K1 H1
  exact goE (oq (D:=(ac [(D 0),(D 1),(D 2),(D 3),(D 4),(D 5),(D 6),(FP.ddiv (FP.dsub (D 11) (FP.dmul (D 6) (D 7))) (D 4)),(D 7),(D 9),(D 10),(FP.dsub (D 11) (FP.dmul (D 6) (D 7)))])) true (H1.re rfl rfl rfl rfl) S J fx f1 e1 KK) rfl
theorem yt (H:LVH p l e s m args below meth c T0 Z a0 h0 hM n0 L0 A Ab K Kb D W oM rest v0 v1 0 0 (bV))(S:S7 (ah u 0 (D 6)) (Lq=0) a u Lq Dd M10 M11 M00 M01 (D 3) (D 4))(J:JH M10 M11 M00 M01 J0 J1 R0 R1)(fv:Jvm.FP.Core.DInt R0 (D 1))(fz:Jvm.FP.Core.DInt R1 (D 2))(KK:nl p l e s m args below meth c Z a0 hM n0 Ab Kb W oM rest v0 v1 J0 J1 Ev):Go p e below Ev T0 (mkF m 0 (dL A D W #[sR 0,sR 1,sU,sU,sU,sU,sU,sU,sU,sU]) []):=by
 obtain⟨P0,fx,bP,e1,e2⟩:=gp S J fv
 refine goE (aX (Ih) H (by decide) (by decide) ⟨aj fx,trivial⟩ ?_) rfl
 intro T1 h1 L1 A1 K1 H1
 exact goE (ys (D:=(ac [(D 0),(D 1),(D 2),(D 3),(D 4),(D 5),(D 6),(FP.ddiv (D 1) (D 3)),(D 8),(D 9),(D 1),(D 2)])) (H1.re rfl rfl rfl rfl) S J fx fz bP e1 e2 KK) rfl
def pV (la:Nat→Addr)(kl:Nat→ClassId)(pv0 pv1 uv:UInt64):List OB:=[(la 0,kl 0,64,2,[.int 1,.int 0]),(la 1,kl 1,64,2,[.int 0,.int 1]),(la 2,kl 2,65,2,[.double pv0,.double pv1]),(la 3,kl 3,64,3,[.int 0,.int 1,.int 1]),(la 4,kl 4,64,2,[.int 1,.int 0]),(la 5,kl 5,65,2,[.double uv,.double 0]),(la 6,kl 6,64,3,[.int 0,.int 0,.int 0]),(la 7,kl 7,64,0,[]),(la 8,kl 8,65,0,[])]
theorem FO {la:Nat→Addr}{kl:Nat→ClassId}{g:Nat→Value}{pv0 pv1 uv:UInt64}(S:S7 (ah u 0 uv) (Lq=0) a u Lq Dd M10 M11 M00 M01 pv0 pv1):bl l Z n0 M00 M01 M10 M11 (tmL g la) (pV la kl pv0 pv1 uv):=by
 intro p e s m args below meth c T0 a0 Ev h0 A K D J0 J1 i0 i1 cnt er ep es eo ev rest B D0 d0 d1 J YM KK
 have YS:Yf Z n0 h0 (([(A 0,K 0,65,2,[.double (D 1),.double (D 2)]),(A 1,K 1,0,0,[tmL g la 0,tmL g la 1,tmL g la 2,tmL g la 3,tmL g la 4,tmL g la 5,tmL g la 6,tmL g la 7,.ref (A 2),.ref (A 3),.ref (A 4),.ref (A 5),.ref (A 6),tmL g la 8,tmL g la 9,tmL g la 10,tmL g la 11,tmL g la 12,tmL g la 13,tmL g la 14,tmL g la 15,tmL g la 16,tmL g la 17,tmL g la 18,tmL g la 19,tmL g la 20,tmL g la 21,tmL g la 22,.int cnt])]++pV la kl pv0 pv1 uv)++(rest++(ap A K D (tmL g la) 0 (dsE cnt er ep es eo ev)).drop 2)):=by
  have:=Yf.swap (a:=[(A 0,K 0,65,2,[.double (D 1),.double (D 2)]),(A 1,K 1,0,0,[tmL g la 0,tmL g la 1,tmL g la 2,tmL g la 3,tmL g la 4,tmL g la 5,tmL g la 6,tmL g la 7,.ref (A 2),.ref (A 3),.ref (A 4),.ref (A 5),.ref (A 6),tmL g la 8,tmL g la 9,tmL g la 10,tmL g la 11,tmL g la 12,tmL g la 13,tmL g la 14,tmL g la 15,tmL g la 16,tmL g la 17,tmL g la 18,tmL g la 19,tmL g la 20,tmL g la 21,tmL g la 22,.int cnt])]) (b:=(ap A K D (tmL g la) 0 (dsE cnt er ep es eo ev)).drop 2) (c:=pV la kl pv0 pv1 uv++rest) YM
  exact this
 refine goE (yt (A:=ttA A la) (Ab:=ttA A la) (K:=ttK K kl) (Kb:=ttK K kl) (D:=(ac [0,D 1,D 2,pv0,pv1,0,uv,0,0,0,0,0])) (W:=(ttW A cnt g)) (hM:=h0) (v0:=D 1) (v1:=D 2) (M00:=M00) (M01:=M01) (M10:=M10) (M11:=M11) (J0:=J1) (J1:=J0) (R0:=i0) (R1:=i1) ⟨B,rfl,Yf.to (Yf.pick (os':=ap (ttA A la) (ttK K kl) (ac [0,D 1,D 2,pv0,pv1,0,uv,0,0,0,0,0]) (ttW A cnt g) 0 bV) YS [1,0,2,3,4,5,6,7,8,9,10] (by decide) rfl) rfl,YS,Keep.refl _ _,fun i hi=>?_,fun i _=>⟨rfl,rfl⟩,rfl,rfl⟩ S ?_ d0 d1 ?_) rfl
 ·exact match i,hi with
   | 0,_=>Or.inl (show A 1∈[A 0,A 1,la 0,la 1,la 2,la 3,la 4,la 5,la 6,la 7,la 8] by simp)
   | 1,_=>Or.inl (show A 0∈[A 0,A 1,la 0,la 1,la 2,la 3,la 4,la 5,la 6,la 7,la 8] by simp)
   | 2,_=>Or.inl (show la 0∈[A 0,A 1,la 0,la 1,la 2,la 3,la 4,la 5,la 6,la 7,la 8] by simp)
   | 3,_=>Or.inl (show la 1∈[A 0,A 1,la 0,la 1,la 2,la 3,la 4,la 5,la 6,la 7,la 8] by simp)
   | 4,_=>Or.inl (show la 2∈[A 0,A 1,la 0,la 1,la 2,la 3,la 4,la 5,la 6,la 7,la 8] by simp)
   | 5,_=>Or.inl (show la 3∈[A 0,A 1,la 0,la 1,la 2,la 3,la 4,la 5,la 6,la 7,la 8] by simp)
   | 6,_=>Or.inl (show la 4∈[A 0,A 1,la 0,la 1,la 2,la 3,la 4,la 5,la 6,la 7,la 8] by simp)
   | 7,_=>Or.inl (show la 5∈[A 0,A 1,la 0,la 1,la 2,la 3,la 4,la 5,la 6,la 7,la 8] by simp)
   | 8,_=>Or.inl (show la 6∈[A 0,A 1,la 0,la 1,la 2,la 3,la 4,la 5,la 6,la 7,la 8] by simp)
   | 9,_=>Or.inl (show la 7∈[A 0,A 1,la 0,la 1,la 2,la 3,la 4,la 5,la 6,la 7,la 8] by simp)
   | 10,_=>Or.inl (show la 8∈[A 0,A 1,la 0,la 1,la 2,la 3,la 4,la 5,la 6,la 7,la 8] by simp)
 ·obtain⟨j0,j1,j2,j3,j4,j5⟩:=J
  exact⟨by omega,by omega,by omega,by omega,by omega,by omega⟩
 ·intro T1 h1 L1 A1 K1 D1 b9 j9 H1 f0 f1
  have YE:=rH H1 rfl rfl rfl rfl rfl (by decide)
  have YF:=Yf.swap (a:=[(A1 13,K1 13,65,2,[.double (D1 9),.double (D1 7)]),(A1 11,K1 11,65,2,[.double (D1 10),.double (D1 11)]),(A1 12,K1 12,65,2,[.double (D1 7),.double (D1 9)]),(A 0,K 0,65,2,[.double (D 1),.double (D 2)]),(A 1,K 1,0,0,[tmL g la 0,tmL g la 1,tmL g la 2,tmL g la 3,tmL g la 4,tmL g la 5,tmL g la 6,tmL g la 7,.ref (A 2),.ref (A 3),.ref (A 4),.ref (A 5),.ref (A 6),tmL g la 8,tmL g la 9,tmL g la 10,tmL g la 11,tmL g la 12,tmL g la 13,tmL g la 14,tmL g la 15,tmL g la 16,tmL g la 17,tmL g la 18,tmL g la 19,tmL g la 20,tmL g la 21,tmL g la 22,.int cnt])]) (b:=rest) (c:=(ap A K D (tmL g la) 0 (dsE cnt er ep es eo ev)).drop 2) YE
  have a0:=(H1.2.2.2.2.2.2.1 0 (by decide)).1
  have a1:=(H1.2.2.2.2.2.2.1 1 (by decide)).1
  have G:=KK T1 h1 L1 (A1 13) (A1 11) (A1 12) (K1 13) (K1 11) (K1 12) _ _ (D1 7) _ _ _ _ 1 j9 b9 H1.1 YF f1 f0
  rw[a0,a1]
  exact G
def c_:List AD:=[rI,aL,za4,za4,fe,bv,za8,eH,bv,za8,eH]
theorem OH:ai (run (ak 32) ae 10 (1,3,6,14) 52 32 [] [] (0,#[sR 0,sR 1,sU,sU,sU,sU,sU,sU,sU,sU],[],c_,12,0,0)) (52,#[sR 0,sR 1,sR 11,sR 12,sI 0,sD 12,s2,sU,sU,sU],[],c_++[aL,lB],13,2,4) [fN]=true:=by decide +kernel
theorem Ii:ai (run (ak 32) ae 10 (1,3,6,14) 51 26 [] [0] (52,#[sR 0,sR 1,sR 11,sR 12,sI 0,sD 7,s2,sU,sU,sU],[],c_++[za6,dK],12,2,4)) (51,#[sR 0,sR 1,sR 11,sR 12,sI 1,sD 12,s2,sU,sU,sU],i6,c_++[za6,dK],13,2,4) [d7,lC]=true:=by decide +kernel
theorem Ij:ai (run (ak 32) ae 10 (1,3,6,14) 51 39 [] [1] (52,#[sR 0,sR 1,sR 11,sR 12,sI 0,sD 7,s2,sU,sU,sU],[],c_++[za6,dK],12,2,4)) (51,#[sR 0,sR 1,sR 11,sR 12,sI 1,sD 12,s2,sI 0,sU,sU],i6,c_++[za6,dK],13,2,4) [eM,lC]=true:=by decide +kernel
def MV:AD:=aD [0,7]
def dG:List AD:=[za6,QA,MV]
theorem Ik:∀b7:Bool,ai (run (ak 32) ae 10 (1,3,6,14) 159 36 [] [0] (51,#[sR 0,sR 1,sR 11,sR 12,sI 1,sD 7,s2,(bif b7 then sI 0 else sU),sU,sU],fO,c_++[za6,fP],12,2,4)) (159,#[sR 0,sR 1,sR 11,sR 12,sR 13,sI 1,sI 1,sD 7,s2,sU],[],c_++dG,12,3,6) [d7]=true:=by decide +kernel
theorem Il:∀b7:Bool,ai (run (ak 32) ae 10 (1,3,6,14) 159 49 [] [1] (51,#[sR 0,sR 1,sR 11,sR 12,sI 1,sD 7,s2,(bif b7 then sI 0 else sU),sU,sU],fO,c_++[za6,fP],12,2,4)) (159,#[sR 0,sR 1,sR 11,sR 12,sR 13,sI 1,sI 1,sD 7,s2,sU],[],c_++dG,12,3,6) [eM]=true:=by decide +kernel
def nn:List Value:=[vD 8,zq0,d4]
theorem Im:ai (run (ak 32) ae 10 (1,3,6,14) 158 21 [] [0] (159,#[sR 0,sR 1,sR 11,sR 12,sR 13,sI 1,sI 1,sD 7,s2,sU],[],c_++dG,12,3,6)) (158,#[sR 0,sR 1,sR 11,sR 12,sR 13,sI 0,sI 0,sD 8,s2,sU],nn,c_++dG,12,3,6) [d7]=true:=by decide +kernel
theorem In:ai (run (ak 32) ae 10 (1,3,6,14) 158 34 [] [1] (159,#[sR 0,sR 1,sR 11,sR 12,sR 13,sI 1,sI 1,sD 7,s2,sU],[],c_++dG,12,3,6)) (158,#[sR 0,sR 1,sR 11,sR 12,sR 13,sI 0,sI 0,sD 8,s2,sI 0],nn,c_++dG,12,3,6) [eM]=true:=by decide +kernel
def lG:List Value:=[vD 7,zq0,d4]
def QE:AD:=aD [0,9]
def lH:List AD:=[za6,FC,QE]
def lI:List AD:=[za6,FC,FC]
theorem Io:∀b9:Bool,ai (run (ak 32) ae 10 (1,3,6,14) 226 12 [] [0] (158,#[sR 0,sR 1,sR 11,sR 12,sR 13,sI 0,sI 0,sD 7,s2,(bif b9 then sI 0 else sU)],lG,c_++lH,12,3,6)) (226,#[sR 0,sR 1,sR 11,sR 12,sR 13,sI 0,sI 0,sD 7,s2,(bif b9 then sI 0 else sU)],[],c_++lI,12,3,6) [d7]=true:=by decide +kernel
theorem Ip:∀b9:Bool,ai (run (ak 32) ae 10 (1,3,6,14) 226 25 [] [1] (158,#[sR 0,sR 1,sR 11,sR 12,sR 13,sI 0,sI 0,sD 7,s2,(bif b9 then sI 0 else sU)],lG,c_++lH,12,3,6)) (226,#[sR 0,sR 1,sR 11,sR 12,sR 13,sI 0,sI 0,sD 7,s2,sI 0],[],c_++lI,12,3,6) [eM]=true:=by decide +kernel
def rN (p:Program)(l:Launch)(e:Env)(s:State)(m:MethodId)(args:Array Value)(below:List Frame)(meth:Method)(c:Code)(Z:State)(a0:Array Value)(hM:Heap)(n0:Nat)(Ab:Nat→Addr)(Kb:Nat→ClassId)(W:Nat→Value)(oM rest:List OB)(v0 v1:UInt64)(J0 J1:Int)(Ev:State→Outcome→Prop):Prop:=∀(T1:State)(h1:Heap)(L1:List Loc)(A1:Nat→Addr)(K1:Nat→ClassId)(D1:Nat→UInt64)(b9:Bool)(j9:Int32),LVH p l e s m args below meth c T1 Z a0 h1 hM n0 L1 A1 Ab K1 Kb D1 W oM rest v0 v1 3 6 (c_++[(65,2,[vD 10,vD 11]),(65,2,[vD 7,vD 9]),(65,2,[vD 7,vD 9])])→ah J0 7 (D1 7)→ah J1 7 (D1 9)→Go p e below Ev T1 (mkF m 226 #[.val (.ref (A1 0)),.val (.ref (A1 1)),.val (.ref (A1 11)),.val (.ref (A1 12)),.val (.ref (A1 13)),.val (.int 0),.val (.int 0),.val (.double (D1 7)),.second,(bif b9 then .val (.int j9) else .unset)] [])
theorem rO (b9:Bool)(H:LVH p l e s m args below meth c T0 Z a0 h0 hM n0 L0 A Ab K Kb D W oM rest v0 v1 3 6 (c_++[(65,2,[vD 10,vD 11]),(65,2,[vD 7,vD 9]),(65,2,[vD 0,vD 9])]))(S:S7 (u=0) (Lq=0) a u Lq Dd M00 M01 M10 M11 (D 3) (D 4))(J:JH M00 M01 M10 M11 J0 J1 R0 R1)(f0:ah J0 7 (D 7))(f1:ah J1 7 (D 9))(KK:rN p l e s m args below meth c Z a0 hM n0 Ab Kb W oM rest v0 v1 J0 J1 Ev):Go p e below Ev T0 (mkF m 158 (dL A D W #[sR 0,sR 1,sR 11,sR 12,sR 13,sI 0,sI 0,sD 7,s2,(bif b9 then sI 0 else sU)]) [.double (D 7),.int 0,.ref (A 13)]):=by
 rcases au f0 H.2.1 with ⟨hz,hc⟩|⟨hz,hc⟩
 ·refine goE (aX (Io b9) H (by decide) (by decide) ⟨hc,trivial⟩ ?_) rfl
  intro T1 h1 L1 A1 K1 H1
  exact goE (KK T1 h1 L1 A1 K1 _ b9 0 H1 f0 f1) (by cases b9<;>rfl)
 ·refine goE (aX (Ip b9) H (by decide) (by decide) ⟨hc,trivial⟩ ?_) rfl
  intro T1 h1 L1 A1 K1 H1
  exact goE (KK T1 h1 L1 A1 K1 _ true 0 H1 f0 f1) rfl
theorem rP (H:LVH p l e s m args below meth c T0 Z a0 h0 hM n0 L0 A Ab K Kb D W oM rest v0 v1 3 6 (c_++[(65,2,[vD 10,vD 11]),(65,2,[vD 8,vD 7]),(65,2,[vD 0,vD 7])]))(S:S7 (u=0) (Lq=0) a u Lq Dd M00 M01 M10 M11 (D 3) (D 4))(J:JH M00 M01 M10 M11 J0 J1 R0 R1)(f0:ah P0 7 (D 8))(f1:ah J1 7 (D 7))(e1:128*P0=128*J0+Lq*J1)(KK:rN p l e s m args below meth c Z a0 hM n0 Ab Kb W oM rest v0 v1 J0 J1 Ev):Go p e below Ev T0 (mkF m 159 (dL A D W #[sR 0,sR 1,sR 11,sR 12,sR 13,sI 1,sI 1,sD 7,s2,sU]) []):=by
 rcases au f1 H.2.1 with ⟨hz,hc⟩|⟨hz,hc⟩
 ·refine goE (aX (Im) H (by decide) (by decide) ⟨hc,trivial⟩ ?_) rfl
  intro T1 h1 L1 A1 K1 H1
  exact goE (rO (D:=(ac [(D 0),(D 1),(D 2),(D 3),(D 4),(D 5),(D 6),(D 8),(D 8),(D 7),(D 10),(D 11)])) false (H1.re rfl rfl rfl rfl) S J (by rw[show J0=P0 by rw[S.2.2.2.2.2.2.1,Int.zero_mul] at e1;omega];exact f0) f1 KK) rfl
 ·refine goE (aX (In) H (by decide) (by decide) ⟨hc,trivial⟩ ?_) rfl
  intro T1 h1 L1 A1 K1 H1
  exact goE (rO (D:=(ac [(D 0),(D 1),(D 2),(D 3),(D 4),(D 5),(D 6),(D 8),(D 8),(D 7),(D 10),(D 11)])) true (H1.re rfl rfl rfl rfl) S J (by rw[show J0=P0 by rw[S.2.2.2.2.2.2.1,Int.zero_mul] at e1;omega];exact f0) f1 KK) rfl
theorem rQ (b7:Bool)(H:LVH p l e s m args below meth c T0 Z a0 h0 hM n0 L0 A Ab K Kb D W oM rest v0 v1 2 4 (c_++[(65,2,[vD 10,vD 11]),(65,2,[vD 8,vD 0])]))(S:S7 (u=0) (Lq=0) a u Lq Dd M00 M01 M10 M11 (D 3) (D 4))(J:JH M00 M01 M10 M11 J0 J1 R0 R1)(f0:ah P0 7 (D 8))(f1:ah J1 7 (D 7))(e1:128*P0=128*J0+Lq*J1)(KK:rN p l e s m args below meth c Z a0 hM n0 Ab Kb W oM rest v0 v1 J0 J1 Ev):Go p e below Ev T0 (mkF m 51 (dL A D W #[sR 0,sR 1,sR 11,sR 12,sI 1,sD 7,s2,(bif b7 then sI 0 else sU),sU,sU]) [.double (D 7),.int 1,.ref (A 12)]):=by
 rcases au f1 H.2.1 with ⟨hz,hc⟩|⟨hz,hc⟩
 ·refine goE (aX (Ik b7) H (by decide) (by decide) ⟨hc,trivial⟩ ?_) rfl
  intro T1 h1 L1 A1 K1 H1
  exact goE (rP (D:=(ac [(D 0),(D 1),(D 2),(D 3),(D 4),(D 5),(D 6),(D 7),(D 8),(D 9),(D 10),(D 11)])) (H1.re rfl rfl rfl rfl) S J f0 f1 e1 KK) rfl
 ·refine goE (aX (Il b7) H (by decide) (by decide) ⟨hc,trivial⟩ ?_) rfl
  intro T1 h1 L1 A1 K1 H1
  exact goE (rP (D:=(ac [(D 0),(D 1),(D 2),(D 3),(D 4),(D 5),(D 6),(D 7),(D 8),(D 9),(D 10),(D 11)])) (H1.re rfl rfl rfl rfl) S J f0 f1 e1 KK) rfl
theorem FQ (H:LVH p l e s m args below meth c T0 Z a0 h0 hM n0 L0 A Ab K Kb D W oM rest v0 v1 2 4 (c_++[(65,2,[vD 10,vD 11]),(65,2,[vD 7,vD 0])]))(S:S7 (u=0) (Lq=0) a u Lq Dd M00 M01 M10 M11 (D 3) (D 4))(J:JH M00 M01 M10 M11 J0 J1 R0 R1)(fx:ah P0 7 (D 7))(fz:Jvm.FP.Core.DInt R1 (D 11))(bP:-8388608≤P0∧P0≤8388608)(e1:128*P0=128*J0+Lq*J1)(e2:2*(128*R1-u*P0)=Dd*J1)(KK:rN p l e s m args below meth c Z a0 hM n0 Ab Kb W oM rest v0 v1 J0 J1 Ev):Go p e below Ev T0 (mkF m 52 (dL A D W #[sR 0,sR 1,sR 11,sR 12,sI 0,sD 7,s2,sU,sU,sU]) []):=by
 rcases au fx H.2.1 with ⟨hz,hc⟩|⟨hz,hc⟩
 ·have fi:ah (128*R1-u*P0) 7 (D 11):=(by rw[show 128*R1-u*P0=128*R1 by rw[S.2.2.2.2.2.1,Int.zero_mul];omega];exact aH 7 128 (am.mpr fz) rfl (by omega))
  have f1:=ch fi S.2.2.2.2.2.2.2.1 S.2.2.2.1 e2 J.2.2.2.1
  refine goE (aX (Ii) H (by decide) (by decide) ⟨hc,aj f1,trivial⟩ ?_) rfl
  intro T1 h1 L1 A1 K1 H1
  exact goE (rQ (D:=(ac [(D 0),(D 1),(D 2),(D 3),(D 4),(D 5),(D 6),(FP.ddiv (D 11) (D 4)),(D 7),(D 9),(D 10),(D 11)])) false (H1.re rfl rfl rfl rfl) S J fx f1 e1 KK) rfl
 ·have fi:ah (128*R1-u*P0) 7 (D 11):=(by rw[show 128*R1-u*P0=128*R1 by rw[S.2.2.2.2.2.1,Int.zero_mul];omega];exact aH 7 128 (am.mpr fz) rfl (by omega))
  have f1:=ch fi S.2.2.2.2.2.2.2.1 S.2.2.2.1 e2 J.2.2.2.1
  refine goE (aX (Ij) H (by decide) (by decide) ⟨hc,aj f1,trivial⟩ ?_) rfl
  intro T1 h1 L1 A1 K1 H1
  exact goE (rQ (D:=(ac [(D 0),(D 1),(D 2),(D 3),(D 4),(D 5),(D 6),(FP.ddiv (D 11) (D 4)),(D 7),(D 9),(D 10),(D 11)])) true (H1.re rfl rfl rfl rfl) S J fx f1 e1 KK) rfl
theorem FR (H:LVH p l e s m args below meth c T0 Z a0 h0 hM n0 L0 A Ab K Kb D W oM rest v0 v1 0 0 (c_))(S:S7 (u=0) (Lq=0) a u Lq Dd M00 M01 M10 M11 (D 3) (D 4))(J:JH M00 M01 M10 M11 J0 J1 R0 R1)(fv:Jvm.FP.Core.DInt R0 (D 1))(fz:Jvm.FP.Core.DInt R1 (D 2))(KK:rN p l e s m args below meth c Z a0 hM n0 Ab Kb W oM rest v0 v1 J0 J1 Ev):Go p e below Ev T0 (mkF m 0 (dL A D W #[sR 0,sR 1,sU,sU,sU,sU,sU,sU,sU,sU]) []):=by
 obtain⟨P0,fx,bP,e1,e2⟩:=gp S J fv
 refine goE (aX (OH) H (by decide) (by decide) ⟨aj fx,trivial⟩ ?_) rfl
 intro T1 h1 L1 A1 K1 H1
 exact goE (FQ (D:=(ac [(D 0),(D 1),(D 2),(D 3),(D 4),(D 5),(D 6),(FP.ddiv (D 1) (D 3)),(D 8),(D 9),(D 1),(D 2)])) (H1.re rfl rfl rfl rfl) S J fx fz bP e1 e2 KK) rfl
def t_ (la:Nat→Addr)(kl:Nat→ClassId)(pv0 pv1:UInt64):List OB:=[(la 0,kl 0,64,2,[.int 0,.int 1]),(la 1,kl 1,64,2,[.int 0,.int 1]),(la 2,kl 2,65,2,[.double pv0,.double pv1]),(la 3,kl 3,64,3,[.int 0,.int 0,.int 0]),(la 4,kl 4,64,0,[]),(la 5,kl 5,65,0,[]),(la 6,kl 6,64,3,[.int 0,.int 0,.int 0]),(la 7,kl 7,64,0,[]),(la 8,kl 8,65,0,[])]
theorem QG {la:Nat→Addr}{kl:Nat→ClassId}{g:Nat→Value}{pv0 pv1:UInt64}(S:S7 (u=0) (Lq=0) a u Lq Dd M00 M01 M10 M11 pv0 pv1):bl l Z n0 M00 M01 M10 M11 (tmL g la) (t_ la kl pv0 pv1):=by
 intro p e s m args below meth c T0 a0 Ev h0 A K D J0 J1 i0 i1 cnt er ep es eo ev rest B D0 d0 d1 J YM KK
 have YS:Yf Z n0 h0 (([(A 0,K 0,65,2,[.double (D 1),.double (D 2)]),(A 1,K 1,0,0,[tmL g la 0,tmL g la 1,tmL g la 2,tmL g la 3,tmL g la 4,tmL g la 5,tmL g la 6,tmL g la 7,.ref (A 2),.ref (A 3),.ref (A 4),.ref (A 5),.ref (A 6),tmL g la 8,tmL g la 9,tmL g la 10,tmL g la 11,tmL g la 12,tmL g la 13,tmL g la 14,tmL g la 15,tmL g la 16,tmL g la 17,tmL g la 18,tmL g la 19,tmL g la 20,tmL g la 21,tmL g la 22,.int cnt])]++t_ la kl pv0 pv1)++(rest++(ap A K D (tmL g la) 0 (dsE cnt er ep es eo ev)).drop 2)):=by
  have:=Yf.swap (a:=[(A 0,K 0,65,2,[.double (D 1),.double (D 2)]),(A 1,K 1,0,0,[tmL g la 0,tmL g la 1,tmL g la 2,tmL g la 3,tmL g la 4,tmL g la 5,tmL g la 6,tmL g la 7,.ref (A 2),.ref (A 3),.ref (A 4),.ref (A 5),.ref (A 6),tmL g la 8,tmL g la 9,tmL g la 10,tmL g la 11,tmL g la 12,tmL g la 13,tmL g la 14,tmL g la 15,tmL g la 16,tmL g la 17,tmL g la 18,tmL g la 19,tmL g la 20,tmL g la 21,tmL g la 22,.int cnt])]) (b:=(ap A K D (tmL g la) 0 (dsE cnt er ep es eo ev)).drop 2) (c:=t_ la kl pv0 pv1++rest) YM
  exact this
 refine goE (FR (A:=ttA A la) (Ab:=ttA A la) (K:=ttK K kl) (Kb:=ttK K kl) (D:=(ac [0,D 1,D 2,pv0,pv1,0,0,0,0,0,0,0])) (W:=(ttW A cnt g)) (hM:=h0) (v0:=D 1) (v1:=D 2) (M00:=M00) (M01:=M01) (M10:=M10) (M11:=M11) (J0:=J0) (J1:=J1) (R0:=i0) (R1:=i1) ⟨B,rfl,Yf.to (Yf.pick (os':=ap (ttA A la) (ttK K kl) (ac [0,D 1,D 2,pv0,pv1,0,0,0,0,0,0,0]) (ttW A cnt g) 0 c_) YS [1,0,2,3,4,5,6,7,8,9,10] (by decide) rfl) rfl,YS,Keep.refl _ _,fun i hi=>?_,fun i _=>⟨rfl,rfl⟩,rfl,rfl⟩ S ?_ d0 d1 ?_) rfl
 ·exact match i,hi with
   | 0,_=>Or.inl (show A 1∈[A 0,A 1,la 0,la 1,la 2,la 3,la 4,la 5,la 6,la 7,la 8] by simp)
   | 1,_=>Or.inl (show A 0∈[A 0,A 1,la 0,la 1,la 2,la 3,la 4,la 5,la 6,la 7,la 8] by simp)
   | 2,_=>Or.inl (show la 0∈[A 0,A 1,la 0,la 1,la 2,la 3,la 4,la 5,la 6,la 7,la 8] by simp)
   | 3,_=>Or.inl (show la 1∈[A 0,A 1,la 0,la 1,la 2,la 3,la 4,la 5,la 6,la 7,la 8] by simp)
   | 4,_=>Or.inl (show la 2∈[A 0,A 1,la 0,la 1,la 2,la 3,la 4,la 5,la 6,la 7,la 8] by simp)
   | 5,_=>Or.inl (show la 3∈[A 0,A 1,la 0,la 1,la 2,la 3,la 4,la 5,la 6,la 7,la 8] by simp)
   | 6,_=>Or.inl (show la 4∈[A 0,A 1,la 0,la 1,la 2,la 3,la 4,la 5,la 6,la 7,la 8] by simp)
   | 7,_=>Or.inl (show la 5∈[A 0,A 1,la 0,la 1,la 2,la 3,la 4,la 5,la 6,la 7,la 8] by simp)
   | 8,_=>Or.inl (show la 6∈[A 0,A 1,la 0,la 1,la 2,la 3,la 4,la 5,la 6,la 7,la 8] by simp)
   | 9,_=>Or.inl (show la 7∈[A 0,A 1,la 0,la 1,la 2,la 3,la 4,la 5,la 6,la 7,la 8] by simp)
   | 10,_=>Or.inl (show la 8∈[A 0,A 1,la 0,la 1,la 2,la 3,la 4,la 5,la 6,la 7,la 8] by simp)
 ·obtain⟨j0,j1,j2,j3,j4,j5⟩:=J
  exact⟨by omega,by omega,by omega,by omega,by omega,by omega⟩
 ·intro T1 h1 L1 A1 K1 D1 b9 j9 H1 f0 f1
  have YE:=rH H1 rfl rfl rfl rfl rfl (by decide)
  have YF:=Yf.swap (a:=[(A1 13,K1 13,65,2,[.double (D1 7),.double (D1 9)]),(A1 11,K1 11,65,2,[.double (D1 10),.double (D1 11)]),(A1 12,K1 12,65,2,[.double (D1 7),.double (D1 9)]),(A 0,K 0,65,2,[.double (D 1),.double (D 2)]),(A 1,K 1,0,0,[tmL g la 0,tmL g la 1,tmL g la 2,tmL g la 3,tmL g la 4,tmL g la 5,tmL g la 6,tmL g la 7,.ref (A 2),.ref (A 3),.ref (A 4),.ref (A 5),.ref (A 6),tmL g la 8,tmL g la 9,tmL g la 10,tmL g la 11,tmL g la 12,tmL g la 13,tmL g la 14,tmL g la 15,tmL g la 16,tmL g la 17,tmL g la 18,tmL g la 19,tmL g la 20,tmL g la 21,tmL g la 22,.int cnt])]) (b:=rest) (c:=(ap A K D (tmL g la) 0 (dsE cnt er ep es eo ev)).drop 2) YE
  have a0:=(H1.2.2.2.2.2.2.1 0 (by decide)).1
  have a1:=(H1.2.2.2.2.2.2.1 1 (by decide)).1
  have G:=KK T1 h1 L1 (A1 13) (A1 11) (A1 12) (K1 13) (K1 11) (K1 12) _ _ (D1 7) _ _ _ _ 0 j9 b9 H1.1 YF f0 f1
  rw[a0,a1]
  exact G
def bW:List AD:=[rI,aL,za9,za9,fe,dU,az,aD [6,0],bv,za8,eH]
def i7:Op:=(3,2,3,0)
theorem Iq:ai (run (ak 32) ae 10 (1,3,6,14) 52 32 [] [] (0,#[sR 0,sR 1,sU,sU,sU,sU,sU,sU,sU,sU],[],bW,12,0,0)) (52,#[sR 0,sR 1,sR 11,sR 12,sI 0,sD 12,s2,sU,sU,sU],[],bW++[aL,lB],13,2,4) [i7]=true:=by decide +kernel
theorem FS:ai (run (ak 32) ae 10 (1,3,6,14) 51 26 [] [0] (52,#[sR 0,sR 1,sR 11,sR 12,sI 0,sD 7,s2,sU,sU,sU],[],bW++[za6,dK],12,2,4)) (51,#[sR 0,sR 1,sR 11,sR 12,sI 1,sD 12,s2,sU,sU,sU],i6,bW++[za6,dK],13,2,4) [d7,(3,10,4,0)]=true:=by decide +kernel
theorem FT:ai (run (ak 32) ae 10 (1,3,6,14) 51 64 [] [1] (52,#[sR 0,sR 1,sR 11,sR 12,sI 0,sD 7,s2,sU,sU,sU],[],bW++[za6,dK],12,2,4)) (51,#[sR 0,sR 1,sR 11,sR 12,sI 1,sD 14,s2,sI 1,sU,sU],ol,bW++[aD [13,11],dK],15,2,4) [eM,(2,6,7,0),(1,10,12,0),(3,13,4,0)]=true:=by decide +kernel
theorem FU:∀b7:Bool,ai (run (ak 32) ae 10 (1,3,6,14) 159 36 [] [0] (51,#[sR 0,sR 1,sR 11,sR 12,sI 1,sD 7,s2,(bif b7 then sI 1 else sU),sU,sU],fO,bW++[za6,fP],12,2,4)) (159,#[sR 0,sR 1,sR 11,sR 12,sR 13,sI 1,sI 0,sD 7,s2,sU],[],bW++dF,12,3,6) [d7]=true:=by decide +kernel
theorem FV:∀b7:Bool,ai (run (ak 32) ae 10 (1,3,6,14) 159 49 [] [1] (51,#[sR 0,sR 1,sR 11,sR 12,sI 1,sD 7,s2,(bif b7 then sI 1 else sU),sU,sU],fO,bW++[za6,fP],12,2,4)) (159,#[sR 0,sR 1,sR 11,sR 12,sR 13,sI 1,sI 0,sD 7,s2,sU],[],bW++dF,12,3,6) [eM]=true:=by decide +kernel
theorem FW:ai (run (ak 32) ae 10 (1,3,6,14) 158 21 [] [0] (159,#[sR 0,sR 1,sR 11,sR 12,sR 13,sI 1,sI 0,sD 7,s2,sU],[],bW++dF,12,3,6)) (158,#[sR 0,sR 1,sR 11,sR 12,sR 13,sI 0,sI 1,sD 8,s2,sU],nk,bW++dF,12,3,6) [d7]=true:=by decide +kernel
theorem FX:ai (run (ak 32) ae 10 (1,3,6,14) 158 34 [] [1] (159,#[sR 0,sR 1,sR 11,sR 12,sR 13,sI 1,sI 0,sD 7,s2,sU],[],bW++dF,12,3,6)) (158,#[sR 0,sR 1,sR 11,sR 12,sR 13,sI 0,sI 1,sD 8,s2,sI 0],nk,bW++dF,12,3,6) [eM]=true:=by decide +kernel
theorem FY:∀b9:Bool,ai (run (ak 32) ae 10 (1,3,6,14) 226 12 [] [0] (158,#[sR 0,sR 1,sR 11,sR 12,sR 13,sI 0,sI 1,sD 7,s2,(bif b9 then sI 0 else sU)],lD,bW++lE,12,3,6)) (226,#[sR 0,sR 1,sR 11,sR 12,sR 13,sI 0,sI 1,sD 7,s2,(bif b9 then sI 0 else sU)],[],bW++lF,12,3,6) [d7]=true:=by decide +kernel
theorem FZ:∀b9:Bool,ai (run (ak 32) ae 10 (1,3,6,14) 226 25 [] [1] (158,#[sR 0,sR 1,sR 11,sR 12,sR 13,sI 0,sI 1,sD 7,s2,(bif b9 then sI 0 else sU)],lD,bW++lE,12,3,6)) (226,#[sR 0,sR 1,sR 11,sR 12,sR 13,sI 0,sI 1,sD 7,s2,sI 0],[],bW++lF,12,3,6) [eM]=true:=by decide +kernel
def no (p:Program)(l:Launch)(e:Env)(s:State)(m:MethodId)(args:Array Value)(below:List Frame)(meth:Method)(c:Code)(Z:State)(a0:Array Value)(hM:Heap)(n0:Nat)(Ab:Nat→Addr)(Kb:Nat→ClassId)(W:Nat→Value)(oM rest:List OB)(v0 v1:UInt64)(J0 J1:Int)(Ev:State→Outcome→Prop):Prop:=∀(T1:State)(h1:Heap)(L1:List Loc)(A1:Nat→Addr)(K1:Nat→ClassId)(D1:Nat→UInt64)(b9:Bool)(j9:Int32),LVH p l e s m args below meth c T1 Z a0 h1 hM n0 L1 A1 Ab K1 Kb D1 W oM rest v0 v1 3 6 (bW++[(65,2,[vD 10,vD 11]),(65,2,[vD 7,vD 9]),(65,2,[vD 9,vD 7])])→ah J0 7 (D1 7)→ah J1 7 (D1 9)→Go p e below Ev T1 (mkF m 226 #[.val (.ref (A1 0)),.val (.ref (A1 1)),.val (.ref (A1 11)),.val (.ref (A1 12)),.val (.ref (A1 13)),.val (.int 0),.val (.int 1),.val (.double (D1 7)),.second,(bif b9 then .val (.int j9) else .unset)] [])
theorem ot (b9:Bool)(H:LVH p l e s m args below meth c T0 Z a0 h0 hM n0 L0 A Ab K Kb D W oM rest v0 v1 3 6 (bW++[(65,2,[vD 10,vD 11]),(65,2,[vD 7,vD 9]),(65,2,[vD 9,vD 0])]))(S:S7 (ah u 0 (D 6)) (Lq=0) a u Lq Dd M11 M10 M01 M00 (D 3) (D 4))(J:JH M11 M10 M01 M00 J0 J1 R0 R1)(f0:ah J0 7 (D 7))(f1:ah J1 7 (D 9))(KK:no p l e s m args below meth c Z a0 hM n0 Ab Kb W oM rest v0 v1 J0 J1 Ev):Go p e below Ev T0 (mkF m 158 (dL A D W #[sR 0,sR 1,sR 11,sR 12,sR 13,sI 0,sI 1,sD 7,s2,(bif b9 then sI 0 else sU)]) [.double (D 7),.int 1,.ref (A 13)]):=by
 rcases au f0 H.2.1 with ⟨hz,hc⟩|⟨hz,hc⟩
 ·refine goE (aX (FY b9) H (by decide) (by decide) ⟨hc,trivial⟩ ?_) rfl
  intro T1 h1 L1 A1 K1 H1
  exact goE (KK T1 h1 L1 A1 K1 _ b9 0 H1 f0 f1) (by cases b9<;>rfl)
 ·refine goE (aX (FZ b9) H (by decide) (by decide) ⟨hc,trivial⟩ ?_) rfl
  intro T1 h1 L1 A1 K1 H1
  exact goE (KK T1 h1 L1 A1 K1 _ true 0 H1 f0 f1) rfl
theorem ou (H:LVH p l e s m args below meth c T0 Z a0 h0 hM n0 L0 A Ab K Kb D W oM rest v0 v1 3 6 (bW++[(65,2,[vD 10,vD 11]),(65,2,[vD 8,vD 7]),(65,2,[vD 7,vD 0])]))(S:S7 (ah u 0 (D 6)) (Lq=0) a u Lq Dd M11 M10 M01 M00 (D 3) (D 4))(J:JH M11 M10 M01 M00 J0 J1 R0 R1)(f0:ah P0 7 (D 8))(f1:ah J1 7 (D 7))(e1:128*P0=128*J0+Lq*J1)(KK:no p l e s m args below meth c Z a0 hM n0 Ab Kb W oM rest v0 v1 J0 J1 Ev):Go p e below Ev T0 (mkF m 159 (dL A D W #[sR 0,sR 1,sR 11,sR 12,sR 13,sI 1,sI 0,sD 7,s2,sU]) []):=by
 rcases au f1 H.2.1 with ⟨hz,hc⟩|⟨hz,hc⟩
 ·refine goE (aX (FW) H (by decide) (by decide) ⟨hc,trivial⟩ ?_) rfl
  intro T1 h1 L1 A1 K1 H1
  exact goE (ot (D:=(ac [(D 0),(D 1),(D 2),(D 3),(D 4),(D 5),(D 6),(D 8),(D 8),(D 7),(D 10),(D 11)])) false (H1.re rfl rfl rfl rfl) S J (by rw[show J0=P0 by rw[S.2.2.2.2.2.2.1,Int.zero_mul] at e1;omega];exact f0) f1 KK) rfl
 ·refine goE (aX (FX) H (by decide) (by decide) ⟨hc,trivial⟩ ?_) rfl
  intro T1 h1 L1 A1 K1 H1
  exact goE (ot (D:=(ac [(D 0),(D 1),(D 2),(D 3),(D 4),(D 5),(D 6),(D 8),(D 8),(D 7),(D 10),(D 11)])) true (H1.re rfl rfl rfl rfl) S J (by rw[show J0=P0 by rw[S.2.2.2.2.2.2.1,Int.zero_mul] at e1;omega];exact f0) f1 KK) rfl
theorem ov (b7:Bool)(H:LVH p l e s m args below meth c T0 Z a0 h0 hM n0 L0 A Ab K Kb D W oM rest v0 v1 2 4 (bW++[(65,2,[vD 10,vD 11]),(65,2,[vD 8,vD 0])]))(S:S7 (ah u 0 (D 6)) (Lq=0) a u Lq Dd M11 M10 M01 M00 (D 3) (D 4))(J:JH M11 M10 M01 M00 J0 J1 R0 R1)(f0:ah P0 7 (D 8))(f1:ah J1 7 (D 7))(e1:128*P0=128*J0+Lq*J1)(KK:no p l e s m args below meth c Z a0 hM n0 Ab Kb W oM rest v0 v1 J0 J1 Ev):Go p e below Ev T0 (mkF m 51 (dL A D W #[sR 0,sR 1,sR 11,sR 12,sI 1,sD 7,s2,(bif b7 then sI 1 else sU),sU,sU]) [.double (D 7),.int 1,.ref (A 12)]):=by
 rcases au f1 H.2.1 with ⟨hz,hc⟩|⟨hz,hc⟩
 ·refine goE (aX (FU b7) H (by decide) (by decide) ⟨hc,trivial⟩ ?_) rfl
  intro T1 h1 L1 A1 K1 H1
  exact goE (ou (D:=(ac [(D 0),(D 1),(D 2),(D 3),(D 4),(D 5),(D 6),(D 7),(D 8),(D 9),(D 10),(D 11)])) (H1.re rfl rfl rfl rfl) S J f0 f1 e1 KK) rfl
 ·refine goE (aX (FV b7) H (by decide) (by decide) ⟨hc,trivial⟩ ?_) rfl
  intro T1 h1 L1 A1 K1 H1
  exact goE (ou (D:=(ac [(D 0),(D 1),(D 2),(D 3),(D 4),(D 5),(D 6),(D 7),(D 8),(D 9),(D 10),(D 11)])) (H1.re rfl rfl rfl rfl) S J f0 f1 e1 KK) rfl
theorem yu (H:LVH p l e s m args below meth c T0 Z a0 h0 hM n0 L0 A Ab K Kb D W oM rest v0 v1 2 4 (bW++[(65,2,[vD 10,vD 11]),(65,2,[vD 7,vD 0])]))(S:S7 (ah u 0 (D 6)) (Lq=0) a u Lq Dd M11 M10 M01 M00 (D 3) (D 4))(J:JH M11 M10 M01 M00 J0 J1 R0 R1)(fx:ah P0 7 (D 7))(fz:Jvm.FP.Core.DInt R1 (D 10))(bP:-8388608≤P0∧P0≤8388608)(e1:128*P0=128*J0+Lq*J1)(e2:2*(128*R1-u*P0)=Dd*J1)(KK:no p l e s m args below meth c Z a0 hM n0 Ab Kb W oM rest v0 v1 J0 J1 Ev):Go p e below Ev T0 (mkF m 52 (dL A D W #[sR 0,sR 1,sR 11,sR 12,sI 0,sD 7,s2,sU,sU,sU]) []):=by
 obtain⟨fp,fw⟩:=gO S.2.2.2.2.2.1 fx fz S.2.1 bP J.2.2.2.2.2
 rcases au fx H.2.1 with ⟨hz,hc⟩|⟨hz,hc⟩
 ·have fi:ah (128*R1-u*P0) 7 (D 10):=(by rw[show 128*R1-u*P0=128*R1 by rw[hz,Int.mul_zero];omega];exact aH 7 128 (am.mpr fz) rfl (by omega))
  have f1:=ch fi S.2.2.2.2.2.2.2.1 S.2.2.2.1 e2 J.2.2.2.1
  refine goE (aX (FS) H (by decide) (by decide) ⟨hc,aj f1,trivial⟩ ?_) rfl
  intro T1 h1 L1 A1 K1 H1
  exact goE (ov (D:=(ac [(D 0),(D 1),(D 2),(D 3),(D 4),(D 5),(D 6),(FP.ddiv (D 10) (D 4)),(D 7),(D 9),(D 10),(D 11)])) false (H1.re rfl rfl rfl rfl) S J fx f1 e1 KK) rfl
 ·have fi:ah (128*R1-u*P0) 7 (FP.dsub (D 10) (FP.dmul (D 6) (D 7))):=fw
  have f1:=ch fi S.2.2.2.2.2.2.2.1 S.2.2.2.1 e2 J.2.2.2.1
  refine goE (aX (FT) H (by decide) (by decide) ⟨hc,aj fp,aj fw,aj f1,trivial⟩ ?_) rfl
  intro T1 h1 L1 A1 K1 H1
  exact goE (ov (D:=(ac [(D 0),(D 1),(D 2),(D 3),(D 4),(D 5),(D 6),(FP.ddiv (FP.dsub (D 10) (FP.dmul (D 6) (D 7))) (D 4)),(D 7),(D 9),(FP.dsub (D 10) (FP.dmul (D 6) (D 7))),(D 11)])) true (H1.re rfl rfl rfl rfl) S J fx f1 e1 KK) rfl
theorem yv (H:LVH p l e s m args below meth c T0 Z a0 h0 hM n0 L0 A Ab K Kb D W oM rest v0 v1 0 0 (bW))(S:S7 (ah u 0 (D 6)) (Lq=0) a u Lq Dd M11 M10 M01 M00 (D 3) (D 4))(J:JH M11 M10 M01 M00 J0 J1 R0 R1)(fv:Jvm.FP.Core.DInt R0 (D 2))(fz:Jvm.FP.Core.DInt R1 (D 1))(KK:no p l e s m args below meth c Z a0 hM n0 Ab Kb W oM rest v0 v1 J0 J1 Ev):Go p e below Ev T0 (mkF m 0 (dL A D W #[sR 0,sR 1,sU,sU,sU,sU,sU,sU,sU,sU]) []):=by
 obtain⟨P0,fx,bP,e1,e2⟩:=gp S J fv
 refine goE (aX (Iq) H (by decide) (by decide) ⟨aj fx,trivial⟩ ?_) rfl
 intro T1 h1 L1 A1 K1 H1
 exact goE (yu (D:=(ac [(D 0),(D 1),(D 2),(D 3),(D 4),(D 5),(D 6),(FP.ddiv (D 2) (D 3)),(D 8),(D 9),(D 1),(D 2)])) (H1.re rfl rfl rfl rfl) S J fx fz bP e1 e2 KK) rfl
def pW (la:Nat→Addr)(kl:Nat→ClassId)(pv0 pv1 uv:UInt64):List OB:=[(la 0,kl 0,64,2,[.int 1,.int 0]),(la 1,kl 1,64,2,[.int 1,.int 0]),(la 2,kl 2,65,2,[.double pv0,.double pv1]),(la 3,kl 3,64,3,[.int 0,.int 1,.int 1]),(la 4,kl 4,64,2,[.int 0,.int 0]),(la 5,kl 5,65,2,[.double uv,.double 0]),(la 6,kl 6,64,3,[.int 0,.int 0,.int 0]),(la 7,kl 7,64,0,[]),(la 8,kl 8,65,0,[])]
theorem F2 {la:Nat→Addr}{kl:Nat→ClassId}{g:Nat→Value}{pv0 pv1 uv:UInt64}(S:S7 (ah u 0 uv) (Lq=0) a u Lq Dd M11 M10 M01 M00 pv0 pv1):bl l Z n0 M00 M01 M10 M11 (tmL g la) (pW la kl pv0 pv1 uv):=by
 intro p e s m args below meth c T0 a0 Ev h0 A K D J0 J1 i0 i1 cnt er ep es eo ev rest B D0 d0 d1 J YM KK
 have YS:Yf Z n0 h0 (([(A 0,K 0,65,2,[.double (D 1),.double (D 2)]),(A 1,K 1,0,0,[tmL g la 0,tmL g la 1,tmL g la 2,tmL g la 3,tmL g la 4,tmL g la 5,tmL g la 6,tmL g la 7,.ref (A 2),.ref (A 3),.ref (A 4),.ref (A 5),.ref (A 6),tmL g la 8,tmL g la 9,tmL g la 10,tmL g la 11,tmL g la 12,tmL g la 13,tmL g la 14,tmL g la 15,tmL g la 16,tmL g la 17,tmL g la 18,tmL g la 19,tmL g la 20,tmL g la 21,tmL g la 22,.int cnt])]++pW la kl pv0 pv1 uv)++(rest++(ap A K D (tmL g la) 0 (dsE cnt er ep es eo ev)).drop 2)):=by
  have:=Yf.swap (a:=[(A 0,K 0,65,2,[.double (D 1),.double (D 2)]),(A 1,K 1,0,0,[tmL g la 0,tmL g la 1,tmL g la 2,tmL g la 3,tmL g la 4,tmL g la 5,tmL g la 6,tmL g la 7,.ref (A 2),.ref (A 3),.ref (A 4),.ref (A 5),.ref (A 6),tmL g la 8,tmL g la 9,tmL g la 10,tmL g la 11,tmL g la 12,tmL g la 13,tmL g la 14,tmL g la 15,tmL g la 16,tmL g la 17,tmL g la 18,tmL g la 19,tmL g la 20,tmL g la 21,tmL g la 22,.int cnt])]) (b:=(ap A K D (tmL g la) 0 (dsE cnt er ep es eo ev)).drop 2) (c:=pW la kl pv0 pv1 uv++rest) YM
  exact this
 refine goE (yv (A:=ttA A la) (Ab:=ttA A la) (K:=ttK K kl) (Kb:=ttK K kl) (D:=(ac [0,D 1,D 2,pv0,pv1,0,uv,0,0,0,0,0])) (W:=(ttW A cnt g)) (hM:=h0) (v0:=D 1) (v1:=D 2) (M00:=M00) (M01:=M01) (M10:=M10) (M11:=M11) (J0:=J1) (J1:=J0) (R0:=i1) (R1:=i0) ⟨B,rfl,Yf.to (Yf.pick (os':=ap (ttA A la) (ttK K kl) (ac [0,D 1,D 2,pv0,pv1,0,uv,0,0,0,0,0]) (ttW A cnt g) 0 bW) YS [1,0,2,3,4,5,6,7,8,9,10] (by decide) rfl) rfl,YS,Keep.refl _ _,fun i hi=>?_,fun i _=>⟨rfl,rfl⟩,rfl,rfl⟩ S ?_ d1 d0 ?_) rfl
 ·exact match i,hi with
   | 0,_=>Or.inl (show A 1∈[A 0,A 1,la 0,la 1,la 2,la 3,la 4,la 5,la 6,la 7,la 8] by simp)
   | 1,_=>Or.inl (show A 0∈[A 0,A 1,la 0,la 1,la 2,la 3,la 4,la 5,la 6,la 7,la 8] by simp)
   | 2,_=>Or.inl (show la 0∈[A 0,A 1,la 0,la 1,la 2,la 3,la 4,la 5,la 6,la 7,la 8] by simp)
   | 3,_=>Or.inl (show la 1∈[A 0,A 1,la 0,la 1,la 2,la 3,la 4,la 5,la 6,la 7,la 8] by simp)
   | 4,_=>Or.inl (show la 2∈[A 0,A 1,la 0,la 1,la 2,la 3,la 4,la 5,la 6,la 7,la 8] by simp)
   | 5,_=>Or.inl (show la 3∈[A 0,A 1,la 0,la 1,la 2,la 3,la 4,la 5,la 6,la 7,la 8] by simp)
   | 6,_=>Or.inl (show la 4∈[A 0,A 1,la 0,la 1,la 2,la 3,la 4,la 5,la 6,la 7,la 8] by simp)
   | 7,_=>Or.inl (show la 5∈[A 0,A 1,la 0,la 1,la 2,la 3,la 4,la 5,la 6,la 7,la 8] by simp)
   | 8,_=>Or.inl (show la 6∈[A 0,A 1,la 0,la 1,la 2,la 3,la 4,la 5,la 6,la 7,la 8] by simp)
   | 9,_=>Or.inl (show la 7∈[A 0,A 1,la 0,la 1,la 2,la 3,la 4,la 5,la 6,la 7,la 8] by simp)
   | 10,_=>Or.inl (show la 8∈[A 0,A 1,la 0,la 1,la 2,la 3,la 4,la 5,la 6,la 7,la 8] by simp)
 ·obtain⟨j0,j1,j2,j3,j4,j5⟩:=J
  exact⟨by omega,by omega,by omega,by omega,by omega,by omega⟩
 ·intro T1 h1 L1 A1 K1 D1 b9 j9 H1 f0 f1
  have YE:=rH H1 rfl rfl rfl rfl rfl (by decide)
  have YF:=Yf.swap (a:=[(A1 13,K1 13,65,2,[.double (D1 9),.double (D1 7)]),(A1 11,K1 11,65,2,[.double (D1 10),.double (D1 11)]),(A1 12,K1 12,65,2,[.double (D1 7),.double (D1 9)]),(A 0,K 0,65,2,[.double (D 1),.double (D 2)]),(A 1,K 1,0,0,[tmL g la 0,tmL g la 1,tmL g la 2,tmL g la 3,tmL g la 4,tmL g la 5,tmL g la 6,tmL g la 7,.ref (A 2),.ref (A 3),.ref (A 4),.ref (A 5),.ref (A 6),tmL g la 8,tmL g la 9,tmL g la 10,tmL g la 11,tmL g la 12,tmL g la 13,tmL g la 14,tmL g la 15,tmL g la 16,tmL g la 17,tmL g la 18,tmL g la 19,tmL g la 20,tmL g la 21,tmL g la 22,.int cnt])]) (b:=rest) (c:=(ap A K D (tmL g la) 0 (dsE cnt er ep es eo ev)).drop 2) YE
  have a0:=(H1.2.2.2.2.2.2.1 0 (by decide)).1
  have a1:=(H1.2.2.2.2.2.2.1 1 (by decide)).1
  have G:=KK T1 h1 L1 (A1 13) (A1 11) (A1 12) (K1 13) (K1 11) (K1 12) _ _ (D1 7) _ _ _ _ 1 j9 b9 H1.1 YF f1 f0
  rw[a0,a1]
  exact G
def bZ:List AD:=[rI,aL,za4,za4,fe,dU,za9,aD [6,0],bv,za8,eH]
theorem Ir:ai (run (ak 32) ae 10 (1,3,6,14) 52 32 [] [] (0,#[sR 0,sR 1,sU,sU,sU,sU,sU,sU,sU,sU],[],bZ,12,0,0)) (52,#[sR 0,sR 1,sR 11,sR 12,sI 0,sD 12,s2,sU,sU,sU],[],bZ++[aL,lB],13,2,4) [fN]=true:=by decide +kernel
theorem F3:ai (run (ak 32) ae 10 (1,3,6,14) 51 26 [] [0] (52,#[sR 0,sR 1,sR 11,sR 12,sI 0,sD 7,s2,sU,sU,sU],[],bZ++[za6,dK],12,2,4)) (51,#[sR 0,sR 1,sR 11,sR 12,sI 1,sD 12,s2,sU,sU,sU],i6,bZ++[za6,dK],13,2,4) [d7,lC]=true:=by decide +kernel
theorem F4:ai (run (ak 32) ae 10 (1,3,6,14) 51 64 [] [1] (52,#[sR 0,sR 1,sR 11,sR 12,sI 0,sD 7,s2,sU,sU,sU],[],bZ++[za6,dK],12,2,4)) (51,#[sR 0,sR 1,sR 11,sR 12,sI 1,sD 14,s2,sI 1,sU,sU],ol,bZ++[aD [10,13],dK],15,2,4) wI=true:=by decide +kernel
theorem F5:∀b7:Bool,ai (run (ak 32) ae 10 (1,3,6,14) 159 36 [] [0] (51,#[sR 0,sR 1,sR 11,sR 12,sI 1,sD 7,s2,(bif b7 then sI 1 else sU),sU,sU],fO,bZ++[za6,fP],12,2,4)) (159,#[sR 0,sR 1,sR 11,sR 12,sR 13,sI 1,sI 1,sD 7,s2,sU],[],bZ++dG,12,3,6) [d7]=true:=by decide +kernel
theorem F6:∀b7:Bool,ai (run (ak 32) ae 10 (1,3,6,14) 159 49 [] [1] (51,#[sR 0,sR 1,sR 11,sR 12,sI 1,sD 7,s2,(bif b7 then sI 1 else sU),sU,sU],fO,bZ++[za6,fP],12,2,4)) (159,#[sR 0,sR 1,sR 11,sR 12,sR 13,sI 1,sI 1,sD 7,s2,sU],[],bZ++dG,12,3,6) [eM]=true:=by decide +kernel
theorem F7:ai (run (ak 32) ae 10 (1,3,6,14) 158 21 [] [0] (159,#[sR 0,sR 1,sR 11,sR 12,sR 13,sI 1,sI 1,sD 7,s2,sU],[],bZ++dG,12,3,6)) (158,#[sR 0,sR 1,sR 11,sR 12,sR 13,sI 0,sI 0,sD 8,s2,sU],nn,bZ++dG,12,3,6) [d7]=true:=by decide +kernel
theorem F8:ai (run (ak 32) ae 10 (1,3,6,14) 158 34 [] [1] (159,#[sR 0,sR 1,sR 11,sR 12,sR 13,sI 1,sI 1,sD 7,s2,sU],[],bZ++dG,12,3,6)) (158,#[sR 0,sR 1,sR 11,sR 12,sR 13,sI 0,sI 0,sD 8,s2,sI 0],nn,bZ++dG,12,3,6) [eM]=true:=by decide +kernel
theorem F9:∀b9:Bool,ai (run (ak 32) ae 10 (1,3,6,14) 226 12 [] [0] (158,#[sR 0,sR 1,sR 11,sR 12,sR 13,sI 0,sI 0,sD 7,s2,(bif b9 then sI 0 else sU)],lG,bZ++lH,12,3,6)) (226,#[sR 0,sR 1,sR 11,sR 12,sR 13,sI 0,sI 0,sD 7,s2,(bif b9 then sI 0 else sU)],[],bZ++lI,12,3,6) [d7]=true:=by decide +kernel
theorem F_:∀b9:Bool,ai (run (ak 32) ae 10 (1,3,6,14) 226 25 [] [1] (158,#[sR 0,sR 1,sR 11,sR 12,sR 13,sI 0,sI 0,sD 7,s2,(bif b9 then sI 0 else sU)],lG,bZ++lH,12,3,6)) (226,#[sR 0,sR 1,sR 11,sR 12,sR 13,sI 0,sI 0,sD 7,s2,sI 0],[],bZ++lI,12,3,6) [eM]=true:=by decide +kernel
def nq (p:Program)(l:Launch)(e:Env)(s:State)(m:MethodId)(args:Array Value)(below:List Frame)(meth:Method)(c:Code)(Z:State)(a0:Array Value)(hM:Heap)(n0:Nat)(Ab:Nat→Addr)(Kb:Nat→ClassId)(W:Nat→Value)(oM rest:List OB)(v0 v1:UInt64)(J0 J1:Int)(Ev:State→Outcome→Prop):Prop:=∀(T1:State)(h1:Heap)(L1:List Loc)(A1:Nat→Addr)(K1:Nat→ClassId)(D1:Nat→UInt64)(b9:Bool)(j9:Int32),LVH p l e s m args below meth c T1 Z a0 h1 hM n0 L1 A1 Ab K1 Kb D1 W oM rest v0 v1 3 6 (bZ++[(65,2,[vD 10,vD 11]),(65,2,[vD 7,vD 9]),(65,2,[vD 7,vD 9])])→ah J0 7 (D1 7)→ah J1 7 (D1 9)→Go p e below Ev T1 (mkF m 226 #[.val (.ref (A1 0)),.val (.ref (A1 1)),.val (.ref (A1 11)),.val (.ref (A1 12)),.val (.ref (A1 13)),.val (.int 0),.val (.int 0),.val (.double (D1 7)),.second,(bif b9 then .val (.int j9) else .unset)] [])
theorem ow (b9:Bool)(H:LVH p l e s m args below meth c T0 Z a0 h0 hM n0 L0 A Ab K Kb D W oM rest v0 v1 3 6 (bZ++[(65,2,[vD 10,vD 11]),(65,2,[vD 7,vD 9]),(65,2,[vD 0,vD 9])]))(S:S7 (ah u 0 (D 6)) (Lq=0) a u Lq Dd M00 M01 M10 M11 (D 3) (D 4))(J:JH M00 M01 M10 M11 J0 J1 R0 R1)(f0:ah J0 7 (D 7))(f1:ah J1 7 (D 9))(KK:nq p l e s m args below meth c Z a0 hM n0 Ab Kb W oM rest v0 v1 J0 J1 Ev):Go p e below Ev T0 (mkF m 158 (dL A D W #[sR 0,sR 1,sR 11,sR 12,sR 13,sI 0,sI 0,sD 7,s2,(bif b9 then sI 0 else sU)]) [.double (D 7),.int 0,.ref (A 13)]):=by
 rcases au f0 H.2.1 with ⟨hz,hc⟩|⟨hz,hc⟩
 ·refine goE (aX (F9 b9) H (by decide) (by decide) ⟨hc,trivial⟩ ?_) rfl
  intro T1 h1 L1 A1 K1 H1
  exact goE (KK T1 h1 L1 A1 K1 _ b9 0 H1 f0 f1) (by cases b9<;>rfl)
 ·refine goE (aX (F_ b9) H (by decide) (by decide) ⟨hc,trivial⟩ ?_) rfl
  intro T1 h1 L1 A1 K1 H1
  exact goE (KK T1 h1 L1 A1 K1 _ true 0 H1 f0 f1) rfl
theorem ox (H:LVH p l e s m args below meth c T0 Z a0 h0 hM n0 L0 A Ab K Kb D W oM rest v0 v1 3 6 (bZ++[(65,2,[vD 10,vD 11]),(65,2,[vD 8,vD 7]),(65,2,[vD 0,vD 7])]))(S:S7 (ah u 0 (D 6)) (Lq=0) a u Lq Dd M00 M01 M10 M11 (D 3) (D 4))(J:JH M00 M01 M10 M11 J0 J1 R0 R1)(f0:ah P0 7 (D 8))(f1:ah J1 7 (D 7))(e1:128*P0=128*J0+Lq*J1)(KK:nq p l e s m args below meth c Z a0 hM n0 Ab Kb W oM rest v0 v1 J0 J1 Ev):Go p e below Ev T0 (mkF m 159 (dL A D W #[sR 0,sR 1,sR 11,sR 12,sR 13,sI 1,sI 1,sD 7,s2,sU]) []):=by
 rcases au f1 H.2.1 with ⟨hz,hc⟩|⟨hz,hc⟩
 ·refine goE (aX (F7) H (by decide) (by decide) ⟨hc,trivial⟩ ?_) rfl
  intro T1 h1 L1 A1 K1 H1
  exact goE (ow (D:=(ac [(D 0),(D 1),(D 2),(D 3),(D 4),(D 5),(D 6),(D 8),(D 8),(D 7),(D 10),(D 11)])) false (H1.re rfl rfl rfl rfl) S J (by rw[show J0=P0 by rw[S.2.2.2.2.2.2.1,Int.zero_mul] at e1;omega];exact f0) f1 KK) rfl
 ·refine goE (aX (F8) H (by decide) (by decide) ⟨hc,trivial⟩ ?_) rfl
  intro T1 h1 L1 A1 K1 H1
  exact goE (ow (D:=(ac [(D 0),(D 1),(D 2),(D 3),(D 4),(D 5),(D 6),(D 8),(D 8),(D 7),(D 10),(D 11)])) true (H1.re rfl rfl rfl rfl) S J (by rw[show J0=P0 by rw[S.2.2.2.2.2.2.1,Int.zero_mul] at e1;omega];exact f0) f1 KK) rfl
theorem oy (b7:Bool)(H:LVH p l e s m args below meth c T0 Z a0 h0 hM n0 L0 A Ab K Kb D W oM rest v0 v1 2 4 (bZ++[(65,2,[vD 10,vD 11]),(65,2,[vD 8,vD 0])]))(S:S7 (ah u 0 (D 6)) (Lq=0) a u Lq Dd M00 M01 M10 M11 (D 3) (D 4))(J:JH M00 M01 M10 M11 J0 J1 R0 R1)(f0:ah P0 7 (D 8))(f1:ah J1 7 (D 7))(e1:128*P0=128*J0+Lq*J1)(KK:nq p l e s m args below meth c Z a0 hM n0 Ab Kb W oM rest v0 v1 J0 J1 Ev):Go p e below Ev T0 (mkF m 51 (dL A D W #[sR 0,sR 1,sR 11,sR 12,sI 1,sD 7,s2,(bif b7 then sI 1 else sU),sU,sU]) [.double (D 7),.int 1,.ref (A 12)]):=by
 rcases au f1 H.2.1 with ⟨hz,hc⟩|⟨hz,hc⟩
 ·refine goE (aX (F5 b7) H (by decide) (by decide) ⟨hc,trivial⟩ ?_) rfl
  intro T1 h1 L1 A1 K1 H1
  exact goE (ox (D:=(ac [(D 0),(D 1),(D 2),(D 3),(D 4),(D 5),(D 6),(D 7),(D 8),(D 9),(D 10),(D 11)])) (H1.re rfl rfl rfl rfl) S J f0 f1 e1 KK) rfl
 ·refine goE (aX (F6 b7) H (by decide) (by decide) ⟨hc,trivial⟩ ?_) rfl
  intro T1 h1 L1 A1 K1 H1
  exact goE (ox (D:=(ac [(D 0),(D 1),(D 2),(D 3),(D 4),(D 5),(D 6),(D 7),(D 8),(D 9),(D 10),(D 11)])) (H1.re rfl rfl rfl rfl) S J f0 f1 e1 KK) rfl
theorem yw (H:LVH p l e s m args below meth c T0 Z a0 h0 hM n0 L0 A Ab K Kb D W oM rest v0 v1 2 4 (bZ++[(65,2,[vD 10,vD 11]),(65,2,[vD 7,vD 0])]))(S:S7 (ah u 0 (D 6)) (Lq=0) a u Lq Dd M00 M01 M10 M11 (D 3) (D 4))(J:JH M00 M01 M10 M11 J0 J1 R0 R1)(fx:ah P0 7 (D 7))(fz:Jvm.FP.Core.DInt R1 (D 11))(bP:-8388608≤P0∧P0≤8388608)(e1:128*P0=128*J0+Lq*J1)(e2:2*(128*R1-u*P0)=Dd*J1)(KK:nq p l e s m args below meth c Z a0 hM n0 Ab Kb W oM rest v0 v1 J0 J1 Ev):Go p e below Ev T0 (mkF m 52 (dL A D W #[sR 0,sR 1,sR 11,sR 12,sI 0,sD 7,s2,sU,sU,sU]) []):=by
 obtain⟨fp,fw⟩:=gO S.2.2.2.2.2.1 fx fz S.2.1 bP J.2.2.2.2.2
 rcases au fx H.2.1 with ⟨hz,hc⟩|⟨hz,hc⟩
 ·have fi:ah (128*R1-u*P0) 7 (D 11):=(by rw[show 128*R1-u*P0=128*R1 by rw[hz,Int.mul_zero];omega];exact aH 7 128 (am.mpr fz) rfl (by omega))
  have f1:=ch fi S.2.2.2.2.2.2.2.1 S.2.2.2.1 e2 J.2.2.2.1
  refine goE (aX (F3) H (by decide) (by decide) ⟨hc,aj f1,trivial⟩ ?_) rfl
  intro T1 h1 L1 A1 K1 H1
  exact goE (oy (D:=(ac [(D 0),(D 1),(D 2),(D 3),(D 4),(D 5),(D 6),(FP.ddiv (D 11) (D 4)),(D 7),(D 9),(D 10),(D 11)])) false (H1.re rfl rfl rfl rfl) S J fx f1 e1 KK) rfl
 ·have fi:ah (128*R1-u*P0) 7 (FP.dsub (D 11) (FP.dmul (D 6) (D 7))):=fw
  have f1:=ch fi S.2.2.2.2.2.2.2.1 S.2.2.2.1 e2 J.2.2.2.1
  refine goE (aX (F4) H (by decide) (by decide) ⟨hc,aj fp,aj fw,aj f1,trivial⟩ ?_) rfl
  intro T1 h1 L1 A1 K1 H1
  exact goE (oy (D:=(ac [(D 0),(D 1),(D 2),(D 3),(D 4),(D 5),(D 6),(FP.ddiv (FP.dsub (D 11) (FP.dmul (D 6) (D 7))) (D 4)),(D 7),(D 9),(D 10),(FP.dsub (D 11) (FP.dmul (D 6) (D 7)))])) true (H1.re rfl rfl rfl rfl) S J fx f1 e1 KK) rfl
theorem yx (H:LVH p l e s m args below meth c T0 Z a0 h0 hM n0 L0 A Ab K Kb D W oM rest v0 v1 0 0 (bZ))(S:S7 (ah u 0 (D 6)) (Lq=0) a u Lq Dd M00 M01 M10 M11 (D 3) (D 4))(J:JH M00 M01 M10 M11 J0 J1 R0 R1)(fv:Jvm.FP.Core.DInt R0 (D 1))(fz:Jvm.FP.Core.DInt R1 (D 2))(KK:nq p l e s m args below meth c Z a0 hM n0 Ab Kb W oM rest v0 v1 J0 J1 Ev):Go p e below Ev T0 (mkF m 0 (dL A D W #[sR 0,sR 1,sU,sU,sU,sU,sU,sU,sU,sU]) []):=by
 obtain⟨P0,fx,bP,e1,e2⟩:=gp S J fv
 refine goE (aX (Ir) H (by decide) (by decide) ⟨aj fx,trivial⟩ ?_) rfl
 intro T1 h1 L1 A1 K1 H1
 exact goE (yw (D:=(ac [(D 0),(D 1),(D 2),(D 3),(D 4),(D 5),(D 6),(FP.ddiv (D 1) (D 3)),(D 8),(D 9),(D 1),(D 2)])) (H1.re rfl rfl rfl rfl) S J fx fz bP e1 e2 KK) rfl
def pX (la:Nat→Addr)(kl:Nat→ClassId)(pv0 pv1 uv:UInt64):List OB:=[(la 0,kl 0,64,2,[.int 0,.int 1]),(la 1,kl 1,64,2,[.int 0,.int 1]),(la 2,kl 2,65,2,[.double pv0,.double pv1]),(la 3,kl 3,64,3,[.int 0,.int 1,.int 1]),(la 4,kl 4,64,2,[.int 1,.int 0]),(la 5,kl 5,65,2,[.double uv,.double 0]),(la 6,kl 6,64,3,[.int 0,.int 0,.int 0]),(la 7,kl 7,64,0,[]),(la 8,kl 8,65,0,[])]
theorem Ga {la:Nat→Addr}{kl:Nat→ClassId}{g:Nat→Value}{pv0 pv1 uv:UInt64}(S:S7 (ah u 0 uv) (Lq=0) a u Lq Dd M00 M01 M10 M11 pv0 pv1):bl l Z n0 M00 M01 M10 M11 (tmL g la) (pX la kl pv0 pv1 uv):=by
 intro p e s m args below meth c T0 a0 Ev h0 A K D J0 J1 i0 i1 cnt er ep es eo ev rest B D0 d0 d1 J YM KK
 have YS:Yf Z n0 h0 (([(A 0,K 0,65,2,[.double (D 1),.double (D 2)]),(A 1,K 1,0,0,[tmL g la 0,tmL g la 1,tmL g la 2,tmL g la 3,tmL g la 4,tmL g la 5,tmL g la 6,tmL g la 7,.ref (A 2),.ref (A 3),.ref (A 4),.ref (A 5),.ref (A 6),tmL g la 8,tmL g la 9,tmL g la 10,tmL g la 11,tmL g la 12,tmL g la 13,tmL g la 14,tmL g la 15,tmL g la 16,tmL g la 17,tmL g la 18,tmL g la 19,tmL g la 20,tmL g la 21,tmL g la 22,.int cnt])]++pX la kl pv0 pv1 uv)++(rest++(ap A K D (tmL g la) 0 (dsE cnt er ep es eo ev)).drop 2)):=by
  have:=Yf.swap (a:=[(A 0,K 0,65,2,[.double (D 1),.double (D 2)]),(A 1,K 1,0,0,[tmL g la 0,tmL g la 1,tmL g la 2,tmL g la 3,tmL g la 4,tmL g la 5,tmL g la 6,tmL g la 7,.ref (A 2),.ref (A 3),.ref (A 4),.ref (A 5),.ref (A 6),tmL g la 8,tmL g la 9,tmL g la 10,tmL g la 11,tmL g la 12,tmL g la 13,tmL g la 14,tmL g la 15,tmL g la 16,tmL g la 17,tmL g la 18,tmL g la 19,tmL g la 20,tmL g la 21,tmL g la 22,.int cnt])]) (b:=(ap A K D (tmL g la) 0 (dsE cnt er ep es eo ev)).drop 2) (c:=pX la kl pv0 pv1 uv++rest) YM
  exact this
 refine goE (yx (A:=ttA A la) (Ab:=ttA A la) (K:=ttK K kl) (Kb:=ttK K kl) (D:=(ac [0,D 1,D 2,pv0,pv1,0,uv,0,0,0,0,0])) (W:=(ttW A cnt g)) (hM:=h0) (v0:=D 1) (v1:=D 2) (M00:=M00) (M01:=M01) (M10:=M10) (M11:=M11) (J0:=J0) (J1:=J1) (R0:=i0) (R1:=i1) ⟨B,rfl,Yf.to (Yf.pick (os':=ap (ttA A la) (ttK K kl) (ac [0,D 1,D 2,pv0,pv1,0,uv,0,0,0,0,0]) (ttW A cnt g) 0 bZ) YS [1,0,2,3,4,5,6,7,8,9,10] (by decide) rfl) rfl,YS,Keep.refl _ _,fun i hi=>?_,fun i _=>⟨rfl,rfl⟩,rfl,rfl⟩ S ?_ d0 d1 ?_) rfl
 ·exact match i,hi with
   | 0,_=>Or.inl (show A 1∈[A 0,A 1,la 0,la 1,la 2,la 3,la 4,la 5,la 6,la 7,la 8] by simp)
   | 1,_=>Or.inl (show A 0∈[A 0,A 1,la 0,la 1,la 2,la 3,la 4,la 5,la 6,la 7,la 8] by simp)
   | 2,_=>Or.inl (show la 0∈[A 0,A 1,la 0,la 1,la 2,la 3,la 4,la 5,la 6,la 7,la 8] by simp)
   | 3,_=>Or.inl (show la 1∈[A 0,A 1,la 0,la 1,la 2,la 3,la 4,la 5,la 6,la 7,la 8] by simp)
   | 4,_=>Or.inl (show la 2∈[A 0,A 1,la 0,la 1,la 2,la 3,la 4,la 5,la 6,la 7,la 8] by simp)
   | 5,_=>Or.inl (show la 3∈[A 0,A 1,la 0,la 1,la 2,la 3,la 4,la 5,la 6,la 7,la 8] by simp)
   | 6,_=>Or.inl (show la 4∈[A 0,A 1,la 0,la 1,la 2,la 3,la 4,la 5,la 6,la 7,la 8] by simp)
   | 7,_=>Or.inl (show la 5∈[A 0,A 1,la 0,la 1,la 2,la 3,la 4,la 5,la 6,la 7,la 8] by simp)
   | 8,_=>Or.inl (show la 6∈[A 0,A 1,la 0,la 1,la 2,la 3,la 4,la 5,la 6,la 7,la 8] by simp)
   | 9,_=>Or.inl (show la 7∈[A 0,A 1,la 0,la 1,la 2,la 3,la 4,la 5,la 6,la 7,la 8] by simp)
   | 10,_=>Or.inl (show la 8∈[A 0,A 1,la 0,la 1,la 2,la 3,la 4,la 5,la 6,la 7,la 8] by simp)
 ·obtain⟨j0,j1,j2,j3,j4,j5⟩:=J
  exact⟨by omega,by omega,by omega,by omega,by omega,by omega⟩
 ·intro T1 h1 L1 A1 K1 D1 b9 j9 H1 f0 f1
  have YE:=rH H1 rfl rfl rfl rfl rfl (by decide)
  have YF:=Yf.swap (a:=[(A1 13,K1 13,65,2,[.double (D1 7),.double (D1 9)]),(A1 11,K1 11,65,2,[.double (D1 10),.double (D1 11)]),(A1 12,K1 12,65,2,[.double (D1 7),.double (D1 9)]),(A 0,K 0,65,2,[.double (D 1),.double (D 2)]),(A 1,K 1,0,0,[tmL g la 0,tmL g la 1,tmL g la 2,tmL g la 3,tmL g la 4,tmL g la 5,tmL g la 6,tmL g la 7,.ref (A 2),.ref (A 3),.ref (A 4),.ref (A 5),.ref (A 6),tmL g la 8,tmL g la 9,tmL g la 10,tmL g la 11,tmL g la 12,tmL g la 13,tmL g la 14,tmL g la 15,tmL g la 16,tmL g la 17,tmL g la 18,tmL g la 19,tmL g la 20,tmL g la 21,tmL g la 22,.int cnt])]) (b:=rest) (c:=(ap A K D (tmL g la) 0 (dsE cnt er ep es eo ev)).drop 2) YE
  have a0:=(H1.2.2.2.2.2.2.1 0 (by decide)).1
  have a1:=(H1.2.2.2.2.2.2.1 1 (by decide)).1
  have G:=KK T1 h1 L1 (A1 13) (A1 11) (A1 12) (K1 13) (K1 11) (K1 12) _ _ (D1 7) _ _ _ _ 0 j9 b9 H1.1 YF f0 f1
  rw[a0,a1]
  exact G
def b8:List AD:=[rI,aL,za4,za9,fe,dU,az,aD [6,0],bv,za8,eH]
theorem Is:ai (run (ak 32) ae 10 (1,3,6,14) 52 32 [] [] (0,#[sR 0,sR 1,sU,sU,sU,sU,sU,sU,sU,sU],[],b8,12,0,0)) (52,#[sR 0,sR 1,sR 11,sR 12,sI 0,sD 12,s2,sU,sU,sU],[],b8++[aL,lB],13,2,4) [i7]=true:=by decide +kernel
theorem Gb:ai (run (ak 32) ae 10 (1,3,6,14) 51 26 [] [0] (52,#[sR 0,sR 1,sR 11,sR 12,sI 0,sD 7,s2,sU,sU,sU],[],b8++[za6,dK],12,2,4)) (51,#[sR 0,sR 1,sR 11,sR 12,sI 1,sD 12,s2,sU,sU,sU],i6,b8++[za6,dK],13,2,4) [d7,(3,10,4,0)]=true:=by decide +kernel
theorem Gc:ai (run (ak 32) ae 10 (1,3,6,14) 51 64 [] [1] (52,#[sR 0,sR 1,sR 11,sR 12,sI 0,sD 7,s2,sU,sU,sU],[],b8++[za6,dK],12,2,4)) (51,#[sR 0,sR 1,sR 11,sR 12,sI 1,sD 14,s2,sI 1,sU,sU],ol,b8++[aD [13,11],dK],15,2,4) [eM,(2,6,7,0),(1,10,12,0),(3,13,4,0)]=true:=by decide +kernel
theorem Gd:∀b7:Bool,ai (run (ak 32) ae 10 (1,3,6,14) 159 36 [] [0] (51,#[sR 0,sR 1,sR 11,sR 12,sI 1,sD 7,s2,(bif b7 then sI 1 else sU),sU,sU],fO,b8++[za6,fP],12,2,4)) (159,#[sR 0,sR 1,sR 11,sR 12,sR 13,sI 1,sI 1,sD 7,s2,sU],[],b8++dG,12,3,6) [d7]=true:=by decide +kernel
theorem Ge:∀b7:Bool,ai (run (ak 32) ae 10 (1,3,6,14) 159 49 [] [1] (51,#[sR 0,sR 1,sR 11,sR 12,sI 1,sD 7,s2,(bif b7 then sI 1 else sU),sU,sU],fO,b8++[za6,fP],12,2,4)) (159,#[sR 0,sR 1,sR 11,sR 12,sR 13,sI 1,sI 1,sD 7,s2,sU],[],b8++dG,12,3,6) [eM]=true:=by decide +kernel
theorem Gf:ai (run (ak 32) ae 10 (1,3,6,14) 158 21 [] [0] (159,#[sR 0,sR 1,sR 11,sR 12,sR 13,sI 1,sI 1,sD 7,s2,sU],[],b8++dG,12,3,6)) (158,#[sR 0,sR 1,sR 11,sR 12,sR 13,sI 0,sI 0,sD 8,s2,sU],nn,b8++dG,12,3,6) [d7]=true:=by decide +kernel
theorem Gg:ai (run (ak 32) ae 10 (1,3,6,14) 158 34 [] [1] (159,#[sR 0,sR 1,sR 11,sR 12,sR 13,sI 1,sI 1,sD 7,s2,sU],[],b8++dG,12,3,6)) (158,#[sR 0,sR 1,sR 11,sR 12,sR 13,sI 0,sI 0,sD 8,s2,sI 0],nn,b8++dG,12,3,6) [eM]=true:=by decide +kernel
theorem Gh:∀b9:Bool,ai (run (ak 32) ae 10 (1,3,6,14) 226 12 [] [0] (158,#[sR 0,sR 1,sR 11,sR 12,sR 13,sI 0,sI 0,sD 7,s2,(bif b9 then sI 0 else sU)],lG,b8++lH,12,3,6)) (226,#[sR 0,sR 1,sR 11,sR 12,sR 13,sI 0,sI 0,sD 7,s2,(bif b9 then sI 0 else sU)],[],b8++lI,12,3,6) [d7]=true:=by decide +kernel
theorem Gi:∀b9:Bool,ai (run (ak 32) ae 10 (1,3,6,14) 226 25 [] [1] (158,#[sR 0,sR 1,sR 11,sR 12,sR 13,sI 0,sI 0,sD 7,s2,(bif b9 then sI 0 else sU)],lG,b8++lH,12,3,6)) (226,#[sR 0,sR 1,sR 11,sR 12,sR 13,sI 0,sI 0,sD 7,s2,sI 0],[],b8++lI,12,3,6) [eM]=true:=by decide +kernel
def nr (p:Program)(l:Launch)(e:Env)(s:State)(m:MethodId)(args:Array Value)(below:List Frame)(meth:Method)(c:Code)(Z:State)(a0:Array Value)(hM:Heap)(n0:Nat)(Ab:Nat→Addr)(Kb:Nat→ClassId)(W:Nat→Value)(oM rest:List OB)(v0 v1:UInt64)(J0 J1:Int)(Ev:State→Outcome→Prop):Prop:=∀(T1:State)(h1:Heap)(L1:List Loc)(A1:Nat→Addr)(K1:Nat→ClassId)(D1:Nat→UInt64)(b9:Bool)(j9:Int32),LVH p l e s m args below meth c T1 Z a0 h1 hM n0 L1 A1 Ab K1 Kb D1 W oM rest v0 v1 3 6 (b8++[(65,2,[vD 10,vD 11]),(65,2,[vD 7,vD 9]),(65,2,[vD 7,vD 9])])→ah J0 7 (D1 7)→ah J1 7 (D1 9)→Go p e below Ev T1 (mkF m 226 #[.val (.ref (A1 0)),.val (.ref (A1 1)),.val (.ref (A1 11)),.val (.ref (A1 12)),.val (.ref (A1 13)),.val (.int 0),.val (.int 0),.val (.double (D1 7)),.second,(bif b9 then .val (.int j9) else .unset)] [])
theorem oz (b9:Bool)(H:LVH p l e s m args below meth c T0 Z a0 h0 hM n0 L0 A Ab K Kb D W oM rest v0 v1 3 6 (b8++[(65,2,[vD 10,vD 11]),(65,2,[vD 7,vD 9]),(65,2,[vD 0,vD 9])]))(S:S7 (ah u 0 (D 6)) (Lq=0) a u Lq Dd M01 M00 M11 M10 (D 3) (D 4))(J:JH M01 M00 M11 M10 J0 J1 R0 R1)(f0:ah J0 7 (D 7))(f1:ah J1 7 (D 9))(KK:nr p l e s m args below meth c Z a0 hM n0 Ab Kb W oM rest v0 v1 J0 J1 Ev):Go p e below Ev T0 (mkF m 158 (dL A D W #[sR 0,sR 1,sR 11,sR 12,sR 13,sI 0,sI 0,sD 7,s2,(bif b9 then sI 0 else sU)]) [.double (D 7),.int 0,.ref (A 13)]):=by
 rcases au f0 H.2.1 with ⟨hz,hc⟩|⟨hz,hc⟩
 ·refine goE (aX (Gh b9) H (by decide) (by decide) ⟨hc,trivial⟩ ?_) rfl
  intro T1 h1 L1 A1 K1 H1
  exact goE (KK T1 h1 L1 A1 K1 _ b9 0 H1 f0 f1) (by cases b9<;>rfl)
 ·refine goE (aX (Gi b9) H (by decide) (by decide) ⟨hc,trivial⟩ ?_) rfl
  intro T1 h1 L1 A1 K1 H1
  exact goE (KK T1 h1 L1 A1 K1 _ true 0 H1 f0 f1) rfl
theorem oA (H:LVH p l e s m args below meth c T0 Z a0 h0 hM n0 L0 A Ab K Kb D W oM rest v0 v1 3 6 (b8++[(65,2,[vD 10,vD 11]),(65,2,[vD 8,vD 7]),(65,2,[vD 0,vD 7])]))(S:S7 (ah u 0 (D 6)) (Lq=0) a u Lq Dd M01 M00 M11 M10 (D 3) (D 4))(J:JH M01 M00 M11 M10 J0 J1 R0 R1)(f0:ah P0 7 (D 8))(f1:ah J1 7 (D 7))(e1:128*P0=128*J0+Lq*J1)(KK:nr p l e s m args below meth c Z a0 hM n0 Ab Kb W oM rest v0 v1 J0 J1 Ev):Go p e below Ev T0 (mkF m 159 (dL A D W #[sR 0,sR 1,sR 11,sR 12,sR 13,sI 1,sI 1,sD 7,s2,sU]) []):=by
 rcases au f1 H.2.1 with ⟨hz,hc⟩|⟨hz,hc⟩
 ·refine goE (aX (Gf) H (by decide) (by decide) ⟨hc,trivial⟩ ?_) rfl
  intro T1 h1 L1 A1 K1 H1
  exact goE (oz (D:=(ac [(D 0),(D 1),(D 2),(D 3),(D 4),(D 5),(D 6),(D 8),(D 8),(D 7),(D 10),(D 11)])) false (H1.re rfl rfl rfl rfl) S J (by rw[show J0=P0 by rw[S.2.2.2.2.2.2.1,Int.zero_mul] at e1;omega];exact f0) f1 KK) rfl
 ·refine goE (aX (Gg) H (by decide) (by decide) ⟨hc,trivial⟩ ?_) rfl
  intro T1 h1 L1 A1 K1 H1
  exact goE (oz (D:=(ac [(D 0),(D 1),(D 2),(D 3),(D 4),(D 5),(D 6),(D 8),(D 8),(D 7),(D 10),(D 11)])) true (H1.re rfl rfl rfl rfl) S J (by rw[show J0=P0 by rw[S.2.2.2.2.2.2.1,Int.zero_mul] at e1;omega];exact f0) f1 KK) rfl
theorem oB (b7:Bool)(H:LVH p l e s m args below meth c T0 Z a0 h0 hM n0 L0 A Ab K Kb D W oM rest v0 v1 2 4 (b8++[(65,2,[vD 10,vD 11]),(65,2,[vD 8,vD 0])]))(S:S7 (ah u 0 (D 6)) (Lq=0) a u Lq Dd M01 M00 M11 M10 (D 3) (D 4))(J:JH M01 M00 M11 M10 J0 J1 R0 R1)(f0:ah P0 7 (D 8))(f1:ah J1 7 (D 7))(e1:128*P0=128*J0+Lq*J1)(KK:nr p l e s m args below meth c Z a0 hM n0 Ab Kb W oM rest v0 v1 J0 J1 Ev):Go p e below Ev T0 (mkF m 51 (dL A D W #[sR 0,sR 1,sR 11,sR 12,sI 1,sD 7,s2,(bif b7 then sI 1 else sU),sU,sU]) [.double (D 7),.int 1,.ref (A 12)]):=by
 rcases au f1 H.2.1 with ⟨hz,hc⟩|⟨hz,hc⟩
 ·refine goE (aX (Gd b7) H (by decide) (by decide) ⟨hc,trivial⟩ ?_) rfl
  intro T1 h1 L1 A1 K1 H1
  exact goE (oA (D:=(ac [(D 0),(D 1),(D 2),(D 3),(D 4),(D 5),(D 6),(D 7),(D 8),(D 9),(D 10),(D 11)])) (H1.re rfl rfl rfl rfl) S J f0 f1 e1 KK) rfl
 ·refine goE (aX (Ge b7) H (by decide) (by decide) ⟨hc,trivial⟩ ?_) rfl
  intro T1 h1 L1 A1 K1 H1
  exact goE (oA (D:=(ac [(D 0),(D 1),(D 2),(D 3),(D 4),(D 5),(D 6),(D 7),(D 8),(D 9),(D 10),(D 11)])) (H1.re rfl rfl rfl rfl) S J f0 f1 e1 KK) rfl
theorem yy (H:LVH p l e s m args below meth c T0 Z a0 h0 hM n0 L0 A Ab K Kb D W oM rest v0 v1 2 4 (b8++[(65,2,[vD 10,vD 11]),(65,2,[vD 7,vD 0])]))(S:S7 (ah u 0 (D 6)) (Lq=0) a u Lq Dd M01 M00 M11 M10 (D 3) (D 4))(J:JH M01 M00 M11 M10 J0 J1 R0 R1)(fx:ah P0 7 (D 7))(fz:Jvm.FP.Core.DInt R1 (D 10))(bP:-8388608≤P0∧P0≤8388608)(e1:128*P0=128*J0+Lq*J1)(e2:2*(128*R1-u*P0)=Dd*J1)(KK:nr p l e s m args below meth c Z a0 hM n0 Ab Kb W oM rest v0 v1 J0 J1 Ev):Go p e below Ev T0 (mkF m 52 (dL A D W #[sR 0,sR 1,sR 11,sR 12,sI 0,sD 7,s2,sU,sU,sU]) []):=by
 obtain⟨fp,fw⟩:=gO S.2.2.2.2.2.1 fx fz S.2.1 bP J.2.2.2.2.2
 rcases au fx H.2.1 with ⟨hz,hc⟩|⟨hz,hc⟩
 ·have fi:ah (128*R1-u*P0) 7 (D 10):=(by rw[show 128*R1-u*P0=128*R1 by rw[hz,Int.mul_zero];omega];exact aH 7 128 (am.mpr fz) rfl (by omega))
  have f1:=ch fi S.2.2.2.2.2.2.2.1 S.2.2.2.1 e2 J.2.2.2.1
  refine goE (aX (Gb) H (by decide) (by decide) ⟨hc,aj f1,trivial⟩ ?_) rfl
  intro T1 h1 L1 A1 K1 H1
  exact goE (oB (D:=(ac [(D 0),(D 1),(D 2),(D 3),(D 4),(D 5),(D 6),(FP.ddiv (D 10) (D 4)),(D 7),(D 9),(D 10),(D 11)])) false (H1.re rfl rfl rfl rfl) S J fx f1 e1 KK) rfl
 ·have fi:ah (128*R1-u*P0) 7 (FP.dsub (D 10) (FP.dmul (D 6) (D 7))):=fw
  have f1:=ch fi S.2.2.2.2.2.2.2.1 S.2.2.2.1 e2 J.2.2.2.1
  refine goE (aX (Gc) H (by decide) (by decide) ⟨hc,aj fp,aj fw,aj f1,trivial⟩ ?_) rfl
  intro T1 h1 L1 A1 K1 H1
  exact goE (oB (D:=(ac [(D 0),(D 1),(D 2),(D 3),(D 4),(D 5),(D 6),(FP.ddiv (FP.dsub (D 10) (FP.dmul (D 6) (D 7))) (D 4)),(D 7),(D 9),(FP.dsub (D 10) (FP.dmul (D 6) (D 7))),(D 11)])) true (H1.re rfl rfl rfl rfl) S J fx f1 e1 KK) rfl
theorem yz (H:LVH p l e s m args below meth c T0 Z a0 h0 hM n0 L0 A Ab K Kb D W oM rest v0 v1 0 0 (b8))(S:S7 (ah u 0 (D 6)) (Lq=0) a u Lq Dd M01 M00 M11 M10 (D 3) (D 4))(J:JH M01 M00 M11 M10 J0 J1 R0 R1)(fv:Jvm.FP.Core.DInt R0 (D 2))(fz:Jvm.FP.Core.DInt R1 (D 1))(KK:nr p l e s m args below meth c Z a0 hM n0 Ab Kb W oM rest v0 v1 J0 J1 Ev):Go p e below Ev T0 (mkF m 0 (dL A D W #[sR 0,sR 1,sU,sU,sU,sU,sU,sU,sU,sU]) []):=by
 obtain⟨P0,fx,bP,e1,e2⟩:=gp S J fv
 refine goE (aX (Is) H (by decide) (by decide) ⟨aj fx,trivial⟩ ?_) rfl
 intro T1 h1 L1 A1 K1 H1
 exact goE (yy (D:=(ac [(D 0),(D 1),(D 2),(D 3),(D 4),(D 5),(D 6),(FP.ddiv (D 2) (D 3)),(D 8),(D 9),(D 1),(D 2)])) (H1.re rfl rfl rfl rfl) S J fx fz bP e1 e2 KK) rfl
def pY (la:Nat→Addr)(kl:Nat→ClassId)(pv0 pv1 uv:UInt64):List OB:=[(la 0,kl 0,64,2,[.int 0,.int 1]),(la 1,kl 1,64,2,[.int 1,.int 0]),(la 2,kl 2,65,2,[.double pv0,.double pv1]),(la 3,kl 3,64,3,[.int 0,.int 1,.int 1]),(la 4,kl 4,64,2,[.int 0,.int 0]),(la 5,kl 5,65,2,[.double uv,.double 0]),(la 6,kl 6,64,3,[.int 0,.int 0,.int 0]),(la 7,kl 7,64,0,[]),(la 8,kl 8,65,0,[])]
theorem Gj {la:Nat→Addr}{kl:Nat→ClassId}{g:Nat→Value}{pv0 pv1 uv:UInt64}(S:S7 (ah u 0 uv) (Lq=0) a u Lq Dd M01 M00 M11 M10 pv0 pv1):bl l Z n0 M00 M01 M10 M11 (tmL g la) (pY la kl pv0 pv1 uv):=by
 intro p e s m args below meth c T0 a0 Ev h0 A K D J0 J1 i0 i1 cnt er ep es eo ev rest B D0 d0 d1 J YM KK
 have YS:Yf Z n0 h0 (([(A 0,K 0,65,2,[.double (D 1),.double (D 2)]),(A 1,K 1,0,0,[tmL g la 0,tmL g la 1,tmL g la 2,tmL g la 3,tmL g la 4,tmL g la 5,tmL g la 6,tmL g la 7,.ref (A 2),.ref (A 3),.ref (A 4),.ref (A 5),.ref (A 6),tmL g la 8,tmL g la 9,tmL g la 10,tmL g la 11,tmL g la 12,tmL g la 13,tmL g la 14,tmL g la 15,tmL g la 16,tmL g la 17,tmL g la 18,tmL g la 19,tmL g la 20,tmL g la 21,tmL g la 22,.int cnt])]++pY la kl pv0 pv1 uv)++(rest++(ap A K D (tmL g la) 0 (dsE cnt er ep es eo ev)).drop 2)):=by
  have:=Yf.swap (a:=[(A 0,K 0,65,2,[.double (D 1),.double (D 2)]),(A 1,K 1,0,0,[tmL g la 0,tmL g la 1,tmL g la 2,tmL g la 3,tmL g la 4,tmL g la 5,tmL g la 6,tmL g la 7,.ref (A 2),.ref (A 3),.ref (A 4),.ref (A 5),.ref (A 6),tmL g la 8,tmL g la 9,tmL g la 10,tmL g la 11,tmL g la 12,tmL g la 13,tmL g la 14,tmL g la 15,tmL g la 16,tmL g la 17,tmL g la 18,tmL g la 19,tmL g la 20,tmL g la 21,tmL g la 22,.int cnt])]) (b:=(ap A K D (tmL g la) 0 (dsE cnt er ep es eo ev)).drop 2) (c:=pY la kl pv0 pv1 uv++rest) YM
  exact this
 refine goE (yz (A:=ttA A la) (Ab:=ttA A la) (K:=ttK K kl) (Kb:=ttK K kl) (D:=(ac [0,D 1,D 2,pv0,pv1,0,uv,0,0,0,0,0])) (W:=(ttW A cnt g)) (hM:=h0) (v0:=D 1) (v1:=D 2) (M00:=M00) (M01:=M01) (M10:=M10) (M11:=M11) (J0:=J0) (J1:=J1) (R0:=i1) (R1:=i0) ⟨B,rfl,Yf.to (Yf.pick (os':=ap (ttA A la) (ttK K kl) (ac [0,D 1,D 2,pv0,pv1,0,uv,0,0,0,0,0]) (ttW A cnt g) 0 b8) YS [1,0,2,3,4,5,6,7,8,9,10] (by decide) rfl) rfl,YS,Keep.refl _ _,fun i hi=>?_,fun i _=>⟨rfl,rfl⟩,rfl,rfl⟩ S ?_ d1 d0 ?_) rfl
 ·exact match i,hi with
   | 0,_=>Or.inl (show A 1∈[A 0,A 1,la 0,la 1,la 2,la 3,la 4,la 5,la 6,la 7,la 8] by simp)
   | 1,_=>Or.inl (show A 0∈[A 0,A 1,la 0,la 1,la 2,la 3,la 4,la 5,la 6,la 7,la 8] by simp)
   | 2,_=>Or.inl (show la 0∈[A 0,A 1,la 0,la 1,la 2,la 3,la 4,la 5,la 6,la 7,la 8] by simp)
   | 3,_=>Or.inl (show la 1∈[A 0,A 1,la 0,la 1,la 2,la 3,la 4,la 5,la 6,la 7,la 8] by simp)
   | 4,_=>Or.inl (show la 2∈[A 0,A 1,la 0,la 1,la 2,la 3,la 4,la 5,la 6,la 7,la 8] by simp)
   | 5,_=>Or.inl (show la 3∈[A 0,A 1,la 0,la 1,la 2,la 3,la 4,la 5,la 6,la 7,la 8] by simp)
   | 6,_=>Or.inl (show la 4∈[A 0,A 1,la 0,la 1,la 2,la 3,la 4,la 5,la 6,la 7,la 8] by simp)
   | 7,_=>Or.inl (show la 5∈[A 0,A 1,la 0,la 1,la 2,la 3,la 4,la 5,la 6,la 7,la 8] by simp)
   | 8,_=>Or.inl (show la 6∈[A 0,A 1,la 0,la 1,la 2,la 3,la 4,la 5,la 6,la 7,la 8] by simp)
   | 9,_=>Or.inl (show la 7∈[A 0,A 1,la 0,la 1,la 2,la 3,la 4,la 5,la 6,la 7,la 8] by simp)
   | 10,_=>Or.inl (show la 8∈[A 0,A 1,la 0,la 1,la 2,la 3,la 4,la 5,la 6,la 7,la 8] by simp)
 ·obtain⟨j0,j1,j2,j3,j4,j5⟩:=J
  exact⟨by omega,by omega,by omega,by omega,by omega,by omega⟩
 ·intro T1 h1 L1 A1 K1 D1 b9 j9 H1 f0 f1
  have YE:=rH H1 rfl rfl rfl rfl rfl (by decide)
  have YF:=Yf.swap (a:=[(A1 13,K1 13,65,2,[.double (D1 7),.double (D1 9)]),(A1 11,K1 11,65,2,[.double (D1 10),.double (D1 11)]),(A1 12,K1 12,65,2,[.double (D1 7),.double (D1 9)]),(A 0,K 0,65,2,[.double (D 1),.double (D 2)]),(A 1,K 1,0,0,[tmL g la 0,tmL g la 1,tmL g la 2,tmL g la 3,tmL g la 4,tmL g la 5,tmL g la 6,tmL g la 7,.ref (A 2),.ref (A 3),.ref (A 4),.ref (A 5),.ref (A 6),tmL g la 8,tmL g la 9,tmL g la 10,tmL g la 11,tmL g la 12,tmL g la 13,tmL g la 14,tmL g la 15,tmL g la 16,tmL g la 17,tmL g la 18,tmL g la 19,tmL g la 20,tmL g la 21,tmL g la 22,.int cnt])]) (b:=rest) (c:=(ap A K D (tmL g la) 0 (dsE cnt er ep es eo ev)).drop 2) YE
  have a0:=(H1.2.2.2.2.2.2.1 0 (by decide)).1
  have a1:=(H1.2.2.2.2.2.2.1 1 (by decide)).1
  have G:=KK T1 h1 L1 (A1 13) (A1 11) (A1 12) (K1 13) (K1 11) (K1 12) _ _ (D1 7) _ _ _ _ 0 j9 b9 H1.1 YF f0 f1
  rw[a0,a1]
  exact G
def iw:AD:=aI [0,0,1]
def bg:List AD:=[rI,aL,za4,za4,fe,dU,za9,aD [6,0],iw,az,aD [5,0]]
theorem Gk:ai (run (ak 32) ae 10 (1,3,6,14) 52 32 [] [] (0,#[sR 0,sR 1,sU,sU,sU,sU,sU,sU,sU,sU],[],bg,12,0,0)) (52,#[sR 0,sR 1,sR 11,sR 12,sI 0,sD 12,s2,sU,sU,sU],[],bg++[aL,lB],13,2,4) [fN]=true:=by decide +kernel
theorem yA:ai (run (ak 32) ae 10 (1,3,6,14) 51 26 [] [0] (52,#[sR 0,sR 1,sR 11,sR 12,sI 0,sD 7,s2,sU,sU,sU],[],bg++[za6,dK],12,2,4)) (51,#[sR 0,sR 1,sR 11,sR 12,sI 1,sD 12,s2,sU,sU,sU],i6,bg++[za6,dK],13,2,4) [d7,lC]=true:=by decide +kernel
theorem yB:ai (run (ak 32) ae 10 (1,3,6,14) 51 64 [] [1] (52,#[sR 0,sR 1,sR 11,sR 12,sI 0,sD 7,s2,sU,sU,sU],[],bg++[za6,dK],12,2,4)) (51,#[sR 0,sR 1,sR 11,sR 12,sI 1,sD 14,s2,sI 1,sU,sU],ol,bg++[aD [10,13],dK],15,2,4) wI=true:=by decide +kernel
theorem yC:∀b7:Bool,ai (run (ak 32) ae 10 (1,3,6,14) 159 36 [] [0] (51,#[sR 0,sR 1,sR 11,sR 12,sI 1,sD 7,s2,(bif b7 then sI 1 else sU),sU,sU],fO,bg++[za6,fP],12,2,4)) (159,#[sR 0,sR 1,sR 11,sR 12,sR 13,sI 1,sI 1,sD 7,s2,sU],[],bg++dG,12,3,6) [d7]=true:=by decide +kernel
theorem yD:∀b7:Bool,ai (run (ak 32) ae 10 (1,3,6,14) 159 49 [] [1] (51,#[sR 0,sR 1,sR 11,sR 12,sI 1,sD 7,s2,(bif b7 then sI 1 else sU),sU,sU],fO,bg++[za6,fP],12,2,4)) (159,#[sR 0,sR 1,sR 11,sR 12,sR 13,sI 1,sI 1,sD 7,s2,sU],[],bg++dG,12,3,6) [eM]=true:=by decide +kernel
theorem yE:ai (run (ak 32) ae 10 (1,3,6,14) 158 21 [] [0] (159,#[sR 0,sR 1,sR 11,sR 12,sR 13,sI 1,sI 1,sD 7,s2,sU],[],bg++dG,12,3,6)) (158,#[sR 0,sR 1,sR 11,sR 12,sR 13,sI 0,sI 0,sD 8,s2,sU],nn,bg++dG,12,3,6) [d7]=true:=by decide +kernel
theorem yF:ai (run (ak 32) ae 10 (1,3,6,14) 158 59 [] [1] (159,#[sR 0,sR 1,sR 11,sR 12,sR 13,sI 1,sI 1,sD 7,s2,sU],[],bg++dG,12,3,6)) (158,#[sR 0,sR 1,sR 11,sR 12,sR 13,sI 0,sI 0,sD 13,s2,sI 1],[vD 13,zq0,d4],bg++[za6,aD [13,7],MV],14,3,6) [eM,(2,5,7,0),(1,8,12,0)]=true:=by decide +kernel
theorem yG:∀b9:Bool,ai (run (ak 32) ae 10 (1,3,6,14) 226 12 [] [0] (158,#[sR 0,sR 1,sR 11,sR 12,sR 13,sI 0,sI 0,sD 7,s2,(bif b9 then sI 1 else sU)],lG,bg++lH,12,3,6)) (226,#[sR 0,sR 1,sR 11,sR 12,sR 13,sI 0,sI 0,sD 7,s2,(bif b9 then sI 1 else sU)],[],bg++lI,12,3,6) [d7]=true:=by decide +kernel
theorem yH:∀b9:Bool,ai (run (ak 32) ae 10 (1,3,6,14) 226 25 [] [1] (158,#[sR 0,sR 1,sR 11,sR 12,sR 13,sI 0,sI 0,sD 7,s2,(bif b9 then sI 1 else sU)],lG,bg++lH,12,3,6)) (226,#[sR 0,sR 1,sR 11,sR 12,sR 13,sI 0,sI 0,sD 7,s2,sI 0],[],bg++lI,12,3,6) [eM]=true:=by decide +kernel
def jO (p:Program)(l:Launch)(e:Env)(s:State)(m:MethodId)(args:Array Value)(below:List Frame)(meth:Method)(c:Code)(Z:State)(a0:Array Value)(hM:Heap)(n0:Nat)(Ab:Nat→Addr)(Kb:Nat→ClassId)(W:Nat→Value)(oM rest:List OB)(v0 v1:UInt64)(J0 J1:Int)(Ev:State→Outcome→Prop):Prop:=∀(T1:State)(h1:Heap)(L1:List Loc)(A1:Nat→Addr)(K1:Nat→ClassId)(D1:Nat→UInt64)(b9:Bool)(j9:Int32),LVH p l e s m args below meth c T1 Z a0 h1 hM n0 L1 A1 Ab K1 Kb D1 W oM rest v0 v1 3 6 (bg++[(65,2,[vD 10,vD 11]),(65,2,[vD 7,vD 9]),(65,2,[vD 7,vD 9])])→ah J0 7 (D1 7)→ah J1 7 (D1 9)→Go p e below Ev T1 (mkF m 226 #[.val (.ref (A1 0)),.val (.ref (A1 1)),.val (.ref (A1 11)),.val (.ref (A1 12)),.val (.ref (A1 13)),.val (.int 0),.val (.int 0),.val (.double (D1 7)),.second,(bif b9 then .val (.int j9) else .unset)] [])
theorem ns (b9:Bool)(H:LVH p l e s m args below meth c T0 Z a0 h0 hM n0 L0 A Ab K Kb D W oM rest v0 v1 3 6 (bg++[(65,2,[vD 10,vD 11]),(65,2,[vD 7,vD 9]),(65,2,[vD 0,vD 9])]))(S:S7 (ah u 0 (D 6)) (ah Lq 7 (D 5)) a u Lq Dd M00 M01 M10 M11 (D 3) (D 4))(J:JH M00 M01 M10 M11 J0 J1 R0 R1)(f0:ah J0 7 (D 7))(f1:ah J1 7 (D 9))(KK:jO p l e s m args below meth c Z a0 hM n0 Ab Kb W oM rest v0 v1 J0 J1 Ev):Go p e below Ev T0 (mkF m 158 (dL A D W #[sR 0,sR 1,sR 11,sR 12,sR 13,sI 0,sI 0,sD 7,s2,(bif b9 then sI 1 else sU)]) [.double (D 7),.int 0,.ref (A 13)]):=by
 rcases au f0 H.2.1 with ⟨hz,hc⟩|⟨hz,hc⟩
 ·refine goE (aX (yG b9) H (by decide) (by decide) ⟨hc,trivial⟩ ?_) rfl
  intro T1 h1 L1 A1 K1 H1
  exact goE (KK T1 h1 L1 A1 K1 _ b9 1 H1 f0 f1) (by cases b9<;>rfl)
 ·refine goE (aX (yH b9) H (by decide) (by decide) ⟨hc,trivial⟩ ?_) rfl
  intro T1 h1 L1 A1 K1 H1
  exact goE (KK T1 h1 L1 A1 K1 _ true 0 H1 f0 f1) rfl
theorem nu (H:LVH p l e s m args below meth c T0 Z a0 h0 hM n0 L0 A Ab K Kb D W oM rest v0 v1 3 6 (bg++[(65,2,[vD 10,vD 11]),(65,2,[vD 8,vD 7]),(65,2,[vD 0,vD 7])]))(S:S7 (ah u 0 (D 6)) (ah Lq 7 (D 5)) a u Lq Dd M00 M01 M10 M11 (D 3) (D 4))(J:JH M00 M01 M10 M11 J0 J1 R0 R1)(f0:ah P0 7 (D 8))(f1:ah J1 7 (D 7))(e1:128*P0=128*J0+Lq*J1)(KK:jO p l e s m args below meth c Z a0 hM n0 Ab Kb W oM rest v0 v1 J0 J1 Ev):Go p e below Ev T0 (mkF m 159 (dL A D W #[sR 0,sR 1,sR 11,sR 12,sR 13,sI 1,sI 1,sD 7,s2,sU]) []):=by
 obtain⟨fp,fn,fs⟩:=rG S.2.2.2.2.2.2.1 f0 f1 e1 S.2.2.1 J.2.2.2.1 J.2.2.1
 rcases au f1 H.2.1 with ⟨hz,hc⟩|⟨hz,hc⟩
 ·refine goE (aX (yE) H (by decide) (by decide) ⟨hc,trivial⟩ ?_) rfl
  intro T1 h1 L1 A1 K1 H1
  exact goE (ns (D:=(ac [(D 0),(D 1),(D 2),(D 3),(D 4),(D 5),(D 6),(D 8),(D 8),(D 7),(D 10),(D 11)])) false (H1.re rfl rfl rfl rfl) S J (by rw[show J0=P0 by rw[hz,Int.mul_zero] at e1;omega];exact f0) f1 KK) rfl
 ·refine goE (aX (yF) H (by decide) (by decide) ⟨hc,aj fp,fn,trivial⟩ ?_) rfl
  intro T1 h1 L1 A1 K1 H1
  exact goE (ns (D:=(ac [(D 0),(D 1),(D 2),(D 3),(D 4),(D 5),(D 6),(FP.dsub (D 8) (FP.dmul (D 5) (D 7))),(FP.dsub (D 8) (FP.dmul (D 5) (D 7))),(D 7),(D 10),(D 11)])) true (H1.re rfl rfl rfl rfl) S J fs f1 KK) rfl
theorem nv (b7:Bool)(H:LVH p l e s m args below meth c T0 Z a0 h0 hM n0 L0 A Ab K Kb D W oM rest v0 v1 2 4 (bg++[(65,2,[vD 10,vD 11]),(65,2,[vD 8,vD 0])]))(S:S7 (ah u 0 (D 6)) (ah Lq 7 (D 5)) a u Lq Dd M00 M01 M10 M11 (D 3) (D 4))(J:JH M00 M01 M10 M11 J0 J1 R0 R1)(f0:ah P0 7 (D 8))(f1:ah J1 7 (D 7))(e1:128*P0=128*J0+Lq*J1)(KK:jO p l e s m args below meth c Z a0 hM n0 Ab Kb W oM rest v0 v1 J0 J1 Ev):Go p e below Ev T0 (mkF m 51 (dL A D W #[sR 0,sR 1,sR 11,sR 12,sI 1,sD 7,s2,(bif b7 then sI 1 else sU),sU,sU]) [.double (D 7),.int 1,.ref (A 12)]):=by
 rcases au f1 H.2.1 with ⟨hz,hc⟩|⟨hz,hc⟩
 ·refine goE (aX (yC b7) H (by decide) (by decide) ⟨hc,trivial⟩ ?_) rfl
  intro T1 h1 L1 A1 K1 H1
  exact goE (nu (D:=(ac [(D 0),(D 1),(D 2),(D 3),(D 4),(D 5),(D 6),(D 7),(D 8),(D 9),(D 10),(D 11)])) (H1.re rfl rfl rfl rfl) S J f0 f1 e1 KK) rfl
 ·refine goE (aX (yD b7) H (by decide) (by decide) ⟨hc,trivial⟩ ?_) rfl
  intro T1 h1 L1 A1 K1 H1
  exact goE (nu (D:=(ac [(D 0),(D 1),(D 2),(D 3),(D 4),(D 5),(D 6),(D 7),(D 8),(D 9),(D 10),(D 11)])) (H1.re rfl rfl rfl rfl) S J f0 f1 e1 KK) rfl
theorem ua (H:LVH p l e s m args below meth c T0 Z a0 h0 hM n0 L0 A Ab K Kb D W oM rest v0 v1 2 4 (bg++[(65,2,[vD 10,vD 11]),(65,2,[vD 7,vD 0])]))(S:S7 (ah u 0 (D 6)) (ah Lq 7 (D 5)) a u Lq Dd M00 M01 M10 M11 (D 3) (D 4))(J:JH M00 M01 M10 M11 J0 J1 R0 R1)(fx:ah P0 7 (D 7))(fz:Jvm.FP.Core.DInt R1 (D 11))(bP:-8388608≤P0∧P0≤8388608)(e1:128*P0=128*J0+Lq*J1)(e2:2*(128*R1-u*P0)=Dd*J1)(KK:jO p l e s m args below meth c Z a0 hM n0 Ab Kb W oM rest v0 v1 J0 J1 Ev):Go p e below Ev T0 (mkF m 52 (dL A D W #[sR 0,sR 1,sR 11,sR 12,sI 0,sD 7,s2,sU,sU,sU]) []):=by
 obtain⟨fp,fw⟩:=gO S.2.2.2.2.2.1 fx fz S.2.1 bP J.2.2.2.2.2
 rcases au fx H.2.1 with ⟨hz,hc⟩|⟨hz,hc⟩
 ·have fi:ah (128*R1-u*P0) 7 (D 11):=(by rw[show 128*R1-u*P0=128*R1 by rw[hz,Int.mul_zero];omega];exact aH 7 128 (am.mpr fz) rfl (by omega))
  have f1:=ch fi S.2.2.2.2.2.2.2.1 S.2.2.2.1 e2 J.2.2.2.1
  refine goE (aX (yA) H (by decide) (by decide) ⟨hc,aj f1,trivial⟩ ?_) rfl
  intro T1 h1 L1 A1 K1 H1
  exact goE (nv (D:=(ac [(D 0),(D 1),(D 2),(D 3),(D 4),(D 5),(D 6),(FP.ddiv (D 11) (D 4)),(D 7),(D 9),(D 10),(D 11)])) false (H1.re rfl rfl rfl rfl) S J fx f1 e1 KK) rfl
 ·have fi:ah (128*R1-u*P0) 7 (FP.dsub (D 11) (FP.dmul (D 6) (D 7))):=fw
  have f1:=ch fi S.2.2.2.2.2.2.2.1 S.2.2.2.1 e2 J.2.2.2.1
  refine goE (aX (yB) H (by decide) (by decide) ⟨hc,aj fp,aj fw,aj f1,trivial⟩ ?_) rfl
  intro T1 h1 L1 A1 K1 H1
  exact goE (nv (D:=(ac [(D 0),(D 1),(D 2),(D 3),(D 4),(D 5),(D 6),(FP.ddiv (FP.dsub (D 11) (FP.dmul (D 6) (D 7))) (D 4)),(D 7),(D 9),(D 10),(FP.dsub (D 11) (FP.dmul (D 6) (D 7)))])) true (H1.re rfl rfl rfl rfl) S J fx f1 e1 KK) rfl
theorem ub (H:LVH p l e s m args below meth c T0 Z a0 h0 hM n0 L0 A Ab K Kb D W oM rest v0 v1 0 0 (bg))(S:S7 (ah u 0 (D 6)) (ah Lq 7 (D 5)) a u Lq Dd M00 M01 M10 M11 (D 3) (D 4))(J:JH M00 M01 M10 M11 J0 J1 R0 R1)(fv:Jvm.FP.Core.DInt R0 (D 1))(fz:Jvm.FP.Core.DInt R1 (D 2))(KK:jO p l e s m args below meth c Z a0 hM n0 Ab Kb W oM rest v0 v1 J0 J1 Ev):Go p e below Ev T0 (mkF m 0 (dL A D W #[sR 0,sR 1,sU,sU,sU,sU,sU,sU,sU,sU]) []):=by
 obtain⟨P0,fx,bP,e1,e2⟩:=gp S J fv
 refine goE (aX (Gk) H (by decide) (by decide) ⟨aj fx,trivial⟩ ?_) rfl
 intro T1 h1 L1 A1 K1 H1
 exact goE (ua (D:=(ac [(D 0),(D 1),(D 2),(D 3),(D 4),(D 5),(D 6),(FP.ddiv (D 1) (D 3)),(D 8),(D 9),(D 1),(D 2)])) (H1.re rfl rfl rfl rfl) S J fx fz bP e1 e2 KK) rfl
def nx (la:Nat→Addr)(kl:Nat→ClassId)(pv0 pv1 lv uv:UInt64):List OB:=[(la 0,kl 0,64,2,[.int 0,.int 1]),(la 1,kl 1,64,2,[.int 0,.int 1]),(la 2,kl 2,65,2,[.double pv0,.double pv1]),(la 3,kl 3,64,3,[.int 0,.int 1,.int 1]),(la 4,kl 4,64,2,[.int 1,.int 0]),(la 5,kl 5,65,2,[.double uv,.double 0]),(la 6,kl 6,64,3,[.int 0,.int 0,.int 1]),(la 7,kl 7,64,2,[.int 0,.int 0]),(la 8,kl 8,65,2,[.double lv,.double 0])]
theorem wJ {la:Nat→Addr}{kl:Nat→ClassId}{g:Nat→Value}{pv0 pv1 lv uv:UInt64}(S:S7 (ah u 0 uv) (ah Lq 7 lv) a u Lq Dd M00 M01 M10 M11 pv0 pv1):bl l Z n0 M00 M01 M10 M11 (tmL g la) (nx la kl pv0 pv1 lv uv):=by
 intro p e s m args below meth c T0 a0 Ev h0 A K D J0 J1 i0 i1 cnt er ep es eo ev rest B D0 d0 d1 J YM KK
 have YS:Yf Z n0 h0 (([(A 0,K 0,65,2,[.double (D 1),.double (D 2)]),(A 1,K 1,0,0,[tmL g la 0,tmL g la 1,tmL g la 2,tmL g la 3,tmL g la 4,tmL g la 5,tmL g la 6,tmL g la 7,.ref (A 2),.ref (A 3),.ref (A 4),.ref (A 5),.ref (A 6),tmL g la 8,tmL g la 9,tmL g la 10,tmL g la 11,tmL g la 12,tmL g la 13,tmL g la 14,tmL g la 15,tmL g la 16,tmL g la 17,tmL g la 18,tmL g la 19,tmL g la 20,tmL g la 21,tmL g la 22,.int cnt])]++nx la kl pv0 pv1 lv uv)++(rest++(ap A K D (tmL g la) 0 (dsE cnt er ep es eo ev)).drop 2)):=by
  have:=Yf.swap (a:=[(A 0,K 0,65,2,[.double (D 1),.double (D 2)]),(A 1,K 1,0,0,[tmL g la 0,tmL g la 1,tmL g la 2,tmL g la 3,tmL g la 4,tmL g la 5,tmL g la 6,tmL g la 7,.ref (A 2),.ref (A 3),.ref (A 4),.ref (A 5),.ref (A 6),tmL g la 8,tmL g la 9,tmL g la 10,tmL g la 11,tmL g la 12,tmL g la 13,tmL g la 14,tmL g la 15,tmL g la 16,tmL g la 17,tmL g la 18,tmL g la 19,tmL g la 20,tmL g la 21,tmL g la 22,.int cnt])]) (b:=(ap A K D (tmL g la) 0 (dsE cnt er ep es eo ev)).drop 2) (c:=nx la kl pv0 pv1 lv uv++rest) YM
  exact this
 refine goE (ub (A:=ttA A la) (Ab:=ttA A la) (K:=ttK K kl) (Kb:=ttK K kl) (D:=(ac [0,D 1,D 2,pv0,pv1,lv,uv,0,0,0,0,0])) (W:=(ttW A cnt g)) (hM:=h0) (v0:=D 1) (v1:=D 2) (M00:=M00) (M01:=M01) (M10:=M10) (M11:=M11) (J0:=J0) (J1:=J1) (R0:=i0) (R1:=i1) ⟨B,rfl,Yf.to (Yf.pick (os':=ap (ttA A la) (ttK K kl) (ac [0,D 1,D 2,pv0,pv1,lv,uv,0,0,0,0,0]) (ttW A cnt g) 0 bg) YS [1,0,2,3,4,5,6,7,8,9,10] (by decide) rfl) rfl,YS,Keep.refl _ _,fun i hi=>?_,fun i _=>⟨rfl,rfl⟩,rfl,rfl⟩ S ?_ d0 d1 ?_) rfl
 ·exact match i,hi with
   | 0,_=>Or.inl (show A 1∈[A 0,A 1,la 0,la 1,la 2,la 3,la 4,la 5,la 6,la 7,la 8] by simp)
   | 1,_=>Or.inl (show A 0∈[A 0,A 1,la 0,la 1,la 2,la 3,la 4,la 5,la 6,la 7,la 8] by simp)
   | 2,_=>Or.inl (show la 0∈[A 0,A 1,la 0,la 1,la 2,la 3,la 4,la 5,la 6,la 7,la 8] by simp)
   | 3,_=>Or.inl (show la 1∈[A 0,A 1,la 0,la 1,la 2,la 3,la 4,la 5,la 6,la 7,la 8] by simp)
   | 4,_=>Or.inl (show la 2∈[A 0,A 1,la 0,la 1,la 2,la 3,la 4,la 5,la 6,la 7,la 8] by simp)
   | 5,_=>Or.inl (show la 3∈[A 0,A 1,la 0,la 1,la 2,la 3,la 4,la 5,la 6,la 7,la 8] by simp)
   | 6,_=>Or.inl (show la 4∈[A 0,A 1,la 0,la 1,la 2,la 3,la 4,la 5,la 6,la 7,la 8] by simp)
   | 7,_=>Or.inl (show la 5∈[A 0,A 1,la 0,la 1,la 2,la 3,la 4,la 5,la 6,la 7,la 8] by simp)
   | 8,_=>Or.inl (show la 6∈[A 0,A 1,la 0,la 1,la 2,la 3,la 4,la 5,la 6,la 7,la 8] by simp)
   | 9,_=>Or.inl (show la 7∈[A 0,A 1,la 0,la 1,la 2,la 3,la 4,la 5,la 6,la 7,la 8] by simp)
   | 10,_=>Or.inl (show la 8∈[A 0,A 1,la 0,la 1,la 2,la 3,la 4,la 5,la 6,la 7,la 8] by simp)
 ·obtain⟨j0,j1,j2,j3,j4,j5⟩:=J
  exact⟨by omega,by omega,by omega,by omega,by omega,by omega⟩
 ·intro T1 h1 L1 A1 K1 D1 b9 j9 H1 f0 f1
  have YE:=rH H1 rfl rfl rfl rfl rfl (by decide)
  have YF:=Yf.swap (a:=[(A1 13,K1 13,65,2,[.double (D1 7),.double (D1 9)]),(A1 11,K1 11,65,2,[.double (D1 10),.double (D1 11)]),(A1 12,K1 12,65,2,[.double (D1 7),.double (D1 9)]),(A 0,K 0,65,2,[.double (D 1),.double (D 2)]),(A 1,K 1,0,0,[tmL g la 0,tmL g la 1,tmL g la 2,tmL g la 3,tmL g la 4,tmL g la 5,tmL g la 6,tmL g la 7,.ref (A 2),.ref (A 3),.ref (A 4),.ref (A 5),.ref (A 6),tmL g la 8,tmL g la 9,tmL g la 10,tmL g la 11,tmL g la 12,tmL g la 13,tmL g la 14,tmL g la 15,tmL g la 16,tmL g la 17,tmL g la 18,tmL g la 19,tmL g la 20,tmL g la 21,tmL g la 22,.int cnt])]) (b:=rest) (c:=(ap A K D (tmL g la) 0 (dsE cnt er ep es eo ev)).drop 2) YE
  have a0:=(H1.2.2.2.2.2.2.1 0 (by decide)).1
  have a1:=(H1.2.2.2.2.2.2.1 1 (by decide)).1
  have G:=KK T1 h1 L1 (A1 13) (A1 11) (A1 12) (K1 13) (K1 11) (K1 12) _ _ (D1 7) _ _ _ _ 0 j9 b9 H1.1 YF f0 f1
  rw[a0,a1]
  exact G
def bh:List AD:=[rI,aL,za9,za4,fe,dU,za9,aD [6,0],dU,az,aD [5,0]]
theorem Gl:ai (run (ak 32) ae 10 (1,3,6,14) 52 32 [] [] (0,#[sR 0,sR 1,sU,sU,sU,sU,sU,sU,sU,sU],[],bh,12,0,0)) (52,#[sR 0,sR 1,sR 11,sR 12,sI 0,sD 12,s2,sU,sU,sU],[],bh++[aL,lB],13,2,4) [fN]=true:=by decide +kernel
theorem yI:ai (run (ak 32) ae 10 (1,3,6,14) 51 26 [] [0] (52,#[sR 0,sR 1,sR 11,sR 12,sI 0,sD 7,s2,sU,sU,sU],[],bh++[za6,dK],12,2,4)) (51,#[sR 0,sR 1,sR 11,sR 12,sI 1,sD 12,s2,sU,sU,sU],i6,bh++[za6,dK],13,2,4) [d7,lC]=true:=by decide +kernel
theorem yJ:ai (run (ak 32) ae 10 (1,3,6,14) 51 64 [] [1] (52,#[sR 0,sR 1,sR 11,sR 12,sI 0,sD 7,s2,sU,sU,sU],[],bh++[za6,dK],12,2,4)) (51,#[sR 0,sR 1,sR 11,sR 12,sI 1,sD 14,s2,sI 1,sU,sU],ol,bh++[aD [10,13],dK],15,2,4) wI=true:=by decide +kernel
theorem yK:∀b7:Bool,ai (run (ak 32) ae 10 (1,3,6,14) 159 36 [] [0] (51,#[sR 0,sR 1,sR 11,sR 12,sI 1,sD 7,s2,(bif b7 then sI 1 else sU),sU,sU],fO,bh++[za6,fP],12,2,4)) (159,#[sR 0,sR 1,sR 11,sR 12,sR 13,sI 1,sI 0,sD 7,s2,sU],[],bh++dF,12,3,6) [d7]=true:=by decide +kernel
theorem yL:∀b7:Bool,ai (run (ak 32) ae 10 (1,3,6,14) 159 49 [] [1] (51,#[sR 0,sR 1,sR 11,sR 12,sI 1,sD 7,s2,(bif b7 then sI 1 else sU),sU,sU],fO,bh++[za6,fP],12,2,4)) (159,#[sR 0,sR 1,sR 11,sR 12,sR 13,sI 1,sI 0,sD 7,s2,sU],[],bh++dF,12,3,6) [eM]=true:=by decide +kernel
theorem yM:ai (run (ak 32) ae 10 (1,3,6,14) 158 21 [] [0] (159,#[sR 0,sR 1,sR 11,sR 12,sR 13,sI 1,sI 0,sD 7,s2,sU],[],bh++dF,12,3,6)) (158,#[sR 0,sR 1,sR 11,sR 12,sR 13,sI 0,sI 1,sD 8,s2,sU],nk,bh++dF,12,3,6) [d7]=true:=by decide +kernel
theorem yN:ai (run (ak 32) ae 10 (1,3,6,14) 158 59 [] [1] (159,#[sR 0,sR 1,sR 11,sR 12,sR 13,sI 1,sI 0,sD 7,s2,sU],[],bh++dF,12,3,6)) (158,#[sR 0,sR 1,sR 11,sR 12,sR 13,sI 0,sI 1,sD 13,s2,sI 1],[vD 13,zq3,d4],bh++[za6,aD [13,7],dK],14,3,6) [eM,(2,5,7,0),(1,8,12,0)]=true:=by decide +kernel
theorem yO:∀b9:Bool,ai (run (ak 32) ae 10 (1,3,6,14) 226 12 [] [0] (158,#[sR 0,sR 1,sR 11,sR 12,sR 13,sI 0,sI 1,sD 7,s2,(bif b9 then sI 1 else sU)],lD,bh++lE,12,3,6)) (226,#[sR 0,sR 1,sR 11,sR 12,sR 13,sI 0,sI 1,sD 7,s2,(bif b9 then sI 1 else sU)],[],bh++lF,12,3,6) [d7]=true:=by decide +kernel
theorem yP:∀b9:Bool,ai (run (ak 32) ae 10 (1,3,6,14) 226 25 [] [1] (158,#[sR 0,sR 1,sR 11,sR 12,sR 13,sI 0,sI 1,sD 7,s2,(bif b9 then sI 1 else sU)],lD,bh++lE,12,3,6)) (226,#[sR 0,sR 1,sR 11,sR 12,sR 13,sI 0,sI 1,sD 7,s2,sI 1],[],bh++lF,12,3,6) [eM]=true:=by decide +kernel
def jP (p:Program)(l:Launch)(e:Env)(s:State)(m:MethodId)(args:Array Value)(below:List Frame)(meth:Method)(c:Code)(Z:State)(a0:Array Value)(hM:Heap)(n0:Nat)(Ab:Nat→Addr)(Kb:Nat→ClassId)(W:Nat→Value)(oM rest:List OB)(v0 v1:UInt64)(J0 J1:Int)(Ev:State→Outcome→Prop):Prop:=∀(T1:State)(h1:Heap)(L1:List Loc)(A1:Nat→Addr)(K1:Nat→ClassId)(D1:Nat→UInt64)(b9:Bool)(j9:Int32),LVH p l e s m args below meth c T1 Z a0 h1 hM n0 L1 A1 Ab K1 Kb D1 W oM rest v0 v1 3 6 (bh++[(65,2,[vD 10,vD 11]),(65,2,[vD 7,vD 9]),(65,2,[vD 9,vD 7])])→ah J0 7 (D1 7)→ah J1 7 (D1 9)→Go p e below Ev T1 (mkF m 226 #[.val (.ref (A1 0)),.val (.ref (A1 1)),.val (.ref (A1 11)),.val (.ref (A1 12)),.val (.ref (A1 13)),.val (.int 0),.val (.int 1),.val (.double (D1 7)),.second,(bif b9 then .val (.int j9) else .unset)] [])
theorem ny (b9:Bool)(H:LVH p l e s m args below meth c T0 Z a0 h0 hM n0 L0 A Ab K Kb D W oM rest v0 v1 3 6 (bh++[(65,2,[vD 10,vD 11]),(65,2,[vD 7,vD 9]),(65,2,[vD 9,vD 0])]))(S:S7 (ah u 0 (D 6)) (ah Lq 7 (D 5)) a u Lq Dd M10 M11 M00 M01 (D 3) (D 4))(J:JH M10 M11 M00 M01 J0 J1 R0 R1)(f0:ah J0 7 (D 7))(f1:ah J1 7 (D 9))(KK:jP p l e s m args below meth c Z a0 hM n0 Ab Kb W oM rest v0 v1 J0 J1 Ev):Go p e below Ev T0 (mkF m 158 (dL A D W #[sR 0,sR 1,sR 11,sR 12,sR 13,sI 0,sI 1,sD 7,s2,(bif b9 then sI 1 else sU)]) [.double (D 7),.int 1,.ref (A 13)]):=by
 rcases au f0 H.2.1 with ⟨hz,hc⟩|⟨hz,hc⟩
 ·refine goE (aX (yO b9) H (by decide) (by decide) ⟨hc,trivial⟩ ?_) rfl
  intro T1 h1 L1 A1 K1 H1
  exact goE (KK T1 h1 L1 A1 K1 _ b9 1 H1 f0 f1) (by cases b9<;>rfl)
 ·refine goE (aX (yP b9) H (by decide) (by decide) ⟨hc,trivial⟩ ?_) rfl
  intro T1 h1 L1 A1 K1 H1
  exact goE (KK T1 h1 L1 A1 K1 _ true 1 H1 f0 f1) rfl
theorem nz (H:LVH p l e s m args below meth c T0 Z a0 h0 hM n0 L0 A Ab K Kb D W oM rest v0 v1 3 6 (bh++[(65,2,[vD 10,vD 11]),(65,2,[vD 8,vD 7]),(65,2,[vD 7,vD 0])]))(S:S7 (ah u 0 (D 6)) (ah Lq 7 (D 5)) a u Lq Dd M10 M11 M00 M01 (D 3) (D 4))(J:JH M10 M11 M00 M01 J0 J1 R0 R1)(f0:ah P0 7 (D 8))(f1:ah J1 7 (D 7))(e1:128*P0=128*J0+Lq*J1)(KK:jP p l e s m args below meth c Z a0 hM n0 Ab Kb W oM rest v0 v1 J0 J1 Ev):Go p e below Ev T0 (mkF m 159 (dL A D W #[sR 0,sR 1,sR 11,sR 12,sR 13,sI 1,sI 0,sD 7,s2,sU]) []):=by
 obtain⟨fp,fn,fs⟩:=rG S.2.2.2.2.2.2.1 f0 f1 e1 S.2.2.1 J.2.2.2.1 J.2.2.1
 rcases au f1 H.2.1 with ⟨hz,hc⟩|⟨hz,hc⟩
 ·refine goE (aX (yM) H (by decide) (by decide) ⟨hc,trivial⟩ ?_) rfl
  intro T1 h1 L1 A1 K1 H1
  exact goE (ny (D:=(ac [(D 0),(D 1),(D 2),(D 3),(D 4),(D 5),(D 6),(D 8),(D 8),(D 7),(D 10),(D 11)])) false (H1.re rfl rfl rfl rfl) S J (by rw[show J0=P0 by rw[hz,Int.mul_zero] at e1;omega];exact f0) f1 KK) rfl
 ·refine goE (aX (yN) H (by decide) (by decide) ⟨hc,aj fp,fn,trivial⟩ ?_) rfl
  intro T1 h1 L1 A1 K1 H1
  exact goE (ny (D:=(ac [(D 0),(D 1),(D 2),(D 3),(D 4),(D 5),(D 6),(FP.dsub (D 8) (FP.dmul (D 5) (D 7))),(FP.dsub (D 8) (FP.dmul (D 5) (D 7))),(D 7),(D 10),(D 11)])) true (H1.re rfl rfl rfl rfl) S J fs f1 KK) rfl
theorem nC (b7:Bool)(H:LVH p l e s m args below meth c T0 Z a0 h0 hM n0 L0 A Ab K Kb D W oM rest v0 v1 2 4 (bh++[(65,2,[vD 10,vD 11]),(65,2,[vD 8,vD 0])]))(S:S7 (ah u 0 (D 6)) (ah Lq 7 (D 5)) a u Lq Dd M10 M11 M00 M01 (D 3) (D 4))(J:JH M10 M11 M00 M01 J0 J1 R0 R1)(f0:ah P0 7 (D 8))(f1:ah J1 7 (D 7))(e1:128*P0=128*J0+Lq*J1)(KK:jP p l e s m args below meth c Z a0 hM n0 Ab Kb W oM rest v0 v1 J0 J1 Ev):Go p e below Ev T0 (mkF m 51 (dL A D W #[sR 0,sR 1,sR 11,sR 12,sI 1,sD 7,s2,(bif b7 then sI 1 else sU),sU,sU]) [.double (D 7),.int 1,.ref (A 12)]):=by
 rcases au f1 H.2.1 with ⟨hz,hc⟩|⟨hz,hc⟩
 ·refine goE (aX (yK b7) H (by decide) (by decide) ⟨hc,trivial⟩ ?_) rfl
  intro T1 h1 L1 A1 K1 H1
  exact goE (nz (D:=(ac [(D 0),(D 1),(D 2),(D 3),(D 4),(D 5),(D 6),(D 7),(D 8),(D 9),(D 10),(D 11)])) (H1.re rfl rfl rfl rfl) S J f0 f1 e1 KK) rfl
 ·refine goE (aX (yL b7) H (by decide) (by decide) ⟨hc,trivial⟩ ?_) rfl
  intro T1 h1 L1 A1 K1 H1
  exact goE (nz (D:=(ac [(D 0),(D 1),(D 2),(D 3),(D 4),(D 5),(D 6),(D 7),(D 8),(D 9),(D 10),(D 11)])) (H1.re rfl rfl rfl rfl) S J f0 f1 e1 KK) rfl
theorem uc (H:LVH p l e s m args below meth c T0 Z a0 h0 hM n0 L0 A Ab K Kb D W oM rest v0 v1 2 4 (bh++[(65,2,[vD 10,vD 11]),(65,2,[vD 7,vD 0])]))(S:S7 (ah u 0 (D 6)) (ah Lq 7 (D 5)) a u Lq Dd M10 M11 M00 M01 (D 3) (D 4))(J:JH M10 M11 M00 M01 J0 J1 R0 R1)(fx:ah P0 7 (D 7))(fz:Jvm.FP.Core.DInt R1 (D 11))(bP:-8388608≤P0∧P0≤8388608)(e1:128*P0=128*J0+Lq*J1)(e2:2*(128*R1-u*P0)=Dd*J1)(KK:jP p l e s m args below meth c Z a0 hM n0 Ab Kb W oM rest v0 v1 J0 J1 Ev):Go p e below Ev T0 (mkF m 52 (dL A D W #[sR 0,sR 1,sR 11,sR 12,sI 0,sD 7,s2,sU,sU,sU]) []):=by
 obtain⟨fp,fw⟩:=gO S.2.2.2.2.2.1 fx fz S.2.1 bP J.2.2.2.2.2
 rcases au fx H.2.1 with ⟨hz,hc⟩|⟨hz,hc⟩
 ·have fi:ah (128*R1-u*P0) 7 (D 11):=(by rw[show 128*R1-u*P0=128*R1 by rw[hz,Int.mul_zero];omega];exact aH 7 128 (am.mpr fz) rfl (by omega))
  have f1:=ch fi S.2.2.2.2.2.2.2.1 S.2.2.2.1 e2 J.2.2.2.1
  refine goE (aX (yI) H (by decide) (by decide) ⟨hc,aj f1,trivial⟩ ?_) rfl
  intro T1 h1 L1 A1 K1 H1
  exact goE (nC (D:=(ac [(D 0),(D 1),(D 2),(D 3),(D 4),(D 5),(D 6),(FP.ddiv (D 11) (D 4)),(D 7),(D 9),(D 10),(D 11)])) false (H1.re rfl rfl rfl rfl) S J fx f1 e1 KK) rfl
 ·have fi:ah (128*R1-u*P0) 7 (FP.dsub (D 11) (FP.dmul (D 6) (D 7))):=fw
  have f1:=ch fi S.2.2.2.2.2.2.2.1 S.2.2.2.1 e2 J.2.2.2.1
  refine goE (aX (yJ) H (by decide) (by decide) ⟨hc,aj fp,aj fw,aj f1,trivial⟩ ?_) rfl
  intro T1 h1 L1 A1 K1 H1
  exact goE (nC (D:=(ac [(D 0),(D 1),(D 2),(D 3),(D 4),(D 5),(D 6),(FP.ddiv (FP.dsub (D 11) (FP.dmul (D 6) (D 7))) (D 4)),(D 7),(D 9),(D 10),(FP.dsub (D 11) (FP.dmul (D 6) (D 7)))])) true (H1.re rfl rfl rfl rfl) S J fx f1 e1 KK) rfl
theorem ue (H:LVH p l e s m args below meth c T0 Z a0 h0 hM n0 L0 A Ab K Kb D W oM rest v0 v1 0 0 (bh))(S:S7 (ah u 0 (D 6)) (ah Lq 7 (D 5)) a u Lq Dd M10 M11 M00 M01 (D 3) (D 4))(J:JH M10 M11 M00 M01 J0 J1 R0 R1)(fv:Jvm.FP.Core.DInt R0 (D 1))(fz:Jvm.FP.Core.DInt R1 (D 2))(KK:jP p l e s m args below meth c Z a0 hM n0 Ab Kb W oM rest v0 v1 J0 J1 Ev):Go p e below Ev T0 (mkF m 0 (dL A D W #[sR 0,sR 1,sU,sU,sU,sU,sU,sU,sU,sU]) []):=by
 obtain⟨P0,fx,bP,e1,e2⟩:=gp S J fv
 refine goE (aX (Gl) H (by decide) (by decide) ⟨aj fx,trivial⟩ ?_) rfl
 intro T1 h1 L1 A1 K1 H1
 exact goE (uc (D:=(ac [(D 0),(D 1),(D 2),(D 3),(D 4),(D 5),(D 6),(FP.ddiv (D 1) (D 3)),(D 8),(D 9),(D 1),(D 2)])) (H1.re rfl rfl rfl rfl) S J fx fz bP e1 e2 KK) rfl
def nE (la:Nat→Addr)(kl:Nat→ClassId)(pv0 pv1 lv uv:UInt64):List OB:=[(la 0,kl 0,64,2,[.int 1,.int 0]),(la 1,kl 1,64,2,[.int 0,.int 1]),(la 2,kl 2,65,2,[.double pv0,.double pv1]),(la 3,kl 3,64,3,[.int 0,.int 1,.int 1]),(la 4,kl 4,64,2,[.int 1,.int 0]),(la 5,kl 5,65,2,[.double uv,.double 0]),(la 6,kl 6,64,3,[.int 0,.int 1,.int 1]),(la 7,kl 7,64,2,[.int 0,.int 0]),(la 8,kl 8,65,2,[.double lv,.double 0])]
theorem wK {la:Nat→Addr}{kl:Nat→ClassId}{g:Nat→Value}{pv0 pv1 lv uv:UInt64}(S:S7 (ah u 0 uv) (ah Lq 7 lv) a u Lq Dd M10 M11 M00 M01 pv0 pv1):bl l Z n0 M00 M01 M10 M11 (tmL g la) (nE la kl pv0 pv1 lv uv):=by
 intro p e s m args below meth c T0 a0 Ev h0 A K D J0 J1 i0 i1 cnt er ep es eo ev rest B D0 d0 d1 J YM KK
 have YS:Yf Z n0 h0 (([(A 0,K 0,65,2,[.double (D 1),.double (D 2)]),(A 1,K 1,0,0,[tmL g la 0,tmL g la 1,tmL g la 2,tmL g la 3,tmL g la 4,tmL g la 5,tmL g la 6,tmL g la 7,.ref (A 2),.ref (A 3),.ref (A 4),.ref (A 5),.ref (A 6),tmL g la 8,tmL g la 9,tmL g la 10,tmL g la 11,tmL g la 12,tmL g la 13,tmL g la 14,tmL g la 15,tmL g la 16,tmL g la 17,tmL g la 18,tmL g la 19,tmL g la 20,tmL g la 21,tmL g la 22,.int cnt])]++nE la kl pv0 pv1 lv uv)++(rest++(ap A K D (tmL g la) 0 (dsE cnt er ep es eo ev)).drop 2)):=by
  have:=Yf.swap (a:=[(A 0,K 0,65,2,[.double (D 1),.double (D 2)]),(A 1,K 1,0,0,[tmL g la 0,tmL g la 1,tmL g la 2,tmL g la 3,tmL g la 4,tmL g la 5,tmL g la 6,tmL g la 7,.ref (A 2),.ref (A 3),.ref (A 4),.ref (A 5),.ref (A 6),tmL g la 8,tmL g la 9,tmL g la 10,tmL g la 11,tmL g la 12,tmL g la 13,tmL g la 14,tmL g la 15,tmL g la 16,tmL g la 17,tmL g la 18,tmL g la 19,tmL g la 20,tmL g la 21,tmL g la 22,.int cnt])]) (b:=(ap A K D (tmL g la) 0 (dsE cnt er ep es eo ev)).drop 2) (c:=nE la kl pv0 pv1 lv uv++rest) YM
  exact this
 refine goE (ue (A:=ttA A la) (Ab:=ttA A la) (K:=ttK K kl) (Kb:=ttK K kl) (D:=(ac [0,D 1,D 2,pv0,pv1,lv,uv,0,0,0,0,0])) (W:=(ttW A cnt g)) (hM:=h0) (v0:=D 1) (v1:=D 2) (M00:=M00) (M01:=M01) (M10:=M10) (M11:=M11) (J0:=J1) (J1:=J0) (R0:=i0) (R1:=i1) ⟨B,rfl,Yf.to (Yf.pick (os':=ap (ttA A la) (ttK K kl) (ac [0,D 1,D 2,pv0,pv1,lv,uv,0,0,0,0,0]) (ttW A cnt g) 0 bh) YS [1,0,2,3,4,5,6,7,8,9,10] (by decide) rfl) rfl,YS,Keep.refl _ _,fun i hi=>?_,fun i _=>⟨rfl,rfl⟩,rfl,rfl⟩ S ?_ d0 d1 ?_) rfl
 ·exact match i,hi with
   | 0,_=>Or.inl (show A 1∈[A 0,A 1,la 0,la 1,la 2,la 3,la 4,la 5,la 6,la 7,la 8] by simp)
   | 1,_=>Or.inl (show A 0∈[A 0,A 1,la 0,la 1,la 2,la 3,la 4,la 5,la 6,la 7,la 8] by simp)
   | 2,_=>Or.inl (show la 0∈[A 0,A 1,la 0,la 1,la 2,la 3,la 4,la 5,la 6,la 7,la 8] by simp)
   | 3,_=>Or.inl (show la 1∈[A 0,A 1,la 0,la 1,la 2,la 3,la 4,la 5,la 6,la 7,la 8] by simp)
   | 4,_=>Or.inl (show la 2∈[A 0,A 1,la 0,la 1,la 2,la 3,la 4,la 5,la 6,la 7,la 8] by simp)
   | 5,_=>Or.inl (show la 3∈[A 0,A 1,la 0,la 1,la 2,la 3,la 4,la 5,la 6,la 7,la 8] by simp)
   | 6,_=>Or.inl (show la 4∈[A 0,A 1,la 0,la 1,la 2,la 3,la 4,la 5,la 6,la 7,la 8] by simp)
   | 7,_=>Or.inl (show la 5∈[A 0,A 1,la 0,la 1,la 2,la 3,la 4,la 5,la 6,la 7,la 8] by simp)
   | 8,_=>Or.inl (show la 6∈[A 0,A 1,la 0,la 1,la 2,la 3,la 4,la 5,la 6,la 7,la 8] by simp)
   | 9,_=>Or.inl (show la 7∈[A 0,A 1,la 0,la 1,la 2,la 3,la 4,la 5,la 6,la 7,la 8] by simp)
   | 10,_=>Or.inl (show la 8∈[A 0,A 1,la 0,la 1,la 2,la 3,la 4,la 5,la 6,la 7,la 8] by simp)
 ·obtain⟨j0,j1,j2,j3,j4,j5⟩:=J
  exact⟨by omega,by omega,by omega,by omega,by omega,by omega⟩
 ·intro T1 h1 L1 A1 K1 D1 b9 j9 H1 f0 f1
  have YE:=rH H1 rfl rfl rfl rfl rfl (by decide)
  have YF:=Yf.swap (a:=[(A1 13,K1 13,65,2,[.double (D1 9),.double (D1 7)]),(A1 11,K1 11,65,2,[.double (D1 10),.double (D1 11)]),(A1 12,K1 12,65,2,[.double (D1 7),.double (D1 9)]),(A 0,K 0,65,2,[.double (D 1),.double (D 2)]),(A 1,K 1,0,0,[tmL g la 0,tmL g la 1,tmL g la 2,tmL g la 3,tmL g la 4,tmL g la 5,tmL g la 6,tmL g la 7,.ref (A 2),.ref (A 3),.ref (A 4),.ref (A 5),.ref (A 6),tmL g la 8,tmL g la 9,tmL g la 10,tmL g la 11,tmL g la 12,tmL g la 13,tmL g la 14,tmL g la 15,tmL g la 16,tmL g la 17,tmL g la 18,tmL g la 19,tmL g la 20,tmL g la 21,tmL g la 22,.int cnt])]) (b:=rest) (c:=(ap A K D (tmL g la) 0 (dsE cnt er ep es eo ev)).drop 2) YE
  have a0:=(H1.2.2.2.2.2.2.1 0 (by decide)).1
  have a1:=(H1.2.2.2.2.2.2.1 1 (by decide)).1
  have G:=KK T1 h1 L1 (A1 13) (A1 11) (A1 12) (K1 13) (K1 11) (K1 12) _ _ (D1 7) _ _ _ _ 1 j9 b9 H1.1 YF f1 f0
  rw[a0,a1]
  exact G
end OwnLu7
def PB (k j:Int)(ar ao:UInt64):Prop:=(k=1∨k=-1∨k=2∨k=-2∨k=4∨k=-4∨k=8∨k=-8)∧(-16≤j∧j≤16)∧Jvm.FP.Core.DInt k ar∧Jvm.FP.Core.DInt j ao
def Et (r:Bool)(k j A0 A1 B0 B1:Int):Prop:=k*(bif r then B1 else B0)=8*(bif r then A1 else A0)∧(bif r then B0 else B1)=8*(bif r then A0 else A1)-j*(bif r then B1 else B0)
theorem dY {A B k j:Int}{K:Nat}{x y ar ao:UInt64}(H:PB k j ar ao)(fA:ah A K x)(fB:ah B K y)(N:Int)(hN:0≤N∧N≤17592186044416)(bA:-N≤A∧A≤N)(bB:-N≤B∧B≤N)(hK:K≤100):∃t:Int,k*t=8*A∧(-(8*N)≤t∧t≤8*N)∧(-(128*N)≤j*t∧j*t≤128*N)∧ah t (K+3) (FP.ddiv x ar)∧ah (j*t) (K+3) (FP.dmul ao (FP.ddiv x ar))∧ah (8*B-j*t) (K+3) (FP.dsub y (FP.dmul ao (FP.ddiv x ar)))∧ah (8*B) (K+3) y:=by
 obtain⟨hk,bj,hr,ho⟩:=H
 have key:∃t:Int,k*t=8*A∧(-(8*N)≤t∧t≤8*N)∧k≠0:=by
  rcases hk with rfl|rfl|rfl|rfl|rfl|rfl|rfl|rfl
  ·exact⟨8*A,by omega,by omega,by decide⟩
  ·exact⟨-(8*A),by omega,by omega,by decide⟩
  ·exact⟨4*A,by omega,by omega,by decide⟩
  ·exact⟨-(4*A),by omega,by omega,by decide⟩
  ·exact⟨2*A,by omega,by omega,by decide⟩
  ·exact⟨-(2*A),by omega,by omega,by decide⟩
  ·exact⟨A,by omega,by omega,by decide⟩
  ·exact⟨-A,by omega,by omega,by decide⟩
 obtain⟨t,et,bt,h0⟩:=key
 have bp:=cv bj bt
 have eb:(16:Int)*(8*N)=128*N:=by omega
 rw[eb] at bp
 have e8:((2 ^ (0+(K+3)):Nat):Int)=8*((2 ^ K:Nat):Int):=by rw[Nat.zero_add,Nat.pow_add,Int.natCast_mul,Int.mul_comm];rfl
 have F:ah t (K+3) (FP.ddiv x ar):=gX fA (am.mpr hr) h0 (M:=K+3) (by rw[e8,←Int.mul_assoc,Int.mul_comm A 8,←et,Int.mul_comm k]) (cp (by omega)) (by omega)
 have G:ah (j*t) (K+3) (FP.dmul ao (FP.ddiv x ar)):=by
  have:=dD (k:=0) (am.mpr ho) F (cp (by omega)) (by omega)
  rwa [Nat.zero_add] at this
 have B8:ah (8*B) (K+3) y:=aH 3 8 fB rfl (by omega)
 exact⟨t,et,bt,bp,F,G,gW B8 G (cp (by omega)) (by omega),B8⟩
theorem nF:decode (ak 32) 333 = .ok (.areturn,1):=by decide +kernel
section OwnEt7
variable {p:Program}{l:Launch}{e:Env}{s:State}{m:MethodId}{args:Array Value}{below:List Frame}{meth:Method}{c:Code}{T0 Z:State}{a0:Array Value}{h0 hM:Heap}{n0:Nat}{L0:List Loc}{A Ab:Nat→Addr}{K Kb:Nat→ClassId}{D:Nat→UInt64}{W:Nat→Value}{oM rest:List OB}{ds:List AD}{Ev:State→Outcome→Prop}{k j B0 B1 N:Int}{Kf:Nat}
abbrev sB (b:Bool):Slot:=bif b then sF 7 else sU
abbrev fr7 (i:Int32)(x:Slot)(k:UInt64)(y:Slot):Array Slot:=#[sR 0,sR 1,sR 2,sR 3,sR 4,sI i,x,sD k,s2,y]
def EVH (p:Program)(l:Launch)(e:Env)(s:State)(m:MethodId)(args:Array Value)(below:List Frame)(meth:Method)(c:Code)(T0 Z:State)(a0:Array Value)(h0 hM:Heap)(n0:Nat)(L0:List Loc)(A Ab:Nat→Addr)(K Kb:Nat→ClassId)(D:Nat→UInt64)(W:Nat→Value)(oM rest:List OB)(ds:List AD):Prop:=LVS p l e s m args below meth c T0 Z a0 h0 n0 L0 3 6∧D 0=0∧YgF Z n0 h0 A K D W ds∧Yf Z n0 hM (oM++rest)∧Keep hM h0 (oM.map (·.1))∧(∀i,i<10→A i∈oM.map (·.1)∨hM.size≤A i)∧∀i,i<10→A i=Ab i∧K i=Kb i
def SK (p:Program)(l:Launch)(e:Env)(s:State)(m:MethodId)(args:Array Value)(below:List Frame)(meth:Method)(c:Code)(Z:State)(a0:Array Value)(hM:Heap)(n0:Nat)(Ab:Nat→Addr)(Kb:Nat→ClassId)(D:Nat→UInt64)(W:Nat→Value)(oM rest:List OB)(Ev:State→Outcome→Prop)(k j B0 B1 N:Int)(Kf:Nat)(r:UInt64)(rb:Bool)(i:Int32)(ds:List AD):Prop:=∀(T1:State)(h1:Heap)(L1:List Loc)(A1:Nat→Addr)(K1:Nat→ClassId)(y0 y1 x5 w7:UInt64)(b9:Bool)(C0 C1:Int),EVH p l e s m args below meth c T1 Z a0 h1 hM n0 L1 A1 Ab K1 Kb (ac [0,y0,y1,D 3,D 4,x5,r,w7]) W oM rest ds→Et rb k j B0 B1 C0 C1→ah C0 (Kf+3) y0→ah C1 (Kf+3) y1→(-(136*N)≤C0∧C0≤136*N)→(-(136*N)≤C1∧C1≤136*N)→Go p e below Ev T1 (mkF m 226 (dL A1 (ac [0,y0,y1,D 3,D 4,x5,r,w7]) W (fr7 i (sF 6) 5 (sB b9))) [])
theorem b_ {f to pc pc' nD nD':Nat}{orc:List Int32}{L L':Array Slot}{st st':List Value}{ds':List AD}{ops:List Op}(hr:ai (run (ak 32) ae 10 (1,3,6,14) to f [] orc (pc,L,st,ds,nD,3,6)) (pc',L',st',ds',nD',3,6) ops=true)(H:EVH p l e s m args below meth c T0 Z a0 h0 hM n0 L0 A Ab K Kb D W oM rest ds)(hnD:0<nD)(h1:ds.length=10)(h2:ds'.length=10)(hv:okv ops nD D)
  (K_:∀T1 h1 L1 A1 K1,EVH p l e s m args below meth c T1 Z a0 h1 hM n0 L1 A1 Ab K1 Kb (ca ops nD D) W oM rest ds'→Go p e below Ev T1 (mkF m pc' (dL A1 (ca ops nD D) W L') (st'.map (den A1 (ca ops nD D) W)))):Go p e below Ev T0 (mkF m pc (dL A D W L) (st.map (den A D W))):=by
 obtain⟨B,D0,Y,YM,KM,hf,hAb⟩:=H
 refine Qz hr B Y D0 hnD hv ?_
 intro T1 h1' L1 A1 K1 B1 hA1 Kp f1 Y1
 rw[h1] at hA1 Kp f1
 rw[h2] at f1
 obtain⟨KM1,hf1⟩:=FB (n':=10) KM hf Kp hA1 f1
 exact K_ T1 h1' L1 A1 K1 ⟨B1,(fj ops nD D hnD).trans D0,Y1,YM,KM1,hf1,fun i hi=>⟨(hA1 i hi).1.trans (hAb i hi).1,(hA1 i hi).2.trans (hAb i hi).2⟩⟩
theorem EVH.re {D':Nat→UInt64}{W':Nat→Value}{ds':List AD}(H:EVH p l e s m args below meth c T0 Z a0 h0 hM n0 L0 A Ab K Kb D W oM rest ds)(e0:D' 0=D 0)(e':ds'.map (fun d=>(d.1,d.2.1,d.2.2.map (den A D' W')))=ds.map (fun d=>(d.1,d.2.1,d.2.2.map (den A D W)))):EVH p l e s m args below meth c T0 Z a0 h0 hM n0 L0 A Ab K Kb D' W' oM rest ds':=by
 obtain⟨B,D0,Y,YM,KM,hf,hAb⟩:=H
 exact⟨B,e0.trans D0,Y.congr e',YM,KM,hf,hAb⟩
def lJ:AD:=(65,16,[vD 3]++uS 61 15)
def oC:AD:=aU 65 34 2
def oD:AD:=aU 65 32 2
def oE:AD:=aU 65 30 2
def rR:AD:=(0,0,uS 0 8++rS 5 5++uS 8 15++[zq3])
def oF:AD:=(65,256,[vD 4]++uS 111 3)
def wL:AD:=(64,17,lz++uS 82 15)
def wM:AD:=(64,16,[zq0]++uS 41 15)
def Gm:AD:=(64,256,[zq3]++uS 101 3)
def dM (a b:UInt64):List AD:=[rR,oE,oD,oC,aD [a,b],wM,lJ,wL,Gm,oF]
theorem rT:∀b9:Bool,ai (run (ak 32) ae 10 (1,3,6,14) 259 20 [] [] (226,(fr7 0 (sF 6) 5 (sB b9)),[],dM 1 2,8,3,6)) (259,(fr7 0 (sI 0) 8 (sB b9)),[],dM 1 2,9,3,6) [fN]=true:=by decide +kernel
def fQ:Op:=(12,5,0,0)
theorem rU:∀b9:Bool,ai (run (ak 32) ae 10 (1,3,6,14) 226 11 [] [0] (259,(fr7 0 (sI 0) 5 (sB b9)),[],dM 1 2,8,3,6)) (226,(fr7 1 (sI 0) 5 (sB b9)),[],dM 5 2,8,3,6) [fQ]=true:=by decide +kernel
def i8:Op:=(12,5,0,1)
def MW:Op:=(2,4,5,0)
def wN:List Op:=[i8,MW,(1,2,8,0)]
theorem rV:∀b9:Bool,ai (run (ak 32) ae 10 (1,3,6,14) 226 49 [] [1] (259,(fr7 0 (sI 0) 5 (sB b9)),[],dM 1 2,8,3,6)) (226,(fr7 1 (sI 0) 5 (sI 1)),[],dM 5 9,10,3,6) wN=true:=by decide +kernel
theorem yQ (b9:Bool)(E:EVH p l e s m args below meth c T0 Z a0 h0 hM n0 L0 A Ab K Kb D W oM rest (dM 1 2))(H:PB k j (D 3) (D 4))(f0:ah B0 Kf (D 1))(f1:ah B1 Kf (D 2))(hN:0≤N∧N≤17592186044416)(b0:-N≤B0∧B0≤N)(b1:-N≤B1∧B1≤N)(hK:Kf≤100)(KK:SK p l e s m args below meth c Z a0 hM n0 Ab Kb D W oM rest Ev k j B0 B1 N Kf 0 false 1 (dM 1 2)):Go p e below Ev T0 (mkF m 226 (dL A D W (fr7 0 (sF 6) 5 (sB b9))) []):=by
 obtain⟨t,et,bt,bp,F,G,Fs,B8⟩:=dY H f0 f1 N hN b0 b1 hK
 refine goE (b_ (rT b9) E (by decide) rfl rfl ⟨aj F,trivial⟩ ?_) rfl
 intro T1 h1 L1 A1 K1 E1
 rcases au F E.2.1 with ⟨hz,hc⟩|⟨hz,hc⟩
 ·refine goE (b_ (rU b9) (E1.re (D':=(ac [(D 0),(D 1),(D 2),(D 3),(D 4),(FP.ddiv (D 1) (D 3)),(D 6),(D 7)])) (W':=W) rfl rfl) (by decide) rfl rfl ⟨hc,trivial⟩ ?_) (by cases b9<;>rfl)
  intro T2 h2 L2 A2 K2 E2
  exact goE (KK T2 h2 L2 A2 K2 (FP.ddiv (D 1) (D 3)) (D 2) (FP.ddiv (D 1) (D 3)) (D 7) b9 t (8*B1-j*t) (E2.re (show (0:UInt64)=D 0 from E.2.1.symm) rfl) ⟨et,rfl⟩ F (by rw[show 8*B1-j*t=8*B1 by rw[hz,Int.mul_zero];omega];exact B8) (by omega) (by omega)) (by cases b9<;>rfl)
 ·refine goE (b_ (rV b9) (E1.re (D':=(ac [(D 0),(D 1),(D 2),(D 3),(D 4),(FP.ddiv (D 1) (D 3)),(D 6),(D 7)])) (W':=W) rfl rfl) (by decide) rfl rfl ⟨hc,aj G,aj Fs,trivial⟩ ?_) (by cases b9<;>rfl)
  intro T2 h2 L2 A2 K2 E2
  exact goE (KK T2 h2 L2 A2 K2 (FP.ddiv (D 1) (D 3)) (FP.dsub (D 2) (FP.dmul (D 4) (FP.ddiv (D 1) (D 3)))) (FP.ddiv (D 1) (D 3)) 1 true t (8*B1-j*t) (E2.re (show (0:UInt64)=D 0 from E.2.1.symm) rfl) ⟨et,rfl⟩ F Fs (by omega) (by omega)) (by cases b9<;>rfl)
def jQ:AD:=(65,256,uS 110 4)
def jR:AD:=(64,256,uS 100 4)
def wO:AD:=(64,17,[zq0,zq0]++uS 82 15)
def dN (a b:UInt64):List AD:=[rR,oE,oD,oC,aD [a,b],wM,lJ,wO,jR,jQ]
theorem rW:∀b9:Bool,ai (run (ak 32) ae 10 (1,3,6,14) 259 20 [] [] (226,(fr7 0 (sF 6) 5 (sB b9)),[],dN 1 2,8,3,6)) (259,(fr7 0 (sI 0) 8 (sB b9)),[],dN 1 2,9,3,6) [fN]=true:=by decide +kernel
theorem rX:∀b9:Bool,ai (run (ak 32) ae 10 (1,3,6,14) 226 11 [] [0] (259,(fr7 0 (sI 0) 5 (sB b9)),[],dN 1 2,8,3,6)) (226,(fr7 1 (sI 0) 5 (sB b9)),[],dN 5 2,8,3,6) [fQ]=true:=by decide +kernel
theorem rY:∀b9:Bool,ai (run (ak 32) ae 10 (1,3,6,14) 226 24 [] [1] (259,(fr7 0 (sI 0) 5 (sB b9)),[],dN 1 2,8,3,6)) (226,(fr7 1 (sI 0) 5 (sI 0)),[],dN 5 2,8,3,6) [i8]=true:=by decide +kernel
theorem yR (b9:Bool)(E:EVH p l e s m args below meth c T0 Z a0 h0 hM n0 L0 A Ab K Kb D W oM rest (dN 1 2))(H:PB k j (D 3) (D 4))(hj:j=0)(f0:ah B0 Kf (D 1))(f1:ah B1 Kf (D 2))(hN:0≤N∧N≤17592186044416)(b0:-N≤B0∧B0≤N)(b1:-N≤B1∧B1≤N)(hK:Kf≤100)(KK:SK p l e s m args below meth c Z a0 hM n0 Ab Kb D W oM rest Ev k j B0 B1 N Kf 0 false 1 (dN 1 2)):Go p e below Ev T0 (mkF m 226 (dL A D W (fr7 0 (sF 6) 5 (sB b9))) []):=by
 obtain⟨t,et,bt,bp,F,G,Fs,B8⟩:=dY H f0 f1 N hN b0 b1 hK
 refine goE (b_ (rW b9) E (by decide) rfl rfl ⟨aj F,trivial⟩ ?_) rfl
 intro T1 h1 L1 A1 K1 E1
 rcases au F E.2.1 with ⟨hz,hc⟩|⟨hz,hc⟩
 ·refine goE (b_ (rX b9) (E1.re (D':=(ac [(D 0),(D 1),(D 2),(D 3),(D 4),(FP.ddiv (D 1) (D 3)),(D 6),(D 7)])) (W':=W) rfl rfl) (by decide) rfl rfl ⟨hc,trivial⟩ ?_) (by cases b9<;>rfl)
  intro T2 h2 L2 A2 K2 E2
  exact goE (KK T2 h2 L2 A2 K2 (FP.ddiv (D 1) (D 3)) (D 2) (FP.ddiv (D 1) (D 3)) (D 7) b9 t (8*B1-j*t) (E2.re (show (0:UInt64)=D 0 from E.2.1.symm) rfl) ⟨et,rfl⟩ F (by rw[show 8*B1-j*t=8*B1 by rw[hj,Int.zero_mul];omega];exact B8) (by omega) (by omega)) (by cases b9<;>rfl)
 ·refine goE (b_ (rY b9) (E1.re (D':=(ac [(D 0),(D 1),(D 2),(D 3),(D 4),(FP.ddiv (D 1) (D 3)),(D 6),(D 7)])) (W':=W) rfl rfl) (by decide) rfl rfl ⟨hc,trivial⟩ ?_) (by cases b9<;>rfl)
  intro T2 h2 L2 A2 K2 E2
  exact goE (KK T2 h2 L2 A2 K2 (FP.ddiv (D 1) (D 3)) (D 2) (FP.ddiv (D 1) (D 3)) 0 true t (8*B1-j*t) (E2.re (show (0:UInt64)=D 0 from E.2.1.symm) rfl) ⟨et,rfl⟩ F (by rw[show 8*B1-j*t=8*B1 by rw[hj,Int.zero_mul];omega];exact B8) (by omega) (by omega)) (by cases b9<;>rfl)
def wP:AD:=(64,16,[zq3]++uS 41 15)
def Gn:AD:=(64,256,[zq0]++uS 101 3)
def dO (a b:UInt64):List AD:=[rR,oE,oD,oC,aD [a,b],wP,lJ,wL,Gn,oF]
theorem rZ:∀b9:Bool,ai (run (ak 32) ae 10 (1,3,6,14) 259 20 [] [] (226,(fr7 0 (sF 6) 5 (sB b9)),[],dO 1 2,8,3,6)) (259,(fr7 0 (sI 1) 8 (sB b9)),[],dO 1 2,9,3,6) [i7]=true:=by decide +kernel
theorem r3:∀b9:Bool,ai (run (ak 32) ae 10 (1,3,6,14) 226 11 [] [0] (259,(fr7 0 (sI 1) 5 (sB b9)),[],dO 1 2,8,3,6)) (226,(fr7 1 (sI 1) 5 (sB b9)),[],dO 1 5,8,3,6) [fQ]=true:=by decide +kernel
def wQ:List Op:=[i8,MW,(1,1,8,0)]
theorem r4:∀b9:Bool,ai (run (ak 32) ae 10 (1,3,6,14) 226 49 [] [1] (259,(fr7 0 (sI 1) 5 (sB b9)),[],dO 1 2,8,3,6)) (226,(fr7 1 (sI 1) 5 (sI 1)),[],dO 9 5,10,3,6) wQ=true:=by decide +kernel
theorem yS (b9:Bool)(E:EVH p l e s m args below meth c T0 Z a0 h0 hM n0 L0 A Ab K Kb D W oM rest (dO 1 2))(H:PB k j (D 3) (D 4))(f0:ah B0 Kf (D 1))(f1:ah B1 Kf (D 2))(hN:0≤N∧N≤17592186044416)(b0:-N≤B0∧B0≤N)(b1:-N≤B1∧B1≤N)(hK:Kf≤100)(KK:SK p l e s m args below meth c Z a0 hM n0 Ab Kb D W oM rest Ev k j B0 B1 N Kf 1 true 1 (dO 1 2)):Go p e below Ev T0 (mkF m 226 (dL A D W (fr7 0 (sF 6) 5 (sB b9))) []):=by
 obtain⟨t,et,bt,bp,F,G,Fs,B8⟩:=dY H f1 f0 N hN b1 b0 hK
 refine goE (b_ (rZ b9) E (by decide) rfl rfl ⟨aj F,trivial⟩ ?_) rfl
 intro T1 h1 L1 A1 K1 E1
 rcases au F E.2.1 with ⟨hz,hc⟩|⟨hz,hc⟩
 ·refine goE (b_ (r3 b9) (E1.re (D':=(ac [(D 0),(D 1),(D 2),(D 3),(D 4),(FP.ddiv (D 2) (D 3)),(D 6),(D 7)])) (W':=W) rfl rfl) (by decide) rfl rfl ⟨hc,trivial⟩ ?_) (by cases b9<;>rfl)
  intro T2 h2 L2 A2 K2 E2
  exact goE (KK T2 h2 L2 A2 K2 (D 1) (FP.ddiv (D 2) (D 3)) (FP.ddiv (D 2) (D 3)) (D 7) b9 (8*B0-j*t) t (E2.re (show (0:UInt64)=D 0 from E.2.1.symm) rfl) ⟨et,rfl⟩ (by rw[show 8*B0-j*t=8*B0 by rw[hz,Int.mul_zero];omega];exact B8) F (by omega) (by omega)) (by cases b9<;>rfl)
 ·refine goE (b_ (r4 b9) (E1.re (D':=(ac [(D 0),(D 1),(D 2),(D 3),(D 4),(FP.ddiv (D 2) (D 3)),(D 6),(D 7)])) (W':=W) rfl rfl) (by decide) rfl rfl ⟨hc,aj G,aj Fs,trivial⟩ ?_) (by cases b9<;>rfl)
  intro T2 h2 L2 A2 K2 E2
  exact goE (KK T2 h2 L2 A2 K2 (FP.dsub (D 1) (FP.dmul (D 4) (FP.ddiv (D 2) (D 3)))) (FP.ddiv (D 2) (D 3)) (FP.ddiv (D 2) (D 3)) 1 true (8*B0-j*t) t (E2.re (show (0:UInt64)=D 0 from E.2.1.symm) rfl) ⟨et,rfl⟩ Fs F (by omega) (by omega)) (by cases b9<;>rfl)
def dP (a b:UInt64):List AD:=[rR,oE,oD,oC,aD [a,b],wP,lJ,wO,jR,jQ]
theorem r5:∀b9:Bool,ai (run (ak 32) ae 10 (1,3,6,14) 259 20 [] [] (226,(fr7 0 (sF 6) 5 (sB b9)),[],dP 1 2,8,3,6)) (259,(fr7 0 (sI 1) 8 (sB b9)),[],dP 1 2,9,3,6) [i7]=true:=by decide +kernel
theorem r6:∀b9:Bool,ai (run (ak 32) ae 10 (1,3,6,14) 226 11 [] [0] (259,(fr7 0 (sI 1) 5 (sB b9)),[],dP 1 2,8,3,6)) (226,(fr7 1 (sI 1) 5 (sB b9)),[],dP 1 5,8,3,6) [fQ]=true:=by decide +kernel
theorem r7:∀b9:Bool,ai (run (ak 32) ae 10 (1,3,6,14) 226 24 [] [1] (259,(fr7 0 (sI 1) 5 (sB b9)),[],dP 1 2,8,3,6)) (226,(fr7 1 (sI 1) 5 (sI 0)),[],dP 1 5,8,3,6) [i8]=true:=by decide +kernel
theorem yT (b9:Bool)(E:EVH p l e s m args below meth c T0 Z a0 h0 hM n0 L0 A Ab K Kb D W oM rest (dP 1 2))(H:PB k j (D 3) (D 4))(hj:j=0)(f0:ah B0 Kf (D 1))(f1:ah B1 Kf (D 2))(hN:0≤N∧N≤17592186044416)(b0:-N≤B0∧B0≤N)(b1:-N≤B1∧B1≤N)(hK:Kf≤100)(KK:SK p l e s m args below meth c Z a0 hM n0 Ab Kb D W oM rest Ev k j B0 B1 N Kf 1 true 1 (dP 1 2)):Go p e below Ev T0 (mkF m 226 (dL A D W (fr7 0 (sF 6) 5 (sB b9))) []):=by
 obtain⟨t,et,bt,bp,F,G,Fs,B8⟩:=dY H f1 f0 N hN b1 b0 hK
 refine goE (b_ (r5 b9) E (by decide) rfl rfl ⟨aj F,trivial⟩ ?_) rfl
 intro T1 h1 L1 A1 K1 E1
 rcases au F E.2.1 with ⟨hz,hc⟩|⟨hz,hc⟩
 ·refine goE (b_ (r6 b9) (E1.re (D':=(ac [(D 0),(D 1),(D 2),(D 3),(D 4),(FP.ddiv (D 2) (D 3)),(D 6),(D 7)])) (W':=W) rfl rfl) (by decide) rfl rfl ⟨hc,trivial⟩ ?_) (by cases b9<;>rfl)
  intro T2 h2 L2 A2 K2 E2
  exact goE (KK T2 h2 L2 A2 K2 (D 1) (FP.ddiv (D 2) (D 3)) (FP.ddiv (D 2) (D 3)) (D 7) b9 (8*B0-j*t) t (E2.re (show (0:UInt64)=D 0 from E.2.1.symm) rfl) ⟨et,rfl⟩ (by rw[show 8*B0-j*t=8*B0 by rw[hj,Int.zero_mul];omega];exact B8) F (by omega) (by omega)) (by cases b9<;>rfl)
 ·refine goE (b_ (r7 b9) (E1.re (D':=(ac [(D 0),(D 1),(D 2),(D 3),(D 4),(FP.ddiv (D 2) (D 3)),(D 6),(D 7)])) (W':=W) rfl rfl) (by decide) rfl rfl ⟨hc,trivial⟩ ?_) (by cases b9<;>rfl)
  intro T2 h2 L2 A2 K2 E2
  exact goE (KK T2 h2 L2 A2 K2 (D 1) (FP.ddiv (D 2) (D 3)) (FP.ddiv (D 2) (D 3)) 0 true (8*B0-j*t) t (E2.re (show (0:UInt64)=D 0 from E.2.1.symm) rfl) ⟨et,rfl⟩ (by rw[show 8*B0-j*t=8*B0 by rw[hj,Int.zero_mul];omega];exact B8) F (by omega) (by omega)) (by cases b9<;>rfl)
def QH:AD:=(0,0,uS 0 8++rS 5 5++uS 8 15++[ay])
def hX:List AD:=[QH,oE,oD,oC]
def cz (a b:UInt64):List AD:=hX++[aD [a,b],wM,lJ,wL,Gm,oF]
theorem r8:∀b9:Bool,ai (run (ak 32) ae 10 (1,3,6,14) 259 20 [] [] (226,(fr7 0 (sF 6) 5 (sB b9)),[],cz 1 2,8,3,6)) (259,(fr7 0 (sI 0) 8 (sB b9)),[],cz 1 2,9,3,6) [fN]=true:=by decide +kernel
theorem r9:∀b9:Bool,ai (run (ak 32) ae 10 (1,3,6,14) 226 11 [] [0] (259,(fr7 0 (sI 0) 5 (sB b9)),[],cz 1 2,8,3,6)) (226,(fr7 1 (sI 0) 5 (sB b9)),[],cz 5 2,8,3,6) [fQ]=true:=by decide +kernel
theorem r_:∀b9:Bool,ai (run (ak 32) ae 10 (1,3,6,14) 226 49 [] [1] (259,(fr7 0 (sI 0) 5 (sB b9)),[],cz 1 2,8,3,6)) (226,(fr7 1 (sI 0) 5 (sI 1)),[],cz 5 9,10,3,6) wN=true:=by decide +kernel
theorem iF (b9:Bool)(E:EVH p l e s m args below meth c T0 Z a0 h0 hM n0 L0 A Ab K Kb D W oM rest (cz 1 2))(H:PB k j (D 3) (D 4))(f0:ah B0 Kf (D 1))(f1:ah B1 Kf (D 2))(hN:0≤N∧N≤17592186044416)(b0:-N≤B0∧B0≤N)(b1:-N≤B1∧B1≤N)(hK:Kf≤100)(KK:SK p l e s m args below meth c Z a0 hM n0 Ab Kb D W oM rest Ev k j B0 B1 N Kf 0 false 1 (cz 1 2)):Go p e below Ev T0 (mkF m 226 (dL A D W (fr7 0 (sF 6) 5 (sB b9))) []):=by
 obtain⟨t,et,bt,bp,F,G,Fs,B8⟩:=dY H f0 f1 N hN b0 b1 hK
 refine goE (b_ (r8 b9) E (by decide) rfl rfl ⟨aj F,trivial⟩ ?_) rfl
 intro T1 h1 L1 A1 K1 E1
 rcases au F E.2.1 with ⟨hz,hc⟩|⟨hz,hc⟩
 ·refine goE (b_ (r9 b9) (E1.re (D':=(ac [(D 0),(D 1),(D 2),(D 3),(D 4),(FP.ddiv (D 1) (D 3)),(D 6),(D 7)])) (W':=W) rfl rfl) (by decide) rfl rfl ⟨hc,trivial⟩ ?_) (by cases b9<;>rfl)
  intro T2 h2 L2 A2 K2 E2
  exact goE (KK T2 h2 L2 A2 K2 (FP.ddiv (D 1) (D 3)) (D 2) (FP.ddiv (D 1) (D 3)) (D 7) b9 t (8*B1-j*t) (E2.re (show (0:UInt64)=D 0 from E.2.1.symm) rfl) ⟨et,rfl⟩ F (by rw[show 8*B1-j*t=8*B1 by rw[hz,Int.mul_zero];omega];exact B8) (by omega) (by omega)) (by cases b9<;>rfl)
 ·refine goE (b_ (r_ b9) (E1.re (D':=(ac [(D 0),(D 1),(D 2),(D 3),(D 4),(FP.ddiv (D 1) (D 3)),(D 6),(D 7)])) (W':=W) rfl rfl) (by decide) rfl rfl ⟨hc,aj G,aj Fs,trivial⟩ ?_) (by cases b9<;>rfl)
  intro T2 h2 L2 A2 K2 E2
  exact goE (KK T2 h2 L2 A2 K2 (FP.ddiv (D 1) (D 3)) (FP.dsub (D 2) (FP.dmul (D 4) (FP.ddiv (D 1) (D 3)))) (FP.ddiv (D 1) (D 3)) 1 true t (8*B1-j*t) (E2.re (show (0:UInt64)=D 0 from E.2.1.symm) rfl) ⟨et,rfl⟩ F Fs (by omega) (by omega)) (by cases b9<;>rfl)
def cB (a b:UInt64):List AD:=hX++[aD [a,b],wM,lJ,wO,jR,jQ]
theorem se:∀b9:Bool,ai (run (ak 32) ae 10 (1,3,6,14) 259 20 [] [] (226,(fr7 0 (sF 6) 5 (sB b9)),[],cB 1 2,8,3,6)) (259,(fr7 0 (sI 0) 8 (sB b9)),[],cB 1 2,9,3,6) [fN]=true:=by decide +kernel
theorem sf:∀b9:Bool,ai (run (ak 32) ae 10 (1,3,6,14) 226 11 [] [0] (259,(fr7 0 (sI 0) 5 (sB b9)),[],cB 1 2,8,3,6)) (226,(fr7 1 (sI 0) 5 (sB b9)),[],cB 5 2,8,3,6) [fQ]=true:=by decide +kernel
theorem sg:∀b9:Bool,ai (run (ak 32) ae 10 (1,3,6,14) 226 24 [] [1] (259,(fr7 0 (sI 0) 5 (sB b9)),[],cB 1 2,8,3,6)) (226,(fr7 1 (sI 0) 5 (sI 0)),[],cB 5 2,8,3,6) [i8]=true:=by decide +kernel
theorem iG (b9:Bool)(E:EVH p l e s m args below meth c T0 Z a0 h0 hM n0 L0 A Ab K Kb D W oM rest (cB 1 2))(H:PB k j (D 3) (D 4))(hj:j=0)(f0:ah B0 Kf (D 1))(f1:ah B1 Kf (D 2))(hN:0≤N∧N≤17592186044416)(b0:-N≤B0∧B0≤N)(b1:-N≤B1∧B1≤N)(hK:Kf≤100)(KK:SK p l e s m args below meth c Z a0 hM n0 Ab Kb D W oM rest Ev k j B0 B1 N Kf 0 false 1 (cB 1 2)):Go p e below Ev T0 (mkF m 226 (dL A D W (fr7 0 (sF 6) 5 (sB b9))) []):=by
 obtain⟨t,et,bt,bp,F,G,Fs,B8⟩:=dY H f0 f1 N hN b0 b1 hK
 refine goE (b_ (se b9) E (by decide) rfl rfl ⟨aj F,trivial⟩ ?_) rfl
 intro T1 h1 L1 A1 K1 E1
 rcases au F E.2.1 with ⟨hz,hc⟩|⟨hz,hc⟩
 ·refine goE (b_ (sf b9) (E1.re (D':=(ac [(D 0),(D 1),(D 2),(D 3),(D 4),(FP.ddiv (D 1) (D 3)),(D 6),(D 7)])) (W':=W) rfl rfl) (by decide) rfl rfl ⟨hc,trivial⟩ ?_) (by cases b9<;>rfl)
  intro T2 h2 L2 A2 K2 E2
  exact goE (KK T2 h2 L2 A2 K2 (FP.ddiv (D 1) (D 3)) (D 2) (FP.ddiv (D 1) (D 3)) (D 7) b9 t (8*B1-j*t) (E2.re (show (0:UInt64)=D 0 from E.2.1.symm) rfl) ⟨et,rfl⟩ F (by rw[show 8*B1-j*t=8*B1 by rw[hj,Int.zero_mul];omega];exact B8) (by omega) (by omega)) (by cases b9<;>rfl)
 ·refine goE (b_ (sg b9) (E1.re (D':=(ac [(D 0),(D 1),(D 2),(D 3),(D 4),(FP.ddiv (D 1) (D 3)),(D 6),(D 7)])) (W':=W) rfl rfl) (by decide) rfl rfl ⟨hc,trivial⟩ ?_) (by cases b9<;>rfl)
  intro T2 h2 L2 A2 K2 E2
  exact goE (KK T2 h2 L2 A2 K2 (FP.ddiv (D 1) (D 3)) (D 2) (FP.ddiv (D 1) (D 3)) 0 true t (8*B1-j*t) (E2.re (show (0:UInt64)=D 0 from E.2.1.symm) rfl) ⟨et,rfl⟩ F (by rw[show 8*B1-j*t=8*B1 by rw[hj,Int.zero_mul];omega];exact B8) (by omega) (by omega)) (by cases b9<;>rfl)
def cC (a b:UInt64):List AD:=hX++[aD [a,b],wP,lJ,wL,Gn,oF]
theorem sh:∀b9:Bool,ai (run (ak 32) ae 10 (1,3,6,14) 259 20 [] [] (226,(fr7 0 (sF 6) 5 (sB b9)),[],cC 1 2,8,3,6)) (259,(fr7 0 (sI 1) 8 (sB b9)),[],cC 1 2,9,3,6) [i7]=true:=by decide +kernel
theorem si:∀b9:Bool,ai (run (ak 32) ae 10 (1,3,6,14) 226 11 [] [0] (259,(fr7 0 (sI 1) 5 (sB b9)),[],cC 1 2,8,3,6)) (226,(fr7 1 (sI 1) 5 (sB b9)),[],cC 1 5,8,3,6) [fQ]=true:=by decide +kernel
theorem sj:∀b9:Bool,ai (run (ak 32) ae 10 (1,3,6,14) 226 49 [] [1] (259,(fr7 0 (sI 1) 5 (sB b9)),[],cC 1 2,8,3,6)) (226,(fr7 1 (sI 1) 5 (sI 1)),[],cC 9 5,10,3,6) wQ=true:=by decide +kernel
theorem iH (b9:Bool)(E:EVH p l e s m args below meth c T0 Z a0 h0 hM n0 L0 A Ab K Kb D W oM rest (cC 1 2))(H:PB k j (D 3) (D 4))(f0:ah B0 Kf (D 1))(f1:ah B1 Kf (D 2))(hN:0≤N∧N≤17592186044416)(b0:-N≤B0∧B0≤N)(b1:-N≤B1∧B1≤N)(hK:Kf≤100)(KK:SK p l e s m args below meth c Z a0 hM n0 Ab Kb D W oM rest Ev k j B0 B1 N Kf 1 true 1 (cC 1 2)):Go p e below Ev T0 (mkF m 226 (dL A D W (fr7 0 (sF 6) 5 (sB b9))) []):=by
 obtain⟨t,et,bt,bp,F,G,Fs,B8⟩:=dY H f1 f0 N hN b1 b0 hK
 refine goE (b_ (sh b9) E (by decide) rfl rfl ⟨aj F,trivial⟩ ?_) rfl
 intro T1 h1 L1 A1 K1 E1
 rcases au F E.2.1 with ⟨hz,hc⟩|⟨hz,hc⟩
 ·refine goE (b_ (si b9) (E1.re (D':=(ac [(D 0),(D 1),(D 2),(D 3),(D 4),(FP.ddiv (D 2) (D 3)),(D 6),(D 7)])) (W':=W) rfl rfl) (by decide) rfl rfl ⟨hc,trivial⟩ ?_) (by cases b9<;>rfl)
  intro T2 h2 L2 A2 K2 E2
  exact goE (KK T2 h2 L2 A2 K2 (D 1) (FP.ddiv (D 2) (D 3)) (FP.ddiv (D 2) (D 3)) (D 7) b9 (8*B0-j*t) t (E2.re (show (0:UInt64)=D 0 from E.2.1.symm) rfl) ⟨et,rfl⟩ (by rw[show 8*B0-j*t=8*B0 by rw[hz,Int.mul_zero];omega];exact B8) F (by omega) (by omega)) (by cases b9<;>rfl)
 ·refine goE (b_ (sj b9) (E1.re (D':=(ac [(D 0),(D 1),(D 2),(D 3),(D 4),(FP.ddiv (D 2) (D 3)),(D 6),(D 7)])) (W':=W) rfl rfl) (by decide) rfl rfl ⟨hc,aj G,aj Fs,trivial⟩ ?_) (by cases b9<;>rfl)
  intro T2 h2 L2 A2 K2 E2
  exact goE (KK T2 h2 L2 A2 K2 (FP.dsub (D 1) (FP.dmul (D 4) (FP.ddiv (D 2) (D 3)))) (FP.ddiv (D 2) (D 3)) (FP.ddiv (D 2) (D 3)) 1 true (8*B0-j*t) t (E2.re (show (0:UInt64)=D 0 from E.2.1.symm) rfl) ⟨et,rfl⟩ Fs F (by omega) (by omega)) (by cases b9<;>rfl)
def cD (a b:UInt64):List AD:=hX++[aD [a,b],wP,lJ,wO,jR,jQ]
theorem sk:∀b9:Bool,ai (run (ak 32) ae 10 (1,3,6,14) 259 20 [] [] (226,(fr7 0 (sF 6) 5 (sB b9)),[],cD 1 2,8,3,6)) (259,(fr7 0 (sI 1) 8 (sB b9)),[],cD 1 2,9,3,6) [i7]=true:=by decide +kernel
theorem sm:∀b9:Bool,ai (run (ak 32) ae 10 (1,3,6,14) 226 11 [] [0] (259,(fr7 0 (sI 1) 5 (sB b9)),[],cD 1 2,8,3,6)) (226,(fr7 1 (sI 1) 5 (sB b9)),[],cD 1 5,8,3,6) [fQ]=true:=by decide +kernel
theorem sn:∀b9:Bool,ai (run (ak 32) ae 10 (1,3,6,14) 226 24 [] [1] (259,(fr7 0 (sI 1) 5 (sB b9)),[],cD 1 2,8,3,6)) (226,(fr7 1 (sI 1) 5 (sI 0)),[],cD 1 5,8,3,6) [i8]=true:=by decide +kernel
theorem iI (b9:Bool)(E:EVH p l e s m args below meth c T0 Z a0 h0 hM n0 L0 A Ab K Kb D W oM rest (cD 1 2))(H:PB k j (D 3) (D 4))(hj:j=0)(f0:ah B0 Kf (D 1))(f1:ah B1 Kf (D 2))(hN:0≤N∧N≤17592186044416)(b0:-N≤B0∧B0≤N)(b1:-N≤B1∧B1≤N)(hK:Kf≤100)(KK:SK p l e s m args below meth c Z a0 hM n0 Ab Kb D W oM rest Ev k j B0 B1 N Kf 1 true 1 (cD 1 2)):Go p e below Ev T0 (mkF m 226 (dL A D W (fr7 0 (sF 6) 5 (sB b9))) []):=by
 obtain⟨t,et,bt,bp,F,G,Fs,B8⟩:=dY H f1 f0 N hN b1 b0 hK
 refine goE (b_ (sk b9) E (by decide) rfl rfl ⟨aj F,trivial⟩ ?_) rfl
 intro T1 h1 L1 A1 K1 E1
 rcases au F E.2.1 with ⟨hz,hc⟩|⟨hz,hc⟩
 ·refine goE (b_ (sm b9) (E1.re (D':=(ac [(D 0),(D 1),(D 2),(D 3),(D 4),(FP.ddiv (D 2) (D 3)),(D 6),(D 7)])) (W':=W) rfl rfl) (by decide) rfl rfl ⟨hc,trivial⟩ ?_) (by cases b9<;>rfl)
  intro T2 h2 L2 A2 K2 E2
  exact goE (KK T2 h2 L2 A2 K2 (D 1) (FP.ddiv (D 2) (D 3)) (FP.ddiv (D 2) (D 3)) (D 7) b9 (8*B0-j*t) t (E2.re (show (0:UInt64)=D 0 from E.2.1.symm) rfl) ⟨et,rfl⟩ (by rw[show 8*B0-j*t=8*B0 by rw[hj,Int.zero_mul];omega];exact B8) F (by omega) (by omega)) (by cases b9<;>rfl)
 ·refine goE (b_ (sn b9) (E1.re (D':=(ac [(D 0),(D 1),(D 2),(D 3),(D 4),(FP.ddiv (D 2) (D 3)),(D 6),(D 7)])) (W':=W) rfl rfl) (by decide) rfl rfl ⟨hc,trivial⟩ ?_) (by cases b9<;>rfl)
  intro T2 h2 L2 A2 K2 E2
  exact goE (KK T2 h2 L2 A2 K2 (D 1) (FP.ddiv (D 2) (D 3)) (FP.ddiv (D 2) (D 3)) 0 true (8*B0-j*t) t (E2.re (show (0:UInt64)=D 0 from E.2.1.symm) rfl) ⟨et,rfl⟩ (by rw[show 8*B0-j*t=8*B0 by rw[hj,Int.zero_mul];omega];exact B8) F (by omega) (by omega)) (by cases b9<;>rfl)
def lK:AD:=(65,16,[vU 60,vD 3]++uS 62 14)
def wR:AD:=(64,16,[iq,zq0]++uS 42 14)
def df (a b:UInt64):List AD:=hX++[aD [a,b],wR,lK,(64,17,[vU 80,zq0,zq3]++uS 83 14),Gm,oF]
theorem so:∀b9:Bool,ai (run (ak 32) ae 10 (1,3,6,14) 259 20 [] [] (226,(fr7 1 (sF 6) 5 (sB b9)),[],df 1 2,8,3,6)) (259,(fr7 1 (sI 0) 8 (sB b9)),[],df 1 2,9,3,6) [fN]=true:=by decide +kernel
theorem sq:∀b9:Bool,ai (run (ak 32) ae 10 (1,3,6,14) 226 11 [] [0] (259,(fr7 1 (sI 0) 5 (sB b9)),[],df 1 2,8,3,6)) (226,(fr7 2 (sI 0) 5 (sB b9)),[],df 5 2,8,3,6) [fQ]=true:=by decide +kernel
theorem sr:∀b9:Bool,ai (run (ak 32) ae 10 (1,3,6,14) 226 49 [] [1] (259,(fr7 1 (sI 0) 5 (sB b9)),[],df 1 2,8,3,6)) (226,(fr7 2 (sI 0) 5 (sI 1)),[],df 5 9,10,3,6) wN=true:=by decide +kernel
theorem oG (b9:Bool)(E:EVH p l e s m args below meth c T0 Z a0 h0 hM n0 L0 A Ab K Kb D W oM rest (df 1 2))(H:PB k j (D 3) (D 4))(f0:ah B0 Kf (D 1))(f1:ah B1 Kf (D 2))(hN:0≤N∧N≤17592186044416)(b0:-N≤B0∧B0≤N)(b1:-N≤B1∧B1≤N)(hK:Kf≤100)(KK:SK p l e s m args below meth c Z a0 hM n0 Ab Kb D W oM rest Ev k j B0 B1 N Kf 0 false 2 (df 1 2)):Go p e below Ev T0 (mkF m 226 (dL A D W (fr7 1 (sF 6) 5 (sB b9))) []):=by
 obtain⟨t,et,bt,bp,F,G,Fs,B8⟩:=dY H f0 f1 N hN b0 b1 hK
 refine goE (b_ (so b9) E (by decide) rfl rfl ⟨aj F,trivial⟩ ?_) rfl
 intro T1 h1 L1 A1 K1 E1
 rcases au F E.2.1 with ⟨hz,hc⟩|⟨hz,hc⟩
 ·refine goE (b_ (sq b9) (E1.re (D':=(ac [(D 0),(D 1),(D 2),(D 3),(D 4),(FP.ddiv (D 1) (D 3)),(D 6),(D 7)])) (W':=W) rfl rfl) (by decide) rfl rfl ⟨hc,trivial⟩ ?_) (by cases b9<;>rfl)
  intro T2 h2 L2 A2 K2 E2
  exact goE (KK T2 h2 L2 A2 K2 (FP.ddiv (D 1) (D 3)) (D 2) (FP.ddiv (D 1) (D 3)) (D 7) b9 t (8*B1-j*t) (E2.re (show (0:UInt64)=D 0 from E.2.1.symm) rfl) ⟨et,rfl⟩ F (by rw[show 8*B1-j*t=8*B1 by rw[hz,Int.mul_zero];omega];exact B8) (by omega) (by omega)) (by cases b9<;>rfl)
 ·refine goE (b_ (sr b9) (E1.re (D':=(ac [(D 0),(D 1),(D 2),(D 3),(D 4),(FP.ddiv (D 1) (D 3)),(D 6),(D 7)])) (W':=W) rfl rfl) (by decide) rfl rfl ⟨hc,aj G,aj Fs,trivial⟩ ?_) (by cases b9<;>rfl)
  intro T2 h2 L2 A2 K2 E2
  exact goE (KK T2 h2 L2 A2 K2 (FP.ddiv (D 1) (D 3)) (FP.dsub (D 2) (FP.dmul (D 4) (FP.ddiv (D 1) (D 3)))) (FP.ddiv (D 1) (D 3)) 1 true t (8*B1-j*t) (E2.re (show (0:UInt64)=D 0 from E.2.1.symm) rfl) ⟨et,rfl⟩ F Fs (by omega) (by omega)) (by cases b9<;>rfl)
def dg (a b:UInt64):List AD:=hX++[aD [a,b],wR,lK,(64,17,[vU 80,zq0,zq0]++uS 83 14),jR,jQ]
theorem ss:∀b9:Bool,ai (run (ak 32) ae 10 (1,3,6,14) 259 20 [] [] (226,(fr7 1 (sF 6) 5 (sB b9)),[],dg 1 2,8,3,6)) (259,(fr7 1 (sI 0) 8 (sB b9)),[],dg 1 2,9,3,6) [fN]=true:=by decide +kernel
theorem sv:∀b9:Bool,ai (run (ak 32) ae 10 (1,3,6,14) 226 11 [] [0] (259,(fr7 1 (sI 0) 5 (sB b9)),[],dg 1 2,8,3,6)) (226,(fr7 2 (sI 0) 5 (sB b9)),[],dg 5 2,8,3,6) [fQ]=true:=by decide +kernel
theorem sw:∀b9:Bool,ai (run (ak 32) ae 10 (1,3,6,14) 226 24 [] [1] (259,(fr7 1 (sI 0) 5 (sB b9)),[],dg 1 2,8,3,6)) (226,(fr7 2 (sI 0) 5 (sI 0)),[],dg 5 2,8,3,6) [i8]=true:=by decide +kernel
theorem oH (b9:Bool)(E:EVH p l e s m args below meth c T0 Z a0 h0 hM n0 L0 A Ab K Kb D W oM rest (dg 1 2))(H:PB k j (D 3) (D 4))(hj:j=0)(f0:ah B0 Kf (D 1))(f1:ah B1 Kf (D 2))(hN:0≤N∧N≤17592186044416)(b0:-N≤B0∧B0≤N)(b1:-N≤B1∧B1≤N)(hK:Kf≤100)(KK:SK p l e s m args below meth c Z a0 hM n0 Ab Kb D W oM rest Ev k j B0 B1 N Kf 0 false 2 (dg 1 2)):Go p e below Ev T0 (mkF m 226 (dL A D W (fr7 1 (sF 6) 5 (sB b9))) []):=by
 obtain⟨t,et,bt,bp,F,G,Fs,B8⟩:=dY H f0 f1 N hN b0 b1 hK
 refine goE (b_ (ss b9) E (by decide) rfl rfl ⟨aj F,trivial⟩ ?_) rfl
 intro T1 h1 L1 A1 K1 E1
 rcases au F E.2.1 with ⟨hz,hc⟩|⟨hz,hc⟩
 ·refine goE (b_ (sv b9) (E1.re (D':=(ac [(D 0),(D 1),(D 2),(D 3),(D 4),(FP.ddiv (D 1) (D 3)),(D 6),(D 7)])) (W':=W) rfl rfl) (by decide) rfl rfl ⟨hc,trivial⟩ ?_) (by cases b9<;>rfl)
  intro T2 h2 L2 A2 K2 E2
  exact goE (KK T2 h2 L2 A2 K2 (FP.ddiv (D 1) (D 3)) (D 2) (FP.ddiv (D 1) (D 3)) (D 7) b9 t (8*B1-j*t) (E2.re (show (0:UInt64)=D 0 from E.2.1.symm) rfl) ⟨et,rfl⟩ F (by rw[show 8*B1-j*t=8*B1 by rw[hj,Int.zero_mul];omega];exact B8) (by omega) (by omega)) (by cases b9<;>rfl)
 ·refine goE (b_ (sw b9) (E1.re (D':=(ac [(D 0),(D 1),(D 2),(D 3),(D 4),(FP.ddiv (D 1) (D 3)),(D 6),(D 7)])) (W':=W) rfl rfl) (by decide) rfl rfl ⟨hc,trivial⟩ ?_) (by cases b9<;>rfl)
  intro T2 h2 L2 A2 K2 E2
  exact goE (KK T2 h2 L2 A2 K2 (FP.ddiv (D 1) (D 3)) (D 2) (FP.ddiv (D 1) (D 3)) 0 true t (8*B1-j*t) (E2.re (show (0:UInt64)=D 0 from E.2.1.symm) rfl) ⟨et,rfl⟩ F (by rw[show 8*B1-j*t=8*B1 by rw[hj,Int.zero_mul];omega];exact B8) (by omega) (by omega)) (by cases b9<;>rfl)
def wS:AD:=(64,16,[iq,zq3]++uS 42 14)
def dh (a b:UInt64):List AD:=hX++[aD [a,b],wS,lK,(64,17,[vU 80,zq0,zq3]++uS 83 14),Gn,oF]
theorem sx:∀b9:Bool,ai (run (ak 32) ae 10 (1,3,6,14) 259 20 [] [] (226,(fr7 1 (sF 6) 5 (sB b9)),[],dh 1 2,8,3,6)) (259,(fr7 1 (sI 1) 8 (sB b9)),[],dh 1 2,9,3,6) [i7]=true:=by decide +kernel
theorem sy:∀b9:Bool,ai (run (ak 32) ae 10 (1,3,6,14) 226 11 [] [0] (259,(fr7 1 (sI 1) 5 (sB b9)),[],dh 1 2,8,3,6)) (226,(fr7 2 (sI 1) 5 (sB b9)),[],dh 1 5,8,3,6) [fQ]=true:=by decide +kernel
theorem sz:∀b9:Bool,ai (run (ak 32) ae 10 (1,3,6,14) 226 49 [] [1] (259,(fr7 1 (sI 1) 5 (sB b9)),[],dh 1 2,8,3,6)) (226,(fr7 2 (sI 1) 5 (sI 1)),[],dh 9 5,10,3,6) wQ=true:=by decide +kernel
theorem oI (b9:Bool)(E:EVH p l e s m args below meth c T0 Z a0 h0 hM n0 L0 A Ab K Kb D W oM rest (dh 1 2))(H:PB k j (D 3) (D 4))(f0:ah B0 Kf (D 1))(f1:ah B1 Kf (D 2))(hN:0≤N∧N≤17592186044416)(b0:-N≤B0∧B0≤N)(b1:-N≤B1∧B1≤N)(hK:Kf≤100)(KK:SK p l e s m args below meth c Z a0 hM n0 Ab Kb D W oM rest Ev k j B0 B1 N Kf 1 true 2 (dh 1 2)):Go p e below Ev T0 (mkF m 226 (dL A D W (fr7 1 (sF 6) 5 (sB b9))) []):=by
 obtain⟨t,et,bt,bp,F,G,Fs,B8⟩:=dY H f1 f0 N hN b1 b0 hK
 refine goE (b_ (sx b9) E (by decide) rfl rfl ⟨aj F,trivial⟩ ?_) rfl
 intro T1 h1 L1 A1 K1 E1
 rcases au F E.2.1 with ⟨hz,hc⟩|⟨hz,hc⟩
 ·refine goE (b_ (sy b9) (E1.re (D':=(ac [(D 0),(D 1),(D 2),(D 3),(D 4),(FP.ddiv (D 2) (D 3)),(D 6),(D 7)])) (W':=W) rfl rfl) (by decide) rfl rfl ⟨hc,trivial⟩ ?_) (by cases b9<;>rfl)
  intro T2 h2 L2 A2 K2 E2
  exact goE (KK T2 h2 L2 A2 K2 (D 1) (FP.ddiv (D 2) (D 3)) (FP.ddiv (D 2) (D 3)) (D 7) b9 (8*B0-j*t) t (E2.re (show (0:UInt64)=D 0 from E.2.1.symm) rfl) ⟨et,rfl⟩ (by rw[show 8*B0-j*t=8*B0 by rw[hz,Int.mul_zero];omega];exact B8) F (by omega) (by omega)) (by cases b9<;>rfl)
 ·refine goE (b_ (sz b9) (E1.re (D':=(ac [(D 0),(D 1),(D 2),(D 3),(D 4),(FP.ddiv (D 2) (D 3)),(D 6),(D 7)])) (W':=W) rfl rfl) (by decide) rfl rfl ⟨hc,aj G,aj Fs,trivial⟩ ?_) (by cases b9<;>rfl)
  intro T2 h2 L2 A2 K2 E2
  exact goE (KK T2 h2 L2 A2 K2 (FP.dsub (D 1) (FP.dmul (D 4) (FP.ddiv (D 2) (D 3)))) (FP.ddiv (D 2) (D 3)) (FP.ddiv (D 2) (D 3)) 1 true (8*B0-j*t) t (E2.re (show (0:UInt64)=D 0 from E.2.1.symm) rfl) ⟨et,rfl⟩ Fs F (by omega) (by omega)) (by cases b9<;>rfl)
def di (a b:UInt64):List AD:=hX++[aD [a,b],wS,lK,(64,17,[vU 80,zq0,zq0]++uS 83 14),jR,jQ]
theorem sA:∀b9:Bool,ai (run (ak 32) ae 10 (1,3,6,14) 259 20 [] [] (226,(fr7 1 (sF 6) 5 (sB b9)),[],di 1 2,8,3,6)) (259,(fr7 1 (sI 1) 8 (sB b9)),[],di 1 2,9,3,6) [i7]=true:=by decide +kernel
theorem sC:∀b9:Bool,ai (run (ak 32) ae 10 (1,3,6,14) 226 11 [] [0] (259,(fr7 1 (sI 1) 5 (sB b9)),[],di 1 2,8,3,6)) (226,(fr7 2 (sI 1) 5 (sB b9)),[],di 1 5,8,3,6) [fQ]=true:=by decide +kernel
theorem sE:∀b9:Bool,ai (run (ak 32) ae 10 (1,3,6,14) 226 24 [] [1] (259,(fr7 1 (sI 1) 5 (sB b9)),[],di 1 2,8,3,6)) (226,(fr7 2 (sI 1) 5 (sI 0)),[],di 1 5,8,3,6) [i8]=true:=by decide +kernel
theorem oJ (b9:Bool)(E:EVH p l e s m args below meth c T0 Z a0 h0 hM n0 L0 A Ab K Kb D W oM rest (di 1 2))(H:PB k j (D 3) (D 4))(hj:j=0)(f0:ah B0 Kf (D 1))(f1:ah B1 Kf (D 2))(hN:0≤N∧N≤17592186044416)(b0:-N≤B0∧B0≤N)(b1:-N≤B1∧B1≤N)(hK:Kf≤100)(KK:SK p l e s m args below meth c Z a0 hM n0 Ab Kb D W oM rest Ev k j B0 B1 N Kf 1 true 2 (di 1 2)):Go p e below Ev T0 (mkF m 226 (dL A D W (fr7 1 (sF 6) 5 (sB b9))) []):=by
 obtain⟨t,et,bt,bp,F,G,Fs,B8⟩:=dY H f1 f0 N hN b1 b0 hK
 refine goE (b_ (sA b9) E (by decide) rfl rfl ⟨aj F,trivial⟩ ?_) rfl
 intro T1 h1 L1 A1 K1 E1
 rcases au F E.2.1 with ⟨hz,hc⟩|⟨hz,hc⟩
 ·refine goE (b_ (sC b9) (E1.re (D':=(ac [(D 0),(D 1),(D 2),(D 3),(D 4),(FP.ddiv (D 2) (D 3)),(D 6),(D 7)])) (W':=W) rfl rfl) (by decide) rfl rfl ⟨hc,trivial⟩ ?_) (by cases b9<;>rfl)
  intro T2 h2 L2 A2 K2 E2
  exact goE (KK T2 h2 L2 A2 K2 (D 1) (FP.ddiv (D 2) (D 3)) (FP.ddiv (D 2) (D 3)) (D 7) b9 (8*B0-j*t) t (E2.re (show (0:UInt64)=D 0 from E.2.1.symm) rfl) ⟨et,rfl⟩ (by rw[show 8*B0-j*t=8*B0 by rw[hj,Int.zero_mul];omega];exact B8) F (by omega) (by omega)) (by cases b9<;>rfl)
 ·refine goE (b_ (sE b9) (E1.re (D':=(ac [(D 0),(D 1),(D 2),(D 3),(D 4),(FP.ddiv (D 2) (D 3)),(D 6),(D 7)])) (W':=W) rfl rfl) (by decide) rfl rfl ⟨hc,trivial⟩ ?_) (by cases b9<;>rfl)
  intro T2 h2 L2 A2 K2 E2
  exact goE (KK T2 h2 L2 A2 K2 (D 1) (FP.ddiv (D 2) (D 3)) (FP.ddiv (D 2) (D 3)) 0 true (8*B0-j*t) t (E2.re (show (0:UInt64)=D 0 from E.2.1.symm) rfl) ⟨et,rfl⟩ (by rw[show 8*B0-j*t=8*B0 by rw[hj,Int.zero_mul];omega];exact B8) F (by omega) (by omega)) (by cases b9<;>rfl)
def dj (a b:UInt64):List AD:=hX++[aD [a,b],wR,lK,(64,17,[vU 80,zq3,ay]++uS 83 14),(64,256,[vU 100,zq3,vU 102,vU 103]),(65,256,[vU 110,vD 4,vU 112,vU 113])]
theorem sG:∀b9:Bool,ai (run (ak 32) ae 10 (1,3,6,14) 259 20 [] [] (226,(fr7 1 (sF 6) 5 (sB b9)),[],dj 1 2,8,3,6)) (259,(fr7 1 (sI 0) 8 (sB b9)),[],dj 1 2,9,3,6) [fN]=true:=by decide +kernel
theorem sH:∀b9:Bool,ai (run (ak 32) ae 10 (1,3,6,14) 226 11 [] [0] (259,(fr7 1 (sI 0) 5 (sB b9)),[],dj 1 2,8,3,6)) (226,(fr7 2 (sI 0) 5 (sB b9)),[],dj 5 2,8,3,6) [fQ]=true:=by decide +kernel
theorem sJ:∀b9:Bool,ai (run (ak 32) ae 10 (1,3,6,14) 226 49 [] [1] (259,(fr7 1 (sI 0) 5 (sB b9)),[],dj 1 2,8,3,6)) (226,(fr7 2 (sI 0) 5 (sI 2)),[],dj 5 9,10,3,6) wN=true:=by decide +kernel
theorem oK (b9:Bool)(E:EVH p l e s m args below meth c T0 Z a0 h0 hM n0 L0 A Ab K Kb D W oM rest (dj 1 2))(H:PB k j (D 3) (D 4))(f0:ah B0 Kf (D 1))(f1:ah B1 Kf (D 2))(hN:0≤N∧N≤17592186044416)(b0:-N≤B0∧B0≤N)(b1:-N≤B1∧B1≤N)(hK:Kf≤100)(KK:SK p l e s m args below meth c Z a0 hM n0 Ab Kb D W oM rest Ev k j B0 B1 N Kf 0 false 2 (dj 1 2)):Go p e below Ev T0 (mkF m 226 (dL A D W (fr7 1 (sF 6) 5 (sB b9))) []):=by
 obtain⟨t,et,bt,bp,F,G,Fs,B8⟩:=dY H f0 f1 N hN b0 b1 hK
 refine goE (b_ (sG b9) E (by decide) rfl rfl ⟨aj F,trivial⟩ ?_) rfl
 intro T1 h1 L1 A1 K1 E1
 rcases au F E.2.1 with ⟨hz,hc⟩|⟨hz,hc⟩
 ·refine goE (b_ (sH b9) (E1.re (D':=(ac [(D 0),(D 1),(D 2),(D 3),(D 4),(FP.ddiv (D 1) (D 3)),(D 6),(D 7)])) (W':=W) rfl rfl) (by decide) rfl rfl ⟨hc,trivial⟩ ?_) (by cases b9<;>rfl)
  intro T2 h2 L2 A2 K2 E2
  exact goE (KK T2 h2 L2 A2 K2 (FP.ddiv (D 1) (D 3)) (D 2) (FP.ddiv (D 1) (D 3)) (D 7) b9 t (8*B1-j*t) (E2.re (show (0:UInt64)=D 0 from E.2.1.symm) rfl) ⟨et,rfl⟩ F (by rw[show 8*B1-j*t=8*B1 by rw[hz,Int.mul_zero];omega];exact B8) (by omega) (by omega)) (by cases b9<;>rfl)
 ·refine goE (b_ (sJ b9) (E1.re (D':=(ac [(D 0),(D 1),(D 2),(D 3),(D 4),(FP.ddiv (D 1) (D 3)),(D 6),(D 7)])) (W':=W) rfl rfl) (by decide) rfl rfl ⟨hc,aj G,aj Fs,trivial⟩ ?_) (by cases b9<;>rfl)
  intro T2 h2 L2 A2 K2 E2
  exact goE (KK T2 h2 L2 A2 K2 (FP.ddiv (D 1) (D 3)) (FP.dsub (D 2) (FP.dmul (D 4) (FP.ddiv (D 1) (D 3)))) (FP.ddiv (D 1) (D 3)) 2 true t (8*B1-j*t) (E2.re (show (0:UInt64)=D 0 from E.2.1.symm) rfl) ⟨et,rfl⟩ F Fs (by omega) (by omega)) (by cases b9<;>rfl)
def dk (a b:UInt64):List AD:=hX++[aD [a,b],wR,lK,(64,17,[vU 80,zq3,zq3]++uS 83 14),jR,jQ]
theorem sK:∀b9:Bool,ai (run (ak 32) ae 10 (1,3,6,14) 259 20 [] [] (226,(fr7 1 (sF 6) 5 (sB b9)),[],dk 1 2,8,3,6)) (259,(fr7 1 (sI 0) 8 (sB b9)),[],dk 1 2,9,3,6) [fN]=true:=by decide +kernel
theorem sM:∀b9:Bool,ai (run (ak 32) ae 10 (1,3,6,14) 226 11 [] [0] (259,(fr7 1 (sI 0) 5 (sB b9)),[],dk 1 2,8,3,6)) (226,(fr7 2 (sI 0) 5 (sB b9)),[],dk 5 2,8,3,6) [fQ]=true:=by decide +kernel
theorem sN:∀b9:Bool,ai (run (ak 32) ae 10 (1,3,6,14) 226 24 [] [1] (259,(fr7 1 (sI 0) 5 (sB b9)),[],dk 1 2,8,3,6)) (226,(fr7 2 (sI 0) 5 (sI 1)),[],dk 5 2,8,3,6) [i8]=true:=by decide +kernel
theorem oL (b9:Bool)(E:EVH p l e s m args below meth c T0 Z a0 h0 hM n0 L0 A Ab K Kb D W oM rest (dk 1 2))(H:PB k j (D 3) (D 4))(hj:j=0)(f0:ah B0 Kf (D 1))(f1:ah B1 Kf (D 2))(hN:0≤N∧N≤17592186044416)(b0:-N≤B0∧B0≤N)(b1:-N≤B1∧B1≤N)(hK:Kf≤100)(KK:SK p l e s m args below meth c Z a0 hM n0 Ab Kb D W oM rest Ev k j B0 B1 N Kf 0 false 2 (dk 1 2)):Go p e below Ev T0 (mkF m 226 (dL A D W (fr7 1 (sF 6) 5 (sB b9))) []):=by
 obtain⟨t,et,bt,bp,F,G,Fs,B8⟩:=dY H f0 f1 N hN b0 b1 hK
 refine goE (b_ (sK b9) E (by decide) rfl rfl ⟨aj F,trivial⟩ ?_) rfl
 intro T1 h1 L1 A1 K1 E1
 rcases au F E.2.1 with ⟨hz,hc⟩|⟨hz,hc⟩
 ·refine goE (b_ (sM b9) (E1.re (D':=(ac [(D 0),(D 1),(D 2),(D 3),(D 4),(FP.ddiv (D 1) (D 3)),(D 6),(D 7)])) (W':=W) rfl rfl) (by decide) rfl rfl ⟨hc,trivial⟩ ?_) (by cases b9<;>rfl)
  intro T2 h2 L2 A2 K2 E2
  exact goE (KK T2 h2 L2 A2 K2 (FP.ddiv (D 1) (D 3)) (D 2) (FP.ddiv (D 1) (D 3)) (D 7) b9 t (8*B1-j*t) (E2.re (show (0:UInt64)=D 0 from E.2.1.symm) rfl) ⟨et,rfl⟩ F (by rw[show 8*B1-j*t=8*B1 by rw[hj,Int.zero_mul];omega];exact B8) (by omega) (by omega)) (by cases b9<;>rfl)
 ·refine goE (b_ (sN b9) (E1.re (D':=(ac [(D 0),(D 1),(D 2),(D 3),(D 4),(FP.ddiv (D 1) (D 3)),(D 6),(D 7)])) (W':=W) rfl rfl) (by decide) rfl rfl ⟨hc,trivial⟩ ?_) (by cases b9<;>rfl)
  intro T2 h2 L2 A2 K2 E2
  exact goE (KK T2 h2 L2 A2 K2 (FP.ddiv (D 1) (D 3)) (D 2) (FP.ddiv (D 1) (D 3)) 1 true t (8*B1-j*t) (E2.re (show (0:UInt64)=D 0 from E.2.1.symm) rfl) ⟨et,rfl⟩ F (by rw[show 8*B1-j*t=8*B1 by rw[hj,Int.zero_mul];omega];exact B8) (by omega) (by omega)) (by cases b9<;>rfl)
def dm (a b:UInt64):List AD:=hX++[aD [a,b],wS,lK,(64,17,[vU 80,zq3,ay]++uS 83 14),(64,256,[vU 100,zq0,vU 102,vU 103]),(65,256,[vU 110,vD 4,vU 112,vU 113])]
theorem sO:∀b9:Bool,ai (run (ak 32) ae 10 (1,3,6,14) 259 20 [] [] (226,(fr7 1 (sF 6) 5 (sB b9)),[],dm 1 2,8,3,6)) (259,(fr7 1 (sI 1) 8 (sB b9)),[],dm 1 2,9,3,6) [i7]=true:=by decide +kernel
theorem sP:∀b9:Bool,ai (run (ak 32) ae 10 (1,3,6,14) 226 11 [] [0] (259,(fr7 1 (sI 1) 5 (sB b9)),[],dm 1 2,8,3,6)) (226,(fr7 2 (sI 1) 5 (sB b9)),[],dm 1 5,8,3,6) [fQ]=true:=by decide +kernel
theorem sQ:∀b9:Bool,ai (run (ak 32) ae 10 (1,3,6,14) 226 49 [] [1] (259,(fr7 1 (sI 1) 5 (sB b9)),[],dm 1 2,8,3,6)) (226,(fr7 2 (sI 1) 5 (sI 2)),[],dm 9 5,10,3,6) wQ=true:=by decide +kernel
theorem oN (b9:Bool)(E:EVH p l e s m args below meth c T0 Z a0 h0 hM n0 L0 A Ab K Kb D W oM rest (dm 1 2))(H:PB k j (D 3) (D 4))(f0:ah B0 Kf (D 1))(f1:ah B1 Kf (D 2))(hN:0≤N∧N≤17592186044416)(b0:-N≤B0∧B0≤N)(b1:-N≤B1∧B1≤N)(hK:Kf≤100)(KK:SK p l e s m args below meth c Z a0 hM n0 Ab Kb D W oM rest Ev k j B0 B1 N Kf 1 true 2 (dm 1 2)):Go p e below Ev T0 (mkF m 226 (dL A D W (fr7 1 (sF 6) 5 (sB b9))) []):=by
 obtain⟨t,et,bt,bp,F,G,Fs,B8⟩:=dY H f1 f0 N hN b1 b0 hK
 refine goE (b_ (sO b9) E (by decide) rfl rfl ⟨aj F,trivial⟩ ?_) rfl
 intro T1 h1 L1 A1 K1 E1
 rcases au F E.2.1 with ⟨hz,hc⟩|⟨hz,hc⟩
 ·refine goE (b_ (sP b9) (E1.re (D':=(ac [(D 0),(D 1),(D 2),(D 3),(D 4),(FP.ddiv (D 2) (D 3)),(D 6),(D 7)])) (W':=W) rfl rfl) (by decide) rfl rfl ⟨hc,trivial⟩ ?_) (by cases b9<;>rfl)
  intro T2 h2 L2 A2 K2 E2
  exact goE (KK T2 h2 L2 A2 K2 (D 1) (FP.ddiv (D 2) (D 3)) (FP.ddiv (D 2) (D 3)) (D 7) b9 (8*B0-j*t) t (E2.re (show (0:UInt64)=D 0 from E.2.1.symm) rfl) ⟨et,rfl⟩ (by rw[show 8*B0-j*t=8*B0 by rw[hz,Int.mul_zero];omega];exact B8) F (by omega) (by omega)) (by cases b9<;>rfl)
 ·refine goE (b_ (sQ b9) (E1.re (D':=(ac [(D 0),(D 1),(D 2),(D 3),(D 4),(FP.ddiv (D 2) (D 3)),(D 6),(D 7)])) (W':=W) rfl rfl) (by decide) rfl rfl ⟨hc,aj G,aj Fs,trivial⟩ ?_) (by cases b9<;>rfl)
  intro T2 h2 L2 A2 K2 E2
  exact goE (KK T2 h2 L2 A2 K2 (FP.dsub (D 1) (FP.dmul (D 4) (FP.ddiv (D 2) (D 3)))) (FP.ddiv (D 2) (D 3)) (FP.ddiv (D 2) (D 3)) 2 true (8*B0-j*t) t (E2.re (show (0:UInt64)=D 0 from E.2.1.symm) rfl) ⟨et,rfl⟩ Fs F (by omega) (by omega)) (by cases b9<;>rfl)
def dn (a b:UInt64):List AD:=hX++[aD [a,b],wS,lK,(64,17,[vU 80,zq3,zq3]++uS 83 14),jR,jQ]
theorem sS:∀b9:Bool,ai (run (ak 32) ae 10 (1,3,6,14) 259 20 [] [] (226,(fr7 1 (sF 6) 5 (sB b9)),[],dn 1 2,8,3,6)) (259,(fr7 1 (sI 1) 8 (sB b9)),[],dn 1 2,9,3,6) [i7]=true:=by decide +kernel
theorem sT:∀b9:Bool,ai (run (ak 32) ae 10 (1,3,6,14) 226 11 [] [0] (259,(fr7 1 (sI 1) 5 (sB b9)),[],dn 1 2,8,3,6)) (226,(fr7 2 (sI 1) 5 (sB b9)),[],dn 1 5,8,3,6) [fQ]=true:=by decide +kernel
theorem sV:∀b9:Bool,ai (run (ak 32) ae 10 (1,3,6,14) 226 24 [] [1] (259,(fr7 1 (sI 1) 5 (sB b9)),[],dn 1 2,8,3,6)) (226,(fr7 2 (sI 1) 5 (sI 1)),[],dn 1 5,8,3,6) [i8]=true:=by decide +kernel
theorem oO (b9:Bool)(E:EVH p l e s m args below meth c T0 Z a0 h0 hM n0 L0 A Ab K Kb D W oM rest (dn 1 2))(H:PB k j (D 3) (D 4))(hj:j=0)(f0:ah B0 Kf (D 1))(f1:ah B1 Kf (D 2))(hN:0≤N∧N≤17592186044416)(b0:-N≤B0∧B0≤N)(b1:-N≤B1∧B1≤N)(hK:Kf≤100)(KK:SK p l e s m args below meth c Z a0 hM n0 Ab Kb D W oM rest Ev k j B0 B1 N Kf 1 true 2 (dn 1 2)):Go p e below Ev T0 (mkF m 226 (dL A D W (fr7 1 (sF 6) 5 (sB b9))) []):=by
 obtain⟨t,et,bt,bp,F,G,Fs,B8⟩:=dY H f1 f0 N hN b1 b0 hK
 refine goE (b_ (sS b9) E (by decide) rfl rfl ⟨aj F,trivial⟩ ?_) rfl
 intro T1 h1 L1 A1 K1 E1
 rcases au F E.2.1 with ⟨hz,hc⟩|⟨hz,hc⟩
 ·refine goE (b_ (sT b9) (E1.re (D':=(ac [(D 0),(D 1),(D 2),(D 3),(D 4),(FP.ddiv (D 2) (D 3)),(D 6),(D 7)])) (W':=W) rfl rfl) (by decide) rfl rfl ⟨hc,trivial⟩ ?_) (by cases b9<;>rfl)
  intro T2 h2 L2 A2 K2 E2
  exact goE (KK T2 h2 L2 A2 K2 (D 1) (FP.ddiv (D 2) (D 3)) (FP.ddiv (D 2) (D 3)) (D 7) b9 (8*B0-j*t) t (E2.re (show (0:UInt64)=D 0 from E.2.1.symm) rfl) ⟨et,rfl⟩ (by rw[show 8*B0-j*t=8*B0 by rw[hj,Int.zero_mul];omega];exact B8) F (by omega) (by omega)) (by cases b9<;>rfl)
 ·refine goE (b_ (sV b9) (E1.re (D':=(ac [(D 0),(D 1),(D 2),(D 3),(D 4),(FP.ddiv (D 2) (D 3)),(D 6),(D 7)])) (W':=W) rfl rfl) (by decide) rfl rfl ⟨hc,trivial⟩ ?_) (by cases b9<;>rfl)
  intro T2 h2 L2 A2 K2 E2
  exact goE (KK T2 h2 L2 A2 K2 (D 1) (FP.ddiv (D 2) (D 3)) (FP.ddiv (D 2) (D 3)) 1 true (8*B0-j*t) t (E2.re (show (0:UInt64)=D 0 from E.2.1.symm) rfl) ⟨et,rfl⟩ (by rw[show 8*B0-j*t=8*B0 by rw[hj,Int.zero_mul];omega];exact B8) F (by omega) (by omega)) (by cases b9<;>rfl)
def Gp:List AD:=[oE,oD,oC,aL,aU 64 40 16,aU 65 60 16,aU 64 80 17,jR,jQ]
def It:List AD:=[(0,0,uS 0 8++rS 5 5++uS 8 15++[zq0])]++Gp
theorem Iu:∀b9:Bool,ai (run (ak 32) ae 10 (1,3,6,14) 1000000 7 [] [] (226,(fr7 0 (sF 6) 5 (sB b9)),[],It,8,3,6)) (333,(fr7 0 (sF 6) 5 (sB b9)),[vR 4],It,8,3,6) []=true:=by decide +kernel
theorem Ra {y0 y1 v0 v1:UInt64}(b9:Bool)(E:EVH p l e s m args below meth c T0 Z a0 h0 hM n0 L0 A Ab K Kb D W oM rest It)(hy0:D 1=y0)(hy1:D 2=y1)(w0:W 30 = .double v0)(w1:W 31 = .double v1){Q:Option Value→Heap→List Loc→Prop}(hQ:∀(h:Heap)(L:List Loc),n0≤h.size→Fr n0 L→Yf Z n0 h ([(Ab 4,Kb 4,65,2,[.double y0,.double y1]),(Ab 1,Kb 1,65,2,[.double v0,.double v1]),(Ab 0,Kb 0,0,0,[])]++rest)→Q (some (.ref (Ab 4))) h L):Go p e below (bw s Q 3 6) T0 (mkF m 226 (dL A D W (fr7 0 (sF 6) 5 (sB b9))) []):=by
 refine goE (b_ (Iu b9) E (by decide) rfl rfl trivial ?_) rfl
 intro T1 h1 L1 A1 K1 E1
 obtain⟨B1,D01,Y1,YM,KM,hf,hAb⟩:=E1
 obtain⟨X1,hx,hby,hml,hret,hlk,hown,hZ,hw,e1,n1,N1⟩:=B1
 have Yp:Yf Z n0 h1 [(A1 4,K1 4,65,2,[.double (D 1),.double (D 2)]),(A1 1,K1 1,65,2,[W 30,W 31]),(A1 0,K1 0,0,0,[])]:=Yf.pick (YgF.bare Y1 0 rfl (by decide)).fl [4,1,0] (by decide) rfl
 rw[hy0,hy1,w0,w1,(hAb 4 (by decide)).1,(hAb 4 (by decide)).2,(hAb 1 (by decide)).1,(hAb 1 (by decide)).2,(hAb 0 (by decide)).1,(hAb 0 (by decide)).2] at Yp
 have Yq:=Yf.join YM Yp KM (fun o ho=>by
  simp only[List.mem_cons,List.not_mem_nil,or_false] at ho
  rcases ho with rfl|rfl|rfl
  ·exact (hAb 4 (by decide)).1▸hf 4 (by decide)
  ·exact (hAb 1 (by decide)).1▸hf 1 (by decide)
  ·exact (hAb 0 (by decide)).1▸hf 0 (by decide))
 have q:=hQ h1 L1 n1 N1 Yq
 rw[←(hAb 4 (by decide)).1] at q
 exact mh X1 hx hlk hret rfl rfl rfl (by rw[hby];exact nF) (by decide) (by decide) e1 q
def uf:List AD:=[rR]++Gp
theorem Iv:∀b9:Bool,ai (run (ak 32) ae 10 (1,3,6,14) 1000000 7 [] [] (226,(fr7 1 (sF 6) 5 (sB b9)),[],uf,8,3,6)) (333,(fr7 1 (sF 6) 5 (sB b9)),[vR 4],uf,8,3,6) []=true:=by decide +kernel
theorem Iw {y0 y1 v0 v1:UInt64}(b9:Bool)(E:EVH p l e s m args below meth c T0 Z a0 h0 hM n0 L0 A Ab K Kb D W oM rest uf)(hy0:D 1=y0)(hy1:D 2=y1)(w0:W 30 = .double v0)(w1:W 31 = .double v1){Q:Option Value→Heap→List Loc→Prop}(hQ:∀(h:Heap)(L:List Loc),n0≤h.size→Fr n0 L→Yf Z n0 h ([(Ab 4,Kb 4,65,2,[.double y0,.double y1]),(Ab 1,Kb 1,65,2,[.double v0,.double v1]),(Ab 0,Kb 0,0,0,[])]++rest)→Q (some (.ref (Ab 4))) h L):Go p e below (bw s Q 3 6) T0 (mkF m 226 (dL A D W (fr7 1 (sF 6) 5 (sB b9))) []):=by
 refine goE (b_ (Iv b9) E (by decide) rfl rfl trivial ?_) rfl
 intro T1 h1 L1 A1 K1 E1
 obtain⟨B1,D01,Y1,YM,KM,hf,hAb⟩:=E1
 obtain⟨X1,hx,hby,hml,hret,hlk,hown,hZ,hw,e1,n1,N1⟩:=B1
 have Yp:Yf Z n0 h1 [(A1 4,K1 4,65,2,[.double (D 1),.double (D 2)]),(A1 1,K1 1,65,2,[W 30,W 31]),(A1 0,K1 0,0,0,[])]:=Yf.pick (YgF.bare Y1 0 rfl (by decide)).fl [4,1,0] (by decide) rfl
 rw[hy0,hy1,w0,w1,(hAb 4 (by decide)).1,(hAb 4 (by decide)).2,(hAb 1 (by decide)).1,(hAb 1 (by decide)).2,(hAb 0 (by decide)).1,(hAb 0 (by decide)).2] at Yp
 have Yq:=Yf.join YM Yp KM (fun o ho=>by
  simp only[List.mem_cons,List.not_mem_nil,or_false] at ho
  rcases ho with rfl|rfl|rfl
  ·exact (hAb 4 (by decide)).1▸hf 4 (by decide)
  ·exact (hAb 1 (by decide)).1▸hf 1 (by decide)
  ·exact (hAb 0 (by decide)).1▸hf 0 (by decide))
 have q:=hQ h1 L1 n1 N1 Yq
 rw[←(hAb 4 (by decide)).1] at q
 exact mh X1 hx hlk hret rfl rfl rfl (by rw[hby];exact nF) (by decide) (by decide) e1 q
def gY:List AD:=[QH]++Gp
theorem Ix:∀b9:Bool,ai (run (ak 32) ae 10 (1,3,6,14) 1000000 7 [] [] (226,(fr7 2 (sF 6) 5 (sB b9)),[],gY,8,3,6)) (333,(fr7 2 (sF 6) 5 (sB b9)),[vR 4],gY,8,3,6) []=true:=by decide +kernel
theorem iL {y0 y1 v0 v1:UInt64}(b9:Bool)(E:EVH p l e s m args below meth c T0 Z a0 h0 hM n0 L0 A Ab K Kb D W oM rest gY)(hy0:D 1=y0)(hy1:D 2=y1)(w0:W 30 = .double v0)(w1:W 31 = .double v1){Q:Option Value→Heap→List Loc→Prop}(hQ:∀(h:Heap)(L:List Loc),n0≤h.size→Fr n0 L→Yf Z n0 h ([(Ab 4,Kb 4,65,2,[.double y0,.double y1]),(Ab 1,Kb 1,65,2,[.double v0,.double v1]),(Ab 0,Kb 0,0,0,[])]++rest)→Q (some (.ref (Ab 4))) h L):Go p e below (bw s Q 3 6) T0 (mkF m 226 (dL A D W (fr7 2 (sF 6) 5 (sB b9))) []):=by
 refine goE (b_ (Ix b9) E (by decide) rfl rfl trivial ?_) rfl
 intro T1 h1 L1 A1 K1 E1
 obtain⟨B1,D01,Y1,YM,KM,hf,hAb⟩:=E1
 obtain⟨X1,hx,hby,hml,hret,hlk,hown,hZ,hw,e1,n1,N1⟩:=B1
 have Yp:Yf Z n0 h1 [(A1 4,K1 4,65,2,[.double (D 1),.double (D 2)]),(A1 1,K1 1,65,2,[W 30,W 31]),(A1 0,K1 0,0,0,[])]:=Yf.pick (YgF.bare Y1 0 rfl (by decide)).fl [4,1,0] (by decide) rfl
 rw[hy0,hy1,w0,w1,(hAb 4 (by decide)).1,(hAb 4 (by decide)).2,(hAb 1 (by decide)).1,(hAb 1 (by decide)).2,(hAb 0 (by decide)).1,(hAb 0 (by decide)).2] at Yp
 have Yq:=Yf.join YM Yp KM (fun o ho=>by
  simp only[List.mem_cons,List.not_mem_nil,or_false] at ho
  rcases ho with rfl|rfl|rfl
  ·exact (hAb 4 (by decide)).1▸hf 4 (by decide)
  ·exact (hAb 1 (by decide)).1▸hf 1 (by decide)
  ·exact (hAb 0 (by decide)).1▸hf 0 (by decide))
 have q:=hQ h1 L1 n1 N1 Yq
 rw[←(hAb 4 (by decide)).1] at q
 exact mh X1 hx hlk hret rfl rfl rfl (by rw[hby];exact nF) (by decide) (by decide) e1 q
def xA (A:Nat→Addr)(rs st pr:Addr):Nat→Addr:=aP [A 1,A 0,rs,st,pr,A 2,A 3,A 4,A 5,A 6]
def xK (K:Nat→ClassId)(rs st pr:ClassId):Nat→ClassId:=aQ [K 1,K 0,rs,st,pr,K 2,K 3,K 4,K 5,K 6]
def xW (W:Nat→Value)(o er ep es eo ev:List Value):Nat→Value:=fun k=>if k<30 then W k else if k<40 then o.getD (k-30) .null else if k<60 then er.getD (k-40) .null else if k<80 then ep.getD (k-60) .null else if k<100 then es.getD (k-80) .null else if k<110 then eo.getD (k-100) .null else ev.getD (k-110) .null
def QI (Z:State)(n0:Nat)(vv fi:Addr)(rest:List OB)(v0 v1:UInt64)(Kf:Nat)(R:Int→Int→Prop)(v:Option Value)(h:Heap)(L:List Loc):Prop:=∃(pr:Addr)(kp kv kf:ClassId)(y0 y1:UInt64)(C0 C1:Int),v=some (.ref pr)∧Fr n0 L∧n0≤h.size∧Yf Z n0 h ([(pr,kp,65,2,[.double y0,.double y1]),(vv,kv,65,2,[.double v0,.double v1]),(fi,kf,0,0,[])]++rest)∧R C0 C1∧ah C0 Kf y0∧ah C1 Kf y1∧(-8796093022208≤C0∧C0≤8796093022208)∧(-8796093022208≤C1∧C1≤8796093022208)
abbrev EC:=Int32×List Value×List Value×List Value×List Value×List Value
def dE (c:EC):List AD:=dsE c.1 c.2.1 c.2.2.1 c.2.2.2.1 c.2.2.2.2.1 c.2.2.2.2.2
def xV (A:Nat→Addr)(D:Nat→UInt64)(W:Nat→Value)(ra rb sa sb:UInt64)(c:EC):Nat→Value:=xW W [.double (D 1),.double (D 2),.double ra,.double rb,.double sa,.double sb] (c.2.1.map (den A D W)) (c.2.2.1.map (den A D W)) (c.2.2.2.1.map (den A D W)) (c.2.2.2.2.1.map (den A D W)) (c.2.2.2.2.2.map (den A D W))
def oX (pr rs st:Addr)(kp kr ks:ClassId)(y0 y1 ra rb sa sb:UInt64):List OB:=[(pr,kp,65,2,[.double y0,.double y1]),(rs,kr,65,2,[.double ra,.double rb]),(st,ks,65,2,[.double sa,.double sb])]
variable {M00 M01 M10 M11 J0 J1 i0 i1 k1 j1 k2 j2:Int}{lu:List OB}{C:EC}
def XH (l:Launch)(Z:State)(a0:Array Value)(n0:Nat)(h0:Heap)(D:Nat→UInt64)(W:Nat→Value)(lu:List OB)(M00 M01 M10 M11 J0 J1 i0 i1:Int):Prop:=(∀d∈tables_1,d.before a0 Z=true)∧bl l Z n0 M00 M01 M10 M11 W lu∧n0≤h0.size∧D 0=0∧Jvm.FP.Core.DInt i0 (D 1)∧Jvm.FP.Core.DInt i1 (D 2)∧JT M00 M01 M10 M11 J0 J1 i0 i1
abbrev X7R (l:Launch)(Z:State)(n0:Nat)(h0:Heap)(A:Nat→Addr)(D:Nat→UInt64)(rest:List OB)(Kf:Nat)(R:Int→Int→Prop):Prop:=MetFree l (cJ 32) (head1 [Jvm.Cond.code (cJ 32) (ak 32) (ib 32) (ph 32)] (jb (1,3,6,14))) (fun a U=>a=#[.ref (A 1),.ref (A 0)]∧Z.Warmed39 U.vm∧U.heap=h0) (fun _ _ _ _ _=>True) (fun _ U o U'=>∃v L,o = .returned v∧QI Z n0 (A 0) (A 1) rest (D 1) (D 2) Kf R v U'.heap L∧FrameEnd U o U' L (jb (1,3,6,14)).cells (jb (1,3,6,14)).slots)
theorem Iy {T1:State}{h1:Heap}{L1:List Loc}{pr rs st:Addr}{kp kr ks:ClassId}{y0 y1 ra rb sa sb:UInt64}{D':Nat→UInt64}{W':Nat→Value}(B1:LVS p l e s m args below meth c T1 Z a0 h1 n0 L1 3 6)(Y1:Yf Z n0 h1 (oX pr rs st kp kr ks y0 y1 ra rb sa sb++(ap A K D W 0 (dE C)++rest)))(d0:D' 0=0)(e':[4,3,1,2,0,5,6,7,8,9].map (fun j=>(oX pr rs st kp kr ks y0 y1 ra rb sa sb++ap A K D W 0 (dE C))[j]?)=(ap (xA A rs st pr) (xK K kr ks kp) D' W' 0 ds).map some):EVH p l e s m args below meth c T1 Z a0 h1 h1 n0 L1 (xA A rs st pr) (xA A rs st pr) (xK K kr ks kp) (xK K kr ks kp) D' W' (oX pr rs st kp kr ks y0 y1 ra rb sa sb++ap A K D W 0 (dE C)) rest ds:=by
 refine⟨B1,d0,?_,Y1,Keep.refl _ _,fun i hi=>?_,fun i _=>⟨rfl,rfl⟩⟩
 ·exact Yf.to (Yf.pick (Yf.pick (os':=oX pr rs st kp kr ks y0 y1 ra rb sa sb++ap A K D W 0 (dE C)) Y1 [0,1,2,3,4,5,6,7,8,9] (by decide) rfl) [4,3,1,2,0,5,6,7,8,9] (by decide) e') rfl
 ·exact match i,hi with
  | 0,_=>Or.inl (show A 1∈[pr,rs,st,A 0,A 1,A 2,A 3,A 4,A 5,A 6] by simp)
  | 1,_=>Or.inl (show A 0∈[pr,rs,st,A 0,A 1,A 2,A 3,A 4,A 5,A 6] by simp)
  | 2,_=>Or.inl (show rs∈[pr,rs,st,A 0,A 1,A 2,A 3,A 4,A 5,A 6] by simp)
  | 3,_=>Or.inl (show st∈[pr,rs,st,A 0,A 1,A 2,A 3,A 4,A 5,A 6] by simp)
  | 4,_=>Or.inl (show pr∈[pr,rs,st,A 0,A 1,A 2,A 3,A 4,A 5,A 6] by simp)
  | 5,_=>Or.inl (show A 2∈[pr,rs,st,A 0,A 1,A 2,A 3,A 4,A 5,A 6] by simp)
  | 6,_=>Or.inl (show A 3∈[pr,rs,st,A 0,A 1,A 2,A 3,A 4,A 5,A 6] by simp)
  | 7,_=>Or.inl (show A 4∈[pr,rs,st,A 0,A 1,A 2,A 3,A 4,A 5,A 6] by simp)
  | 8,_=>Or.inl (show A 5∈[pr,rs,st,A 0,A 1,A 2,A 3,A 4,A 5,A 6] by simp)
  | 9,_=>Or.inl (show A 6∈[pr,rs,st,A 0,A 1,A 2,A 3,A 4,A 5,A 6] by simp)
theorem x7G {R:Int→Int→Prop}(q3 q4:UInt64)(H:XH l Z a0 n0 h0 D W lu M00 M01 M10 M11 J0 J1 i0 i1)(Y:Yf Z n0 h0 (ap A K D W 0 (dE C)++(lu++rest)))(e':∀(pr rs st:Addr)(kp kr ks:ClassId)(y0 y1 x7 ra rb sa sb u6 u9:UInt64),[4,3,1,2,0,5,6,7,8,9].map (fun j=>(oX pr rs st kp kr ks y0 y1 ra rb sa sb++ap A K D W 0 (dE C))[j]?)=(ap (xA A rs st pr) (xK K kr ks kp) (ac [0,y0,y1,q3,q4,x7,u6,u9]) (xV A D W ra rb sa sb C) 0 ds).map some)
  (KK:∀(p:Program) (e:Env) (s:State) (m:MethodId) (args:Array Value) (below:List Frame) (meth:Method) (c:Code) (T1:State) (h1:Heap) (L1:List Loc) (pr rs st:Addr) (kp kr ks:ClassId) (y0 y1 x7 ra rb sa sb u6 u9:UInt64) (b9:Bool),EVH p l e s m args below meth c T1 Z a0 h1 h1 n0 L1 (xA A rs st pr) (xA A rs st pr) (xK K kr ks kp) (xK K kr ks kp) (ac [0,y0,y1,q3,q4,x7,u6,u9]) (xV A D W ra rb sa sb C) (oX pr rs st kp kr ks y0 y1 ra rb sa sb++ap A K D W 0 (dE C)) rest ds→ah J0 7 y0→ah J1 7 y1→(-134217728≤J0∧J0≤134217728)→(-134217728≤J1∧J1≤134217728)→Go p e below (bw s (QI Z n0 (A 0) (A 1) rest (D 1) (D 2) Kf R) 3 6) T1 (mkF m 226 (dL (xA A rs st pr) (ac [0,y0,y1,q3,q4,x7,u6,u9]) (xV A D W ra rb sa sb C) (fr7 0 (sF 6) 5 (sB b9))) [])):X7R l Z n0 h0 A D rest Kf R:=by
 obtain⟨hw,HT,Z0,D0,d0,d1,J⟩:=H
 refine o8 (uO (mn:=32) rfl aC) (AE (as:=[vR 1,vR 0]) rfl A D W) ?_
 intro p e s m below meth c T0 X0 hx hby hml hret hlk hnm hown hZ e0
 refine goE (HT p e s m _ below meth c T0 a0 _ h0 A K D J0 J1 i0 i1 C.1 C.2.1 C.2.2.1 C.2.2.2.1 C.2.2.2.2.1 C.2.2.2.2.2 rest ⟨X0,hx,hby,hml,hret,hlk,hown,hZ,hw,e0,Z0,Fr.nil n0⟩ D0 d0 d1 J Y ?_) rfl
 intro T1 h1 L1 pr rs st kp kr ks y0 y1 x7 ra rb sa sb w6 j9 b9 B1 Y1 F0 F1
 obtain⟨u6,rfl⟩:∃w,iW w=w6:=⟨_,be w6⟩
 obtain⟨u9,rfl⟩:∃w,iW w=j9:=⟨_,be j9⟩
 obtain⟨q0,q1,bJ0,bJ1,-,-⟩:=J
 exact goE (KK p e s m _ below meth c T1 h1 L1 pr rs st kp kr ks y0 y1 x7 ra rb sa sb u6 u9 b9 (Iy B1 Y1 rfl (e' pr rs st kp kr ks y0 y1 x7 ra rb sa sb u6 u9)) F0 F1 bJ0 bJ1) (by cases b9<;>rfl)
def QJ:EC:=(0,zI 16 [],zD 16 [],zI 17 [],zI 4 [],zD 4 [])
theorem Rb (H:XH l Z a0 n0 h0 D W lu M00 M01 M10 M11 J0 J1 i0 i1)  (Y:Yf Z n0 h0 (ap A K D W 0 (dE QJ)++(lu++rest))):X7R l Z n0 h0 A D rest 7 ((fun J0 J1 C0 C1=>C0=J0∧C1=J1) J0 J1):=by
 refine x7G (ds:=It) 0 0 H Y (by intros;rfl) ?_
 intro p e s m args below meth c T1 h1 L1 pr rs st kp kr ks y0 y1 x7 ra rb sa sb u6 u9 b9 E F0 F1 bJ0 bJ1
 exact Ra b9 E rfl rfl rfl rfl (fun h L hn N Yq=>⟨pr,kp,K 0,K 1,y0,y1,J0,J1,rfl,N,hn,Yq,⟨rfl,rfl⟩,F0,F1,by omega,by omega⟩)
def ug:EC:=(1,zI 16 [],zD 16 [vD 3],zI 17 [vI 0,vI 1],zI 4 [vI 1],zD 4 [vD 4])
theorem OI (H:XH l Z a0 n0 h0 D W lu M00 M01 M10 M11 J0 J1 i0 i1)(H1:PB k1 j1 (D 3) (D 4))(Y:Yf Z n0 h0 (ap A K D W 0 (dE ug)++(lu++rest))):X7R l Z n0 h0 A D rest 10 ((fun J0 J1 C0 C1=>Et false k1 j1 J0 J1 C0 C1) J0 J1):=by
 refine x7G (ds:=dM 1 2) (D 3) (D 4) H Y (by intros;rfl) ?_
 intro p e s m args below meth c T1 h1 L1 pr rs st kp kr ks y0 y1 x7 ra rb sa sb u6 u9 b9 E F0 F1 bJ0 bJ1
 refine yQ b9 E H1 F0 F1 (N:=134217728) (by decide) bJ0 bJ1 (by decide) ?_
 intro T1_ h1_ L1_ A1_ K1_ y01 y11 x1 w1 c1 C01 C11 E1 R1 G01 G11 bc1 bd1
 exact goE (Iw (D:=(ac [0,y01,y11,D 3,D 4,x1,0,w1])) c1 (E1.re (D':=(ac [0,y01,y11,D 3,D 4,x1,0,w1])) (W':=(xV A D W ra rb sa sb ug)) (ds':=uf) rfl rfl) rfl rfl rfl rfl (fun h L hn N Yq=>⟨pr,kp,K 0,K 1,y01,y11,C01,C11,rfl,N,hn,Yq,R1,G01,G11,by omega,by omega⟩)) (by cases c1<;>rfl)
def uh:EC:=(1,zI 16 [],zD 16 [vD 3],zI 17 [],zI 4 [],zD 4 [])
theorem OJ (H:XH l Z a0 n0 h0 D W lu M00 M01 M10 M11 J0 J1 i0 i1)(H1:PB k1 j1 (D 3) (D 4))(hz1:j1=0)(Y:Yf Z n0 h0 (ap A K D W 0 (dE uh)++(lu++rest))):X7R l Z n0 h0 A D rest 10 ((fun J0 J1 C0 C1=>Et false k1 j1 J0 J1 C0 C1) J0 J1):=by
 refine x7G (ds:=dN 1 2) (D 3) (D 4) H Y (by intros;rfl) ?_
 intro p e s m args below meth c T1 h1 L1 pr rs st kp kr ks y0 y1 x7 ra rb sa sb u6 u9 b9 E F0 F1 bJ0 bJ1
 refine yR b9 E H1 hz1 F0 F1 (N:=134217728) (by decide) bJ0 bJ1 (by decide) ?_
 intro T1_ h1_ L1_ A1_ K1_ y01 y11 x1 w1 c1 C01 C11 E1 R1 G01 G11 bc1 bd1
 exact goE (Iw (D:=(ac [0,y01,y11,D 3,D 4,x1,0,w1])) c1 (E1.re (D':=(ac [0,y01,y11,D 3,D 4,x1,0,w1])) (W':=(xV A D W ra rb sa sb uh)) (ds':=uf) rfl rfl) rfl rfl rfl rfl (fun h L hn N Yq=>⟨pr,kp,K 0,K 1,y01,y11,C01,C11,rfl,N,hn,Yq,R1,G01,G11,by omega,by omega⟩)) (by cases c1<;>rfl)
def ui:EC:=(1,zI 16 [vI 1],zD 16 [vD 3],zI 17 [vI 0,vI 1],zI 4 [],zD 4 [vD 4])
theorem OK (H:XH l Z a0 n0 h0 D W lu M00 M01 M10 M11 J0 J1 i0 i1)(H1:PB k1 j1 (D 3) (D 4))(Y:Yf Z n0 h0 (ap A K D W 0 (dE ui)++(lu++rest))):X7R l Z n0 h0 A D rest 10 ((fun J0 J1 C0 C1=>Et true k1 j1 J0 J1 C0 C1) J0 J1):=by
 refine x7G (ds:=dO 1 2) (D 3) (D 4) H Y (by intros;rfl) ?_
 intro p e s m args below meth c T1 h1 L1 pr rs st kp kr ks y0 y1 x7 ra rb sa sb u6 u9 b9 E F0 F1 bJ0 bJ1
 refine yS b9 E H1 F0 F1 (N:=134217728) (by decide) bJ0 bJ1 (by decide) ?_
 intro T1_ h1_ L1_ A1_ K1_ y01 y11 x1 w1 c1 C01 C11 E1 R1 G01 G11 bc1 bd1
 exact goE (Iw (D:=(ac [0,y01,y11,D 3,D 4,x1,1,w1])) c1 (E1.re (D':=(ac [0,y01,y11,D 3,D 4,x1,1,w1])) (W':=(xV A D W ra rb sa sb ui)) (ds':=uf) rfl rfl) rfl rfl rfl rfl (fun h L hn N Yq=>⟨pr,kp,K 0,K 1,y01,y11,C01,C11,rfl,N,hn,Yq,R1,G01,G11,by omega,by omega⟩)) (by cases c1<;>rfl)
def uj:EC:=(1,zI 16 [vI 1],zD 16 [vD 3],zI 17 [],zI 4 [],zD 4 [])
theorem OL (H:XH l Z a0 n0 h0 D W lu M00 M01 M10 M11 J0 J1 i0 i1)(H1:PB k1 j1 (D 3) (D 4))(hz1:j1=0)(Y:Yf Z n0 h0 (ap A K D W 0 (dE uj)++(lu++rest))):X7R l Z n0 h0 A D rest 10 ((fun J0 J1 C0 C1=>Et true k1 j1 J0 J1 C0 C1) J0 J1):=by
 refine x7G (ds:=dP 1 2) (D 3) (D 4) H Y (by intros;rfl) ?_
 intro p e s m args below meth c T1 h1 L1 pr rs st kp kr ks y0 y1 x7 ra rb sa sb u6 u9 b9 E F0 F1 bJ0 bJ1
 refine yT b9 E H1 hz1 F0 F1 (N:=134217728) (by decide) bJ0 bJ1 (by decide) ?_
 intro T1_ h1_ L1_ A1_ K1_ y01 y11 x1 w1 c1 C01 C11 E1 R1 G01 G11 bc1 bd1
 exact goE (Iw (D:=(ac [0,y01,y11,D 3,D 4,x1,1,w1])) c1 (E1.re (D':=(ac [0,y01,y11,D 3,D 4,x1,1,w1])) (W':=(xV A D W ra rb sa sb uj)) (ds':=uf) rfl rfl) rfl rfl rfl rfl (fun h L hn N Yq=>⟨pr,kp,K 0,K 1,y01,y11,C01,C11,rfl,N,hn,Yq,R1,G01,G11,by omega,by omega⟩)) (by cases c1<;>rfl)
def jS:EC:=(2,zI 16 [],zD 16 [vD 3,vD 5],zI 17 [vI 0,vI 1,vI 2],zI 4 [vI 1,vI 1],zD 4 [vD 4,vD 6])
theorem Gq (H:XH l Z a0 n0 h0 D W lu M00 M01 M10 M11 J0 J1 i0 i1)(H1:PB k1 j1 (D 3) (D 4))(H2:PB k2 j2 (D 5) (D 6))(Y:Yf Z n0 h0 (ap A K D W 0 (dE jS)++(lu++rest))):X7R l Z n0 h0 A D rest 13 ((fun J0 J1 C0 C1=>∃z0 z1,Et false k1 j1 J0 J1 z0 z1∧Et false k2 j2 z0 z1 C0 C1) J0 J1):=by
 refine x7G (ds:=cz 1 2) (D 3) (D 4) H Y (by intros;rfl) ?_
 intro p e s m args below meth c T1 h1 L1 pr rs st kp kr ks y0 y1 x7 ra rb sa sb u6 u9 b9 E F0 F1 bJ0 bJ1
 refine iF b9 E H1 F0 F1 (N:=134217728) (by decide) bJ0 bJ1 (by decide) ?_
 intro T1_ h1_ L1_ A1_ K1_ y01 y11 x1 w1 c1 C01 C11 E1 R1 G01 G11 bc1 bd1
 refine goE (oK (D:=(ac [0,y01,y11,D 5,D 6,x1,0,w1])) c1 (E1.re (D':=(ac [0,y01,y11,D 5,D 6,x1,0,w1])) (W':=(xV A D W ra rb sa sb jS)) (ds':=dj 1 2) rfl rfl) H2 G01 G11 (N:=18253611008) (by decide) (by omega) (by omega) (by decide) ?_) (by cases c1<;>rfl)
 intro T2_ h2_ L2_ A2_ K2_ y02 y12 x2 w2 c2 C02 C12 E2 R2 G02 G12 bc2 bd2
 exact goE (iL (D:=(ac [0,y02,y12,D 5,D 6,x2,0,w2])) c2 (E2.re (D':=(ac [0,y02,y12,D 5,D 6,x2,0,w2])) (W':=(xV A D W ra rb sa sb jS)) (ds':=gY) rfl rfl) rfl rfl rfl rfl (fun h L hn N Yq=>⟨pr,kp,K 0,K 1,y02,y12,C02,C12,rfl,N,hn,Yq,⟨_,_,R1,R2⟩,G02,G12,by omega,by omega⟩)) (by cases c2<;>rfl)
def jT:EC:=(2,zI 16 [],zD 16 [vD 3,vD 5],zI 17 [vI 0,vI 1,vI 1],zI 4 [vI 1],zD 4 [vD 4])
theorem Gr (H:XH l Z a0 n0 h0 D W lu M00 M01 M10 M11 J0 J1 i0 i1)(H1:PB k1 j1 (D 3) (D 4))(H2:PB k2 j2 (D 5) (D 6))(hz2:j2=0)(Y:Yf Z n0 h0 (ap A K D W 0 (dE jT)++(lu++rest))):X7R l Z n0 h0 A D rest 13 ((fun J0 J1 C0 C1=>∃z0 z1,Et false k1 j1 J0 J1 z0 z1∧Et false k2 j2 z0 z1 C0 C1) J0 J1):=by
 refine x7G (ds:=cz 1 2) (D 3) (D 4) H Y (by intros;rfl) ?_
 intro p e s m args below meth c T1 h1 L1 pr rs st kp kr ks y0 y1 x7 ra rb sa sb u6 u9 b9 E F0 F1 bJ0 bJ1
 refine iF b9 E H1 F0 F1 (N:=134217728) (by decide) bJ0 bJ1 (by decide) ?_
 intro T1_ h1_ L1_ A1_ K1_ y01 y11 x1 w1 c1 C01 C11 E1 R1 G01 G11 bc1 bd1
 refine goE (oL (D:=(ac [0,y01,y11,D 5,D 6,x1,0,w1])) c1 (E1.re (D':=(ac [0,y01,y11,D 5,D 6,x1,0,w1])) (W':=(xV A D W ra rb sa sb jT)) (ds':=dk 1 2) rfl rfl) H2 hz2 G01 G11 (N:=18253611008) (by decide) (by omega) (by omega) (by decide) ?_) (by cases c1<;>rfl)
 intro T2_ h2_ L2_ A2_ K2_ y02 y12 x2 w2 c2 C02 C12 E2 R2 G02 G12 bc2 bd2
 exact goE (iL (D:=(ac [0,y02,y12,D 5,D 6,x2,0,w2])) c2 (E2.re (D':=(ac [0,y02,y12,D 5,D 6,x2,0,w2])) (W':=(xV A D W ra rb sa sb jT)) (ds':=gY) rfl rfl) rfl rfl rfl rfl (fun h L hn N Yq=>⟨pr,kp,K 0,K 1,y02,y12,C02,C12,rfl,N,hn,Yq,⟨_,_,R1,R2⟩,G02,G12,by omega,by omega⟩)) (by cases c2<;>rfl)
def jU:EC:=(2,zI 16 [vI 0,vI 1],zD 16 [vD 3,vD 5],zI 17 [vI 0,vI 1,vI 2],zI 4 [vI 1],zD 4 [vD 4,vD 6])
theorem Gs (H:XH l Z a0 n0 h0 D W lu M00 M01 M10 M11 J0 J1 i0 i1)(H1:PB k1 j1 (D 3) (D 4))(H2:PB k2 j2 (D 5) (D 6))(Y:Yf Z n0 h0 (ap A K D W 0 (dE jU)++(lu++rest))):X7R l Z n0 h0 A D rest 13 ((fun J0 J1 C0 C1=>∃z0 z1,Et false k1 j1 J0 J1 z0 z1∧Et true k2 j2 z0 z1 C0 C1) J0 J1):=by
 refine x7G (ds:=cz 1 2) (D 3) (D 4) H Y (by intros;rfl) ?_
 intro p e s m args below meth c T1 h1 L1 pr rs st kp kr ks y0 y1 x7 ra rb sa sb u6 u9 b9 E F0 F1 bJ0 bJ1
 refine iF b9 E H1 F0 F1 (N:=134217728) (by decide) bJ0 bJ1 (by decide) ?_
 intro T1_ h1_ L1_ A1_ K1_ y01 y11 x1 w1 c1 C01 C11 E1 R1 G01 G11 bc1 bd1
 refine goE (oN (D:=(ac [0,y01,y11,D 5,D 6,x1,0,w1])) c1 (E1.re (D':=(ac [0,y01,y11,D 5,D 6,x1,0,w1])) (W':=(xV A D W ra rb sa sb jU)) (ds':=dm 1 2) rfl rfl) H2 G01 G11 (N:=18253611008) (by decide) (by omega) (by omega) (by decide) ?_) (by cases c1<;>rfl)
 intro T2_ h2_ L2_ A2_ K2_ y02 y12 x2 w2 c2 C02 C12 E2 R2 G02 G12 bc2 bd2
 exact goE (iL (D:=(ac [0,y02,y12,D 5,D 6,x2,1,w2])) c2 (E2.re (D':=(ac [0,y02,y12,D 5,D 6,x2,1,w2])) (W':=(xV A D W ra rb sa sb jU)) (ds':=gY) rfl rfl) rfl rfl rfl rfl (fun h L hn N Yq=>⟨pr,kp,K 0,K 1,y02,y12,C02,C12,rfl,N,hn,Yq,⟨_,_,R1,R2⟩,G02,G12,by omega,by omega⟩)) (by cases c2<;>rfl)
def jV:EC:=(2,zI 16 [vI 0,vI 1],zD 16 [vD 3,vD 5],zI 17 [vI 0,vI 1,vI 1],zI 4 [vI 1],zD 4 [vD 4])
theorem Gt (H:XH l Z a0 n0 h0 D W lu M00 M01 M10 M11 J0 J1 i0 i1)(H1:PB k1 j1 (D 3) (D 4))(H2:PB k2 j2 (D 5) (D 6))(hz2:j2=0)(Y:Yf Z n0 h0 (ap A K D W 0 (dE jV)++(lu++rest))):X7R l Z n0 h0 A D rest 13 ((fun J0 J1 C0 C1=>∃z0 z1,Et false k1 j1 J0 J1 z0 z1∧Et true k2 j2 z0 z1 C0 C1) J0 J1):=by
 refine x7G (ds:=cz 1 2) (D 3) (D 4) H Y (by intros;rfl) ?_
 intro p e s m args below meth c T1 h1 L1 pr rs st kp kr ks y0 y1 x7 ra rb sa sb u6 u9 b9 E F0 F1 bJ0 bJ1
 refine iF b9 E H1 F0 F1 (N:=134217728) (by decide) bJ0 bJ1 (by decide) ?_
 intro T1_ h1_ L1_ A1_ K1_ y01 y11 x1 w1 c1 C01 C11 E1 R1 G01 G11 bc1 bd1
 refine goE (oO (D:=(ac [0,y01,y11,D 5,D 6,x1,0,w1])) c1 (E1.re (D':=(ac [0,y01,y11,D 5,D 6,x1,0,w1])) (W':=(xV A D W ra rb sa sb jV)) (ds':=dn 1 2) rfl rfl) H2 hz2 G01 G11 (N:=18253611008) (by decide) (by omega) (by omega) (by decide) ?_) (by cases c1<;>rfl)
 intro T2_ h2_ L2_ A2_ K2_ y02 y12 x2 w2 c2 C02 C12 E2 R2 G02 G12 bc2 bd2
 exact goE (iL (D:=(ac [0,y02,y12,D 5,D 6,x2,1,w2])) c2 (E2.re (D':=(ac [0,y02,y12,D 5,D 6,x2,1,w2])) (W':=(xV A D W ra rb sa sb jV)) (ds':=gY) rfl rfl) rfl rfl rfl rfl (fun h L hn N Yq=>⟨pr,kp,K 0,K 1,y02,y12,C02,C12,rfl,N,hn,Yq,⟨_,_,R1,R2⟩,G02,G12,by omega,by omega⟩)) (by cases c2<;>rfl)
def jW:EC:=(2,zI 16 [],zD 16 [vD 3,vD 5],zI 17 [vI 0,vI 0,vI 1],zI 4 [vI 1],zD 4 [vD 6])
theorem Gu (H:XH l Z a0 n0 h0 D W lu M00 M01 M10 M11 J0 J1 i0 i1)(H1:PB k1 j1 (D 3) (D 4))(hz1:j1=0)(H2:PB k2 j2 (D 5) (D 6))(Y:Yf Z n0 h0 (ap A K D W 0 (dE jW)++(lu++rest))):X7R l Z n0 h0 A D rest 13 ((fun J0 J1 C0 C1=>∃z0 z1,Et false k1 j1 J0 J1 z0 z1∧Et false k2 j2 z0 z1 C0 C1) J0 J1):=by
 refine x7G (ds:=cB 1 2) (D 3) (D 4) H Y (by intros;rfl) ?_
 intro p e s m args below meth c T1 h1 L1 pr rs st kp kr ks y0 y1 x7 ra rb sa sb u6 u9 b9 E F0 F1 bJ0 bJ1
 refine iG b9 E H1 hz1 F0 F1 (N:=134217728) (by decide) bJ0 bJ1 (by decide) ?_
 intro T1_ h1_ L1_ A1_ K1_ y01 y11 x1 w1 c1 C01 C11 E1 R1 G01 G11 bc1 bd1
 refine goE (oG (D:=(ac [0,y01,y11,D 5,D 6,x1,0,w1])) c1 (E1.re (D':=(ac [0,y01,y11,D 5,D 6,x1,0,w1])) (W':=(xV A D W ra rb sa sb jW)) (ds':=df 1 2) rfl rfl) H2 G01 G11 (N:=18253611008) (by decide) (by omega) (by omega) (by decide) ?_) (by cases c1<;>rfl)
 intro T2_ h2_ L2_ A2_ K2_ y02 y12 x2 w2 c2 C02 C12 E2 R2 G02 G12 bc2 bd2
 exact goE (iL (D:=(ac [0,y02,y12,D 5,D 6,x2,0,w2])) c2 (E2.re (D':=(ac [0,y02,y12,D 5,D 6,x2,0,w2])) (W':=(xV A D W ra rb sa sb jW)) (ds':=gY) rfl rfl) rfl rfl rfl rfl (fun h L hn N Yq=>⟨pr,kp,K 0,K 1,y02,y12,C02,C12,rfl,N,hn,Yq,⟨_,_,R1,R2⟩,G02,G12,by omega,by omega⟩)) (by cases c2<;>rfl)
def jX:EC:=(2,zI 16 [],zD 16 [vD 3,vD 5],zI 17 [],zI 4 [],zD 4 [])
theorem Gv (H:XH l Z a0 n0 h0 D W lu M00 M01 M10 M11 J0 J1 i0 i1)(H1:PB k1 j1 (D 3) (D 4))(hz1:j1=0)(H2:PB k2 j2 (D 5) (D 6))(hz2:j2=0)(Y:Yf Z n0 h0 (ap A K D W 0 (dE jX)++(lu++rest))):X7R l Z n0 h0 A D rest 13 ((fun J0 J1 C0 C1=>∃z0 z1,Et false k1 j1 J0 J1 z0 z1∧Et false k2 j2 z0 z1 C0 C1) J0 J1):=by
 refine x7G (ds:=cB 1 2) (D 3) (D 4) H Y (by intros;rfl) ?_
 intro p e s m args below meth c T1 h1 L1 pr rs st kp kr ks y0 y1 x7 ra rb sa sb u6 u9 b9 E F0 F1 bJ0 bJ1
 refine iG b9 E H1 hz1 F0 F1 (N:=134217728) (by decide) bJ0 bJ1 (by decide) ?_
 intro T1_ h1_ L1_ A1_ K1_ y01 y11 x1 w1 c1 C01 C11 E1 R1 G01 G11 bc1 bd1
 refine goE (oH (D:=(ac [0,y01,y11,D 5,D 6,x1,0,w1])) c1 (E1.re (D':=(ac [0,y01,y11,D 5,D 6,x1,0,w1])) (W':=(xV A D W ra rb sa sb jX)) (ds':=dg 1 2) rfl rfl) H2 hz2 G01 G11 (N:=18253611008) (by decide) (by omega) (by omega) (by decide) ?_) (by cases c1<;>rfl)
 intro T2_ h2_ L2_ A2_ K2_ y02 y12 x2 w2 c2 C02 C12 E2 R2 G02 G12 bc2 bd2
 exact goE (iL (D:=(ac [0,y02,y12,D 5,D 6,x2,0,w2])) c2 (E2.re (D':=(ac [0,y02,y12,D 5,D 6,x2,0,w2])) (W':=(xV A D W ra rb sa sb jX)) (ds':=gY) rfl rfl) rfl rfl rfl rfl (fun h L hn N Yq=>⟨pr,kp,K 0,K 1,y02,y12,C02,C12,rfl,N,hn,Yq,⟨_,_,R1,R2⟩,G02,G12,by omega,by omega⟩)) (by cases c2<;>rfl)
def jY:EC:=(2,zI 16 [vI 0,vI 1],zD 16 [vD 3,vD 5],zI 17 [vI 0,vI 0,vI 1],zI 4 [],zD 4 [vD 6])
theorem Gw (H:XH l Z a0 n0 h0 D W lu M00 M01 M10 M11 J0 J1 i0 i1)(H1:PB k1 j1 (D 3) (D 4))(hz1:j1=0)(H2:PB k2 j2 (D 5) (D 6))(Y:Yf Z n0 h0 (ap A K D W 0 (dE jY)++(lu++rest))):X7R l Z n0 h0 A D rest 13 ((fun J0 J1 C0 C1=>∃z0 z1,Et false k1 j1 J0 J1 z0 z1∧Et true k2 j2 z0 z1 C0 C1) J0 J1):=by
 refine x7G (ds:=cB 1 2) (D 3) (D 4) H Y (by intros;rfl) ?_
 intro p e s m args below meth c T1 h1 L1 pr rs st kp kr ks y0 y1 x7 ra rb sa sb u6 u9 b9 E F0 F1 bJ0 bJ1
 refine iG b9 E H1 hz1 F0 F1 (N:=134217728) (by decide) bJ0 bJ1 (by decide) ?_
 intro T1_ h1_ L1_ A1_ K1_ y01 y11 x1 w1 c1 C01 C11 E1 R1 G01 G11 bc1 bd1
 refine goE (oI (D:=(ac [0,y01,y11,D 5,D 6,x1,0,w1])) c1 (E1.re (D':=(ac [0,y01,y11,D 5,D 6,x1,0,w1])) (W':=(xV A D W ra rb sa sb jY)) (ds':=dh 1 2) rfl rfl) H2 G01 G11 (N:=18253611008) (by decide) (by omega) (by omega) (by decide) ?_) (by cases c1<;>rfl)
 intro T2_ h2_ L2_ A2_ K2_ y02 y12 x2 w2 c2 C02 C12 E2 R2 G02 G12 bc2 bd2
 exact goE (iL (D:=(ac [0,y02,y12,D 5,D 6,x2,1,w2])) c2 (E2.re (D':=(ac [0,y02,y12,D 5,D 6,x2,1,w2])) (W':=(xV A D W ra rb sa sb jY)) (ds':=gY) rfl rfl) rfl rfl rfl rfl (fun h L hn N Yq=>⟨pr,kp,K 0,K 1,y02,y12,C02,C12,rfl,N,hn,Yq,⟨_,_,R1,R2⟩,G02,G12,by omega,by omega⟩)) (by cases c2<;>rfl)
def jZ:EC:=(2,zI 16 [vI 0,vI 1],zD 16 [vD 3,vD 5],zI 17 [],zI 4 [],zD 4 [])
theorem Gx (H:XH l Z a0 n0 h0 D W lu M00 M01 M10 M11 J0 J1 i0 i1)(H1:PB k1 j1 (D 3) (D 4))(hz1:j1=0)(H2:PB k2 j2 (D 5) (D 6))(hz2:j2=0)(Y:Yf Z n0 h0 (ap A K D W 0 (dE jZ)++(lu++rest))):X7R l Z n0 h0 A D rest 13 ((fun J0 J1 C0 C1=>∃z0 z1,Et false k1 j1 J0 J1 z0 z1∧Et true k2 j2 z0 z1 C0 C1) J0 J1):=by
 refine x7G (ds:=cB 1 2) (D 3) (D 4) H Y (by intros;rfl) ?_
 intro p e s m args below meth c T1 h1 L1 pr rs st kp kr ks y0 y1 x7 ra rb sa sb u6 u9 b9 E F0 F1 bJ0 bJ1
 refine iG b9 E H1 hz1 F0 F1 (N:=134217728) (by decide) bJ0 bJ1 (by decide) ?_
 intro T1_ h1_ L1_ A1_ K1_ y01 y11 x1 w1 c1 C01 C11 E1 R1 G01 G11 bc1 bd1
 refine goE (oJ (D:=(ac [0,y01,y11,D 5,D 6,x1,0,w1])) c1 (E1.re (D':=(ac [0,y01,y11,D 5,D 6,x1,0,w1])) (W':=(xV A D W ra rb sa sb jZ)) (ds':=di 1 2) rfl rfl) H2 hz2 G01 G11 (N:=18253611008) (by decide) (by omega) (by omega) (by decide) ?_) (by cases c1<;>rfl)
 intro T2_ h2_ L2_ A2_ K2_ y02 y12 x2 w2 c2 C02 C12 E2 R2 G02 G12 bc2 bd2
 exact goE (iL (D:=(ac [0,y02,y12,D 5,D 6,x2,1,w2])) c2 (E2.re (D':=(ac [0,y02,y12,D 5,D 6,x2,1,w2])) (W':=(xV A D W ra rb sa sb jZ)) (ds':=gY) rfl rfl) rfl rfl rfl rfl (fun h L hn N Yq=>⟨pr,kp,K 0,K 1,y02,y12,C02,C12,rfl,N,hn,Yq,⟨_,_,R1,R2⟩,G02,G12,by omega,by omega⟩)) (by cases c2<;>rfl)
def j6:EC:=(2,zI 16 [vI 1],zD 16 [vD 3,vD 5],zI 17 [vI 0,vI 1,vI 2],zI 4 [vI 0,vI 1],zD 4 [vD 4,vD 6])
theorem Gy (H:XH l Z a0 n0 h0 D W lu M00 M01 M10 M11 J0 J1 i0 i1)(H1:PB k1 j1 (D 3) (D 4))(H2:PB k2 j2 (D 5) (D 6))(Y:Yf Z n0 h0 (ap A K D W 0 (dE j6)++(lu++rest))):X7R l Z n0 h0 A D rest 13 ((fun J0 J1 C0 C1=>∃z0 z1,Et true k1 j1 J0 J1 z0 z1∧Et false k2 j2 z0 z1 C0 C1) J0 J1):=by
 refine x7G (ds:=cC 1 2) (D 3) (D 4) H Y (by intros;rfl) ?_
 intro p e s m args below meth c T1 h1 L1 pr rs st kp kr ks y0 y1 x7 ra rb sa sb u6 u9 b9 E F0 F1 bJ0 bJ1
 refine iH b9 E H1 F0 F1 (N:=134217728) (by decide) bJ0 bJ1 (by decide) ?_
 intro T1_ h1_ L1_ A1_ K1_ y01 y11 x1 w1 c1 C01 C11 E1 R1 G01 G11 bc1 bd1
 refine goE (oK (D:=(ac [0,y01,y11,D 5,D 6,x1,1,w1])) c1 (E1.re (D':=(ac [0,y01,y11,D 5,D 6,x1,1,w1])) (W':=(xV A D W ra rb sa sb j6)) (ds':=dj 1 2) rfl rfl) H2 G01 G11 (N:=18253611008) (by decide) (by omega) (by omega) (by decide) ?_) (by cases c1<;>rfl)
 intro T2_ h2_ L2_ A2_ K2_ y02 y12 x2 w2 c2 C02 C12 E2 R2 G02 G12 bc2 bd2
 exact goE (iL (D:=(ac [0,y02,y12,D 5,D 6,x2,0,w2])) c2 (E2.re (D':=(ac [0,y02,y12,D 5,D 6,x2,0,w2])) (W':=(xV A D W ra rb sa sb j6)) (ds':=gY) rfl rfl) rfl rfl rfl rfl (fun h L hn N Yq=>⟨pr,kp,K 0,K 1,y02,y12,C02,C12,rfl,N,hn,Yq,⟨_,_,R1,R2⟩,G02,G12,by omega,by omega⟩)) (by cases c2<;>rfl)
def j7:EC:=(2,zI 16 [vI 1],zD 16 [vD 3,vD 5],zI 17 [vI 0,vI 1,vI 1],zI 4 [],zD 4 [vD 4])
theorem Gz (H:XH l Z a0 n0 h0 D W lu M00 M01 M10 M11 J0 J1 i0 i1)(H1:PB k1 j1 (D 3) (D 4))(H2:PB k2 j2 (D 5) (D 6))(hz2:j2=0)(Y:Yf Z n0 h0 (ap A K D W 0 (dE j7)++(lu++rest))):X7R l Z n0 h0 A D rest 13 ((fun J0 J1 C0 C1=>∃z0 z1,Et true k1 j1 J0 J1 z0 z1∧Et false k2 j2 z0 z1 C0 C1) J0 J1):=by
 refine x7G (ds:=cC 1 2) (D 3) (D 4) H Y (by intros;rfl) ?_
 intro p e s m args below meth c T1 h1 L1 pr rs st kp kr ks y0 y1 x7 ra rb sa sb u6 u9 b9 E F0 F1 bJ0 bJ1
 refine iH b9 E H1 F0 F1 (N:=134217728) (by decide) bJ0 bJ1 (by decide) ?_
 intro T1_ h1_ L1_ A1_ K1_ y01 y11 x1 w1 c1 C01 C11 E1 R1 G01 G11 bc1 bd1
 refine goE (oL (D:=(ac [0,y01,y11,D 5,D 6,x1,1,w1])) c1 (E1.re (D':=(ac [0,y01,y11,D 5,D 6,x1,1,w1])) (W':=(xV A D W ra rb sa sb j7)) (ds':=dk 1 2) rfl rfl) H2 hz2 G01 G11 (N:=18253611008) (by decide) (by omega) (by omega) (by decide) ?_) (by cases c1<;>rfl)
 intro T2_ h2_ L2_ A2_ K2_ y02 y12 x2 w2 c2 C02 C12 E2 R2 G02 G12 bc2 bd2
 exact goE (iL (D:=(ac [0,y02,y12,D 5,D 6,x2,0,w2])) c2 (E2.re (D':=(ac [0,y02,y12,D 5,D 6,x2,0,w2])) (W':=(xV A D W ra rb sa sb j7)) (ds':=gY) rfl rfl) rfl rfl rfl rfl (fun h L hn N Yq=>⟨pr,kp,K 0,K 1,y02,y12,C02,C12,rfl,N,hn,Yq,⟨_,_,R1,R2⟩,G02,G12,by omega,by omega⟩)) (by cases c2<;>rfl)
def j8:EC:=(2,zI 16 [vI 1,vI 1],zD 16 [vD 3,vD 5],zI 17 [vI 0,vI 1,vI 2],zI 4 [],zD 4 [vD 4,vD 6])
theorem GA (H:XH l Z a0 n0 h0 D W lu M00 M01 M10 M11 J0 J1 i0 i1)(H1:PB k1 j1 (D 3) (D 4))(H2:PB k2 j2 (D 5) (D 6))(Y:Yf Z n0 h0 (ap A K D W 0 (dE j8)++(lu++rest))):X7R l Z n0 h0 A D rest 13 ((fun J0 J1 C0 C1=>∃z0 z1,Et true k1 j1 J0 J1 z0 z1∧Et true k2 j2 z0 z1 C0 C1) J0 J1):=by
 refine x7G (ds:=cC 1 2) (D 3) (D 4) H Y (by intros;rfl) ?_
 intro p e s m args below meth c T1 h1 L1 pr rs st kp kr ks y0 y1 x7 ra rb sa sb u6 u9 b9 E F0 F1 bJ0 bJ1
 refine iH b9 E H1 F0 F1 (N:=134217728) (by decide) bJ0 bJ1 (by decide) ?_
 intro T1_ h1_ L1_ A1_ K1_ y01 y11 x1 w1 c1 C01 C11 E1 R1 G01 G11 bc1 bd1
 refine goE (oN (D:=(ac [0,y01,y11,D 5,D 6,x1,1,w1])) c1 (E1.re (D':=(ac [0,y01,y11,D 5,D 6,x1,1,w1])) (W':=(xV A D W ra rb sa sb j8)) (ds':=dm 1 2) rfl rfl) H2 G01 G11 (N:=18253611008) (by decide) (by omega) (by omega) (by decide) ?_) (by cases c1<;>rfl)
 intro T2_ h2_ L2_ A2_ K2_ y02 y12 x2 w2 c2 C02 C12 E2 R2 G02 G12 bc2 bd2
 exact goE (iL (D:=(ac [0,y02,y12,D 5,D 6,x2,1,w2])) c2 (E2.re (D':=(ac [0,y02,y12,D 5,D 6,x2,1,w2])) (W':=(xV A D W ra rb sa sb j8)) (ds':=gY) rfl rfl) rfl rfl rfl rfl (fun h L hn N Yq=>⟨pr,kp,K 0,K 1,y02,y12,C02,C12,rfl,N,hn,Yq,⟨_,_,R1,R2⟩,G02,G12,by omega,by omega⟩)) (by cases c2<;>rfl)
def j_:EC:=(2,zI 16 [vI 1,vI 1],zD 16 [vD 3,vD 5],zI 17 [vI 0,vI 1,vI 1],zI 4 [],zD 4 [vD 4])
theorem GB (H:XH l Z a0 n0 h0 D W lu M00 M01 M10 M11 J0 J1 i0 i1)(H1:PB k1 j1 (D 3) (D 4))(H2:PB k2 j2 (D 5) (D 6))(hz2:j2=0)(Y:Yf Z n0 h0 (ap A K D W 0 (dE j_)++(lu++rest))):X7R l Z n0 h0 A D rest 13 ((fun J0 J1 C0 C1=>∃z0 z1,Et true k1 j1 J0 J1 z0 z1∧Et true k2 j2 z0 z1 C0 C1) J0 J1):=by
 refine x7G (ds:=cC 1 2) (D 3) (D 4) H Y (by intros;rfl) ?_
 intro p e s m args below meth c T1 h1 L1 pr rs st kp kr ks y0 y1 x7 ra rb sa sb u6 u9 b9 E F0 F1 bJ0 bJ1
 refine iH b9 E H1 F0 F1 (N:=134217728) (by decide) bJ0 bJ1 (by decide) ?_
 intro T1_ h1_ L1_ A1_ K1_ y01 y11 x1 w1 c1 C01 C11 E1 R1 G01 G11 bc1 bd1
 refine goE (oO (D:=(ac [0,y01,y11,D 5,D 6,x1,1,w1])) c1 (E1.re (D':=(ac [0,y01,y11,D 5,D 6,x1,1,w1])) (W':=(xV A D W ra rb sa sb j_)) (ds':=dn 1 2) rfl rfl) H2 hz2 G01 G11 (N:=18253611008) (by decide) (by omega) (by omega) (by decide) ?_) (by cases c1<;>rfl)
 intro T2_ h2_ L2_ A2_ K2_ y02 y12 x2 w2 c2 C02 C12 E2 R2 G02 G12 bc2 bd2
 exact goE (iL (D:=(ac [0,y02,y12,D 5,D 6,x2,1,w2])) c2 (E2.re (D':=(ac [0,y02,y12,D 5,D 6,x2,1,w2])) (W':=(xV A D W ra rb sa sb j_)) (ds':=gY) rfl rfl) rfl rfl rfl rfl (fun h L hn N Yq=>⟨pr,kp,K 0,K 1,y02,y12,C02,C12,rfl,N,hn,Yq,⟨_,_,R1,R2⟩,G02,G12,by omega,by omega⟩)) (by cases c2<;>rfl)
def ka:EC:=(2,zI 16 [vI 1],zD 16 [vD 3,vD 5],zI 17 [vI 0,vI 0,vI 1],zI 4 [vI 1],zD 4 [vD 6])
theorem GC (H:XH l Z a0 n0 h0 D W lu M00 M01 M10 M11 J0 J1 i0 i1)(H1:PB k1 j1 (D 3) (D 4))(hz1:j1=0)(H2:PB k2 j2 (D 5) (D 6))(Y:Yf Z n0 h0 (ap A K D W 0 (dE ka)++(lu++rest))):X7R l Z n0 h0 A D rest 13 ((fun J0 J1 C0 C1=>∃z0 z1,Et true k1 j1 J0 J1 z0 z1∧Et false k2 j2 z0 z1 C0 C1) J0 J1):=by
 refine x7G (ds:=cD 1 2) (D 3) (D 4) H Y (by intros;rfl) ?_
 intro p e s m args below meth c T1 h1 L1 pr rs st kp kr ks y0 y1 x7 ra rb sa sb u6 u9 b9 E F0 F1 bJ0 bJ1
 refine iI b9 E H1 hz1 F0 F1 (N:=134217728) (by decide) bJ0 bJ1 (by decide) ?_
 intro T1_ h1_ L1_ A1_ K1_ y01 y11 x1 w1 c1 C01 C11 E1 R1 G01 G11 bc1 bd1
 refine goE (oG (D:=(ac [0,y01,y11,D 5,D 6,x1,1,w1])) c1 (E1.re (D':=(ac [0,y01,y11,D 5,D 6,x1,1,w1])) (W':=(xV A D W ra rb sa sb ka)) (ds':=df 1 2) rfl rfl) H2 G01 G11 (N:=18253611008) (by decide) (by omega) (by omega) (by decide) ?_) (by cases c1<;>rfl)
 intro T2_ h2_ L2_ A2_ K2_ y02 y12 x2 w2 c2 C02 C12 E2 R2 G02 G12 bc2 bd2
 exact goE (iL (D:=(ac [0,y02,y12,D 5,D 6,x2,0,w2])) c2 (E2.re (D':=(ac [0,y02,y12,D 5,D 6,x2,0,w2])) (W':=(xV A D W ra rb sa sb ka)) (ds':=gY) rfl rfl) rfl rfl rfl rfl (fun h L hn N Yq=>⟨pr,kp,K 0,K 1,y02,y12,C02,C12,rfl,N,hn,Yq,⟨_,_,R1,R2⟩,G02,G12,by omega,by omega⟩)) (by cases c2<;>rfl)
def kb:EC:=(2,zI 16 [vI 1],zD 16 [vD 3,vD 5],zI 17 [],zI 4 [],zD 4 [])
theorem GD (H:XH l Z a0 n0 h0 D W lu M00 M01 M10 M11 J0 J1 i0 i1)(H1:PB k1 j1 (D 3) (D 4))(hz1:j1=0)(H2:PB k2 j2 (D 5) (D 6))(hz2:j2=0)(Y:Yf Z n0 h0 (ap A K D W 0 (dE kb)++(lu++rest))):X7R l Z n0 h0 A D rest 13 ((fun J0 J1 C0 C1=>∃z0 z1,Et true k1 j1 J0 J1 z0 z1∧Et false k2 j2 z0 z1 C0 C1) J0 J1):=by
 refine x7G (ds:=cD 1 2) (D 3) (D 4) H Y (by intros;rfl) ?_
 intro p e s m args below meth c T1 h1 L1 pr rs st kp kr ks y0 y1 x7 ra rb sa sb u6 u9 b9 E F0 F1 bJ0 bJ1
 refine iI b9 E H1 hz1 F0 F1 (N:=134217728) (by decide) bJ0 bJ1 (by decide) ?_
 intro T1_ h1_ L1_ A1_ K1_ y01 y11 x1 w1 c1 C01 C11 E1 R1 G01 G11 bc1 bd1
 refine goE (oH (D:=(ac [0,y01,y11,D 5,D 6,x1,1,w1])) c1 (E1.re (D':=(ac [0,y01,y11,D 5,D 6,x1,1,w1])) (W':=(xV A D W ra rb sa sb kb)) (ds':=dg 1 2) rfl rfl) H2 hz2 G01 G11 (N:=18253611008) (by decide) (by omega) (by omega) (by decide) ?_) (by cases c1<;>rfl)
 intro T2_ h2_ L2_ A2_ K2_ y02 y12 x2 w2 c2 C02 C12 E2 R2 G02 G12 bc2 bd2
 exact goE (iL (D:=(ac [0,y02,y12,D 5,D 6,x2,0,w2])) c2 (E2.re (D':=(ac [0,y02,y12,D 5,D 6,x2,0,w2])) (W':=(xV A D W ra rb sa sb kb)) (ds':=gY) rfl rfl) rfl rfl rfl rfl (fun h L hn N Yq=>⟨pr,kp,K 0,K 1,y02,y12,C02,C12,rfl,N,hn,Yq,⟨_,_,R1,R2⟩,G02,G12,by omega,by omega⟩)) (by cases c2<;>rfl)
def kc:EC:=(2,zI 16 [vI 1,vI 1],zD 16 [vD 3,vD 5],zI 17 [vI 0,vI 0,vI 1],zI 4 [],zD 4 [vD 6])
theorem GE (H:XH l Z a0 n0 h0 D W lu M00 M01 M10 M11 J0 J1 i0 i1)(H1:PB k1 j1 (D 3) (D 4))(hz1:j1=0)(H2:PB k2 j2 (D 5) (D 6))(Y:Yf Z n0 h0 (ap A K D W 0 (dE kc)++(lu++rest))):X7R l Z n0 h0 A D rest 13 ((fun J0 J1 C0 C1=>∃z0 z1,Et true k1 j1 J0 J1 z0 z1∧Et true k2 j2 z0 z1 C0 C1) J0 J1):=by
 refine x7G (ds:=cD 1 2) (D 3) (D 4) H Y (by intros;rfl) ?_
 intro p e s m args below meth c T1 h1 L1 pr rs st kp kr ks y0 y1 x7 ra rb sa sb u6 u9 b9 E F0 F1 bJ0 bJ1
 refine iI b9 E H1 hz1 F0 F1 (N:=134217728) (by decide) bJ0 bJ1 (by decide) ?_
 intro T1_ h1_ L1_ A1_ K1_ y01 y11 x1 w1 c1 C01 C11 E1 R1 G01 G11 bc1 bd1
 refine goE (oI (D:=(ac [0,y01,y11,D 5,D 6,x1,1,w1])) c1 (E1.re (D':=(ac [0,y01,y11,D 5,D 6,x1,1,w1])) (W':=(xV A D W ra rb sa sb kc)) (ds':=dh 1 2) rfl rfl) H2 G01 G11 (N:=18253611008) (by decide) (by omega) (by omega) (by decide) ?_) (by cases c1<;>rfl)
 intro T2_ h2_ L2_ A2_ K2_ y02 y12 x2 w2 c2 C02 C12 E2 R2 G02 G12 bc2 bd2
 exact goE (iL (D:=(ac [0,y02,y12,D 5,D 6,x2,1,w2])) c2 (E2.re (D':=(ac [0,y02,y12,D 5,D 6,x2,1,w2])) (W':=(xV A D W ra rb sa sb kc)) (ds':=gY) rfl rfl) rfl rfl rfl rfl (fun h L hn N Yq=>⟨pr,kp,K 0,K 1,y02,y12,C02,C12,rfl,N,hn,Yq,⟨_,_,R1,R2⟩,G02,G12,by omega,by omega⟩)) (by cases c2<;>rfl)
def ke:EC:=(2,zI 16 [vI 1,vI 1],zD 16 [vD 3,vD 5],zI 17 [],zI 4 [],zD 4 [])
theorem GF (H:XH l Z a0 n0 h0 D W lu M00 M01 M10 M11 J0 J1 i0 i1)(H1:PB k1 j1 (D 3) (D 4))(hz1:j1=0)(H2:PB k2 j2 (D 5) (D 6))(hz2:j2=0)(Y:Yf Z n0 h0 (ap A K D W 0 (dE ke)++(lu++rest))):X7R l Z n0 h0 A D rest 13 ((fun J0 J1 C0 C1=>∃z0 z1,Et true k1 j1 J0 J1 z0 z1∧Et true k2 j2 z0 z1 C0 C1) J0 J1):=by
 refine x7G (ds:=cD 1 2) (D 3) (D 4) H Y (by intros;rfl) ?_
 intro p e s m args below meth c T1 h1 L1 pr rs st kp kr ks y0 y1 x7 ra rb sa sb u6 u9 b9 E F0 F1 bJ0 bJ1
 refine iI b9 E H1 hz1 F0 F1 (N:=134217728) (by decide) bJ0 bJ1 (by decide) ?_
 intro T1_ h1_ L1_ A1_ K1_ y01 y11 x1 w1 c1 C01 C11 E1 R1 G01 G11 bc1 bd1
 refine goE (oJ (D:=(ac [0,y01,y11,D 5,D 6,x1,1,w1])) c1 (E1.re (D':=(ac [0,y01,y11,D 5,D 6,x1,1,w1])) (W':=(xV A D W ra rb sa sb ke)) (ds':=di 1 2) rfl rfl) H2 hz2 G01 G11 (N:=18253611008) (by decide) (by omega) (by omega) (by decide) ?_) (by cases c1<;>rfl)
 intro T2_ h2_ L2_ A2_ K2_ y02 y12 x2 w2 c2 C02 C12 E2 R2 G02 G12 bc2 bd2
 exact goE (iL (D:=(ac [0,y02,y12,D 5,D 6,x2,1,w2])) c2 (E2.re (D':=(ac [0,y02,y12,D 5,D 6,x2,1,w2])) (W':=(xV A D W ra rb sa sb ke)) (ds':=gY) rfl rfl) rfl rfl rfl rfl (fun h L hn N Yq=>⟨pr,kp,K 0,K 1,y02,y12,C02,C12,rfl,N,hn,Yq,⟨_,_,R1,R2⟩,G02,G12,by omega,by omega⟩)) (by cases c2<;>rfl)
end OwnEt7
theorem gB {A B k j A' B':Int}{K:Nat}{x y kd jd:UInt64}(hk:Jvm.FP.Core.DInt k kd)(hj:Jvm.FP.Core.DInt j jd)(bk:-16≤k∧k≤16)(bj:-16≤j∧j≤16)(fA:ah A K x)(fB:ah B K y)(bA:-281474976710656≤A∧A≤281474976710656)(bB:-281474976710656≤B∧B≤281474976710656)(hK:K≤100)(e1:k*A=A')(e2:B+j*A=B'):Jvm.Free.Fl.NoNaN64 (FP.dmul jd x)∧Jvm.Free.Fl.NoNaN64 (FP.dadd y (FP.dmul jd x))∧Jvm.Free.Fl.NoNaN64 (FP.dmul kd x)∧ah A' K (FP.dmul kd x)∧ah B' K (FP.dadd y (FP.dmul jd x)):=by
 have p1:=cv bk bA
 have p2:=cv bj bA
 have h1:ah (k*A) K (FP.dmul kd x):=by
  have:=dD (k:=0) (am.mpr hk) fA (cp (by omega)) (by omega)
  rwa [Nat.zero_add] at this
 have h2:ah (j*A) K (FP.dmul jd x):=by
  have:=dD (k:=0) (am.mpr hj) fA (cp (by omega)) (by omega)
  rwa [Nat.zero_add] at this
 have h3:=ji fB h2 (cp (by omega)) (by omega)
 rw[e1] at h1
 rw[e2] at h3
 exact⟨aj h2,aj h3,aj h1,h1,h3⟩
theorem eO {a b X Y R:Int}{K:Nat}{ad bd x y:UInt64}(ha:Jvm.FP.Core.DInt a ad)(hb:Jvm.FP.Core.DInt b bd)(ba:-128≤a∧a≤128)(bb:-128≤b∧b≤128)(fX:ah X K x)(fY:ah Y K y)(bX:-8796093022208≤X∧X≤8796093022208)(bY:-8796093022208≤Y∧Y≤8796093022208)(hK:K≤100)(e:a*X+b*Y=R):Jvm.Free.Fl.NoNaN64 (FP.dmul ad x)∧Jvm.Free.Fl.NoNaN64 (FP.dmul bd y)∧Jvm.Free.Fl.NoNaN64 (FP.dadd (FP.dmul ad x) (FP.dmul bd y))∧ah R K (FP.dadd (FP.dmul ad x) (FP.dmul bd y)):=by
 have p1:=cv ba bX
 have p2:=cv bb bY
 have h1:ah (a*X) K (FP.dmul ad x):=by
  have:=dD (k:=0) (am.mpr ha) fX (cp (by omega)) (by omega)
  rwa [Nat.zero_add] at this
 have h2:ah (b*Y) K (FP.dmul bd y):=by
  have:=dD (k:=0) (am.mpr hb) fY (cp (by omega)) (by omega)
  rwa [Nat.zero_add] at this
 have h3:=ji h1 h2 (cp (by omega)) (by omega)
 rw[e] at h3
 exact⟨aj h1,aj h2,aj h3,h3⟩
theorem cG {K:Int}{k:Nat}{x y:UInt64}(h1:ah K k x)(h2:ah K k y):(cmpValue (FP.dcmp x y) .l).toInt=0:=by
 rw[nj h1 h2]
 exact (qh K K .l).2.1 rfl
def QM (D:Nat→UInt64):Prop:=(-128≤(iW (D 26)).toInt∧(iW (D 26)).toInt≤128)∧(-128≤(iW (D 27)).toInt∧(iW (D 27)).toInt≤128)∧(-128≤(iW (D 28)).toInt∧(iW (D 28)).toInt≤128)∧(-128≤(iW (D 29)).toInt∧(iW (D 29)).toInt≤128)
def JM (D:Nat→UInt64)(J0 J1:Int):Prop:=JT (iW (D 26)).toInt (iW (D 27)).toInt (iW (D 28)).toInt (iW (D 29)).toInt J0 J1 (iW (D 30)).toInt (iW (D 31)).toInt
def PI (k j:Int32):Prop:=(k.toInt=1∨k.toInt=-1∨k.toInt=2∨k.toInt=-2∨k.toInt=4∨k.toInt=-4∨k.toInt=8∨k.toInt=-8)∧(-16≤j.toInt∧j.toInt≤16)
theorem PI.pb {k j:Int32}(h:PI k j):PB k.toInt j.toInt (FP.i2d k) (FP.i2d j):=⟨h.1,h.2,Jvm.FP.Core.i2d_int k,Jvm.FP.Core.i2d_int j⟩
theorem PI.bk {k j:Int32}(h:PI k j):-16≤k.toInt∧k.toInt≤16:=by have:=h.1;omega
def bm (e p q:Slot):Array Slot:=#[sF 3,sF 4,sF 5,sF 6,sF 7,sF 8,sF 9,sF 10,sF 11,sF 12,sF 13,sF 14,sF 15,e,sF 17,sF 18,sF 19,sF 20,sF 21,sF 22,sF 23,sF 24,sF 25,sF 26,sF 27,sF 28,sF 29,sR 11,sR 12,sF 30,sF 31,sR 0,p,sF 33,sF 34,sF 35,sF 36,q,sF 38,sF 39,sF 40,sF 41,sR 1,sR 7,sU,sU,sU,sU,sU,sU,sU,sU,sU]
def gC (e p q:Slot)(x:List Slot):Array Slot:=([sF 3,sF 4,sF 5,sF 6,sF 7,sF 8,sF 9,sF 10,sF 11,sF 12,sF 13,sF 14,sF 15,e,sF 17,sF 18,sF 19,sF 20,sF 21,sF 22,sF 23,sF 24,sF 25,sF 26,sF 27,sF 28,sF 29,sR 4,sR 5,sF 30,sF 31,sR 1,p,sF 33,sF 34,sF 35,sF 36,q,sF 38,sF 39,sF 40,sF 41,sR 2,sR 3]++x).toArray
def dS:Value:=vD 43
def dT:Value:=vD 42
def dX7:List AD:=[(65,2,[dT,dS]),(65,2,[aB,bU]),(0,0,[]),(1,0,[]),(67,2,[vU 23,e6]),(68,2,[vU 25,vU 26])]
def gD (D:Nat→UInt64):List UInt64:=[D 0,D 1,D 2,D 3,D 4,D 5,D 6,D 7,D 8,D 9,D 10,D 11,D 12,D 13,D 14,D 15,D 16,D 17,D 18,D 19,D 20,D 21,D 22,D 23,D 24,D 25,D 26,D 27,D 28,D 29,D 30,D 31,D 32,D 33,D 34,D 35,D 36,D 37,D 38,D 39,D 40,D 41]
def cA (pr:Addr)(A:Nat→Addr):Nat→Addr:=aP [pr,A 0,A 1,A 7,A 11,A 12]
def cK (a b c:ClassId)(K:Nat→ClassId):Nat→ClassId:=aQ [a,b,c,K 7,K 11,K 12]
def wT:AD:=aU 68 25 2
def wU:AD:=aU 67 23 2
def ci:List AD:=dsE 0 (zI 16 []) (zD 16 []) (zI 17 []) (zI 4 []) (zD 4 [])++[(1,0,rS 8 3++[zq0]),jA,je,gM,wU,wT]
section OwnLaw
variable {p:Program}{l:Launch}{e:Env}{s:State}{m:MethodId}{args:Array Value}{below:List Frame}{meth:Method}{c:Code}{T0 Z:State}{a0:Array Value}{h0:Heap}{n0:Nat}{L0:List Loc}{A:Nat→Addr}{K:Nat→ClassId}{D:Nat→UInt64}{W:Nat→Value}{ce sl:Nat}{ds:List AD}{Ev:State→Outcome→Prop}{J0 J1:Int}{lu:List OB}
def LWB (p:Program)(l:Launch)(e:Env)(s:State)(m:MethodId)(args:Array Value)(below:List Frame)(meth:Method)(c:Code)(T0 Z:State)(a0:Array Value)(h0:Heap)(n0:Nat)(L0:List Loc)(ce sl:Nat):Prop:=Stand p l e room_1 s m args below meth c T0 L0 ce sl∧p.tables.exec=Jvm.exec∧c.code=code∧c.maxLocals=maxLocals∧meth.sig.returnType=ret∧meth.locks=false∧s.vm.findClass "com/example/tracefold/tracefold/mining/FactoredInverseTransposeTimesPinLaw" = some m.cls∧Z.Warmed39 s.vm∧(∀d∈tables_1,d.before a0 Z=true)∧T0.heap=h0∧n0≤h0.size∧Fr n0 L0
theorem aY {sc:List Sc}{f to pc pc' nD nD' ce' sl':Nat}{orc:List Int32}{L L':Array Slot}{st st':List Value}{ds':List AD}{ops:List Op}(hr:ai (run code aq 53 (8,192,1792,192) to f sc orc (pc,L,st,ds,nD,ce,sl)) (pc',L',st',ds',nD',ce',sl') ops=true)(hsc:∀E∈sc,CtH E.1)(B:LWB p l e s m args below meth c T0 Z a0 h0 n0 L0 ce sl)(Y:YgF Z n0 h0 A K D W ds)(D0:D 0=0)(hnD:0<nD)(hv:okv ops nD D)
  (K_:∀T1 h1 L1 A1 K1,LWB p l e s m args below meth c T1 Z a0 h1 n0 L1 ce' sl'→(∀i,i<ds.length→A1 i=A i∧K1 i=K i)→Keep h0 h1 ((List.range ds.length).map A)→(∀i,ds.length≤i→i<ds'.length→h0.size≤A1 i)→YgF Z n0 h1 A1 K1 (ca ops nD D) W ds'→Go p e below Ev T1 (mkF m pc' (dL A1 (ca ops nD D) W L') (st'.map (den A1 (ca ops nD D) W)))):Go p e below Ev T0 (mkF m pc (dL A D W L) (st.map (den A D W))):=by
 obtain⟨XS,hx,hby,hml,hret,hlk,hown,hZ,hw,e0,Z0,N0⟩:=B
 refine seg (uN hr) hsc hw hx hby hml rfl hZ hown (bq _ Z a0 hw) D0 hnD XS e0 Y N0 Z0 hv ?_
 intro T1 h1 L1 A1 K1 hA1 X1 e1 Y1 N1 Kp f1 n1
 exact K_ T1 h1 L1 A1 K1 ⟨X1,hx,hby,hml,hret,hlk,hown,hZ,hw,e1,n1,N1⟩ hA1 Kp f1 Y1
theorem LWB.more {ce' sl':Nat}(B:LWB p l e s m args below meth c T0 Z a0 h0 n0 L0 ce sl)(h1:ce≤ce')(h2:sl≤sl'):LWB p l e s m args below meth c T0 Z a0 h0 n0 L0 ce' sl':=⟨B.1.more h1 h2,B.2⟩
theorem y13 (Y:Yf Z n0 h0 (ap A K D W 0 ci++lu)):YgF Z n0 h0 A K D W ci:=Yf.to (Yf.pick (os':=ap A K D W 0 ci) Y [0,1,2,3,4,5,6,7,8,9,10,11,12] (by decide) rfl) rfl
theorem d8 {C:EC}{av a8 a9 a10:List Value}{Ls:Array Slot}{R:Int→Int→Prop}{Kf:Nat}{D2:Nat→UInt64}{T1:State}{h1:Heap}{L1:List Loc}{A1:Nat→Addr}{K1:Nat→ClassId}(Y:Yf Z n0 h0 (ap A K D W 0 ci++lu))(Y1:YgF Z n0 h1 A1 K1 D2 W (dE C++[(1,0,av),(65,2,a8),(66,2,a9),(64,16,a10),(67,2,[vU 23,vU 24]),(68,2,[vU 25,vU 26])]))(B1:LWB p l e s m args below meth c T1 Z a0 h1 n0 L1 90 860)(hA1:∀i,i<ci.length→A1 i=A i∧K1 i=K i)(Kp:Keep h0 h1 ((List.range ci.length).map A))(f1:∀i,ci.length≤i→i<13→h0.size≤A1 i)(hs:Ls.size=53)(HX:∀rest:List OB,n0≤h1.size→Yf Z n0 h1 (ap A1 K1 D2 W 0 (dE C)++(lu++rest))→X7R l Z n0 h1 A1 D2 rest Kf R)
  (KK:∀(T2:State) (h2:Heap) (L2:List Loc) (pr:Addr) (kp kv kf:ClassId) (y0 y1:UInt64) (C0 C1:Int),LWB p l e s m args below meth c T2 Z a0 h2 n0 L2 93 866→Yf Z n0 h2 [(pr,kp,65,2,[.double y0,.double y1]),(A1 0,kv,65,2,[.double (D2 1),.double (D2 2)]),(A1 1,kf,0,0,[]),(A1 7,K1 7,1,0,[]),(A1 11,K1 11,67,2,[W 23,W 24]),(A1 12,K1 12,68,2,[W 25,W 26])]→R C0 C1→ah C0 Kf y0→ah C1 Kf y1→(-8796093022208≤C0∧C0≤8796093022208)→(-8796093022208≤C1∧C1≤8796093022208)→Go p e below Ev T2 (mkF m 755 Ls [.ref pr])):Go p e below Ev T1 (mkF m 752 Ls [.ref (A1 0),.ref (A1 1)]):=by
 obtain⟨X1,hx,hby,hml,hret,hlk,hown,hZ,hw,e1,n1,N1⟩:=B1
 have YJ:=Yf.segj Y (YgF.bare Y1 7 rfl (by decide)) Kp hA1 f1
 have YS:=Yf.swap (a:=ap A1 K1 D2 W 0 (dE C)) (b:=[(A1 7,K1 7,1,0,[]),(A1 8,K1 8,65,2,a8.map (den A1 D2 W)),(A1 9,K1 9,66,2,a9.map (den A1 D2 W)),(A1 10,K1 10,64,16,a10.map (den A1 D2 W)),(A1 11,K1 11,67,2,[W 23,W 24]),(A1 12,K1 12,68,2,[W 25,W 26])]) (c:=lu) YJ
 refine qE hw (.invokevirtual 47) 1 32 1 0 rfl X1 hx hZ hown (argsL:=[.ref (A1 0)]) (rest:=[]) (b:=A1 1) (HX _ n1 YS) e1 (fun _=>(Y1.1 1 _ rfl).2.obj (by show (0:Nat)<64;decide)) rfl (by rw[hml];exact hs) rfl (by decide) (by decide) (by decide) (by decide) (hb hby at_752) ?_
 intro v T2 L2 X2 Q2
 obtain⟨pr,kp,kv,kf,y0,y1,C0,C1,rfl,N2,n2,Y2,HR,F0,F1,bC0,bC1⟩:=Q2
 exact KK T2 _ _ pr kp kv kf y0 y1 C0 C1 ⟨X2.more (by decide) (by decide),hx,hby,hml,hret,hlk,hown,hZ,hw,rfl,n2,N1.app N2⟩ (Yf.pick Y2 [0,1,2,3,7,8] (by decide) rfl) HR F0 F1 bC0 bC1
def sW:Op:=(7,31,0,0)
def oP:Op:=(7,29,0,0)
def wV:Op:=(7,30,0,0)
def sX:Op:=(7,28,0,0)
def sY:Op:=(7,27,0,0)
def sZ:Op:=(7,26,0,0)
theorem Rc:ai (run code aq 53 (8,192,1792,192) 1000000 51 [] [0,0] (755,gC (sI 0) (sF 32) (sF 37) (List.replicate 9 sU),[aw],dX7,44,93,866)) (951,gC (sI 0) (sF 32) (sF 37) [sR 0,sD 42,s2,sD 43,s2,sD 48,s2,sD 53,s2],[zq3],dX7,56,93,866) [sZ,(2,44,42,0),sX,(2,46,43,0),(0,45,47,0),sY,(2,49,42,0),oP,(2,51,43,0),(0,50,52,0),wV,(12,48,54,0),sW,(12,53,55,0)]=true:=by decide +kernel
theorem QK {C0 C1:Int}(B:LWB p l e s m args below meth c T0 Z a0 h0 n0 L0 93 866)(Y:YgF Z n0 h0 A K D W dX7)(D0:D 0=0)(Q:QM D)(J:JM D J0 J1)(HR:(fun J0 J1 C0 C1=>C0=J0∧C1=J1) J0 J1 C0 C1)(F0:ah C0 7 (D 42))(F1:ah C1 7 (D 43))(bC0:-8796093022208≤C0∧C0≤8796093022208)(bC1:-8796093022208≤C1∧C1≤8796093022208):Go p e below (bw s (aV n0) 192 1792) T0 (mkF m 755 (dL A D W (gC (sI 0) (sF 32) (sF 37) (List.replicate 9 sU))) [.ref (A 0)]):=by
 obtain⟨q0,q1,q2,q3⟩:=Q
 obtain⟨g0,g1,bJ0,bJ1,bi0,bi1⟩:=J
 obtain⟨s1,s2⟩:=(HR:C0=J0∧C1=J1)
 subst s1 s2
 have W0:=eO (R:=128*(iW (D 30)).toInt) (Jvm.FP.Core.i2d_int (iW (D 26))) (Jvm.FP.Core.i2d_int (iW (D 28))) q0 q2 F0 F1 (by omega) (by omega) (by decide) (by omega)
 have X0:(cmpValue (FP.dcmp (FP.dadd (FP.dmul (FP.i2d (iW (D 26))) (D 42)) (FP.dmul (FP.i2d (iW (D 28))) (D 43))) (FP.i2d (iW (D 30)))) .l).toInt=0:=cG W0.2.2.2 (aH 7 128 (am.mpr (Jvm.FP.Core.i2d_int (iW (D 30)))) rfl (by omega))
 have W1:=eO (R:=128*(iW (D 31)).toInt) (Jvm.FP.Core.i2d_int (iW (D 27))) (Jvm.FP.Core.i2d_int (iW (D 29))) q1 q3 F0 F1 (by omega) (by omega) (by decide) (by omega)
 have X1:(cmpValue (FP.dcmp (FP.dadd (FP.dmul (FP.i2d (iW (D 27))) (D 42)) (FP.dmul (FP.i2d (iW (D 29))) (D 43))) (FP.i2d (iW (D 31)))) .l).toInt=0:=cG W1.2.2.2 (aH 7 128 (am.mpr (Jvm.FP.Core.i2d_int (iW (D 31)))) rfl (by omega))
 refine goE (aY Rc sc0 B Y D0 (by decide) ⟨trivial,W0.1,trivial,W0.2.1,W0.2.2.1,trivial,W1.1,trivial,W1.2.1,W1.2.2.1,trivial,X0,trivial,X1,trivial⟩ ?_) rfl
 intro T1 h1 L1 A1 K1 B1 hA1 Kp f1 Y1_
 obtain⟨X1,hx,hby,hml,hret,hlk,hown,hZ,hw,e1,n1,N1⟩:=B1
 exact goE (h_ X1 hx hlk hret (hb hby at_951) (by decide) (by decide) e1 ⟨rfl,N1⟩) rfl
def gq:Op:=(7,36,0,0)
def gr:Op:=(7,35,0,0)
def wW:Op:=(0,55,57,0)
theorem Rd:ai (run code aq 53 (8,192,1792,192) 1000000 68 [] [0,0] (755,gC (sI 1) (sI 0) (sF 37) (List.replicate 9 sU),[aw],dX7,44,93,866)) (951,gC (sI 1) (sI 0) (sF 37) [sR 0,sD 48,s2,sD 46,s2,sD 53,s2,sD 58,s2],[zq3],dX7,61,93,866) [gq,(2,44,42,0),(0,43,45,0),gr,(2,47,42,0),sZ,(2,49,48,0),sX,(2,51,46,0),(0,50,52,0),sY,(2,54,48,0),oP,(2,56,46,0),wW,wV,(12,53,59,0),sW,(12,58,60,0)]=true:=by decide +kernel
theorem MX {C0 C1:Int}(B:LWB p l e s m args below meth c T0 Z a0 h0 n0 L0 93 866)(Y:YgF Z n0 h0 A K D W dX7)(D0:D 0=0)(Q:QM D)(J:JM D J0 J1)(H1:PI (iW (D 35)) (iW (D 36)))(HR:(fun J0 J1 C0 C1=>Et false (iW (D 35)).toInt (iW (D 36)).toInt J0 J1 C0 C1) J0 J1 C0 C1)(F0:ah C0 10 (D 42))(F1:ah C1 10 (D 43))(bC0:-8796093022208≤C0∧C0≤8796093022208)(bC1:-8796093022208≤C1∧C1≤8796093022208):Go p e below (bw s (aV n0) 192 1792) T0 (mkF m 755 (dL A D W (gC (sI 1) (sI 0) (sF 37) (List.replicate 9 sU))) [.ref (A 0)]):=by
 obtain⟨q0,q1,q2,q3⟩:=Q
 obtain⟨g0,g1,bJ0,bJ1,bi0,bi1⟩:=J
 have E1:=HR
 obtain⟨u0_,s0_⟩:=(E1:Et false (iW (D 35)).toInt (iW (D 36)).toInt J0 J1 C0 C1)
 have u0:(iW (D 35)).toInt*C0=8*J0:=u0_
 have s0:C1=8*J1-(iW (D 36)).toInt*C0:=s0_
 have bq0:=cv H1.2 (x:=C0) (N:=8796093022208) (by omega)
 have br0:=cv H1.bk (x:=C0) (N:=8796093022208) (by omega)
 have V0:=gB (A':=8*J0) (B':=8*J1) (Jvm.FP.Core.i2d_int (iW (D 35))) (Jvm.FP.Core.i2d_int (iW (D 36))) H1.bk H1.2 F0 F1 (by omega) (by omega) (by decide) (by omega) (by omega)
 have W0:=eO (R:=1024*(iW (D 30)).toInt) (Jvm.FP.Core.i2d_int (iW (D 26))) (Jvm.FP.Core.i2d_int (iW (D 28))) q0 q2 V0.2.2.2.1 V0.2.2.2.2 (by omega) (by omega) (by decide) (by rw[Int.mul_left_comm,Int.mul_left_comm ((iW (D 28)).toInt)];omega)
 have X0:(cmpValue (FP.dcmp (FP.dadd (FP.dmul (FP.i2d (iW (D 26))) (FP.dmul (FP.i2d (iW (D 35))) (D 42))) (FP.dmul (FP.i2d (iW (D 28))) (FP.dadd (D 43) (FP.dmul (FP.i2d (iW (D 36))) (D 42))))) (FP.i2d (iW (D 30)))) .l).toInt=0:=cG W0.2.2.2 (aH 10 1024 (am.mpr (Jvm.FP.Core.i2d_int (iW (D 30)))) rfl (by omega))
 have W1:=eO (R:=1024*(iW (D 31)).toInt) (Jvm.FP.Core.i2d_int (iW (D 27))) (Jvm.FP.Core.i2d_int (iW (D 29))) q1 q3 V0.2.2.2.1 V0.2.2.2.2 (by omega) (by omega) (by decide) (by rw[Int.mul_left_comm,Int.mul_left_comm ((iW (D 29)).toInt)];omega)
 have X1:(cmpValue (FP.dcmp (FP.dadd (FP.dmul (FP.i2d (iW (D 27))) (FP.dmul (FP.i2d (iW (D 35))) (D 42))) (FP.dmul (FP.i2d (iW (D 29))) (FP.dadd (D 43) (FP.dmul (FP.i2d (iW (D 36))) (D 42))))) (FP.i2d (iW (D 31)))) .l).toInt=0:=cG W1.2.2.2 (aH 10 1024 (am.mpr (Jvm.FP.Core.i2d_int (iW (D 31)))) rfl (by omega))
 refine goE (aY Rd sc0 B Y D0 (by decide) ⟨trivial,V0.1,V0.2.1,trivial,V0.2.2.1,trivial,W0.1,trivial,W0.2.1,W0.2.2.1,trivial,W1.1,trivial,W1.2.1,W1.2.2.1,trivial,X0,trivial,X1,trivial⟩ ?_) rfl
 intro T1 h1 L1 A1 K1 B1 hA1 Kp f1 Y1_
 obtain⟨X1,hx,hby,hml,hret,hlk,hown,hZ,hw,e1,n1,N1⟩:=B1
 exact goE (h_ X1 hx hlk hret (hb hby at_951) (by decide) (by decide) e1 ⟨rfl,N1⟩) rfl
theorem Re:ai (run code aq 53 (8,192,1792,192) 1000000 67 [] [0,0] (755,gC (sI 1) (sI 1) (sF 37) (List.replicate 9 sU),[aw],dX7,44,93,866)) (951,gC (sI 1) (sI 1) (sF 37) [sR 0,sD 46,s2,sD 48,s2,sD 53,s2,sD 58,s2],[zq3],dX7,61,93,866) [gr,(2,44,43,0),(0,42,45,0),gq,(2,47,43,0),sZ,(2,49,46,0),sX,(2,51,48,0),(0,50,52,0),sY,(2,54,46,0),oP,(2,56,48,0),wW,wV,(12,53,59,0),sW,(12,58,60,0)]=true:=by decide +kernel
theorem MY {C0 C1:Int}(B:LWB p l e s m args below meth c T0 Z a0 h0 n0 L0 93 866)(Y:YgF Z n0 h0 A K D W dX7)(D0:D 0=0)(Q:QM D)(J:JM D J0 J1)(H1:PI (iW (D 36)) (iW (D 35)))(HR:(fun J0 J1 C0 C1=>Et true (iW (D 36)).toInt (iW (D 35)).toInt J0 J1 C0 C1) J0 J1 C0 C1)(F0:ah C0 10 (D 42))(F1:ah C1 10 (D 43))(bC0:-8796093022208≤C0∧C0≤8796093022208)(bC1:-8796093022208≤C1∧C1≤8796093022208):Go p e below (bw s (aV n0) 192 1792) T0 (mkF m 755 (dL A D W (gC (sI 1) (sI 1) (sF 37) (List.replicate 9 sU))) [.ref (A 0)]):=by
 obtain⟨q0,q1,q2,q3⟩:=Q
 obtain⟨g0,g1,bJ0,bJ1,bi0,bi1⟩:=J
 have E1:=HR
 obtain⟨u0_,s0_⟩:=(E1:Et true (iW (D 36)).toInt (iW (D 35)).toInt J0 J1 C0 C1)
 have u0:(iW (D 36)).toInt*C1=8*J1:=u0_
 have s0:C0=8*J0-(iW (D 35)).toInt*C1:=s0_
 have bq0:=cv H1.2 (x:=C1) (N:=8796093022208) (by omega)
 have br0:=cv H1.bk (x:=C1) (N:=8796093022208) (by omega)
 have V0:=gB (A':=8*J1) (B':=8*J0) (Jvm.FP.Core.i2d_int (iW (D 36))) (Jvm.FP.Core.i2d_int (iW (D 35))) H1.bk H1.2 F1 F0 (by omega) (by omega) (by decide) (by omega) (by omega)
 have W0:=eO (R:=1024*(iW (D 30)).toInt) (Jvm.FP.Core.i2d_int (iW (D 26))) (Jvm.FP.Core.i2d_int (iW (D 28))) q0 q2 V0.2.2.2.2 V0.2.2.2.1 (by omega) (by omega) (by decide) (by rw[Int.mul_left_comm,Int.mul_left_comm ((iW (D 28)).toInt)];omega)
 have X0:(cmpValue (FP.dcmp (FP.dadd (FP.dmul (FP.i2d (iW (D 26))) (FP.dadd (D 42) (FP.dmul (FP.i2d (iW (D 35))) (D 43)))) (FP.dmul (FP.i2d (iW (D 28))) (FP.dmul (FP.i2d (iW (D 36))) (D 43)))) (FP.i2d (iW (D 30)))) .l).toInt=0:=cG W0.2.2.2 (aH 10 1024 (am.mpr (Jvm.FP.Core.i2d_int (iW (D 30)))) rfl (by omega))
 have W1:=eO (R:=1024*(iW (D 31)).toInt) (Jvm.FP.Core.i2d_int (iW (D 27))) (Jvm.FP.Core.i2d_int (iW (D 29))) q1 q3 V0.2.2.2.2 V0.2.2.2.1 (by omega) (by omega) (by decide) (by rw[Int.mul_left_comm,Int.mul_left_comm ((iW (D 29)).toInt)];omega)
 have X1:(cmpValue (FP.dcmp (FP.dadd (FP.dmul (FP.i2d (iW (D 27))) (FP.dadd (D 42) (FP.dmul (FP.i2d (iW (D 35))) (D 43)))) (FP.dmul (FP.i2d (iW (D 29))) (FP.dmul (FP.i2d (iW (D 36))) (D 43)))) (FP.i2d (iW (D 31)))) .l).toInt=0:=cG W1.2.2.2 (aH 10 1024 (am.mpr (Jvm.FP.Core.i2d_int (iW (D 31)))) rfl (by omega))
 refine goE (aY Re sc0 B Y D0 (by decide) ⟨trivial,V0.1,V0.2.1,trivial,V0.2.2.1,trivial,W0.1,trivial,W0.2.1,W0.2.2.1,trivial,W1.1,trivial,W1.2.1,W1.2.2.1,trivial,X0,trivial,X1,trivial⟩ ?_) rfl
 intro T1 h1 L1 A1 K1 B1 hA1 Kp f1 Y1_
 obtain⟨X1,hx,hby,hml,hret,hlk,hown,hZ,hw,e1,n1,N1⟩:=B1
 exact goE (h_ X1 hx hlk hret (hb hby at_951) (by decide) (by decide) e1 ⟨rfl,N1⟩) rfl
def lL:Op:=(7,41,0,0)
def lM:Op:=(7,40,0,0)
def wX:List Op:=[(0,60,62,0),wV,(12,58,64,0),sW,(12,63,65,0)]
def MZ:List Op:=[sZ,(2,54,53,0),sX,(2,56,51,0),wW,sY,(2,59,53,0),oP,(2,61,51,0)]
theorem QL:ai (run code aq 53 (8,192,1792,192) 1000000 85 [] [0,0] (755,gC (sI 2) (sI 0) (sI 0) (List.replicate 9 sU),[aw],dX7,44,93,866)) (951,gC (sI 2) (sI 0) (sI 0) [sR 0,sD 53,s2,sD 51,s2,sD 58,s2,sD 63,s2],[zq3],dX7,66,93,866) (([lL,(2,44,42,0),(0,43,45,0),lM,(2,47,42,0),gq,(2,49,48,0),(0,46,50,0),gr,(2,52,48,0)]++MZ)++wX)=true:=by decide +kernel
theorem pZ {C0 C1:Int}(B:LWB p l e s m args below meth c T0 Z a0 h0 n0 L0 93 866)(Y:YgF Z n0 h0 A K D W dX7)(D0:D 0=0)(Q:QM D)(J:JM D J0 J1)(H1:PI (iW (D 35)) (iW (D 36)))(H2:PI (iW (D 40)) (iW (D 41)))(HR:(fun J0 J1 C0 C1=>∃z0 z1,Et false (iW (D 35)).toInt (iW (D 36)).toInt J0 J1 z0 z1∧Et false (iW (D 40)).toInt (iW (D 41)).toInt z0 z1 C0 C1) J0 J1 C0 C1)(F0:ah C0 13 (D 42))(F1:ah C1 13 (D 43))(bC0:-8796093022208≤C0∧C0≤8796093022208)(bC1:-8796093022208≤C1∧C1≤8796093022208):Go p e below (bw s (aV n0) 192 1792) T0 (mkF m 755 (dL A D W (gC (sI 2) (sI 0) (sI 0) (List.replicate 9 sU))) [.ref (A 0)]):=by
 obtain⟨q0,q1,q2,q3⟩:=Q
 obtain⟨g0,g1,bJ0,bJ1,bi0,bi1⟩:=J
 obtain⟨z0,z1,E1,E2⟩:=HR
 obtain⟨u1_,s1_⟩:=(E2:Et false (iW (D 40)).toInt (iW (D 41)).toInt z0 z1 C0 C1)
 have u1:(iW (D 40)).toInt*C0=8*z0:=u1_
 have s1:C1=8*z1-(iW (D 41)).toInt*C0:=s1_
 have bq1:=cv H2.2 (x:=C0) (N:=8796093022208) (by omega)
 have br1:=cv H2.bk (x:=C0) (N:=8796093022208) (by omega)
 have V1:=gB (A':=8*z0) (B':=8*z1) (Jvm.FP.Core.i2d_int (iW (D 40))) (Jvm.FP.Core.i2d_int (iW (D 41))) H2.bk H2.2 F0 F1 (by omega) (by omega) (by decide) (by omega) (by omega)
 obtain⟨u0_,s0_⟩:=(E1:Et false (iW (D 35)).toInt (iW (D 36)).toInt J0 J1 z0 z1)
 have u0:(iW (D 35)).toInt*z0=8*J0:=u0_
 have s0:z1=8*J1-(iW (D 36)).toInt*z0:=s0_
 have V0:=gB (A':=64*J0) (B':=64*J1) (Jvm.FP.Core.i2d_int (iW (D 35))) (Jvm.FP.Core.i2d_int (iW (D 36))) H1.bk H1.2 V1.2.2.2.1 V1.2.2.2.2 (by omega) (by omega) (by decide) (by rw[Int.mul_left_comm];omega) (by rw[Int.mul_left_comm];omega)
 have W0:=eO (R:=8192*(iW (D 30)).toInt) (Jvm.FP.Core.i2d_int (iW (D 26))) (Jvm.FP.Core.i2d_int (iW (D 28))) q0 q2 V0.2.2.2.1 V0.2.2.2.2 (by omega) (by omega) (by decide) (by rw[Int.mul_left_comm,Int.mul_left_comm ((iW (D 28)).toInt)];omega)
 have X0:(cmpValue (FP.dcmp (FP.dadd (FP.dmul (FP.i2d (iW (D 26))) (FP.dmul (FP.i2d (iW (D 35))) (FP.dmul (FP.i2d (iW (D 40))) (D 42)))) (FP.dmul (FP.i2d (iW (D 28))) (FP.dadd (FP.dadd (D 43) (FP.dmul (FP.i2d (iW (D 41))) (D 42))) (FP.dmul (FP.i2d (iW (D 36))) (FP.dmul (FP.i2d (iW (D 40))) (D 42)))))) (FP.i2d (iW (D 30)))) .l).toInt=0:=cG W0.2.2.2 (aH 13 8192 (am.mpr (Jvm.FP.Core.i2d_int (iW (D 30)))) rfl (by omega))
 have W1:=eO (R:=8192*(iW (D 31)).toInt) (Jvm.FP.Core.i2d_int (iW (D 27))) (Jvm.FP.Core.i2d_int (iW (D 29))) q1 q3 V0.2.2.2.1 V0.2.2.2.2 (by omega) (by omega) (by decide) (by rw[Int.mul_left_comm,Int.mul_left_comm ((iW (D 29)).toInt)];omega)
 have X1:(cmpValue (FP.dcmp (FP.dadd (FP.dmul (FP.i2d (iW (D 27))) (FP.dmul (FP.i2d (iW (D 35))) (FP.dmul (FP.i2d (iW (D 40))) (D 42)))) (FP.dmul (FP.i2d (iW (D 29))) (FP.dadd (FP.dadd (D 43) (FP.dmul (FP.i2d (iW (D 41))) (D 42))) (FP.dmul (FP.i2d (iW (D 36))) (FP.dmul (FP.i2d (iW (D 40))) (D 42)))))) (FP.i2d (iW (D 31)))) .l).toInt=0:=cG W1.2.2.2 (aH 13 8192 (am.mpr (Jvm.FP.Core.i2d_int (iW (D 31)))) rfl (by omega))
 refine goE (aY QL sc0 B Y D0 (by decide) ⟨trivial,V1.1,V1.2.1,trivial,V1.2.2.1,trivial,V0.1,V0.2.1,trivial,V0.2.2.1,trivial,W0.1,trivial,W0.2.1,W0.2.2.1,trivial,W1.1,trivial,W1.2.1,W1.2.2.1,trivial,X0,trivial,X1,trivial⟩ ?_) rfl
 intro T1 h1 L1 A1 K1 B1 hA1 Kp f1 Y1_
 obtain⟨X1,hx,hby,hml,hret,hlk,hown,hZ,hw,e1,n1,N1⟩:=B1
 exact goE (h_ X1 hx hlk hret (hb hby at_951) (by decide) (by decide) e1 ⟨rfl,N1⟩) rfl
theorem QN:ai (run code aq 53 (8,192,1792,192) 1000000 84 [] [0,0] (755,gC (sI 2) (sI 0) (sI 1) (List.replicate 9 sU),[aw],dX7,44,93,866)) (951,gC (sI 2) (sI 0) (sI 1) [sR 0,sD 53,s2,sD 51,s2,sD 58,s2,sD 63,s2],[zq3],dX7,66,93,866) (([lM,(2,44,43,0),(0,42,45,0),lL,(2,47,43,0),gq,(2,49,46,0),(0,48,50,0),gr,(2,52,46,0)]++MZ)++wX)=true:=by decide +kernel
theorem p6 {C0 C1:Int}(B:LWB p l e s m args below meth c T0 Z a0 h0 n0 L0 93 866)(Y:YgF Z n0 h0 A K D W dX7)(D0:D 0=0)(Q:QM D)(J:JM D J0 J1)(H1:PI (iW (D 35)) (iW (D 36)))(H2:PI (iW (D 41)) (iW (D 40)))(HR:(fun J0 J1 C0 C1=>∃z0 z1,Et false (iW (D 35)).toInt (iW (D 36)).toInt J0 J1 z0 z1∧Et true (iW (D 41)).toInt (iW (D 40)).toInt z0 z1 C0 C1) J0 J1 C0 C1)(F0:ah C0 13 (D 42))(F1:ah C1 13 (D 43))(bC0:-8796093022208≤C0∧C0≤8796093022208)(bC1:-8796093022208≤C1∧C1≤8796093022208):Go p e below (bw s (aV n0) 192 1792) T0 (mkF m 755 (dL A D W (gC (sI 2) (sI 0) (sI 1) (List.replicate 9 sU))) [.ref (A 0)]):=by
 obtain⟨q0,q1,q2,q3⟩:=Q
 obtain⟨g0,g1,bJ0,bJ1,bi0,bi1⟩:=J
 obtain⟨z0,z1,E1,E2⟩:=HR
 obtain⟨u1_,s1_⟩:=(E2:Et true (iW (D 41)).toInt (iW (D 40)).toInt z0 z1 C0 C1)
 have u1:(iW (D 41)).toInt*C1=8*z1:=u1_
 have s1:C0=8*z0-(iW (D 40)).toInt*C1:=s1_
 have bq1:=cv H2.2 (x:=C1) (N:=8796093022208) (by omega)
 have br1:=cv H2.bk (x:=C1) (N:=8796093022208) (by omega)
 have V1:=gB (A':=8*z1) (B':=8*z0) (Jvm.FP.Core.i2d_int (iW (D 41))) (Jvm.FP.Core.i2d_int (iW (D 40))) H2.bk H2.2 F1 F0 (by omega) (by omega) (by decide) (by omega) (by omega)
 obtain⟨u0_,s0_⟩:=(E1:Et false (iW (D 35)).toInt (iW (D 36)).toInt J0 J1 z0 z1)
 have u0:(iW (D 35)).toInt*z0=8*J0:=u0_
 have s0:z1=8*J1-(iW (D 36)).toInt*z0:=s0_
 have V0:=gB (A':=64*J0) (B':=64*J1) (Jvm.FP.Core.i2d_int (iW (D 35))) (Jvm.FP.Core.i2d_int (iW (D 36))) H1.bk H1.2 V1.2.2.2.2 V1.2.2.2.1 (by omega) (by omega) (by decide) (by rw[Int.mul_left_comm];omega) (by rw[Int.mul_left_comm];omega)
 have W0:=eO (R:=8192*(iW (D 30)).toInt) (Jvm.FP.Core.i2d_int (iW (D 26))) (Jvm.FP.Core.i2d_int (iW (D 28))) q0 q2 V0.2.2.2.1 V0.2.2.2.2 (by omega) (by omega) (by decide) (by rw[Int.mul_left_comm,Int.mul_left_comm ((iW (D 28)).toInt)];omega)
 have X0:(cmpValue (FP.dcmp (FP.dadd (FP.dmul (FP.i2d (iW (D 26))) (FP.dmul (FP.i2d (iW (D 35))) (FP.dadd (D 42) (FP.dmul (FP.i2d (iW (D 40))) (D 43))))) (FP.dmul (FP.i2d (iW (D 28))) (FP.dadd (FP.dmul (FP.i2d (iW (D 41))) (D 43)) (FP.dmul (FP.i2d (iW (D 36))) (FP.dadd (D 42) (FP.dmul (FP.i2d (iW (D 40))) (D 43))))))) (FP.i2d (iW (D 30)))) .l).toInt=0:=cG W0.2.2.2 (aH 13 8192 (am.mpr (Jvm.FP.Core.i2d_int (iW (D 30)))) rfl (by omega))
 have W1:=eO (R:=8192*(iW (D 31)).toInt) (Jvm.FP.Core.i2d_int (iW (D 27))) (Jvm.FP.Core.i2d_int (iW (D 29))) q1 q3 V0.2.2.2.1 V0.2.2.2.2 (by omega) (by omega) (by decide) (by rw[Int.mul_left_comm,Int.mul_left_comm ((iW (D 29)).toInt)];omega)
 have X1:(cmpValue (FP.dcmp (FP.dadd (FP.dmul (FP.i2d (iW (D 27))) (FP.dmul (FP.i2d (iW (D 35))) (FP.dadd (D 42) (FP.dmul (FP.i2d (iW (D 40))) (D 43))))) (FP.dmul (FP.i2d (iW (D 29))) (FP.dadd (FP.dmul (FP.i2d (iW (D 41))) (D 43)) (FP.dmul (FP.i2d (iW (D 36))) (FP.dadd (D 42) (FP.dmul (FP.i2d (iW (D 40))) (D 43))))))) (FP.i2d (iW (D 31)))) .l).toInt=0:=cG W1.2.2.2 (aH 13 8192 (am.mpr (Jvm.FP.Core.i2d_int (iW (D 31)))) rfl (by omega))
 refine goE (aY QN sc0 B Y D0 (by decide) ⟨trivial,V1.1,V1.2.1,trivial,V1.2.2.1,trivial,V0.1,V0.2.1,trivial,V0.2.2.1,trivial,W0.1,trivial,W0.2.1,W0.2.2.1,trivial,W1.1,trivial,W1.2.1,W1.2.2.1,trivial,X0,trivial,X1,trivial⟩ ?_) rfl
 intro T1 h1 L1 A1 K1 B1 hA1 Kp f1 Y1_
 obtain⟨X1,hx,hby,hml,hret,hlk,hown,hZ,hw,e1,n1,N1⟩:=B1
 exact goE (h_ X1 hx hlk hret (hb hby at_951) (by decide) (by decide) e1 ⟨rfl,N1⟩) rfl
def M0:List Op:=[sZ,(2,54,51,0),sX,(2,56,53,0),wW,sY,(2,59,51,0),oP,(2,61,53,0)]
theorem QO:ai (run code aq 53 (8,192,1792,192) 1000000 84 [] [0,0] (755,gC (sI 2) (sI 1) (sI 0) (List.replicate 9 sU),[aw],dX7,44,93,866)) (951,gC (sI 2) (sI 1) (sI 0) [sR 0,sD 51,s2,sD 53,s2,sD 58,s2,sD 63,s2],[zq3],dX7,66,93,866) (([lL,(2,44,42,0),(0,43,45,0),lM,(2,47,42,0),gr,(2,49,46,0),(0,48,50,0),gq,(2,52,46,0)]++M0)++wX)=true:=by decide +kernel
theorem p7 {C0 C1:Int}(B:LWB p l e s m args below meth c T0 Z a0 h0 n0 L0 93 866)(Y:YgF Z n0 h0 A K D W dX7)(D0:D 0=0)(Q:QM D)(J:JM D J0 J1)(H1:PI (iW (D 36)) (iW (D 35)))(H2:PI (iW (D 40)) (iW (D 41)))(HR:(fun J0 J1 C0 C1=>∃z0 z1,Et true (iW (D 36)).toInt (iW (D 35)).toInt J0 J1 z0 z1∧Et false (iW (D 40)).toInt (iW (D 41)).toInt z0 z1 C0 C1) J0 J1 C0 C1)(F0:ah C0 13 (D 42))(F1:ah C1 13 (D 43))(bC0:-8796093022208≤C0∧C0≤8796093022208)(bC1:-8796093022208≤C1∧C1≤8796093022208):Go p e below (bw s (aV n0) 192 1792) T0 (mkF m 755 (dL A D W (gC (sI 2) (sI 1) (sI 0) (List.replicate 9 sU))) [.ref (A 0)]):=by
 obtain⟨q0,q1,q2,q3⟩:=Q
 obtain⟨g0,g1,bJ0,bJ1,bi0,bi1⟩:=J
 obtain⟨z0,z1,E1,E2⟩:=HR
 obtain⟨u1_,s1_⟩:=(E2:Et false (iW (D 40)).toInt (iW (D 41)).toInt z0 z1 C0 C1)
 have u1:(iW (D 40)).toInt*C0=8*z0:=u1_
 have s1:C1=8*z1-(iW (D 41)).toInt*C0:=s1_
 have bq1:=cv H2.2 (x:=C0) (N:=8796093022208) (by omega)
 have br1:=cv H2.bk (x:=C0) (N:=8796093022208) (by omega)
 have V1:=gB (A':=8*z0) (B':=8*z1) (Jvm.FP.Core.i2d_int (iW (D 40))) (Jvm.FP.Core.i2d_int (iW (D 41))) H2.bk H2.2 F0 F1 (by omega) (by omega) (by decide) (by omega) (by omega)
 obtain⟨u0_,s0_⟩:=(E1:Et true (iW (D 36)).toInt (iW (D 35)).toInt J0 J1 z0 z1)
 have u0:(iW (D 36)).toInt*z1=8*J1:=u0_
 have s0:z0=8*J0-(iW (D 35)).toInt*z1:=s0_
 have V0:=gB (A':=64*J1) (B':=64*J0) (Jvm.FP.Core.i2d_int (iW (D 36))) (Jvm.FP.Core.i2d_int (iW (D 35))) H1.bk H1.2 V1.2.2.2.2 V1.2.2.2.1 (by omega) (by omega) (by decide) (by rw[Int.mul_left_comm];omega) (by rw[Int.mul_left_comm];omega)
 have W0:=eO (R:=8192*(iW (D 30)).toInt) (Jvm.FP.Core.i2d_int (iW (D 26))) (Jvm.FP.Core.i2d_int (iW (D 28))) q0 q2 V0.2.2.2.2 V0.2.2.2.1 (by omega) (by omega) (by decide) (by rw[Int.mul_left_comm,Int.mul_left_comm ((iW (D 28)).toInt)];omega)
 have X0:(cmpValue (FP.dcmp (FP.dadd (FP.dmul (FP.i2d (iW (D 26))) (FP.dadd (FP.dmul (FP.i2d (iW (D 40))) (D 42)) (FP.dmul (FP.i2d (iW (D 35))) (FP.dadd (D 43) (FP.dmul (FP.i2d (iW (D 41))) (D 42)))))) (FP.dmul (FP.i2d (iW (D 28))) (FP.dmul (FP.i2d (iW (D 36))) (FP.dadd (D 43) (FP.dmul (FP.i2d (iW (D 41))) (D 42)))))) (FP.i2d (iW (D 30)))) .l).toInt=0:=cG W0.2.2.2 (aH 13 8192 (am.mpr (Jvm.FP.Core.i2d_int (iW (D 30)))) rfl (by omega))
 have W1:=eO (R:=8192*(iW (D 31)).toInt) (Jvm.FP.Core.i2d_int (iW (D 27))) (Jvm.FP.Core.i2d_int (iW (D 29))) q1 q3 V0.2.2.2.2 V0.2.2.2.1 (by omega) (by omega) (by decide) (by rw[Int.mul_left_comm,Int.mul_left_comm ((iW (D 29)).toInt)];omega)
 have X1:(cmpValue (FP.dcmp (FP.dadd (FP.dmul (FP.i2d (iW (D 27))) (FP.dadd (FP.dmul (FP.i2d (iW (D 40))) (D 42)) (FP.dmul (FP.i2d (iW (D 35))) (FP.dadd (D 43) (FP.dmul (FP.i2d (iW (D 41))) (D 42)))))) (FP.dmul (FP.i2d (iW (D 29))) (FP.dmul (FP.i2d (iW (D 36))) (FP.dadd (D 43) (FP.dmul (FP.i2d (iW (D 41))) (D 42)))))) (FP.i2d (iW (D 31)))) .l).toInt=0:=cG W1.2.2.2 (aH 13 8192 (am.mpr (Jvm.FP.Core.i2d_int (iW (D 31)))) rfl (by omega))
 refine goE (aY QO sc0 B Y D0 (by decide) ⟨trivial,V1.1,V1.2.1,trivial,V1.2.2.1,trivial,V0.1,V0.2.1,trivial,V0.2.2.1,trivial,W0.1,trivial,W0.2.1,W0.2.2.1,trivial,W1.1,trivial,W1.2.1,W1.2.2.1,trivial,X0,trivial,X1,trivial⟩ ?_) rfl
 intro T1 h1 L1 A1 K1 B1 hA1 Kp f1 Y1_
 obtain⟨X1,hx,hby,hml,hret,hlk,hown,hZ,hw,e1,n1,N1⟩:=B1
 exact goE (h_ X1 hx hlk hret (hb hby at_951) (by decide) (by decide) e1 ⟨rfl,N1⟩) rfl
theorem QP:ai (run code aq 53 (8,192,1792,192) 1000000 83 [] [0,0] (755,gC (sI 2) (sI 1) (sI 1) (List.replicate 9 sU),[aw],dX7,44,93,866)) (951,gC (sI 2) (sI 1) (sI 1) [sR 0,sD 51,s2,sD 53,s2,sD 58,s2,sD 63,s2],[zq3],dX7,66,93,866) (([lM,(2,44,43,0),(0,42,45,0),lL,(2,47,43,0),gr,(2,49,48,0),(0,46,50,0),gq,(2,52,48,0)]++M0)++wX)=true:=by decide +kernel
theorem p8 {C0 C1:Int}(B:LWB p l e s m args below meth c T0 Z a0 h0 n0 L0 93 866)(Y:YgF Z n0 h0 A K D W dX7)(D0:D 0=0)(Q:QM D)(J:JM D J0 J1)(H1:PI (iW (D 36)) (iW (D 35)))(H2:PI (iW (D 41)) (iW (D 40)))(HR:(fun J0 J1 C0 C1=>∃z0 z1,Et true (iW (D 36)).toInt (iW (D 35)).toInt J0 J1 z0 z1∧Et true (iW (D 41)).toInt (iW (D 40)).toInt z0 z1 C0 C1) J0 J1 C0 C1)(F0:ah C0 13 (D 42))(F1:ah C1 13 (D 43))(bC0:-8796093022208≤C0∧C0≤8796093022208)(bC1:-8796093022208≤C1∧C1≤8796093022208):Go p e below (bw s (aV n0) 192 1792) T0 (mkF m 755 (dL A D W (gC (sI 2) (sI 1) (sI 1) (List.replicate 9 sU))) [.ref (A 0)]):=by
 obtain⟨q0,q1,q2,q3⟩:=Q
 obtain⟨g0,g1,bJ0,bJ1,bi0,bi1⟩:=J
 obtain⟨z0,z1,E1,E2⟩:=HR
 obtain⟨u1_,s1_⟩:=(E2:Et true (iW (D 41)).toInt (iW (D 40)).toInt z0 z1 C0 C1)
 have u1:(iW (D 41)).toInt*C1=8*z1:=u1_
 have s1:C0=8*z0-(iW (D 40)).toInt*C1:=s1_
 have bq1:=cv H2.2 (x:=C1) (N:=8796093022208) (by omega)
 have br1:=cv H2.bk (x:=C1) (N:=8796093022208) (by omega)
 have V1:=gB (A':=8*z1) (B':=8*z0) (Jvm.FP.Core.i2d_int (iW (D 41))) (Jvm.FP.Core.i2d_int (iW (D 40))) H2.bk H2.2 F1 F0 (by omega) (by omega) (by decide) (by omega) (by omega)
 obtain⟨u0_,s0_⟩:=(E1:Et true (iW (D 36)).toInt (iW (D 35)).toInt J0 J1 z0 z1)
 have u0:(iW (D 36)).toInt*z1=8*J1:=u0_
 have s0:z0=8*J0-(iW (D 35)).toInt*z1:=s0_
 have V0:=gB (A':=64*J1) (B':=64*J0) (Jvm.FP.Core.i2d_int (iW (D 36))) (Jvm.FP.Core.i2d_int (iW (D 35))) H1.bk H1.2 V1.2.2.2.1 V1.2.2.2.2 (by omega) (by omega) (by decide) (by rw[Int.mul_left_comm];omega) (by rw[Int.mul_left_comm];omega)
 have W0:=eO (R:=8192*(iW (D 30)).toInt) (Jvm.FP.Core.i2d_int (iW (D 26))) (Jvm.FP.Core.i2d_int (iW (D 28))) q0 q2 V0.2.2.2.2 V0.2.2.2.1 (by omega) (by omega) (by decide) (by rw[Int.mul_left_comm,Int.mul_left_comm ((iW (D 28)).toInt)];omega)
 have X0:(cmpValue (FP.dcmp (FP.dadd (FP.dmul (FP.i2d (iW (D 26))) (FP.dadd (FP.dadd (D 42) (FP.dmul (FP.i2d (iW (D 40))) (D 43))) (FP.dmul (FP.i2d (iW (D 35))) (FP.dmul (FP.i2d (iW (D 41))) (D 43))))) (FP.dmul (FP.i2d (iW (D 28))) (FP.dmul (FP.i2d (iW (D 36))) (FP.dmul (FP.i2d (iW (D 41))) (D 43))))) (FP.i2d (iW (D 30)))) .l).toInt=0:=cG W0.2.2.2 (aH 13 8192 (am.mpr (Jvm.FP.Core.i2d_int (iW (D 30)))) rfl (by omega))
 have W1:=eO (R:=8192*(iW (D 31)).toInt) (Jvm.FP.Core.i2d_int (iW (D 27))) (Jvm.FP.Core.i2d_int (iW (D 29))) q1 q3 V0.2.2.2.2 V0.2.2.2.1 (by omega) (by omega) (by decide) (by rw[Int.mul_left_comm,Int.mul_left_comm ((iW (D 29)).toInt)];omega)
 have X1:(cmpValue (FP.dcmp (FP.dadd (FP.dmul (FP.i2d (iW (D 27))) (FP.dadd (FP.dadd (D 42) (FP.dmul (FP.i2d (iW (D 40))) (D 43))) (FP.dmul (FP.i2d (iW (D 35))) (FP.dmul (FP.i2d (iW (D 41))) (D 43))))) (FP.dmul (FP.i2d (iW (D 29))) (FP.dmul (FP.i2d (iW (D 36))) (FP.dmul (FP.i2d (iW (D 41))) (D 43))))) (FP.i2d (iW (D 31)))) .l).toInt=0:=cG W1.2.2.2 (aH 13 8192 (am.mpr (Jvm.FP.Core.i2d_int (iW (D 31)))) rfl (by omega))
 refine goE (aY QP sc0 B Y D0 (by decide) ⟨trivial,V1.1,V1.2.1,trivial,V1.2.2.1,trivial,V0.1,V0.2.1,trivial,V0.2.2.1,trivial,W0.1,trivial,W0.2.1,W0.2.2.1,trivial,W1.1,trivial,W1.2.1,W1.2.2.1,trivial,X0,trivial,X1,trivial⟩ ?_) rfl
 intro T1 h1 L1 A1 K1 B1 hA1 Kp f1 Y1_
 obtain⟨X1,hx,hby,hml,hret,hlk,hown,hZ,hw,e1,n1,N1⟩:=B1
 exact goE (h_ X1 hx hlk hret (hb hby at_951) (by decide) (by decide) e1 ⟨rfl,N1⟩) rfl
def d9:List Value:=[aw,aK]
theorem Rf:ai (run code aq 53 (8,192,1792,192) 752 10 [] [] (682,bm (sI 0) (sF 32) (sF 37),[],ci,42,90,860)) (752,bm (sI 0) (sF 32) (sF 37),d9,[aL,(0,0,uS 0 8++rS 2 5++uS 8 15++[zq0]),gM,Pw,qO,jB,qN,(1,0,rS 8 3++[zq0]),jA,je,gM,wU,wT],42,90,860) []=true:=by decide +kernel
theorem QQ (B:LWB p l e s m args below meth c T0 Z a0 h0 n0 L0 90 860)(D0:D 0=0)(Q:QM D)(J:JM D J0 J1)(V:Jvm.FP.Core.DInt (iW (D 30)).toInt (D 1)∧Jvm.FP.Core.DInt (iW (D 31)).toInt (D 2))(HT:bl l Z n0 (iW (D 26)).toInt (iW (D 27)).toInt (iW (D 28)).toInt (iW (D 29)).toInt W lu)(Y:Yf Z n0 h0 (ap A K D W 0 ci++lu)):Go p e below (bw s (aV n0) 192 1792) T0 (mkF m 682 (dL A D W (bm (sI 0) (sF 32) (sF 37))) []):=by
 refine goE (aY Rf sc0 B (y13 Y) D0 (by decide) trivial ?_) rfl
 intro T1 h1 L1 A1 K1 B1 hA1 Kp f1 Y1
 have Y2:YgF Z n0 h1 A1 K1 (ac [D 0,D 1,D 2]) W (dE QJ++[(1,0,rS 8 3++[vI 0]),(65,2,[vD 0,vD 0]),(66,2,[vI 0,vI 0]),(64,16,rp 16 (vI 0)),(67,2,[vU 23,vU 24]),(68,2,[vU 25,vU 26])]):=YgF.congr Y1 rfl
 refine goE (d8 Y Y2 B1 hA1 Kp f1 rfl (fun rest n1 YS=>Rb (A:=A1) (K:=K1) (D:=(ac [D 0,D 1,D 2])) ⟨B1.2.2.2.2.2.2.2.2.1,HT,n1,D0,V.1,V.2,J⟩  YS) ?_) rfl
 intro T2 h2 L2 pr kp kv kf y0 y1 C0 C1 B2 YE HR F0 F1 bC0 bC1
 exact goE (QK (A:=cA pr A1) (K:=cK kp kv kf K1) (D:=ac (gD D++[y0,y1])) (W:=W) B2 (Yf.to YE rfl) D0 Q J  HR F0 F1 bC0 bC1) rfl
def gP:Sc:=(EV,[7,8,9,10],[0,43],[dT,ax,zq3]++rp 16 zq0)
def gQ:Sc:=(ET,[7,8,9,10],[0,42],[ax,ax]++rp 17 zq0)
def yU:AD:=(64,16,lz++rp 14 zq0)
def oQ:List Value:=[ax,ax,ax,ax,bO]
def GG:Sc:=(E5,[1,2,3,4,5,6,7,8,10],[0,42,43],uS 0 23++rp 16 zq0++rp 16 ax++rp 20 zq0++oQ++rp 14 zq0)
def QR:AD:=(1,0,rS 8 3++[ay])
def QS:AD:=(66,2,[zq3,zq3])
def oR:AD:=(64,256,[zq3,zq0,zq0,zq0])
def wY:AD:=(0,0,uS 0 8++rS 2 5++uS 8 15++[zq3])
def wZ:List AD:=[QR,aD [42,43],QS,yU,wU,wT]
theorem OM:ai (run code aq 53 (8,192,1792,192) 752 24 [gQ,gP,GG] [] (682,bm (sI 1) (sI 0) (sF 37),[],ci,42,90,860)) (752,bm (sI 1) (sI 0) (sF 37),d9,[aL,wY,gM,(65,16,[dT]++rp 15 ax),(64,17,lz++rp 15 zq0),oR,(65,256,[dS,ax,ax,ax])]++wZ,44,90,860) [gr,gq,(12,43,0,1)]=true:=by decide +kernel
theorem Iz (B:LWB p l e s m args below meth c T0 Z a0 h0 n0 L0 90 860)(D0:D 0=0)(Q:QM D)(J:JM D J0 J1)(V:Jvm.FP.Core.DInt (iW (D 30)).toInt (D 1)∧Jvm.FP.Core.DInt (iW (D 31)).toInt (D 2))(H1:PI (iW (D 35)) (iW (D 36)))(z1:(cmpValue (FP.dcmp (FP.i2d (iW (D 36))) (D 0)) .l).toInt≠0)(HT:bl l Z n0 (iW (D 26)).toInt (iW (D 27)).toInt (iW (D 28)).toInt (iW (D 29)).toInt W lu)(Y:Yf Z n0 h0 (ap A K D W 0 ci++lu)):Go p e below (bw s (aV n0) 192 1792) T0 (mkF m 682 (dL A D W (bm (sI 1) (sI 0) (sF 37))) []):=by
 refine goE (aY OM (scS cS (scS cT (scS nd sc0))) B (y13 Y) D0 (by decide) ⟨trivial,trivial,z1,trivial⟩ ?_) rfl
 intro T1 h1 L1 A1 K1 B1 hA1 Kp f1 Y1
 have Y2:YgF Z n0 h1 A1 K1 (ac [D 0,D 1,D 2,FP.i2d (iW (D 35)),FP.i2d (iW (D 36))]) W (dE ug++[(1,0,rS 8 3++[vI 2]),(65,2,[vD 3,vD 4]),(66,2,[vI 1,vI 1]),(64,16,[vI 0,vI 1]++rp 14 (vI 0)),(67,2,[vU 23,vU 24]),(68,2,[vU 25,vU 26])]):=YgF.congr Y1 rfl
 refine goE (d8 Y Y2 B1 hA1 Kp f1 rfl (fun rest n1 YS=>OI (A:=A1) (K:=K1) (D:=(ac [D 0,D 1,D 2,FP.i2d (iW (D 35)),FP.i2d (iW (D 36))])) ⟨B1.2.2.2.2.2.2.2.2.1,HT,n1,D0,V.1,V.2,J⟩ H1.pb YS) ?_) rfl
 intro T2 h2 L2 pr kp kv kf y0 y1 C0 C1 B2 YE HR F0 F1 bC0 bC1
 exact goE (MX (A:=cA pr A1) (K:=cK kp kv kf K1) (D:=ac (gD D++[y0,y1])) (W:=W) B2 (Yf.to YE rfl) D0 Q J H1 HR F0 F1 bC0 bC1) rfl
def i9:List Value:=[vR 5,dA]
def GH:Sc:=(E8,[1,2,3,4,7,8,10],[0,42,43],uS 0 8++i9++uS 8 15++rp 16 zq0++rp 16 ax++rp 16 zq0++[bO]++rp 14 zq0)
theorem ON:ai (run code aq 53 (8,192,1792,192) 752 24 [gQ,gP,GH] [] (682,bm (sI 1) (sI 0) (sF 37),[],ci,42,90,860)) (752,bm (sI 1) (sI 0) (sF 37),d9,[aL,wY,gM,(65,16,[dT]++rp 15 ax),qO,jB,qN]++wZ,44,90,860) [gr,gq,(12,43,0,0)]=true:=by decide +kernel
theorem IA (B:LWB p l e s m args below meth c T0 Z a0 h0 n0 L0 90 860)(D0:D 0=0)(Q:QM D)(J:JM D J0 J1)(V:Jvm.FP.Core.DInt (iW (D 30)).toInt (D 1)∧Jvm.FP.Core.DInt (iW (D 31)).toInt (D 2))(H1:PI (iW (D 35)) (iW (D 36)))(z1:(cmpValue (FP.dcmp (FP.i2d (iW (D 36))) (D 0)) .l).toInt=0)(HT:bl l Z n0 (iW (D 26)).toInt (iW (D 27)).toInt (iW (D 28)).toInt (iW (D 29)).toInt W lu)(Y:Yf Z n0 h0 (ap A K D W 0 ci++lu)):Go p e below (bw s (aV n0) 192 1792) T0 (mkF m 682 (dL A D W (bm (sI 1) (sI 0) (sF 37))) []):=by
 have hz1:(iW (D 36)).toInt=0:=by
  rcases au (am.mpr H1.pb.2.2.2) D0 with ⟨q,-⟩|⟨-,q⟩
  ·exact q
  ·exact absurd z1 q
 refine goE (aY ON (scS cS (scS cT (scS ng sc0))) B (y13 Y) D0 (by decide) ⟨trivial,trivial,z1,trivial⟩ ?_) rfl
 intro T1 h1 L1 A1 K1 B1 hA1 Kp f1 Y1
 have Y2:YgF Z n0 h1 A1 K1 (ac [D 0,D 1,D 2,FP.i2d (iW (D 35)),FP.i2d (iW (D 36))]) W (dE uh++[(1,0,rS 8 3++[vI 2]),(65,2,[vD 3,vD 4]),(66,2,[vI 1,vI 1]),(64,16,[vI 0,vI 1]++rp 14 (vI 0)),(67,2,[vU 23,vU 24]),(68,2,[vU 25,vU 26])]):=YgF.congr Y1 rfl
 refine goE (d8 Y Y2 B1 hA1 Kp f1 rfl (fun rest n1 YS=>OJ (A:=A1) (K:=K1) (D:=(ac [D 0,D 1,D 2,FP.i2d (iW (D 35)),FP.i2d (iW (D 36))])) ⟨B1.2.2.2.2.2.2.2.2.1,HT,n1,D0,V.1,V.2,J⟩ H1.pb hz1 YS) ?_) rfl
 intro T2 h2 L2 pr kp kv kf y0 y1 C0 C1 B2 YE HR F0 F1 bC0 bC1
 exact goE (MX (A:=cA pr A1) (K:=cK kp kv kf K1) (D:=ac (gD D++[y0,y1])) (W:=W) B2 (Yf.to YE rfl) D0 Q J H1 HR F0 F1 bC0 bC1) rfl
def GI:Sc:=(E_,[1,2,3,4,5,6,7,8,10],[0,42,43],uS 0 23++rp 16 zq0++rp 16 ax++rp 20 zq0++oQ++rp 14 zq0)
def oS:AD:=(64,16,[zq3]++rp 15 zq0)
theorem OO:ai (run code aq 53 (8,192,1792,192) 752 24 [gQ,gP,GI] [] (682,bm (sI 1) (sI 1) (sF 37),[],ci,42,90,860)) (752,bm (sI 1) (sI 1) (sF 37),d9,[aL,wY,oS,(65,16,[dS]++rp 15 ax),(64,17,lz++rp 15 zq0),jB,(65,256,[dT,ax,ax,ax])]++wZ,44,90,860) [gr,gq,(12,42,0,1)]=true:=by decide +kernel
theorem IB (B:LWB p l e s m args below meth c T0 Z a0 h0 n0 L0 90 860)(D0:D 0=0)(Q:QM D)(J:JM D J0 J1)(V:Jvm.FP.Core.DInt (iW (D 30)).toInt (D 1)∧Jvm.FP.Core.DInt (iW (D 31)).toInt (D 2))(H1:PI (iW (D 36)) (iW (D 35)))(z1:(cmpValue (FP.dcmp (FP.i2d (iW (D 35))) (D 0)) .l).toInt≠0)(HT:bl l Z n0 (iW (D 26)).toInt (iW (D 27)).toInt (iW (D 28)).toInt (iW (D 29)).toInt W lu)(Y:Yf Z n0 h0 (ap A K D W 0 ci++lu)):Go p e below (bw s (aV n0) 192 1792) T0 (mkF m 682 (dL A D W (bm (sI 1) (sI 1) (sF 37))) []):=by
 refine goE (aY OO (scS cS (scS cT (scS nh sc0))) B (y13 Y) D0 (by decide) ⟨trivial,trivial,z1,trivial⟩ ?_) rfl
 intro T1 h1 L1 A1 K1 B1 hA1 Kp f1 Y1
 have Y2:YgF Z n0 h1 A1 K1 (ac [D 0,D 1,D 2,FP.i2d (iW (D 36)),FP.i2d (iW (D 35))]) W (dE ui++[(1,0,rS 8 3++[vI 2]),(65,2,[vD 4,vD 3]),(66,2,[vI 1,vI 1]),(64,16,[vI 0,vI 1]++rp 14 (vI 0)),(67,2,[vU 23,vU 24]),(68,2,[vU 25,vU 26])]):=YgF.congr Y1 rfl
 refine goE (d8 Y Y2 B1 hA1 Kp f1 rfl (fun rest n1 YS=>OK (A:=A1) (K:=K1) (D:=(ac [D 0,D 1,D 2,FP.i2d (iW (D 36)),FP.i2d (iW (D 35))])) ⟨B1.2.2.2.2.2.2.2.2.1,HT,n1,D0,V.1,V.2,J⟩ H1.pb YS) ?_) rfl
 intro T2 h2 L2 pr kp kv kf y0 y1 C0 C1 B2 YE HR F0 F1 bC0 bC1
 exact goE (MY (A:=cA pr A1) (K:=cK kp kv kf K1) (D:=ac (gD D++[y0,y1])) (W:=W) B2 (Yf.to YE rfl) D0 Q J H1 HR F0 F1 bC0 bC1) rfl
def GJ:Sc:=(Fb,[1,2,3,4,7,8,10],[0,42,43],uS 0 8++i9++uS 8 15++rp 16 zq0++rp 16 ax++rp 16 zq0++[bO]++rp 14 zq0)
theorem OP:ai (run code aq 53 (8,192,1792,192) 752 24 [gQ,gP,GJ] [] (682,bm (sI 1) (sI 1) (sF 37),[],ci,42,90,860)) (752,bm (sI 1) (sI 1) (sF 37),d9,[aL,wY,oS,(65,16,[dS]++rp 15 ax),qO,jB,qN]++wZ,44,90,860) [gr,gq,(12,42,0,0)]=true:=by decide +kernel
theorem IC (B:LWB p l e s m args below meth c T0 Z a0 h0 n0 L0 90 860)(D0:D 0=0)(Q:QM D)(J:JM D J0 J1)(V:Jvm.FP.Core.DInt (iW (D 30)).toInt (D 1)∧Jvm.FP.Core.DInt (iW (D 31)).toInt (D 2))(H1:PI (iW (D 36)) (iW (D 35)))(z1:(cmpValue (FP.dcmp (FP.i2d (iW (D 35))) (D 0)) .l).toInt=0)(HT:bl l Z n0 (iW (D 26)).toInt (iW (D 27)).toInt (iW (D 28)).toInt (iW (D 29)).toInt W lu)(Y:Yf Z n0 h0 (ap A K D W 0 ci++lu)):Go p e below (bw s (aV n0) 192 1792) T0 (mkF m 682 (dL A D W (bm (sI 1) (sI 1) (sF 37))) []):=by
 have hz1:(iW (D 35)).toInt=0:=by
  rcases au (am.mpr H1.pb.2.2.2) D0 with ⟨q,-⟩|⟨-,q⟩
  ·exact q
  ·exact absurd z1 q
 refine goE (aY OP (scS cS (scS cT (scS ni sc0))) B (y13 Y) D0 (by decide) ⟨trivial,trivial,z1,trivial⟩ ?_) rfl
 intro T1 h1 L1 A1 K1 B1 hA1 Kp f1 Y1
 have Y2:YgF Z n0 h1 A1 K1 (ac [D 0,D 1,D 2,FP.i2d (iW (D 36)),FP.i2d (iW (D 35))]) W (dE uj++[(1,0,rS 8 3++[vI 2]),(65,2,[vD 4,vD 3]),(66,2,[vI 1,vI 1]),(64,16,[vI 0,vI 1]++rp 14 (vI 0)),(67,2,[vU 23,vU 24]),(68,2,[vU 25,vU 26])]):=YgF.congr Y1 rfl
 refine goE (d8 Y Y2 B1 hA1 Kp f1 rfl (fun rest n1 YS=>OL (A:=A1) (K:=K1) (D:=(ac [D 0,D 1,D 2,FP.i2d (iW (D 36)),FP.i2d (iW (D 35))])) ⟨B1.2.2.2.2.2.2.2.2.1,HT,n1,D0,V.1,V.2,J⟩ H1.pb hz1 YS) ?_) rfl
 intro T2 h2 L2 pr kp kv kf y0 y1 C0 C1 B2 YE HR F0 F1 bC0 bC1
 exact goE (MY (A:=cA pr A1) (K:=cK kp kv kf K1) (D:=ac (gD D++[y0,y1])) (W:=W) B2 (Yf.to YE rfl) D0 Q J H1 HR F0 F1 bC0 bC1) rfl
def iM:Sc:=(Fg,[7,8,9],[0,45],[dr,ay,vD 44,dS,zq3])
def iN:Sc:=(Fe,[7,8,9],[0,44],[dr,ay,dT,dS,zq3])
def iO:AD:=(0,0,uS 0 8++rS 2 5++uS 8 15++[ay])
def w8:AD:=aD [44,45]
def w9:AD:=(65,16,[dT,vD 44]++rp 14 ax)
def w_:AD:=(64,17,[zq0,zq3,ay]++rp 14 zq0)
def fR:List AD:=[QR,w8,QS,yU,wU,wT]
def xa:List Op:=[gr,gq,(12,43,0,1),lM,lL]
theorem GK:ai (run code aq 53 (8,192,1792,192) 752 38 [gQ,gP,GG,iN,iM,(tR,[1,2,3,4,5,6,7,8,10],[0,44,45],uS 0 23++rp 16 zq0++[dT]++rp 15 ax++rp 16 zq0++[zq3,zq0,zq0,zq0,dS,ax,ax,ax,bO]++rp 14 zq0)] [] (682,bm (sI 2) (sI 0) (sI 0),[],ci,42,90,860)) (752,bm (sI 2) (sI 0) (sI 0),d9,[aL,iO,gM,w9,w_,(64,256,[zq3,zq3,zq0,zq0]),(65,256,[dS,vD 45,ax,ax])]++fR,46,90,860) (xa++[(12,45,0,1)])=true:=by decide +kernel
theorem yV (B:LWB p l e s m args below meth c T0 Z a0 h0 n0 L0 90 860)(D0:D 0=0)(Q:QM D)(J:JM D J0 J1)(V:Jvm.FP.Core.DInt (iW (D 30)).toInt (D 1)∧Jvm.FP.Core.DInt (iW (D 31)).toInt (D 2))(H1:PI (iW (D 35)) (iW (D 36)))(z1:(cmpValue (FP.dcmp (FP.i2d (iW (D 36))) (D 0)) .l).toInt≠0)(H2:PI (iW (D 40)) (iW (D 41)))(z2:(cmpValue (FP.dcmp (FP.i2d (iW (D 41))) (D 0)) .l).toInt≠0)(HT:bl l Z n0 (iW (D 26)).toInt (iW (D 27)).toInt (iW (D 28)).toInt (iW (D 29)).toInt W lu)(Y:Yf Z n0 h0 (ap A K D W 0 ci++lu)):Go p e below (bw s (aV n0) 192 1792) T0 (mkF m 682 (dL A D W (bm (sI 2) (sI 0) (sI 0))) []):=by
 refine goE (aY GK (scS cS (scS cT (scS nd (scS dV (scS dW (scS Fh sc0)))))) B (y13 Y) D0 (by decide) ⟨trivial,trivial,z1,trivial,trivial,z2,trivial⟩ ?_) rfl
 intro T1 h1 L1 A1 K1 B1 hA1 Kp f1 Y1
 have Y2:YgF Z n0 h1 A1 K1 (ac [D 0,D 1,D 2,FP.i2d (iW (D 35)),FP.i2d (iW (D 36)),FP.i2d (iW (D 40)),FP.i2d (iW (D 41))]) W (dE jS++[(1,0,rS 8 3++[vI 2]),(65,2,[vD 5,vD 6]),(66,2,[vI 1,vI 1]),(64,16,[vI 0,vI 1]++rp 14 (vI 0)),(67,2,[vU 23,vU 24]),(68,2,[vU 25,vU 26])]):=YgF.congr Y1 rfl
 refine goE (d8 Y Y2 B1 hA1 Kp f1 rfl (fun rest n1 YS=>Gq (A:=A1) (K:=K1) (D:=(ac [D 0,D 1,D 2,FP.i2d (iW (D 35)),FP.i2d (iW (D 36)),FP.i2d (iW (D 40)),FP.i2d (iW (D 41))])) ⟨B1.2.2.2.2.2.2.2.2.1,HT,n1,D0,V.1,V.2,J⟩ H1.pb H2.pb YS) ?_) rfl
 intro T2 h2 L2 pr kp kv kf y0 y1 C0 C1 B2 YE HR F0 F1 bC0 bC1
 exact goE (pZ (A:=cA pr A1) (K:=cK kp kv kf K1) (D:=ac (gD D++[y0,y1])) (W:=W) B2 (Yf.to YE rfl) D0 Q J H1 H2 HR F0 F1 bC0 bC1) rfl
def xb:AD:=(64,17,[zq0,zq3,zq3]++rp 14 zq0)
theorem GL:ai (run code aq 53 (8,192,1792,192) 752 38 [gQ,gP,GG,iN,iM,(tS,[1,2,3,4,7,8,10],[0,44,45],uS 0 8++i9++uS 8 15++rp 16 zq0++[dT]++rp 15 ax++rp 16 zq0++[bO]++rp 14 zq0)] [] (682,bm (sI 2) (sI 0) (sI 0),[],ci,42,90,860)) (752,bm (sI 2) (sI 0) (sI 0),d9,[aL,iO,gM,w9,xb,oR,(65,256,[dS,ax,ax,ax])]++fR,46,90,860) (xa++[(12,45,0,0)])=true:=by decide +kernel
theorem yW (B:LWB p l e s m args below meth c T0 Z a0 h0 n0 L0 90 860)(D0:D 0=0)(Q:QM D)(J:JM D J0 J1)(V:Jvm.FP.Core.DInt (iW (D 30)).toInt (D 1)∧Jvm.FP.Core.DInt (iW (D 31)).toInt (D 2))(H1:PI (iW (D 35)) (iW (D 36)))(z1:(cmpValue (FP.dcmp (FP.i2d (iW (D 36))) (D 0)) .l).toInt≠0)(H2:PI (iW (D 40)) (iW (D 41)))(z2:(cmpValue (FP.dcmp (FP.i2d (iW (D 41))) (D 0)) .l).toInt=0)(HT:bl l Z n0 (iW (D 26)).toInt (iW (D 27)).toInt (iW (D 28)).toInt (iW (D 29)).toInt W lu)(Y:Yf Z n0 h0 (ap A K D W 0 ci++lu)):Go p e below (bw s (aV n0) 192 1792) T0 (mkF m 682 (dL A D W (bm (sI 2) (sI 0) (sI 0))) []):=by
 have hz2:(iW (D 41)).toInt=0:=by
  rcases au (am.mpr H2.pb.2.2.2) D0 with ⟨q,-⟩|⟨-,q⟩
  ·exact q
  ·exact absurd z2 q
 refine goE (aY GL (scS cS (scS cT (scS nd (scS dV (scS dW (scS Fi sc0)))))) B (y13 Y) D0 (by decide) ⟨trivial,trivial,z1,trivial,trivial,z2,trivial⟩ ?_) rfl
 intro T1 h1 L1 A1 K1 B1 hA1 Kp f1 Y1
 have Y2:YgF Z n0 h1 A1 K1 (ac [D 0,D 1,D 2,FP.i2d (iW (D 35)),FP.i2d (iW (D 36)),FP.i2d (iW (D 40)),FP.i2d (iW (D 41))]) W (dE jT++[(1,0,rS 8 3++[vI 2]),(65,2,[vD 5,vD 6]),(66,2,[vI 1,vI 1]),(64,16,[vI 0,vI 1]++rp 14 (vI 0)),(67,2,[vU 23,vU 24]),(68,2,[vU 25,vU 26])]):=YgF.congr Y1 rfl
 refine goE (d8 Y Y2 B1 hA1 Kp f1 rfl (fun rest n1 YS=>Gr (A:=A1) (K:=K1) (D:=(ac [D 0,D 1,D 2,FP.i2d (iW (D 35)),FP.i2d (iW (D 36)),FP.i2d (iW (D 40)),FP.i2d (iW (D 41))])) ⟨B1.2.2.2.2.2.2.2.2.1,HT,n1,D0,V.1,V.2,J⟩ H1.pb H2.pb hz2 YS) ?_) rfl
 intro T2 h2 L2 pr kp kv kf y0 y1 C0 C1 B2 YE HR F0 F1 bC0 bC1
 exact goE (pZ (A:=cA pr A1) (K:=cK kp kv kf K1) (D:=ac (gD D++[y0,y1])) (W:=W) B2 (Yf.to YE rfl) D0 Q J H1 H2 HR F0 F1 bC0 bC1) rfl
def xc:AD:=(65,16,[dT,vD 45]++rp 14 ax)
theorem GM:ai (run code aq 53 (8,192,1792,192) 752 38 [gQ,gP,GG,iN,iM,(tT,[1,2,3,4,5,6,7,8,10],[0,44,45],uS 0 23++rp 16 zq0++[dT]++rp 15 ax++rp 16 zq0++[zq3,zq0,zq0,zq0,dS,ax,ax,ax,bO]++rp 14 zq0)] [] (682,bm (sI 2) (sI 0) (sI 1),[],ci,42,90,860)) (752,bm (sI 2) (sI 0) (sI 1),d9,[aL,iO,yU,xc,w_,oR,(65,256,[dS,vD 44,ax,ax])]++fR,46,90,860) (xa++[(12,44,0,1)])=true:=by decide +kernel
theorem yX (B:LWB p l e s m args below meth c T0 Z a0 h0 n0 L0 90 860)(D0:D 0=0)(Q:QM D)(J:JM D J0 J1)(V:Jvm.FP.Core.DInt (iW (D 30)).toInt (D 1)∧Jvm.FP.Core.DInt (iW (D 31)).toInt (D 2))(H1:PI (iW (D 35)) (iW (D 36)))(z1:(cmpValue (FP.dcmp (FP.i2d (iW (D 36))) (D 0)) .l).toInt≠0)(H2:PI (iW (D 41)) (iW (D 40)))(z2:(cmpValue (FP.dcmp (FP.i2d (iW (D 40))) (D 0)) .l).toInt≠0)(HT:bl l Z n0 (iW (D 26)).toInt (iW (D 27)).toInt (iW (D 28)).toInt (iW (D 29)).toInt W lu)(Y:Yf Z n0 h0 (ap A K D W 0 ci++lu)):Go p e below (bw s (aV n0) 192 1792) T0 (mkF m 682 (dL A D W (bm (sI 2) (sI 0) (sI 1))) []):=by
 refine goE (aY GM (scS cS (scS cT (scS nd (scS dV (scS dW (scS Fj sc0)))))) B (y13 Y) D0 (by decide) ⟨trivial,trivial,z1,trivial,trivial,z2,trivial⟩ ?_) rfl
 intro T1 h1 L1 A1 K1 B1 hA1 Kp f1 Y1
 have Y2:YgF Z n0 h1 A1 K1 (ac [D 0,D 1,D 2,FP.i2d (iW (D 35)),FP.i2d (iW (D 36)),FP.i2d (iW (D 41)),FP.i2d (iW (D 40))]) W (dE jU++[(1,0,rS 8 3++[vI 2]),(65,2,[vD 6,vD 5]),(66,2,[vI 1,vI 1]),(64,16,[vI 0,vI 1]++rp 14 (vI 0)),(67,2,[vU 23,vU 24]),(68,2,[vU 25,vU 26])]):=YgF.congr Y1 rfl
 refine goE (d8 Y Y2 B1 hA1 Kp f1 rfl (fun rest n1 YS=>Gs (A:=A1) (K:=K1) (D:=(ac [D 0,D 1,D 2,FP.i2d (iW (D 35)),FP.i2d (iW (D 36)),FP.i2d (iW (D 41)),FP.i2d (iW (D 40))])) ⟨B1.2.2.2.2.2.2.2.2.1,HT,n1,D0,V.1,V.2,J⟩ H1.pb H2.pb YS) ?_) rfl
 intro T2 h2 L2 pr kp kv kf y0 y1 C0 C1 B2 YE HR F0 F1 bC0 bC1
 exact goE (p6 (A:=cA pr A1) (K:=cK kp kv kf K1) (D:=ac (gD D++[y0,y1])) (W:=W) B2 (Yf.to YE rfl) D0 Q J H1 H2 HR F0 F1 bC0 bC1) rfl
theorem GN:ai (run code aq 53 (8,192,1792,192) 752 38 [gQ,gP,GG,iN,iM,(tU,[1,2,3,4,7,8,10],[0,44,45],uS 0 8++i9++uS 8 15++rp 16 zq0++[dT]++rp 15 ax++rp 16 zq0++[bO]++rp 14 zq0)] [] (682,bm (sI 2) (sI 0) (sI 1),[],ci,42,90,860)) (752,bm (sI 2) (sI 0) (sI 1),d9,[aL,iO,yU,xc,xb,oR,(65,256,[dS,ax,ax,ax])]++fR,46,90,860) (xa++[(12,44,0,0)])=true:=by decide +kernel
theorem yY (B:LWB p l e s m args below meth c T0 Z a0 h0 n0 L0 90 860)(D0:D 0=0)(Q:QM D)(J:JM D J0 J1)(V:Jvm.FP.Core.DInt (iW (D 30)).toInt (D 1)∧Jvm.FP.Core.DInt (iW (D 31)).toInt (D 2))(H1:PI (iW (D 35)) (iW (D 36)))(z1:(cmpValue (FP.dcmp (FP.i2d (iW (D 36))) (D 0)) .l).toInt≠0)(H2:PI (iW (D 41)) (iW (D 40)))(z2:(cmpValue (FP.dcmp (FP.i2d (iW (D 40))) (D 0)) .l).toInt=0)(HT:bl l Z n0 (iW (D 26)).toInt (iW (D 27)).toInt (iW (D 28)).toInt (iW (D 29)).toInt W lu)(Y:Yf Z n0 h0 (ap A K D W 0 ci++lu)):Go p e below (bw s (aV n0) 192 1792) T0 (mkF m 682 (dL A D W (bm (sI 2) (sI 0) (sI 1))) []):=by
 have hz2:(iW (D 40)).toInt=0:=by
  rcases au (am.mpr H2.pb.2.2.2) D0 with ⟨q,-⟩|⟨-,q⟩
  ·exact q
  ·exact absurd z2 q
 refine goE (aY GN (scS cS (scS cT (scS nd (scS dV (scS dW (scS Fk sc0)))))) B (y13 Y) D0 (by decide) ⟨trivial,trivial,z1,trivial,trivial,z2,trivial⟩ ?_) rfl
 intro T1 h1 L1 A1 K1 B1 hA1 Kp f1 Y1
 have Y2:YgF Z n0 h1 A1 K1 (ac [D 0,D 1,D 2,FP.i2d (iW (D 35)),FP.i2d (iW (D 36)),FP.i2d (iW (D 41)),FP.i2d (iW (D 40))]) W (dE jV++[(1,0,rS 8 3++[vI 2]),(65,2,[vD 6,vD 5]),(66,2,[vI 1,vI 1]),(64,16,[vI 0,vI 1]++rp 14 (vI 0)),(67,2,[vU 23,vU 24]),(68,2,[vU 25,vU 26])]):=YgF.congr Y1 rfl
 refine goE (d8 Y Y2 B1 hA1 Kp f1 rfl (fun rest n1 YS=>Gt (A:=A1) (K:=K1) (D:=(ac [D 0,D 1,D 2,FP.i2d (iW (D 35)),FP.i2d (iW (D 36)),FP.i2d (iW (D 41)),FP.i2d (iW (D 40))])) ⟨B1.2.2.2.2.2.2.2.2.1,HT,n1,D0,V.1,V.2,J⟩ H1.pb H2.pb hz2 YS) ?_) rfl
 intro T2 h2 L2 pr kp kv kf y0 y1 C0 C1 B2 YE HR F0 F1 bC0 bC1
 exact goE (p6 (A:=cA pr A1) (K:=cK kp kv kf K1) (D:=ac (gD D++[y0,y1])) (W:=W) B2 (Yf.to YE rfl) D0 Q J H1 H2 HR F0 F1 bC0 bC1) rfl
def xd:AD:=(64,17,[zq0,zq0,zq3]++rp 14 zq0)
def xe:List Op:=[gr,gq,(12,43,0,0),lM,lL]
theorem GO:ai (run code aq 53 (8,192,1792,192) 752 38 [gQ,gP,GH,iN,iM,(tV,[1,2,3,4,5,6,7,8,10],[0,44,45],uS 0 23++rp 16 zq0++[dT]++rp 15 ax++rp 20 zq0++oQ++rp 14 zq0)] [] (682,bm (sI 2) (sI 0) (sI 0),[],ci,42,90,860)) (752,bm (sI 2) (sI 0) (sI 0),d9,[aL,iO,gM,w9,xd,oR,(65,256,[vD 45,ax,ax,ax])]++fR,46,90,860) (xe++[(12,45,0,1)])=true:=by decide +kernel
theorem yZ (B:LWB p l e s m args below meth c T0 Z a0 h0 n0 L0 90 860)(D0:D 0=0)(Q:QM D)(J:JM D J0 J1)(V:Jvm.FP.Core.DInt (iW (D 30)).toInt (D 1)∧Jvm.FP.Core.DInt (iW (D 31)).toInt (D 2))(H1:PI (iW (D 35)) (iW (D 36)))(z1:(cmpValue (FP.dcmp (FP.i2d (iW (D 36))) (D 0)) .l).toInt=0)(H2:PI (iW (D 40)) (iW (D 41)))(z2:(cmpValue (FP.dcmp (FP.i2d (iW (D 41))) (D 0)) .l).toInt≠0)(HT:bl l Z n0 (iW (D 26)).toInt (iW (D 27)).toInt (iW (D 28)).toInt (iW (D 29)).toInt W lu)(Y:Yf Z n0 h0 (ap A K D W 0 ci++lu)):Go p e below (bw s (aV n0) 192 1792) T0 (mkF m 682 (dL A D W (bm (sI 2) (sI 0) (sI 0))) []):=by
 have hz1:(iW (D 36)).toInt=0:=by
  rcases au (am.mpr H1.pb.2.2.2) D0 with ⟨q,-⟩|⟨-,q⟩
  ·exact q
  ·exact absurd z1 q
 refine goE (aY GO (scS cS (scS cT (scS ng (scS dV (scS dW (scS Fm sc0)))))) B (y13 Y) D0 (by decide) ⟨trivial,trivial,z1,trivial,trivial,z2,trivial⟩ ?_) rfl
 intro T1 h1 L1 A1 K1 B1 hA1 Kp f1 Y1
 have Y2:YgF Z n0 h1 A1 K1 (ac [D 0,D 1,D 2,FP.i2d (iW (D 35)),FP.i2d (iW (D 36)),FP.i2d (iW (D 40)),FP.i2d (iW (D 41))]) W (dE jW++[(1,0,rS 8 3++[vI 2]),(65,2,[vD 5,vD 6]),(66,2,[vI 1,vI 1]),(64,16,[vI 0,vI 1]++rp 14 (vI 0)),(67,2,[vU 23,vU 24]),(68,2,[vU 25,vU 26])]):=YgF.congr Y1 rfl
 refine goE (d8 Y Y2 B1 hA1 Kp f1 rfl (fun rest n1 YS=>Gu (A:=A1) (K:=K1) (D:=(ac [D 0,D 1,D 2,FP.i2d (iW (D 35)),FP.i2d (iW (D 36)),FP.i2d (iW (D 40)),FP.i2d (iW (D 41))])) ⟨B1.2.2.2.2.2.2.2.2.1,HT,n1,D0,V.1,V.2,J⟩ H1.pb hz1 H2.pb YS) ?_) rfl
 intro T2 h2 L2 pr kp kv kf y0 y1 C0 C1 B2 YE HR F0 F1 bC0 bC1
 exact goE (pZ (A:=cA pr A1) (K:=cK kp kv kf K1) (D:=ac (gD D++[y0,y1])) (W:=W) B2 (Yf.to YE rfl) D0 Q J H1 H2 HR F0 F1 bC0 bC1) rfl
theorem GP:ai (run code aq 53 (8,192,1792,192) 752 38 [gQ,gP,GH,iN,iM,(tW,[1,2,3,4,7,8,10],[0,44,45],uS 0 8++i9++uS 8 15++rp 16 zq0++[dT]++rp 15 ax++rp 16 zq0++[bO]++rp 14 zq0)] [] (682,bm (sI 2) (sI 0) (sI 0),[],ci,42,90,860)) (752,bm (sI 2) (sI 0) (sI 0),d9,[aL,iO,gM,w9,qO,jB,qN]++fR,46,90,860) (xe++[(12,45,0,0)])=true:=by decide +kernel
theorem y2 (B:LWB p l e s m args below meth c T0 Z a0 h0 n0 L0 90 860)(D0:D 0=0)(Q:QM D)(J:JM D J0 J1)(V:Jvm.FP.Core.DInt (iW (D 30)).toInt (D 1)∧Jvm.FP.Core.DInt (iW (D 31)).toInt (D 2))(H1:PI (iW (D 35)) (iW (D 36)))(z1:(cmpValue (FP.dcmp (FP.i2d (iW (D 36))) (D 0)) .l).toInt=0)(H2:PI (iW (D 40)) (iW (D 41)))(z2:(cmpValue (FP.dcmp (FP.i2d (iW (D 41))) (D 0)) .l).toInt=0)(HT:bl l Z n0 (iW (D 26)).toInt (iW (D 27)).toInt (iW (D 28)).toInt (iW (D 29)).toInt W lu)(Y:Yf Z n0 h0 (ap A K D W 0 ci++lu)):Go p e below (bw s (aV n0) 192 1792) T0 (mkF m 682 (dL A D W (bm (sI 2) (sI 0) (sI 0))) []):=by
 have hz1:(iW (D 36)).toInt=0:=by
  rcases au (am.mpr H1.pb.2.2.2) D0 with ⟨q,-⟩|⟨-,q⟩
  ·exact q
  ·exact absurd z1 q
 have hz2:(iW (D 41)).toInt=0:=by
  rcases au (am.mpr H2.pb.2.2.2) D0 with ⟨q,-⟩|⟨-,q⟩
  ·exact q
  ·exact absurd z2 q
 refine goE (aY GP (scS cS (scS cT (scS ng (scS dV (scS dW (scS Fn sc0)))))) B (y13 Y) D0 (by decide) ⟨trivial,trivial,z1,trivial,trivial,z2,trivial⟩ ?_) rfl
 intro T1 h1 L1 A1 K1 B1 hA1 Kp f1 Y1
 have Y2:YgF Z n0 h1 A1 K1 (ac [D 0,D 1,D 2,FP.i2d (iW (D 35)),FP.i2d (iW (D 36)),FP.i2d (iW (D 40)),FP.i2d (iW (D 41))]) W (dE jX++[(1,0,rS 8 3++[vI 2]),(65,2,[vD 5,vD 6]),(66,2,[vI 1,vI 1]),(64,16,[vI 0,vI 1]++rp 14 (vI 0)),(67,2,[vU 23,vU 24]),(68,2,[vU 25,vU 26])]):=YgF.congr Y1 rfl
 refine goE (d8 Y Y2 B1 hA1 Kp f1 rfl (fun rest n1 YS=>Gv (A:=A1) (K:=K1) (D:=(ac [D 0,D 1,D 2,FP.i2d (iW (D 35)),FP.i2d (iW (D 36)),FP.i2d (iW (D 40)),FP.i2d (iW (D 41))])) ⟨B1.2.2.2.2.2.2.2.2.1,HT,n1,D0,V.1,V.2,J⟩ H1.pb hz1 H2.pb hz2 YS) ?_) rfl
 intro T2 h2 L2 pr kp kv kf y0 y1 C0 C1 B2 YE HR F0 F1 bC0 bC1
 exact goE (pZ (A:=cA pr A1) (K:=cK kp kv kf K1) (D:=ac (gD D++[y0,y1])) (W:=W) B2 (Yf.to YE rfl) D0 Q J H1 H2 HR F0 F1 bC0 bC1) rfl
theorem GQ:ai (run code aq 53 (8,192,1792,192) 752 38 [gQ,gP,GH,iN,iM,(tX,[1,2,3,4,5,6,7,8,10],[0,44,45],uS 0 23++rp 16 zq0++[dT]++rp 15 ax++rp 20 zq0++oQ++rp 14 zq0)] [] (682,bm (sI 2) (sI 0) (sI 1),[],ci,42,90,860)) (752,bm (sI 2) (sI 0) (sI 1),d9,[aL,iO,yU,xc,xd,jB,(65,256,[vD 44,ax,ax,ax])]++fR,46,90,860) (xe++[(12,44,0,1)])=true:=by decide +kernel
theorem y3 (B:LWB p l e s m args below meth c T0 Z a0 h0 n0 L0 90 860)(D0:D 0=0)(Q:QM D)(J:JM D J0 J1)(V:Jvm.FP.Core.DInt (iW (D 30)).toInt (D 1)∧Jvm.FP.Core.DInt (iW (D 31)).toInt (D 2))(H1:PI (iW (D 35)) (iW (D 36)))(z1:(cmpValue (FP.dcmp (FP.i2d (iW (D 36))) (D 0)) .l).toInt=0)(H2:PI (iW (D 41)) (iW (D 40)))(z2:(cmpValue (FP.dcmp (FP.i2d (iW (D 40))) (D 0)) .l).toInt≠0)(HT:bl l Z n0 (iW (D 26)).toInt (iW (D 27)).toInt (iW (D 28)).toInt (iW (D 29)).toInt W lu)(Y:Yf Z n0 h0 (ap A K D W 0 ci++lu)):Go p e below (bw s (aV n0) 192 1792) T0 (mkF m 682 (dL A D W (bm (sI 2) (sI 0) (sI 1))) []):=by
 have hz1:(iW (D 36)).toInt=0:=by
  rcases au (am.mpr H1.pb.2.2.2) D0 with ⟨q,-⟩|⟨-,q⟩
  ·exact q
  ·exact absurd z1 q
 refine goE (aY GQ (scS cS (scS cT (scS ng (scS dV (scS dW (scS Fo sc0)))))) B (y13 Y) D0 (by decide) ⟨trivial,trivial,z1,trivial,trivial,z2,trivial⟩ ?_) rfl
 intro T1 h1 L1 A1 K1 B1 hA1 Kp f1 Y1
 have Y2:YgF Z n0 h1 A1 K1 (ac [D 0,D 1,D 2,FP.i2d (iW (D 35)),FP.i2d (iW (D 36)),FP.i2d (iW (D 41)),FP.i2d (iW (D 40))]) W (dE jY++[(1,0,rS 8 3++[vI 2]),(65,2,[vD 6,vD 5]),(66,2,[vI 1,vI 1]),(64,16,[vI 0,vI 1]++rp 14 (vI 0)),(67,2,[vU 23,vU 24]),(68,2,[vU 25,vU 26])]):=YgF.congr Y1 rfl
 refine goE (d8 Y Y2 B1 hA1 Kp f1 rfl (fun rest n1 YS=>Gw (A:=A1) (K:=K1) (D:=(ac [D 0,D 1,D 2,FP.i2d (iW (D 35)),FP.i2d (iW (D 36)),FP.i2d (iW (D 41)),FP.i2d (iW (D 40))])) ⟨B1.2.2.2.2.2.2.2.2.1,HT,n1,D0,V.1,V.2,J⟩ H1.pb hz1 H2.pb YS) ?_) rfl
 intro T2 h2 L2 pr kp kv kf y0 y1 C0 C1 B2 YE HR F0 F1 bC0 bC1
 exact goE (p6 (A:=cA pr A1) (K:=cK kp kv kf K1) (D:=ac (gD D++[y0,y1])) (W:=W) B2 (Yf.to YE rfl) D0 Q J H1 H2 HR F0 F1 bC0 bC1) rfl
theorem GR:ai (run code aq 53 (8,192,1792,192) 752 38 [gQ,gP,GH,iN,iM,(tY,[1,2,3,4,7,8,10],[0,44,45],uS 0 8++i9++uS 8 15++rp 16 zq0++[dT]++rp 15 ax++rp 16 zq0++[bO]++rp 14 zq0)] [] (682,bm (sI 2) (sI 0) (sI 1),[],ci,42,90,860)) (752,bm (sI 2) (sI 0) (sI 1),d9,[aL,iO,yU,xc,qO,jB,qN]++fR,46,90,860) (xe++[(12,44,0,0)])=true:=by decide +kernel
theorem y4 (B:LWB p l e s m args below meth c T0 Z a0 h0 n0 L0 90 860)(D0:D 0=0)(Q:QM D)(J:JM D J0 J1)(V:Jvm.FP.Core.DInt (iW (D 30)).toInt (D 1)∧Jvm.FP.Core.DInt (iW (D 31)).toInt (D 2))(H1:PI (iW (D 35)) (iW (D 36)))(z1:(cmpValue (FP.dcmp (FP.i2d (iW (D 36))) (D 0)) .l).toInt=0)(H2:PI (iW (D 41)) (iW (D 40)))(z2:(cmpValue (FP.dcmp (FP.i2d (iW (D 40))) (D 0)) .l).toInt=0)(HT:bl l Z n0 (iW (D 26)).toInt (iW (D 27)).toInt (iW (D 28)).toInt (iW (D 29)).toInt W lu)(Y:Yf Z n0 h0 (ap A K D W 0 ci++lu)):Go p e below (bw s (aV n0) 192 1792) T0 (mkF m 682 (dL A D W (bm (sI 2) (sI 0) (sI 1))) []):=by
 have hz1:(iW (D 36)).toInt=0:=by
  rcases au (am.mpr H1.pb.2.2.2) D0 with ⟨q,-⟩|⟨-,q⟩
  ·exact q
  ·exact absurd z1 q
 have hz2:(iW (D 40)).toInt=0:=by
  rcases au (am.mpr H2.pb.2.2.2) D0 with ⟨q,-⟩|⟨-,q⟩
  ·exact q
  ·exact absurd z2 q
 refine goE (aY GR (scS cS (scS cT (scS ng (scS dV (scS dW (scS Fp sc0)))))) B (y13 Y) D0 (by decide) ⟨trivial,trivial,z1,trivial,trivial,z2,trivial⟩ ?_) rfl
 intro T1 h1 L1 A1 K1 B1 hA1 Kp f1 Y1
 have Y2:YgF Z n0 h1 A1 K1 (ac [D 0,D 1,D 2,FP.i2d (iW (D 35)),FP.i2d (iW (D 36)),FP.i2d (iW (D 41)),FP.i2d (iW (D 40))]) W (dE jZ++[(1,0,rS 8 3++[vI 2]),(65,2,[vD 6,vD 5]),(66,2,[vI 1,vI 1]),(64,16,[vI 0,vI 1]++rp 14 (vI 0)),(67,2,[vU 23,vU 24]),(68,2,[vU 25,vU 26])]):=YgF.congr Y1 rfl
 refine goE (d8 Y Y2 B1 hA1 Kp f1 rfl (fun rest n1 YS=>Gx (A:=A1) (K:=K1) (D:=(ac [D 0,D 1,D 2,FP.i2d (iW (D 35)),FP.i2d (iW (D 36)),FP.i2d (iW (D 41)),FP.i2d (iW (D 40))])) ⟨B1.2.2.2.2.2.2.2.2.1,HT,n1,D0,V.1,V.2,J⟩ H1.pb hz1 H2.pb hz2 YS) ?_) rfl
 intro T2 h2 L2 pr kp kv kf y0 y1 C0 C1 B2 YE HR F0 F1 bC0 bC1
 exact goE (p6 (A:=cA pr A1) (K:=cK kp kv kf K1) (D:=ac (gD D++[y0,y1])) (W:=W) B2 (Yf.to YE rfl) D0 Q J H1 H2 HR F0 F1 bC0 bC1) rfl
def xf:AD:=(65,16,[dS,vD 44]++rp 14 ax)
def xg:List Op:=[gr,gq,(12,42,0,1),lM,lL]
theorem GS:ai (run code aq 53 (8,192,1792,192) 752 38 [gQ,gP,GI,iN,iM,(tR,[1,2,3,4,5,6,7,8,10],[0,44,45],uS 0 23++[zq3]++rp 15 zq0++[dS]++rp 15 ax++rp 20 zq0++[dT,ax,ax,ax,bO]++rp 14 zq0)] [] (682,bm (sI 2) (sI 1) (sI 0),[],ci,42,90,860)) (752,bm (sI 2) (sI 1) (sI 0),d9,[aL,iO,oS,xf,w_,(64,256,[zq0,zq3,zq0,zq0]),(65,256,[dT,vD 45,ax,ax])]++fR,46,90,860) (xg++[(12,45,0,1)])=true:=by decide +kernel
theorem y5 (B:LWB p l e s m args below meth c T0 Z a0 h0 n0 L0 90 860)(D0:D 0=0)(Q:QM D)(J:JM D J0 J1)(V:Jvm.FP.Core.DInt (iW (D 30)).toInt (D 1)∧Jvm.FP.Core.DInt (iW (D 31)).toInt (D 2))(H1:PI (iW (D 36)) (iW (D 35)))(z1:(cmpValue (FP.dcmp (FP.i2d (iW (D 35))) (D 0)) .l).toInt≠0)(H2:PI (iW (D 40)) (iW (D 41)))(z2:(cmpValue (FP.dcmp (FP.i2d (iW (D 41))) (D 0)) .l).toInt≠0)(HT:bl l Z n0 (iW (D 26)).toInt (iW (D 27)).toInt (iW (D 28)).toInt (iW (D 29)).toInt W lu)(Y:Yf Z n0 h0 (ap A K D W 0 ci++lu)):Go p e below (bw s (aV n0) 192 1792) T0 (mkF m 682 (dL A D W (bm (sI 2) (sI 1) (sI 0))) []):=by
 refine goE (aY GS (scS cS (scS cT (scS nh (scS dV (scS dW (scS Fh sc0)))))) B (y13 Y) D0 (by decide) ⟨trivial,trivial,z1,trivial,trivial,z2,trivial⟩ ?_) rfl
 intro T1 h1 L1 A1 K1 B1 hA1 Kp f1 Y1
 have Y2:YgF Z n0 h1 A1 K1 (ac [D 0,D 1,D 2,FP.i2d (iW (D 36)),FP.i2d (iW (D 35)),FP.i2d (iW (D 40)),FP.i2d (iW (D 41))]) W (dE j6++[(1,0,rS 8 3++[vI 2]),(65,2,[vD 5,vD 6]),(66,2,[vI 1,vI 1]),(64,16,[vI 0,vI 1]++rp 14 (vI 0)),(67,2,[vU 23,vU 24]),(68,2,[vU 25,vU 26])]):=YgF.congr Y1 rfl
 refine goE (d8 Y Y2 B1 hA1 Kp f1 rfl (fun rest n1 YS=>Gy (A:=A1) (K:=K1) (D:=(ac [D 0,D 1,D 2,FP.i2d (iW (D 36)),FP.i2d (iW (D 35)),FP.i2d (iW (D 40)),FP.i2d (iW (D 41))])) ⟨B1.2.2.2.2.2.2.2.2.1,HT,n1,D0,V.1,V.2,J⟩ H1.pb H2.pb YS) ?_) rfl
 intro T2 h2 L2 pr kp kv kf y0 y1 C0 C1 B2 YE HR F0 F1 bC0 bC1
 exact goE (p7 (A:=cA pr A1) (K:=cK kp kv kf K1) (D:=ac (gD D++[y0,y1])) (W:=W) B2 (Yf.to YE rfl) D0 Q J H1 H2 HR F0 F1 bC0 bC1) rfl
theorem GT:ai (run code aq 53 (8,192,1792,192) 752 38 [gQ,gP,GI,iN,iM,(tS,[1,2,3,4,7,8,10],[0,44,45],uS 0 8++i9++uS 8 15++[zq3]++rp 15 zq0++[dS]++rp 15 ax++rp 16 zq0++[bO]++rp 14 zq0)] [] (682,bm (sI 2) (sI 1) (sI 0),[],ci,42,90,860)) (752,bm (sI 2) (sI 1) (sI 0),d9,[aL,iO,oS,xf,xb,jB,(65,256,[dT,ax,ax,ax])]++fR,46,90,860) (xg++[(12,45,0,0)])=true:=by decide +kernel
theorem y6 (B:LWB p l e s m args below meth c T0 Z a0 h0 n0 L0 90 860)(D0:D 0=0)(Q:QM D)(J:JM D J0 J1)(V:Jvm.FP.Core.DInt (iW (D 30)).toInt (D 1)∧Jvm.FP.Core.DInt (iW (D 31)).toInt (D 2))(H1:PI (iW (D 36)) (iW (D 35)))(z1:(cmpValue (FP.dcmp (FP.i2d (iW (D 35))) (D 0)) .l).toInt≠0)(H2:PI (iW (D 40)) (iW (D 41)))(z2:(cmpValue (FP.dcmp (FP.i2d (iW (D 41))) (D 0)) .l).toInt=0)(HT:bl l Z n0 (iW (D 26)).toInt (iW (D 27)).toInt (iW (D 28)).toInt (iW (D 29)).toInt W lu)(Y:Yf Z n0 h0 (ap A K D W 0 ci++lu)):Go p e below (bw s (aV n0) 192 1792) T0 (mkF m 682 (dL A D W (bm (sI 2) (sI 1) (sI 0))) []):=by
 have hz2:(iW (D 41)).toInt=0:=by
  rcases au (am.mpr H2.pb.2.2.2) D0 with ⟨q,-⟩|⟨-,q⟩
  ·exact q
  ·exact absurd z2 q
 refine goE (aY GT (scS cS (scS cT (scS nh (scS dV (scS dW (scS Fi sc0)))))) B (y13 Y) D0 (by decide) ⟨trivial,trivial,z1,trivial,trivial,z2,trivial⟩ ?_) rfl
 intro T1 h1 L1 A1 K1 B1 hA1 Kp f1 Y1
 have Y2:YgF Z n0 h1 A1 K1 (ac [D 0,D 1,D 2,FP.i2d (iW (D 36)),FP.i2d (iW (D 35)),FP.i2d (iW (D 40)),FP.i2d (iW (D 41))]) W (dE j7++[(1,0,rS 8 3++[vI 2]),(65,2,[vD 5,vD 6]),(66,2,[vI 1,vI 1]),(64,16,[vI 0,vI 1]++rp 14 (vI 0)),(67,2,[vU 23,vU 24]),(68,2,[vU 25,vU 26])]):=YgF.congr Y1 rfl
 refine goE (d8 Y Y2 B1 hA1 Kp f1 rfl (fun rest n1 YS=>Gz (A:=A1) (K:=K1) (D:=(ac [D 0,D 1,D 2,FP.i2d (iW (D 36)),FP.i2d (iW (D 35)),FP.i2d (iW (D 40)),FP.i2d (iW (D 41))])) ⟨B1.2.2.2.2.2.2.2.2.1,HT,n1,D0,V.1,V.2,J⟩ H1.pb H2.pb hz2 YS) ?_) rfl
 intro T2 h2 L2 pr kp kv kf y0 y1 C0 C1 B2 YE HR F0 F1 bC0 bC1
 exact goE (p7 (A:=cA pr A1) (K:=cK kp kv kf K1) (D:=ac (gD D++[y0,y1])) (W:=W) B2 (Yf.to YE rfl) D0 Q J H1 H2 HR F0 F1 bC0 bC1) rfl
def xh:AD:=(65,16,[dS,vD 45]++rp 14 ax)
def xi:AD:=(64,16,[zq3,zq3]++rp 14 zq0)
theorem GU:ai (run code aq 53 (8,192,1792,192) 752 38 [gQ,gP,GI,iN,iM,(tT,[1,2,3,4,5,6,7,8,10],[0,44,45],uS 0 23++[zq3]++rp 15 zq0++[dS]++rp 15 ax++rp 20 zq0++[dT,ax,ax,ax,bO]++rp 14 zq0)] [] (682,bm (sI 2) (sI 1) (sI 1),[],ci,42,90,860)) (752,bm (sI 2) (sI 1) (sI 1),d9,[aL,iO,xi,xh,w_,jB,(65,256,[dT,vD 44,ax,ax])]++fR,46,90,860) (xg++[(12,44,0,1)])=true:=by decide +kernel
theorem y7 (B:LWB p l e s m args below meth c T0 Z a0 h0 n0 L0 90 860)(D0:D 0=0)(Q:QM D)(J:JM D J0 J1)(V:Jvm.FP.Core.DInt (iW (D 30)).toInt (D 1)∧Jvm.FP.Core.DInt (iW (D 31)).toInt (D 2))(H1:PI (iW (D 36)) (iW (D 35)))(z1:(cmpValue (FP.dcmp (FP.i2d (iW (D 35))) (D 0)) .l).toInt≠0)(H2:PI (iW (D 41)) (iW (D 40)))(z2:(cmpValue (FP.dcmp (FP.i2d (iW (D 40))) (D 0)) .l).toInt≠0)(HT:bl l Z n0 (iW (D 26)).toInt (iW (D 27)).toInt (iW (D 28)).toInt (iW (D 29)).toInt W lu)(Y:Yf Z n0 h0 (ap A K D W 0 ci++lu)):Go p e below (bw s (aV n0) 192 1792) T0 (mkF m 682 (dL A D W (bm (sI 2) (sI 1) (sI 1))) []):=by
 refine goE (aY GU (scS cS (scS cT (scS nh (scS dV (scS dW (scS Fj sc0)))))) B (y13 Y) D0 (by decide) ⟨trivial,trivial,z1,trivial,trivial,z2,trivial⟩ ?_) rfl
 intro T1 h1 L1 A1 K1 B1 hA1 Kp f1 Y1
 have Y2:YgF Z n0 h1 A1 K1 (ac [D 0,D 1,D 2,FP.i2d (iW (D 36)),FP.i2d (iW (D 35)),FP.i2d (iW (D 41)),FP.i2d (iW (D 40))]) W (dE j8++[(1,0,rS 8 3++[vI 2]),(65,2,[vD 6,vD 5]),(66,2,[vI 1,vI 1]),(64,16,[vI 0,vI 1]++rp 14 (vI 0)),(67,2,[vU 23,vU 24]),(68,2,[vU 25,vU 26])]):=YgF.congr Y1 rfl
 refine goE (d8 Y Y2 B1 hA1 Kp f1 rfl (fun rest n1 YS=>GA (A:=A1) (K:=K1) (D:=(ac [D 0,D 1,D 2,FP.i2d (iW (D 36)),FP.i2d (iW (D 35)),FP.i2d (iW (D 41)),FP.i2d (iW (D 40))])) ⟨B1.2.2.2.2.2.2.2.2.1,HT,n1,D0,V.1,V.2,J⟩ H1.pb H2.pb YS) ?_) rfl
 intro T2 h2 L2 pr kp kv kf y0 y1 C0 C1 B2 YE HR F0 F1 bC0 bC1
 exact goE (p8 (A:=cA pr A1) (K:=cK kp kv kf K1) (D:=ac (gD D++[y0,y1])) (W:=W) B2 (Yf.to YE rfl) D0 Q J H1 H2 HR F0 F1 bC0 bC1) rfl
theorem GV:ai (run code aq 53 (8,192,1792,192) 752 38 [gQ,gP,GI,iN,iM,(tU,[1,2,3,4,7,8,10],[0,44,45],uS 0 8++i9++uS 8 15++[zq3]++rp 15 zq0++[dS]++rp 15 ax++rp 16 zq0++[bO]++rp 14 zq0)] [] (682,bm (sI 2) (sI 1) (sI 1),[],ci,42,90,860)) (752,bm (sI 2) (sI 1) (sI 1),d9,[aL,iO,xi,xh,xb,jB,(65,256,[dT,ax,ax,ax])]++fR,46,90,860) (xg++[(12,44,0,0)])=true:=by decide +kernel
theorem y8 (B:LWB p l e s m args below meth c T0 Z a0 h0 n0 L0 90 860)(D0:D 0=0)(Q:QM D)(J:JM D J0 J1)(V:Jvm.FP.Core.DInt (iW (D 30)).toInt (D 1)∧Jvm.FP.Core.DInt (iW (D 31)).toInt (D 2))(H1:PI (iW (D 36)) (iW (D 35)))(z1:(cmpValue (FP.dcmp (FP.i2d (iW (D 35))) (D 0)) .l).toInt≠0)(H2:PI (iW (D 41)) (iW (D 40)))(z2:(cmpValue (FP.dcmp (FP.i2d (iW (D 40))) (D 0)) .l).toInt=0)(HT:bl l Z n0 (iW (D 26)).toInt (iW (D 27)).toInt (iW (D 28)).toInt (iW (D 29)).toInt W lu)(Y:Yf Z n0 h0 (ap A K D W 0 ci++lu)):Go p e below (bw s (aV n0) 192 1792) T0 (mkF m 682 (dL A D W (bm (sI 2) (sI 1) (sI 1))) []):=by
 have hz2:(iW (D 40)).toInt=0:=by
  rcases au (am.mpr H2.pb.2.2.2) D0 with ⟨q,-⟩|⟨-,q⟩
  ·exact q
  ·exact absurd z2 q
 refine goE (aY GV (scS cS (scS cT (scS nh (scS dV (scS dW (scS Fk sc0)))))) B (y13 Y) D0 (by decide) ⟨trivial,trivial,z1,trivial,trivial,z2,trivial⟩ ?_) rfl
 intro T1 h1 L1 A1 K1 B1 hA1 Kp f1 Y1
 have Y2:YgF Z n0 h1 A1 K1 (ac [D 0,D 1,D 2,FP.i2d (iW (D 36)),FP.i2d (iW (D 35)),FP.i2d (iW (D 41)),FP.i2d (iW (D 40))]) W (dE j_++[(1,0,rS 8 3++[vI 2]),(65,2,[vD 6,vD 5]),(66,2,[vI 1,vI 1]),(64,16,[vI 0,vI 1]++rp 14 (vI 0)),(67,2,[vU 23,vU 24]),(68,2,[vU 25,vU 26])]):=YgF.congr Y1 rfl
 refine goE (d8 Y Y2 B1 hA1 Kp f1 rfl (fun rest n1 YS=>GB (A:=A1) (K:=K1) (D:=(ac [D 0,D 1,D 2,FP.i2d (iW (D 36)),FP.i2d (iW (D 35)),FP.i2d (iW (D 41)),FP.i2d (iW (D 40))])) ⟨B1.2.2.2.2.2.2.2.2.1,HT,n1,D0,V.1,V.2,J⟩ H1.pb H2.pb hz2 YS) ?_) rfl
 intro T2 h2 L2 pr kp kv kf y0 y1 C0 C1 B2 YE HR F0 F1 bC0 bC1
 exact goE (p8 (A:=cA pr A1) (K:=cK kp kv kf K1) (D:=ac (gD D++[y0,y1])) (W:=W) B2 (Yf.to YE rfl) D0 Q J H1 H2 HR F0 F1 bC0 bC1) rfl
def xj:List Op:=[gr,gq,(12,42,0,0),lM,lL]
theorem GW:ai (run code aq 53 (8,192,1792,192) 752 38 [gQ,gP,GJ,iN,iM,(tV,[1,2,3,4,5,6,7,8,10],[0,44,45],uS 0 23++[zq3]++rp 15 zq0++[dS]++rp 15 ax++rp 20 zq0++oQ++rp 14 zq0)] [] (682,bm (sI 2) (sI 1) (sI 0),[],ci,42,90,860)) (752,bm (sI 2) (sI 1) (sI 0),d9,[aL,iO,oS,xf,xd,oR,(65,256,[vD 45,ax,ax,ax])]++fR,46,90,860) (xj++[(12,45,0,1)])=true:=by decide +kernel
theorem y9 (B:LWB p l e s m args below meth c T0 Z a0 h0 n0 L0 90 860)(D0:D 0=0)(Q:QM D)(J:JM D J0 J1)(V:Jvm.FP.Core.DInt (iW (D 30)).toInt (D 1)∧Jvm.FP.Core.DInt (iW (D 31)).toInt (D 2))(H1:PI (iW (D 36)) (iW (D 35)))(z1:(cmpValue (FP.dcmp (FP.i2d (iW (D 35))) (D 0)) .l).toInt=0)(H2:PI (iW (D 40)) (iW (D 41)))(z2:(cmpValue (FP.dcmp (FP.i2d (iW (D 41))) (D 0)) .l).toInt≠0)(HT:bl l Z n0 (iW (D 26)).toInt (iW (D 27)).toInt (iW (D 28)).toInt (iW (D 29)).toInt W lu)(Y:Yf Z n0 h0 (ap A K D W 0 ci++lu)):Go p e below (bw s (aV n0) 192 1792) T0 (mkF m 682 (dL A D W (bm (sI 2) (sI 1) (sI 0))) []):=by
 have hz1:(iW (D 35)).toInt=0:=by
  rcases au (am.mpr H1.pb.2.2.2) D0 with ⟨q,-⟩|⟨-,q⟩
  ·exact q
  ·exact absurd z1 q
 refine goE (aY GW (scS cS (scS cT (scS ni (scS dV (scS dW (scS Fm sc0)))))) B (y13 Y) D0 (by decide) ⟨trivial,trivial,z1,trivial,trivial,z2,trivial⟩ ?_) rfl
 intro T1 h1 L1 A1 K1 B1 hA1 Kp f1 Y1
 have Y2:YgF Z n0 h1 A1 K1 (ac [D 0,D 1,D 2,FP.i2d (iW (D 36)),FP.i2d (iW (D 35)),FP.i2d (iW (D 40)),FP.i2d (iW (D 41))]) W (dE ka++[(1,0,rS 8 3++[vI 2]),(65,2,[vD 5,vD 6]),(66,2,[vI 1,vI 1]),(64,16,[vI 0,vI 1]++rp 14 (vI 0)),(67,2,[vU 23,vU 24]),(68,2,[vU 25,vU 26])]):=YgF.congr Y1 rfl
 refine goE (d8 Y Y2 B1 hA1 Kp f1 rfl (fun rest n1 YS=>GC (A:=A1) (K:=K1) (D:=(ac [D 0,D 1,D 2,FP.i2d (iW (D 36)),FP.i2d (iW (D 35)),FP.i2d (iW (D 40)),FP.i2d (iW (D 41))])) ⟨B1.2.2.2.2.2.2.2.2.1,HT,n1,D0,V.1,V.2,J⟩ H1.pb hz1 H2.pb YS) ?_) rfl
 intro T2 h2 L2 pr kp kv kf y0 y1 C0 C1 B2 YE HR F0 F1 bC0 bC1
 exact goE (p7 (A:=cA pr A1) (K:=cK kp kv kf K1) (D:=ac (gD D++[y0,y1])) (W:=W) B2 (Yf.to YE rfl) D0 Q J H1 H2 HR F0 F1 bC0 bC1) rfl
theorem GX:ai (run code aq 53 (8,192,1792,192) 752 38 [gQ,gP,GJ,iN,iM,(tW,[1,2,3,4,7,8,10],[0,44,45],uS 0 8++i9++uS 8 15++[zq3]++rp 15 zq0++[dS]++rp 15 ax++rp 16 zq0++[bO]++rp 14 zq0)] [] (682,bm (sI 2) (sI 1) (sI 0),[],ci,42,90,860)) (752,bm (sI 2) (sI 1) (sI 0),d9,[aL,iO,oS,xf,qO,jB,qN]++fR,46,90,860) (xj++[(12,45,0,0)])=true:=by decide +kernel
theorem y_ (B:LWB p l e s m args below meth c T0 Z a0 h0 n0 L0 90 860)(D0:D 0=0)(Q:QM D)(J:JM D J0 J1)(V:Jvm.FP.Core.DInt (iW (D 30)).toInt (D 1)∧Jvm.FP.Core.DInt (iW (D 31)).toInt (D 2))(H1:PI (iW (D 36)) (iW (D 35)))(z1:(cmpValue (FP.dcmp (FP.i2d (iW (D 35))) (D 0)) .l).toInt=0)(H2:PI (iW (D 40)) (iW (D 41)))(z2:(cmpValue (FP.dcmp (FP.i2d (iW (D 41))) (D 0)) .l).toInt=0)(HT:bl l Z n0 (iW (D 26)).toInt (iW (D 27)).toInt (iW (D 28)).toInt (iW (D 29)).toInt W lu)(Y:Yf Z n0 h0 (ap A K D W 0 ci++lu)):Go p e below (bw s (aV n0) 192 1792) T0 (mkF m 682 (dL A D W (bm (sI 2) (sI 1) (sI 0))) []):=by
 have hz1:(iW (D 35)).toInt=0:=by
  rcases au (am.mpr H1.pb.2.2.2) D0 with ⟨q,-⟩|⟨-,q⟩
  ·exact q
  ·exact absurd z1 q
 have hz2:(iW (D 41)).toInt=0:=by
  rcases au (am.mpr H2.pb.2.2.2) D0 with ⟨q,-⟩|⟨-,q⟩
  ·exact q
  ·exact absurd z2 q
 refine goE (aY GX (scS cS (scS cT (scS ni (scS dV (scS dW (scS Fn sc0)))))) B (y13 Y) D0 (by decide) ⟨trivial,trivial,z1,trivial,trivial,z2,trivial⟩ ?_) rfl
 intro T1 h1 L1 A1 K1 B1 hA1 Kp f1 Y1
 have Y2:YgF Z n0 h1 A1 K1 (ac [D 0,D 1,D 2,FP.i2d (iW (D 36)),FP.i2d (iW (D 35)),FP.i2d (iW (D 40)),FP.i2d (iW (D 41))]) W (dE kb++[(1,0,rS 8 3++[vI 2]),(65,2,[vD 5,vD 6]),(66,2,[vI 1,vI 1]),(64,16,[vI 0,vI 1]++rp 14 (vI 0)),(67,2,[vU 23,vU 24]),(68,2,[vU 25,vU 26])]):=YgF.congr Y1 rfl
 refine goE (d8 Y Y2 B1 hA1 Kp f1 rfl (fun rest n1 YS=>GD (A:=A1) (K:=K1) (D:=(ac [D 0,D 1,D 2,FP.i2d (iW (D 36)),FP.i2d (iW (D 35)),FP.i2d (iW (D 40)),FP.i2d (iW (D 41))])) ⟨B1.2.2.2.2.2.2.2.2.1,HT,n1,D0,V.1,V.2,J⟩ H1.pb hz1 H2.pb hz2 YS) ?_) rfl
 intro T2 h2 L2 pr kp kv kf y0 y1 C0 C1 B2 YE HR F0 F1 bC0 bC1
 exact goE (p7 (A:=cA pr A1) (K:=cK kp kv kf K1) (D:=ac (gD D++[y0,y1])) (W:=W) B2 (Yf.to YE rfl) D0 Q J H1 H2 HR F0 F1 bC0 bC1) rfl
theorem GY:ai (run code aq 53 (8,192,1792,192) 752 38 [gQ,gP,GJ,iN,iM,(tX,[1,2,3,4,5,6,7,8,10],[0,44,45],uS 0 23++[zq3]++rp 15 zq0++[dS]++rp 15 ax++rp 20 zq0++oQ++rp 14 zq0)] [] (682,bm (sI 2) (sI 1) (sI 1),[],ci,42,90,860)) (752,bm (sI 2) (sI 1) (sI 1),d9,[aL,iO,xi,xh,xd,jB,(65,256,[vD 44,ax,ax,ax])]++fR,46,90,860) (xj++[(12,44,0,1)])=true:=by decide +kernel
theorem zb (B:LWB p l e s m args below meth c T0 Z a0 h0 n0 L0 90 860)(D0:D 0=0)(Q:QM D)(J:JM D J0 J1)(V:Jvm.FP.Core.DInt (iW (D 30)).toInt (D 1)∧Jvm.FP.Core.DInt (iW (D 31)).toInt (D 2))(H1:PI (iW (D 36)) (iW (D 35)))(z1:(cmpValue (FP.dcmp (FP.i2d (iW (D 35))) (D 0)) .l).toInt=0)(H2:PI (iW (D 41)) (iW (D 40)))(z2:(cmpValue (FP.dcmp (FP.i2d (iW (D 40))) (D 0)) .l).toInt≠0)(HT:bl l Z n0 (iW (D 26)).toInt (iW (D 27)).toInt (iW (D 28)).toInt (iW (D 29)).toInt W lu)(Y:Yf Z n0 h0 (ap A K D W 0 ci++lu)):Go p e below (bw s (aV n0) 192 1792) T0 (mkF m 682 (dL A D W (bm (sI 2) (sI 1) (sI 1))) []):=by
 have hz1:(iW (D 35)).toInt=0:=by
  rcases au (am.mpr H1.pb.2.2.2) D0 with ⟨q,-⟩|⟨-,q⟩
  ·exact q
  ·exact absurd z1 q
 refine goE (aY GY (scS cS (scS cT (scS ni (scS dV (scS dW (scS Fo sc0)))))) B (y13 Y) D0 (by decide) ⟨trivial,trivial,z1,trivial,trivial,z2,trivial⟩ ?_) rfl
 intro T1 h1 L1 A1 K1 B1 hA1 Kp f1 Y1
 have Y2:YgF Z n0 h1 A1 K1 (ac [D 0,D 1,D 2,FP.i2d (iW (D 36)),FP.i2d (iW (D 35)),FP.i2d (iW (D 41)),FP.i2d (iW (D 40))]) W (dE kc++[(1,0,rS 8 3++[vI 2]),(65,2,[vD 6,vD 5]),(66,2,[vI 1,vI 1]),(64,16,[vI 0,vI 1]++rp 14 (vI 0)),(67,2,[vU 23,vU 24]),(68,2,[vU 25,vU 26])]):=YgF.congr Y1 rfl
 refine goE (d8 Y Y2 B1 hA1 Kp f1 rfl (fun rest n1 YS=>GE (A:=A1) (K:=K1) (D:=(ac [D 0,D 1,D 2,FP.i2d (iW (D 36)),FP.i2d (iW (D 35)),FP.i2d (iW (D 41)),FP.i2d (iW (D 40))])) ⟨B1.2.2.2.2.2.2.2.2.1,HT,n1,D0,V.1,V.2,J⟩ H1.pb hz1 H2.pb YS) ?_) rfl
 intro T2 h2 L2 pr kp kv kf y0 y1 C0 C1 B2 YE HR F0 F1 bC0 bC1
 exact goE (p8 (A:=cA pr A1) (K:=cK kp kv kf K1) (D:=ac (gD D++[y0,y1])) (W:=W) B2 (Yf.to YE rfl) D0 Q J H1 H2 HR F0 F1 bC0 bC1) rfl
theorem GZ:ai (run code aq 53 (8,192,1792,192) 752 38 [gQ,gP,GJ,iN,iM,(tY,[1,2,3,4,7,8,10],[0,44,45],uS 0 8++i9++uS 8 15++[zq3]++rp 15 zq0++[dS]++rp 15 ax++rp 16 zq0++[bO]++rp 14 zq0)] [] (682,bm (sI 2) (sI 1) (sI 1),[],ci,42,90,860)) (752,bm (sI 2) (sI 1) (sI 1),d9,[aL,iO,xi,xh,qO,jB,qN]++fR,46,90,860) (xj++[(12,44,0,0)])=true:=by decide +kernel
theorem zc (B:LWB p l e s m args below meth c T0 Z a0 h0 n0 L0 90 860)(D0:D 0=0)(Q:QM D)(J:JM D J0 J1)(V:Jvm.FP.Core.DInt (iW (D 30)).toInt (D 1)∧Jvm.FP.Core.DInt (iW (D 31)).toInt (D 2))(H1:PI (iW (D 36)) (iW (D 35)))(z1:(cmpValue (FP.dcmp (FP.i2d (iW (D 35))) (D 0)) .l).toInt=0)(H2:PI (iW (D 41)) (iW (D 40)))(z2:(cmpValue (FP.dcmp (FP.i2d (iW (D 40))) (D 0)) .l).toInt=0)(HT:bl l Z n0 (iW (D 26)).toInt (iW (D 27)).toInt (iW (D 28)).toInt (iW (D 29)).toInt W lu)(Y:Yf Z n0 h0 (ap A K D W 0 ci++lu)):Go p e below (bw s (aV n0) 192 1792) T0 (mkF m 682 (dL A D W (bm (sI 2) (sI 1) (sI 1))) []):=by
 have hz1:(iW (D 35)).toInt=0:=by
  rcases au (am.mpr H1.pb.2.2.2) D0 with ⟨q,-⟩|⟨-,q⟩
  ·exact q
  ·exact absurd z1 q
 have hz2:(iW (D 40)).toInt=0:=by
  rcases au (am.mpr H2.pb.2.2.2) D0 with ⟨q,-⟩|⟨-,q⟩
  ·exact q
  ·exact absurd z2 q
 refine goE (aY GZ (scS cS (scS cT (scS ni (scS dV (scS dW (scS Fp sc0)))))) B (y13 Y) D0 (by decide) ⟨trivial,trivial,z1,trivial,trivial,z2,trivial⟩ ?_) rfl
 intro T1 h1 L1 A1 K1 B1 hA1 Kp f1 Y1
 have Y2:YgF Z n0 h1 A1 K1 (ac [D 0,D 1,D 2,FP.i2d (iW (D 36)),FP.i2d (iW (D 35)),FP.i2d (iW (D 41)),FP.i2d (iW (D 40))]) W (dE ke++[(1,0,rS 8 3++[vI 2]),(65,2,[vD 6,vD 5]),(66,2,[vI 1,vI 1]),(64,16,[vI 0,vI 1]++rp 14 (vI 0)),(67,2,[vU 23,vU 24]),(68,2,[vU 25,vU 26])]):=YgF.congr Y1 rfl
 refine goE (d8 Y Y2 B1 hA1 Kp f1 rfl (fun rest n1 YS=>GF (A:=A1) (K:=K1) (D:=(ac [D 0,D 1,D 2,FP.i2d (iW (D 36)),FP.i2d (iW (D 35)),FP.i2d (iW (D 41)),FP.i2d (iW (D 40))])) ⟨B1.2.2.2.2.2.2.2.2.1,HT,n1,D0,V.1,V.2,J⟩ H1.pb hz1 H2.pb hz2 YS) ?_) rfl
 intro T2 h2 L2 pr kp kv kf y0 y1 C0 C1 B2 YE HR F0 F1 bC0 bC1
 exact goE (p8 (A:=cA pr A1) (K:=cK kp kv kf K1) (D:=ac (gD D++[y0,y1])) (W:=W) B2 (Yf.to YE rfl) D0 Q J H1 H2 HR F0 F1 bC0 bC1) rfl
def G0:Op:=(23,14,1099511627777,0)
def G1:Op:=(23,12,1099511627777,0)
theorem Rg:∀b1 b2 b3 b4:Bool,ai (run code aq 53 (8,192,1792,192) 67 42 [] [(bif b1 then 1 else 0),(bif b2 then 1 else 0),(bif b3 then 1 else 0),(bif b4 then 1 else 0)] (0,#[sF 1,sF 2,sF 3,sF 4,sF 5,sF 6,sU,sU,sU,sU,sU,sU,sU,sU,sU,sU,sU,sU,sU,sU,sU,sU,sU,sU,sU,sU,sU,sU,sU,sU,sU,sU,sU,sU,sU,sU,sU,sU,sU,sU,sU,sU,sU,sU,sU,sU,sU,sU,sU,sU,sU,sU,sU],[],[],7,0,0)) (67,#[sF 1,sF 2,sF 3,sF 4,sF 5,sF 6,sF 7,(bif b1 then sI (-1) else sI 1),(bif b2 then sI (-1) else sI 1),(bif b3 then sI (-1) else sI 1),(bif b4 then sI (-1) else sI 1),sU,sU,sU,sU,sU,sU,sU,sU,sU,sU,sU,sU,sU,sU,sU,sU,sU,sU,sU,sU,sU,sU,sU,sU,sU,sU,sU,sU,sU,sU,sU,sU,sU,sU,sU,sU,sU,sU,sU,sU,sU,sU],[],[],16,0,0) [(23,1,1099511627783,0),(26,1,1099511627779,0),(23,8,1099511627777,0),(13,9,0,(bif b1 then 1 else 0)),(26,1,1099511627780,0),(23,10,1099511627777,0),(13,11,0,(bif b2 then 1 else 0)),(26,1,1099511627781,0),G1,(13,13,0,(bif b3 then 1 else 0)),(26,1,1099511627782,0),G0,(13,15,0,(bif b4 then 1 else 0))]=true:=by decide +kernel
theorem QT:∀b1 b2 b4:Bool,ai (run code aq 53 (8,192,1792,192) 154 59 [(Ft,[],[0,17],[])] [(bif b1 then 1 else 0),(bif b2 then 1 else 0),(bif b4 then 1 else 0)] (67,#[sF 1,sF 2,sF 3,sF 4,sF 5,sF 6,sF 7,sF 8,sF 9,sF 10,sF 11,sU,sU,sU,sU,sU,sU,sU,sU,sU,sU,sU,sU,sU,sU,sU,sU,sU,sU,sU,sU,sU,sU,sU,sU,sU,sU,sU,sU,sU,sU,sU,sU,sU,sU,sU,sU,sU,sU,sU,sU,sU,sU],[],[],12,0,0)) (154,#[sF 1,sF 2,sF 3,sF 4,sF 5,sF 6,sF 7,sF 8,sF 9,sF 10,sF 11,(bif b1 then sI 1 else sI 0),(bif b2 then sI 1 else sI 0),sF 17,(bif b4 then sI 1 else sI 0),sF 20,sF 22,sF 24,sF 26,sU,sU,sU,sU,sU,sU,sU,sU,sU,sU,sU,sU,sU,sU,sU,sU,sU,sU,sU,sU,sU,sU,sU,sU,sU,sU,sU,sU,sU,sU,sU,sU,sU,sU],[],[],27,0,0) [(26,1,1099511627783,0),G1,(13,13,0,(bif b1 then 1 else 0)),(26,1,1099511627784,0),G0,(13,15,0,(bif b2 then 1 else 0)),(26,1,1099511627785,0),(23,16,1099511627779,0),(15,17,1099511627778,1),(26,1,1099511627787,0),(23,18,1099511627777,0),(13,19,0,(bif b4 then 1 else 0)),(23,2,1099511627779,0),(26,2,1099511627778,0),(23,21,1099511627779,0),(26,2,1099511627780,0),(23,23,1099511627779,0),(26,2,1099511627782,0),(23,25,1099511627779,0)]=true:=by decide +kernel
theorem QU:∀b1 b2 b4:Bool,ai (run code aq 53 (8,192,1792,192) 154 59 [(Fv,[],[0,17],[])] [(bif b1 then 1 else 0),(bif b2 then 1 else 0),(bif b4 then 1 else 0)] (67,#[sF 1,sF 2,sF 3,sF 4,sF 5,sF 6,sF 7,sF 8,sF 9,sF 10,sF 11,sU,sU,sU,sU,sU,sU,sU,sU,sU,sU,sU,sU,sU,sU,sU,sU,sU,sU,sU,sU,sU,sU,sU,sU,sU,sU,sU,sU,sU,sU,sU,sU,sU,sU,sU,sU,sU,sU,sU,sU,sU,sU],[],[],12,0,0)) (154,#[sF 1,sF 2,sF 3,sF 4,sF 5,sF 6,sF 7,sF 8,sF 9,sF 10,sF 11,(bif b1 then sI 1 else sI 0),(bif b2 then sI 1 else sI 0),sI 2,(bif b4 then sI 1 else sI 0),sF 20,sF 22,sF 24,sF 26,sU,sU,sU,sU,sU,sU,sU,sU,sU,sU,sU,sU,sU,sU,sU,sU,sU,sU,sU,sU,sU,sU,sU,sU,sU,sU,sU,sU,sU,sU,sU,sU,sU,sU],[],[],27,0,0) [(26,1,1099511627783,0),G1,(13,13,0,(bif b1 then 1 else 0)),(26,1,1099511627784,0),G0,(13,15,0,(bif b2 then 1 else 0)),(26,1,1099511627785,0),(23,16,1099511627779,0),(15,17,1099511627778,0),(26,1,1099511627787,0),(23,18,1099511627777,0),(13,19,0,(bif b4 then 1 else 0)),(23,2,1099511627779,0),(26,2,1099511627778,0),(23,21,1099511627779,0),(26,2,1099511627780,0),(23,23,1099511627779,0),(26,2,1099511627782,0),(23,25,1099511627779,0)]=true:=by decide +kernel
def s5:Op:=(24,1099511627777,18,0)
def s6:Op:=(24,1099511627777,17,0)
def oT:Op:=(24,1099511627777,16,0)
def nG:Op:=(20,17,18,0)
def xk:Op:=(24,1099511627777,32,0)
def xl:List Op:=[(22,8,21,0),s6,(22,9,23,0),s5,(22,10,25,0),(22,8,9,0),(22,27,10,0)]
theorem OQ:ai (run code aq 53 (8,192,1792,192) 345 53 [(tZ,[],[0,16,20],[])] [] (154,#[sF 1,sF 2,sF 3,sF 4,sF 5,sF 6,sI 0,sF 8,sF 9,sF 10,sF 11,sF 12,sF 13,sF 14,sF 15,sF 16,sF 17,sF 18,sF 19,sU,sU,sU,sU,sU,sU,sU,sU,sU,sU,sU,sU,sU,sU,sU,sU,sU,sU,sU,sU,sU,sU,sU,sU,sU,sU,sU,sU,sU,sU,sU,sU,sU,sU],[],[],20,0,0)) (345,#[sF 1,sF 2,sF 3,sF 4,sF 5,sF 6,sI 0,sF 8,sF 9,sF 10,sF 11,sF 12,sF 13,sF 14,sF 15,sF 16,sF 17,sF 18,sF 19,sF 22,sF 24,sF 26,sF 34,sF 16,sF 29,sU,sU,sU,sU,sU,sU,sU,sU,sU,sU,sU,sU,sU,sU,sU,sU,sU,sU,sU,sU,sU,sU,sU,sU,sU,sU,sU,sU],[],[],35,0,0) ([nG,(15,16,20,1),oT]++xl++[(22,28,1103806595071,0),nG,(21,30,16,0),(20,31,1099511627776,0),xk,(22,29,33,0)])=true:=by decide +kernel
def M1:List Op:=[nG,(15,16,20,0),(24,1099511627777,20,0)]
theorem OR:ai (run code aq 53 (8,192,1792,192) 345 53 [(t6,[],[0,16,20],[])] [] (154,#[sF 1,sF 2,sF 3,sF 4,sF 5,sF 6,sI 0,sF 8,sF 9,sF 10,sF 11,sF 12,sF 13,sF 14,sF 15,sF 16,sF 17,sF 18,sF 19,sU,sU,sU,sU,sU,sU,sU,sU,sU,sU,sU,sU,sU,sU,sU,sU,sU,sU,sU,sU,sU,sU,sU,sU,sU,sU,sU,sU,sU,sU,sU,sU,sU,sU],[],[],20,0,0)) (345,#[sF 1,sF 2,sF 3,sF 4,sF 5,sF 6,sI 0,sF 8,sF 9,sF 10,sF 11,sF 12,sF 13,sF 14,sF 15,sF 16,sF 17,sF 18,sF 19,sF 22,sF 24,sF 26,sF 34,sF 20,sF 29,sU,sU,sU,sU,sU,sU,sU,sU,sU,sU,sU,sU,sU,sU,sU,sU,sU,sU,sU,sU,sU,sU,sU,sU,sU,sU,sU,sU],[],[],35,0,0) (M1++xl++[(22,28,1103806595071,0),nG,(21,30,20,0),(20,31,1099511627776,0),xk,(22,29,33,0)])=true:=by decide +kernel
theorem OS:ai (run code aq 53 (8,192,1792,192) 345 54 [(tZ,[],[0,16,20],[])] [] (154,#[sF 1,sF 2,sF 3,sF 4,sF 5,sF 6,sI 1,sF 8,sF 9,sF 10,sF 11,sF 12,sF 13,sF 14,sF 15,sF 16,sF 17,sF 18,sF 19,sU,sU,sU,sU,sU,sU,sU,sU,sU,sU,sU,sU,sU,sU,sU,sU,sU,sU,sU,sU,sU,sU,sU,sU,sU,sU,sU,sU,sU,sU,sU,sU,sU,sU],[],[],20,0,0)) (345,#[sF 1,sF 2,sF 3,sF 4,sF 5,sF 6,sI 1,sF 8,sF 9,sF 10,sF 11,sF 12,sF 13,sF 14,sF 15,sF 16,sF 17,sF 18,sF 19,sF 22,sF 24,sF 26,sF 34,sF 16,sF 29,sU,sU,sU,sU,sU,sU,sU,sU,sU,sU,sU,sU,sU,sU,sU,sU,sU,sU,sU,sU,sU,sU,sU,sU,sU,sU,sU,sU],[],[],35,0,0) ([nG,(15,16,20,1),oT]++xl++[(22,28,1099511627777,0),nG,(21,30,16,0),(20,31,1099511627777,0),xk,(22,29,33,0)])=true:=by decide +kernel
theorem OT:ai (run code aq 53 (8,192,1792,192) 345 54 [(t6,[],[0,16,20],[])] [] (154,#[sF 1,sF 2,sF 3,sF 4,sF 5,sF 6,sI 1,sF 8,sF 9,sF 10,sF 11,sF 12,sF 13,sF 14,sF 15,sF 16,sF 17,sF 18,sF 19,sU,sU,sU,sU,sU,sU,sU,sU,sU,sU,sU,sU,sU,sU,sU,sU,sU,sU,sU,sU,sU,sU,sU,sU,sU,sU,sU,sU,sU,sU,sU,sU,sU,sU],[],[],20,0,0)) (345,#[sF 1,sF 2,sF 3,sF 4,sF 5,sF 6,sI 1,sF 8,sF 9,sF 10,sF 11,sF 12,sF 13,sF 14,sF 15,sF 16,sF 17,sF 18,sF 19,sF 22,sF 24,sF 26,sF 34,sF 20,sF 29,sU,sU,sU,sU,sU,sU,sU,sU,sU,sU,sU,sU,sU,sU,sU,sU,sU,sU,sU,sU,sU,sU,sU,sU,sU,sU,sU,sU],[],[],35,0,0) (M1++xl++[(22,28,1099511627777,0),nG,(21,30,20,0),(20,31,1099511627777,0),xk,(22,29,33,0)])=true:=by decide +kernel
def xm:Op:=(24,1099511627777,19,0)
theorem QV:ai (run code aq 53 (8,192,1792,192) 345 47 [] [] (154,#[sF 1,sF 2,sF 3,sF 4,sF 5,sF 6,sI 2,sF 8,sF 9,sF 10,sF 11,sF 12,sF 13,sF 14,sF 15,sF 16,sF 17,sF 18,sF 19,sU,sU,sU,sU,sU,sU,sU,sU,sU,sU,sU,sU,sU,sU,sU,sU,sU,sU,sU,sU,sU,sU,sU,sU,sU,sU,sU,sU,sU,sU,sU,sU,sU,sU],[],[],20,0,0)) (345,#[sF 1,sF 2,sF 3,sF 4,sF 5,sF 6,sI 2,sF 8,sF 9,sF 10,sF 11,sF 12,sF 13,sF 14,sF 15,sF 16,sF 17,sF 18,sF 19,sF 21,sF 23,sI 0,sF 25,sU,sU,sU,sU,sU,sU,sU,sU,sU,sU,sU,sU,sU,sU,sU,sU,sU,sU,sU,sU,sU,sU,sU,sU,sU,sU,sU,sU,sU,sU],[],[],26,0,0) [oT,(22,8,20,0),s6,(22,9,22,0),xm,(22,11,24,0)]=true:=by decide +kernel
theorem QW:ai (run code aq 53 (8,192,1792,192) 345 47 [] [] (154,#[sF 1,sF 2,sF 3,sF 4,sF 5,sF 6,sI 3,sF 8,sF 9,sF 10,sF 11,sF 12,sF 13,sF 14,sF 15,sF 16,sF 17,sF 18,sF 19,sU,sU,sU,sU,sU,sU,sU,sU,sU,sU,sU,sU,sU,sU,sU,sU,sU,sU,sU,sU,sU,sU,sU,sU,sU,sU,sU,sU,sU,sU,sU,sU,sU,sU],[],[],20,0,0)) (345,#[sF 1,sF 2,sF 3,sF 4,sF 5,sF 6,sI 3,sF 8,sF 9,sF 10,sF 11,sF 12,sF 13,sF 14,sF 15,sF 16,sF 17,sF 18,sF 19,sF 21,sI 0,sF 23,sF 25,sU,sU,sU,sU,sU,sU,sU,sU,sU,sU,sU,sU,sU,sU,sU,sU,sU,sU,sU,sU,sU,sU,sU,sU,sU,sU,sU,sU,sU,sU],[],[],26,0,0) [oT,(22,8,20,0),s5,(22,10,22,0),xm,(22,11,24,0)]=true:=by decide +kernel
theorem QX:ai (run code aq 53 (8,192,1792,192) 345 47 [] [] (154,#[sF 1,sF 2,sF 3,sF 4,sF 5,sF 6,sI 4,sF 8,sF 9,sF 10,sF 11,sF 12,sF 13,sF 14,sF 15,sF 16,sF 17,sF 18,sF 19,sU,sU,sU,sU,sU,sU,sU,sU,sU,sU,sU,sU,sU,sU,sU,sU,sU,sU,sU,sU,sU,sU,sU,sU,sU,sU,sU,sU,sU,sU,sU,sU,sU,sU],[],[],20,0,0)) (345,#[sF 1,sF 2,sF 3,sF 4,sF 5,sF 6,sI 4,sF 8,sF 9,sF 10,sF 11,sF 12,sF 13,sF 14,sF 15,sF 16,sF 17,sF 18,sF 19,sF 21,sI 0,sI 0,sF 23,sU,sU,sU,sU,sU,sU,sU,sU,sU,sU,sU,sU,sU,sU,sU,sU,sU,sU,sU,sU,sU,sU,sU,sU,sU,sU,sU,sU,sU,sU],[],[],24,0,0) [oT,(22,8,20,0),xm,(22,11,22,0)]=true:=by decide +kernel
theorem QY:ai (run code aq 53 (8,192,1792,192) 345 47 [] [] (154,#[sF 1,sF 2,sF 3,sF 4,sF 5,sF 6,sI 5,sF 8,sF 9,sF 10,sF 11,sF 12,sF 13,sF 14,sF 15,sF 16,sF 17,sF 18,sF 19,sU,sU,sU,sU,sU,sU,sU,sU,sU,sU,sU,sU,sU,sU,sU,sU,sU,sU,sU,sU,sU,sU,sU,sU,sU,sU,sU,sU,sU,sU,sU,sU,sU,sU],[],[],20,0,0)) (345,#[sF 1,sF 2,sF 3,sF 4,sF 5,sF 6,sI 5,sF 8,sF 9,sF 10,sF 11,sF 12,sF 13,sF 14,sF 15,sF 16,sF 17,sF 18,sF 19,sI 0,sF 21,sF 23,sF 25,sU,sU,sU,sU,sU,sU,sU,sU,sU,sU,sU,sU,sU,sU,sU,sU,sU,sU,sU,sU,sU,sU,sU,sU,sU,sU,sU,sU,sU,sU],[],[],26,0,0) [s6,(22,9,20,0),s5,(22,10,22,0),xm,(22,11,24,0)]=true:=by decide +kernel
theorem QZ:ai (run code aq 53 (8,192,1792,192) 345 47 [] [] (154,#[sF 1,sF 2,sF 3,sF 4,sF 5,sF 6,sI 6,sF 8,sF 9,sF 10,sF 11,sF 12,sF 13,sF 14,sF 15,sF 16,sF 17,sF 18,sF 19,sU,sU,sU,sU,sU,sU,sU,sU,sU,sU,sU,sU,sU,sU,sU,sU,sU,sU,sU,sU,sU,sU,sU,sU,sU,sU,sU,sU,sU,sU,sU,sU,sU,sU],[],[],20,0,0)) (345,#[sF 1,sF 2,sF 3,sF 4,sF 5,sF 6,sI 6,sF 8,sF 9,sF 10,sF 11,sF 12,sF 13,sF 14,sF 15,sF 16,sF 17,sF 18,sF 19,sF 21,sF 23,sF 25,sI 0,sU,sU,sU,sU,sU,sU,sU,sU,sU,sU,sU,sU,sU,sU,sU,sU,sU,sU,sU,sU,sU,sU,sU,sU,sU,sU,sU,sU,sU,sU],[],[],26,0,0) [oT,(22,8,20,0),s6,(22,9,22,0),s5,(22,10,24,0)]=true:=by decide +kernel
theorem Q0:ai (run code aq 53 (8,192,1792,192) 345 47 [] [] (154,#[sF 1,sF 2,sF 3,sF 4,sF 5,sF 6,sI 7,sF 8,sF 9,sF 10,sF 11,sF 12,sF 13,sF 14,sF 15,sF 16,sF 17,sF 18,sF 19,sU,sU,sU,sU,sU,sU,sU,sU,sU,sU,sU,sU,sU,sU,sU,sU,sU,sU,sU,sU,sU,sU,sU,sU,sU,sU,sU,sU,sU,sU,sU,sU,sU,sU],[],[],20,0,0)) (345,#[sF 1,sF 2,sF 3,sF 4,sF 5,sF 6,sI 7,sF 8,sF 9,sF 10,sF 11,sF 12,sF 13,sF 14,sF 15,sF 16,sF 17,sF 18,sF 19,sI 0,sF 21,sF 23,sI 0,sU,sU,sU,sU,sU,sU,sU,sU,sU,sU,sU,sU,sU,sU,sU,sU,sU,sU,sU,sU,sU,sU,sU,sU,sU,sU,sU,sU,sU,sU],[],[],24,0,0) [s6,(22,9,20,0),s5,(22,10,22,0)]=true:=by decide +kernel
theorem Q1:∀b1 b2:Bool,ai (run code aq 53 (8,192,1792,192) 411 34 [] [(bif b1 then 1 else 0),(bif b2 then 1 else 0)] (345,#[sF 5,sF 6,sF 7,sF 8,sF 9,sF 10,sF 11,sF 12,sF 13,sF 14,sF 15,sF 16,sF 17,sF 18,sF 19,sF 20,sF 21,sF 22,sF 23,sF 1,sF 2,sF 3,sF 4,sU,sU,sU,sU,sU,sU,sU,sU,sU,sU,sU,sU,sU,sU,sU,sU,sU,sU,sU,sU,sU,sU,sU,sU,sU,sU,sU,sU,sU,sU],[],[],26,0,0)) (411,#[sF 5,sF 6,sF 7,sF 8,sF 9,sF 10,sF 11,sF 12,sF 13,sF 14,sF 15,sF 16,sF 17,sF 18,sF 19,sF 20,sF 21,sF 22,sF 23,sF 1,sF 2,sF 3,sF 4,(bif b1 then (bif b2 then sF 4 else sF 3) else (bif b2 then sF 2 else sF 1)),(bif b1 then (bif b2 then sF 3 else sF 4) else (bif b2 then sF 1 else sF 2)),(bif b1 then (bif b2 then sF 2 else sF 1) else (bif b2 then sF 4 else sF 3)),(bif b1 then (bif b2 then sF 1 else sF 2) else (bif b2 then sF 3 else sF 4)),(bif b1 then (bif b2 then sF 3 else sU) else (bif b2 then sF 1 else sU)),(bif b1 then (bif b2 then sF 1 else sU) else (bif b2 then sF 3 else sU)),sU,sU,sU,sU,sU,sU,sU,sU,sU,sU,sU,sU,sU,sU,sU,sU,sU,sU,sU,sU,sU,sU,sU,sU],[],[],26,0,0) [(13,16,0,(bif b1 then 1 else 0)),(13,17,0,(bif b2 then 1 else 0))]=true:=by decide +kernel
theorem Q3:∀b1 b2:Bool,ai (run code aq 53 (8,192,1792,192) 411 34 [] [(bif b1 then 1 else 0),(bif b2 then 1 else 0)] (345,#[sF 5,sF 6,sF 7,sF 8,sF 9,sF 10,sF 11,sF 12,sF 13,sF 14,sF 15,sF 16,sF 17,sF 18,sF 19,sF 20,sF 21,sF 22,sF 23,sF 1,sF 2,sF 3,sF 4,sF 24,sF 25,sU,sU,sU,sU,sU,sU,sU,sU,sU,sU,sU,sU,sU,sU,sU,sU,sU,sU,sU,sU,sU,sU,sU,sU,sU,sU,sU,sU],[],[],26,0,0)) (411,#[sF 5,sF 6,sF 7,sF 8,sF 9,sF 10,sF 11,sF 12,sF 13,sF 14,sF 15,sF 16,sF 17,sF 18,sF 19,sF 20,sF 21,sF 22,sF 23,sF 1,sF 2,sF 3,sF 4,(bif b1 then (bif b2 then sF 4 else sF 3) else (bif b2 then sF 2 else sF 1)),(bif b1 then (bif b2 then sF 3 else sF 4) else (bif b2 then sF 1 else sF 2)),(bif b1 then (bif b2 then sF 2 else sF 1) else (bif b2 then sF 4 else sF 3)),(bif b1 then (bif b2 then sF 1 else sF 2) else (bif b2 then sF 3 else sF 4)),(bif b1 then (bif b2 then sF 3 else sU) else (bif b2 then sF 1 else sU)),(bif b1 then (bif b2 then sF 1 else sU) else (bif b2 then sF 3 else sU)),sU,sU,sU,sU,sU,sU,sU,sU,sU,sU,sU,sU,sU,sU,sU,sU,sU,sU,sU,sU,sU,sU,sU,sU],[],[],26,0,0) [(13,16,0,(bif b1 then 1 else 0)),(13,17,0,(bif b2 then 1 else 0))]=true:=by decide +kernel
def xn:AD:=aD [32,33]
theorem Rh:∀b1 b2 b3 b4:Bool,ai (run code aq 53 (8,192,1792,192) 648 105 [] [(bif b1 then 1 else 0),(bif b2 then 1 else 0),(bif b2 then 1 else 0),(bif b3 then 1 else 0),(bif b4 then 1 else 0),(bif b4 then 1 else 0)] (471,#[sF 5,sF 6,sF 7,sF 8,sF 9,sF 10,sF 11,sF 12,sF 13,sF 14,sF 15,sF 16,sF 17,sF 18,sF 19,sF 20,sF 21,sF 22,sF 23,sF 24,sF 25,sF 26,sF 27,sF 1,sF 2,sF 3,sF 4,sR 0,sR 1,sU,sU,sU,sU,sU,sU,sU,sU,sU,sU,sU,sU,sU,sU,sU,sU,sU,sU,sU,sU,sU,sU,sU,sU],[],[aU 67 0 2,aU 68 2 2],28,6,12)) (648,#[sF 5,sF 6,sF 7,sF 8,sF 9,sF 10,sF 11,sF 12,sF 13,sF 14,sF 15,sF 16,sF 17,sF 18,sF 19,sF 20,sF 21,sF 22,sF 23,sF 24,sF 25,sF 26,sF 27,sF 1,sF 2,sF 3,sF 4,sR 0,sR 1,sF 29,sF 31,sR 2,sF 34,sF 40,sF 43,(bif b2 then sF 43 else sF 40),(bif b2 then sF 40 else sF 43),sF 44,sF 50,sF 53,(bif b4 then sF 53 else sF 50),(bif b4 then sF 50 else sF 53),sU,sU,sU,sU,sU,sU,sU,sU,sU,sU,sU],[],[aU 67 0 2,aU 68 2 2,xn],54,7,14) [(24,7,1099511627791,0),(25,28,1099511627791,0),(24,8,1099511627791,0),(25,30,1099511627791,0),oP,sW,(23,9,1099511627777,0),(26,9,1099511627777,0),(23,35,1099511627777,0),(13,36,0,(bif b1 then 1 else 0)),(26,9,1099511627778,0),(23,37,1099511627779,0),(24,1099511627777,38,0),(22,(bif b1 then 1103806595071 else 1099511627777),39,0),(26,9,1099511627780,0),(23,41,1099511627807,0),(21,42,1099511627792,0),(13,34,0,(bif b2 then 1 else 0)),(13,34,0,(bif b2 then 1 else 0)),(23,10,1099511627777,0),(26,10,1099511627777,0),(23,45,1099511627777,0),(13,46,0,(bif b3 then 1 else 0)),(26,10,1099511627778,0),(23,47,1099511627779,0),(24,1099511627777,48,0),(22,(bif b3 then 1103806595071 else 1099511627777),49,0),(26,10,1099511627780,0),(23,51,1099511627807,0),(21,52,1099511627792,0),(13,44,0,(bif b4 then 1 else 0)),(13,44,0,(bif b4 then 1 else 0))]=true:=by decide +kernel
theorem p9 (x r:Int32)(h:x&&&(3:Int32)=r):r=0∨r=1∨r=2∨r=3:=by
 have:=c_mask x 3 2 (by decide) (by decide)
 have e:((2 ^ 2:Nat):Int)=4:=rfl
 rw[e,h] at this
 have q:r.toInt=0∨r.toInt=1∨r.toInt=2∨r.toInt=3:=by omega
 rcases q with q|q|q|q
 ·exact Or.inl (Int32.toInt_inj.mp (q.trans (by decide)))
 ·exact Or.inr (Or.inl (Int32.toInt_inj.mp (q.trans (by decide))))
 ·exact Or.inr (Or.inr (Or.inl (Int32.toInt_inj.mp (q.trans (by decide)))))
 ·exact Or.inr (Or.inr (Or.inr (Int32.toInt_inj.mp (q.trans (by decide)))))
theorem xo (x r:Int32)(h:x&&&(1:Int32)=r):r=0∨r=1:=by
 have:=c_mask x 1 1 (by decide) (by decide)
 have e:((2 ^ 1:Nat):Int)=2:=rfl
 rw[e,h] at this
 have q:r.toInt=0∨r.toInt=1:=by omega
 rcases q with q|q
 ·exact Or.inl (Int32.toInt_inj.mp (q.trans (by decide)))
 ·exact Or.inr (Int32.toInt_inj.mp (q.trans (by decide)))
theorem xp (x:Int32)(b:Bool):∀a:Int32,(bif b then (-1:Int32) else 1)*((1:Int32)<<<((x&&&3)&&&31))=a→(a.toInt=1∨a.toInt=-1∨a.toInt=2∨a.toInt=-2∨a.toInt=4∨a.toInt=-4∨a.toInt=8∨a.toInt=-8):=by
 intro a h
 generalize hr:x&&&3=r at h
 subst h
 rcases p9 x r hr with rfl|rfl|rfl|rfl<;>cases b<;>decide
theorem xq (x:Int32):-16≤((x&&&31)-16).toInt∧((x&&&31)-16).toInt≤16:=by
 have h1:=c_mask x 31 5 (by decide) (by decide)
 have e:((2 ^ 5:Nat):Int)=32:=rfl
 rw[e] at h1
 have h3:=c_isub (x&&&31) 16
 have e2:(16:Int32).toInt=16:=by decide
 rw[e2] at h3
 have r:=rng32 ((x&&&31)-16)
 omega
theorem xr (x:Int32):-65536≤(x>>>((15:Int32)&&&31)).toInt∧(x>>>((15:Int32)&&&31)).toInt≤65536:=by
 have e:(x>>>((15:Int32)&&&31)).toInt=x.toInt>>>15:=by
  show (BitVec.sshiftRight' x.toBitVec (((15:Int32)&&&31).toBitVec.smod 32)).toInt=_
  rw[BitVec.toInt_sshiftRight']
  rfl
 rw[e,Int.shiftRight_eq_div_pow]
 have r:=rng32 x
 have e2:((2 ^ 15:Nat):Int)=32768:=rfl
 rw[e2]
 omega
theorem cU (x:Int32):∃b:Bool,(if (bif b then (1:Int32) else 0)=0 then x.toInt=0 else x.toInt≠0):=by
 by_cases h:x.toInt=0
 ·exact⟨false,by simpa using h⟩
 ·exact⟨true,by simpa using h⟩
def f_ (D:Nat→UInt64)(c27 c28:Addr):Array Slot:=#[.val (.int (iW (D 5))),.val (.int (iW (D 6))),.val (.int (iW (D 7))),.val (.int (iW (D 8))),.val (.int (iW (D 9))),.val (.int (iW (D 10))),.val (.int (iW (D 11))),.val (.int (iW (D 12))),.val (.int (iW (D 13))),.val (.int (iW (D 14))),.val (.int (iW (D 15))),.val (.int (iW (D 16))),.val (.int (iW (D 17))),.val (.int (iW (D 18))),.val (.int (iW (D 19))),.val (.int (iW (D 20))),.val (.int (iW (D 21))),.val (.int (iW (D 22))),.val (.int (iW (D 23))),.val (.int (iW (D 24))),.val (.int (iW (D 25))),.val (.int (iW (D 26))),.val (.int (iW (D 27))),.val (.int (iW (D 1))),.val (.int (iW (D 2))),.val (.int (iW (D 3))),.val (.int (iW (D 4))),.val (.ref c27),.val (.ref c28),.unset,.unset,.unset,.unset,.unset,.unset,.unset,.unset,.unset,.unset,.unset,.unset,.unset,.unset,.unset,.unset,.unset,.unset,.unset,.unset,.unset,.unset,.unset,.unset]
def gf (D:Nat→UInt64)(c27 c28 vv:Addr)(w29 w30 w32 w33 w34 w35 w36 w37 w38 w39 w40 w41:UInt64):Array Slot:=#[.val (.int (iW (D 5))),.val (.int (iW (D 6))),.val (.int (iW (D 7))),.val (.int (iW (D 8))),.val (.int (iW (D 9))),.val (.int (iW (D 10))),.val (.int (iW (D 11))),.val (.int (iW (D 12))),.val (.int (iW (D 13))),.val (.int (iW (D 14))),.val (.int (iW (D 15))),.val (.int (iW (D 16))),.val (.int (iW (D 17))),.val (.int (iW (D 18))),.val (.int (iW (D 19))),.val (.int (iW (D 20))),.val (.int (iW (D 21))),.val (.int (iW (D 22))),.val (.int (iW (D 23))),.val (.int (iW (D 24))),.val (.int (iW (D 25))),.val (.int (iW (D 26))),.val (.int (iW (D 27))),.val (.int (iW (D 1))),.val (.int (iW (D 2))),.val (.int (iW (D 3))),.val (.int (iW (D 4))),.val (.ref c27),.val (.ref c28),.val (.int (iW w29)),.val (.int (iW w30)),.val (.ref vv),.val (.int (iW w32)),.val (.int (iW w33)),.val (.int (iW w34)),.val (.int (iW w35)),.val (.int (iW w36)),.val (.int (iW w37)),.val (.int (iW w38)),.val (.int (iW w39)),.val (.int (iW w40)),.val (.int (iW w41)),.unset,.unset,.unset,.unset,.unset,.unset,.unset,.unset,.unset,.unset,.unset]
def VF (w29 w30 w32 w35 w36 w37 w40 w41:UInt64):Prop:=(-65536≤(iW w29).toInt∧(iW w29).toInt≤65536)∧(-65536≤(iW w30).toInt∧(iW w30).toInt≤65536)∧((iW w32=0∧PI (iW w35) (iW w36))∨(iW w32=1∧PI (iW w36) (iW w35)))∧((iW w37=0∧PI (iW w40) (iW w41))∨(iW w37=1∧PI (iW w41) (iW w40)))
theorem eP {c27 c28:Addr}{k27 k28:ClassId}{x0 x1 x2 x3:Value}{rest:List OB}(B:LWB p l e s m args below meth c T0 Z a0 h0 n0 L0 6 12)(D0:D 0=0)(Y:Yf Z n0 h0 ([(c27,k27,67,2,[x0,x1]),(c28,k28,68,2,[x2,x3])]++rest))(KK:∀(T1:State)(h1:Heap)(L1:List Loc)(vv:Addr)(kv:ClassId)(w29 w30 w32 w33 w34 w35 w36 w37 w38 w39 w40 w41:UInt64),LWB p l e s m args below meth c T1 Z a0 h1 n0 L1 7 14→Yf Z n0 h1 ([(c27,k27,67,2,[x0,x1]),(c28,k28,68,2,[x2,x3]),(vv,kv,65,2,[.double (FP.i2d (iW w29)),.double (FP.i2d (iW w30))])]++rest)→VF w29 w30 w32 w35 w36 w37 w40 w41→Go p e below Ev T1 (mkF m 648 (gf D c27 c28 vv w29 w30 w32 w33 w34 w35 w36 w37 w38 w39 w40 w41) [])):Go p e below Ev T0 (mkF m 471 (f_ D c27 c28) []):=by
 obtain⟨b1,hb1⟩:=cU (iW (ab (aa 23 (iW (ab (aa 26 (iW (D 9)) (iW 1099511627777)))) (iW 1099511627777))))
 obtain⟨b2,hb2⟩:=cU (iW (ab (aa 23 (iW (D 9)) (iW 1099511627777))))
 obtain⟨b3,hb3⟩:=cU (iW (ab (aa 23 (iW (ab (aa 26 (iW (D 10)) (iW 1099511627777)))) (iW 1099511627777))))
 obtain⟨b4,hb4⟩:=cU (iW (ab (aa 23 (iW (D 10)) (iW 1099511627777))))
 have YY:YgF Z n0 h0 (aP [c27,c28]) (aQ [k27,k28]) D (rF [x0,x1,x2,x3]) [aU 67 0 2,aU 68 2 2]:=Yf.to (Yf.pick (os':=ap (aP [c27,c28]) (aQ [k27,k28]) D (rF [x0,x1,x2,x3]) 0 [aU 67 0 2,aU 68 2 2]) Y [0,1] (by decide) rfl) rfl
 have P1:PI (iW (ab (aa 22 (iW (bif b1 then (1103806595071:UInt64) else 1099511627777)) (iW (ab (aa 24 (iW 1099511627777) (iW (ab (aa 23 (iW (ab (aa 26 (iW (D 9)) (iW 1099511627778)))) (iW 1099511627779)))))))))) (iW (ab (aa 21 (iW (ab (aa 23 (iW (ab (aa 26 (iW (D 9)) (iW 1099511627780)))) (iW 1099511627807)))) (iW 1099511627792)))):=⟨xp _ b1 _ (by simp only[be];cases b1<;>rfl),by simp only[be];exact xq _⟩
 have P2:PI (iW (ab (aa 22 (iW (bif b3 then (1103806595071:UInt64) else 1099511627777)) (iW (ab (aa 24 (iW 1099511627777) (iW (ab (aa 23 (iW (ab (aa 26 (iW (D 10)) (iW 1099511627778)))) (iW 1099511627779)))))))))) (iW (ab (aa 21 (iW (ab (aa 23 (iW (ab (aa 26 (iW (D 10)) (iW 1099511627780)))) (iW 1099511627807)))) (iW 1099511627792)))):=⟨xp _ b3 _ (by simp only[be];cases b3<;>rfl),by simp only[be];exact xq _⟩
 have p1:iW (ab (aa 23 (iW (D 9)) (iW 1099511627777)))=0∨iW (ab (aa 23 (iW (D 9)) (iW 1099511627777)))=1:=xo _ _ (be _).symm
 have p2:iW (ab (aa 23 (iW (D 10)) (iW 1099511627777)))=0∨iW (ab (aa 23 (iW (D 10)) (iW 1099511627777)))=1:=xo _ _ (be _).symm
 refine goE (aY (Rh b1 b2 b3 b4) sc0 B YY D0 (by decide) ⟨trivial,trivial,trivial,trivial,trivial,trivial,trivial,trivial,trivial,hb1,trivial,trivial,trivial,trivial,trivial,trivial,trivial,hb2,hb2,trivial,trivial,trivial,hb3,trivial,trivial,trivial,trivial,trivial,trivial,trivial,hb4,hb4,trivial⟩ ?_) rfl
 intro T1 h1 L1 A1 K1 B1 hA1 Kp f1 Y1
 have YJ:=Yf.segj (A:=aP [c27,c28]) (K:=aQ [k27,k28]) (D:=D) (W:=rF [x0,x1,x2,x3]) (ds:=[aU 67 0 2,aU 68 2 2]) (os2:=rest) Y Y1 Kp hA1 f1
 have a0':A1 0=c27:=(hA1 0 (by decide)).1
 have a1':A1 1=c28:=(hA1 1 (by decide)).1
 have k0':K1 0=k27:=(hA1 0 (by decide)).2
 have k1':K1 1=k28:=(hA1 1 (by decide)).2
 have YK:Yf Z n0 h1 ([(A1 0,K1 0,67,2,[x0,x1]),(A1 1,K1 1,68,2,[x2,x3]),(A1 2,K1 2,65,2,[.double (FP.i2d (iW (ab (aa 25 (iW (ab (aa 24 (iW (D 7)) (iW 1099511627791)))) (iW 1099511627791))))),.double (FP.i2d (iW (ab (aa 25 (iW (ab (aa 24 (iW (D 8)) (iW 1099511627791)))) (iW 1099511627791)))))])]++rest):=YJ
 rw[a0',a1',k0',k1'] at YK
 have V:VF (ab (aa 25 (iW (ab (aa 24 (iW (D 7)) (iW 1099511627791)))) (iW 1099511627791))) (ab (aa 25 (iW (ab (aa 24 (iW (D 8)) (iW 1099511627791)))) (iW 1099511627791))) (ab (aa 23 (iW (D 9)) (iW 1099511627777))) (bif b2 then (ab (aa 21 (iW (ab (aa 23 (iW (ab (aa 26 (iW (D 9)) (iW 1099511627780)))) (iW 1099511627807)))) (iW 1099511627792))) else (ab (aa 22 (iW (bif b1 then (1103806595071:UInt64) else 1099511627777)) (iW (ab (aa 24 (iW 1099511627777) (iW (ab (aa 23 (iW (ab (aa 26 (iW (D 9)) (iW 1099511627778)))) (iW 1099511627779)))))))))) (bif b2 then (ab (aa 22 (iW (bif b1 then (1103806595071:UInt64) else 1099511627777)) (iW (ab (aa 24 (iW 1099511627777) (iW (ab (aa 23 (iW (ab (aa 26 (iW (D 9)) (iW 1099511627778)))) (iW 1099511627779))))))))) else (ab (aa 21 (iW (ab (aa 23 (iW (ab (aa 26 (iW (D 9)) (iW 1099511627780)))) (iW 1099511627807)))) (iW 1099511627792)))) (ab (aa 23 (iW (D 10)) (iW 1099511627777))) (bif b4 then (ab (aa 21 (iW (ab (aa 23 (iW (ab (aa 26 (iW (D 10)) (iW 1099511627780)))) (iW 1099511627807)))) (iW 1099511627792))) else (ab (aa 22 (iW (bif b3 then (1103806595071:UInt64) else 1099511627777)) (iW (ab (aa 24 (iW 1099511627777) (iW (ab (aa 23 (iW (ab (aa 26 (iW (D 10)) (iW 1099511627778)))) (iW 1099511627779)))))))))) (bif b4 then (ab (aa 22 (iW (bif b3 then (1103806595071:UInt64) else 1099511627777)) (iW (ab (aa 24 (iW 1099511627777) (iW (ab (aa 23 (iW (ab (aa 26 (iW (D 10)) (iW 1099511627778)))) (iW 1099511627779))))))))) else (ab (aa 21 (iW (ab (aa 23 (iW (ab (aa 26 (iW (D 10)) (iW 1099511627780)))) (iW 1099511627807)))) (iW 1099511627792)))):=by
  refine⟨by simp only[be];exact xr _,by simp only[be];exact xr _,?_,?_⟩
  ·cases b2
   ·exact Or.inl ⟨p1.elim id (fun q=>by rw[q] at hb2;exact absurd hb2 (by decide)),P1⟩
   ·exact Or.inr ⟨p1.elim (fun q=>by rw[q] at hb2;exact absurd hb2 (by decide)) id,P1⟩
  ·cases b4
   ·exact Or.inl ⟨p2.elim id (fun q=>by rw[q] at hb4;exact absurd hb4 (by decide)),P2⟩
   ·exact Or.inr ⟨p2.elim (fun q=>by rw[q] at hb4;exact absurd hb4 (by decide)) id,P2⟩
 have G:=KK T1 h1 L1 (A1 2) (K1 2) (ab (aa 25 (iW (ab (aa 24 (iW (D 7)) (iW 1099511627791)))) (iW 1099511627791))) (ab (aa 25 (iW (ab (aa 24 (iW (D 8)) (iW 1099511627791)))) (iW 1099511627791))) (ab (aa 23 (iW (D 9)) (iW 1099511627777))) (ab (aa 22 (iW (bif b1 then (1103806595071:UInt64) else 1099511627777)) (iW (ab (aa 24 (iW 1099511627777) (iW (ab (aa 23 (iW (ab (aa 26 (iW (D 9)) (iW 1099511627778)))) (iW 1099511627779))))))))) (ab (aa 21 (iW (ab (aa 23 (iW (ab (aa 26 (iW (D 9)) (iW 1099511627780)))) (iW 1099511627807)))) (iW 1099511627792))) (bif b2 then (ab (aa 21 (iW (ab (aa 23 (iW (ab (aa 26 (iW (D 9)) (iW 1099511627780)))) (iW 1099511627807)))) (iW 1099511627792))) else (ab (aa 22 (iW (bif b1 then (1103806595071:UInt64) else 1099511627777)) (iW (ab (aa 24 (iW 1099511627777) (iW (ab (aa 23 (iW (ab (aa 26 (iW (D 9)) (iW 1099511627778)))) (iW 1099511627779)))))))))) (bif b2 then (ab (aa 22 (iW (bif b1 then (1103806595071:UInt64) else 1099511627777)) (iW (ab (aa 24 (iW 1099511627777) (iW (ab (aa 23 (iW (ab (aa 26 (iW (D 9)) (iW 1099511627778)))) (iW 1099511627779))))))))) else (ab (aa 21 (iW (ab (aa 23 (iW (ab (aa 26 (iW (D 9)) (iW 1099511627780)))) (iW 1099511627807)))) (iW 1099511627792)))) (ab (aa 23 (iW (D 10)) (iW 1099511627777))) (ab (aa 22 (iW (bif b3 then (1103806595071:UInt64) else 1099511627777)) (iW (ab (aa 24 (iW 1099511627777) (iW (ab (aa 23 (iW (ab (aa 26 (iW (D 10)) (iW 1099511627778)))) (iW 1099511627779))))))))) (ab (aa 21 (iW (ab (aa 23 (iW (ab (aa 26 (iW (D 10)) (iW 1099511627780)))) (iW 1099511627807)))) (iW 1099511627792))) (bif b4 then (ab (aa 21 (iW (ab (aa 23 (iW (ab (aa 26 (iW (D 10)) (iW 1099511627780)))) (iW 1099511627807)))) (iW 1099511627792))) else (ab (aa 22 (iW (bif b3 then (1103806595071:UInt64) else 1099511627777)) (iW (ab (aa 24 (iW 1099511627777) (iW (ab (aa 23 (iW (ab (aa 26 (iW (D 10)) (iW 1099511627778)))) (iW 1099511627779)))))))))) (bif b4 then (ab (aa 22 (iW (bif b3 then (1103806595071:UInt64) else 1099511627777)) (iW (ab (aa 24 (iW 1099511627777) (iW (ab (aa 23 (iW (ab (aa 26 (iW (D 10)) (iW 1099511627778)))) (iW 1099511627779))))))))) else (ab (aa 21 (iW (ab (aa 23 (iW (ab (aa 26 (iW (D 10)) (iW 1099511627780)))) (iW 1099511627807)))) (iW 1099511627792)))) B1 YK V
 rw[←a0',←a1'] at G
 exact goE G (by cases b1<;>cases b2<;>cases b3<;>cases b4<;>rfl)
def bK (D:Nat→UInt64)(A:Nat→Addr):Array Slot:=#[.val (.int (iW (D 3))),.val (.int (iW (D 4))),.val (.int (iW (D 5))),.val (.int (iW (D 6))),.val (.int (iW (D 7))),.val (.int (iW (D 8))),.val (.int (iW (D 9))),.val (.int (iW (D 10))),.val (.int (iW (D 11))),.val (.int (iW (D 12))),.val (.int (iW (D 13))),.val (.int (iW (D 14))),.val (.int (iW (D 15))),.val (.int (iW (D 16))),.val (.int (iW (D 17))),.val (.int (iW (D 18))),.val (.int (iW (D 19))),.val (.int (iW (D 20))),.val (.int (iW (D 21))),.val (.int (iW (D 22))),.val (.int (iW (D 23))),.val (.int (iW (D 24))),.val (.int (iW (D 25))),.val (.int (iW (D 26))),.val (.int (iW (D 27))),.val (.int (iW (D 28))),.val (.int (iW (D 29))),.val (.ref (A 11)),.val (.ref (A 12)),.val (.int (iW (D 30))),.val (.int (iW (D 31))),.val (.ref (A 0)),.val (.int (iW (D 32))),.val (.int (iW (D 33))),.val (.int (iW (D 34))),.val (.int (iW (D 35))),.val (.int (iW (D 36))),.val (.int (iW (D 37))),.val (.int (iW (D 38))),.val (.int (iW (D 39))),.val (.int (iW (D 40))),.val (.int (iW (D 41))),.val (.ref (A 1)),.val (.ref (A 7)),.unset,.unset,.unset,.unset,.unset,.unset,.unset,.unset,.unset]
theorem gu (B:LWB p l e s m args below meth c T0 Z a0 h0 n0 L0 90 860)(D0:D 0=0)(Q:QM D)(J:JM D J0 J1)(V0:Jvm.FP.Core.DInt (iW (D 30)).toInt (D 1)∧Jvm.FP.Core.DInt (iW (D 31)).toInt (D 2))(het:iW (D 16)=0∨iW (D 16)=1∨iW (D 16)=2)(V:VF (D 30) (D 31) (D 32) (D 35) (D 36) (D 37) (D 40) (D 41))(HT:bl l Z n0 (iW (D 26)).toInt (iW (D 27)).toInt (iW (D 28)).toInt (iW (D 29)).toInt W lu)(Y:Yf Z n0 h0 (ap A K D W 0 ci++lu)):Go p e below (bw s (aV n0) 192 1792) T0 (mkF m 682 (bK D A) []):=by
 obtain⟨bv0,bv1,P1_,P2_⟩:=V
 rcases het with h16|h16|h16
 ·skip
  exact goE (QQ (D:=D) B D0 Q J V0 HT Y) (by simp only[bK];rw[h16];rfl)
 ·skip
  rcases P1_ with ⟨h32,H1⟩|⟨h32,H1⟩
  ·rcases au (am.mpr H1.pb.2.2.2) D0 with ⟨-,z1⟩|⟨-,z1⟩
   ·skip
    exact goE (IA (D:=D) B D0 Q J V0 H1 z1 HT Y) (by simp only[bK];rw[h16,h32];rfl)
   ·skip
    exact goE (Iz (D:=D) B D0 Q J V0 H1 z1 HT Y) (by simp only[bK];rw[h16,h32];rfl)
  ·rcases au (am.mpr H1.pb.2.2.2) D0 with ⟨-,z1⟩|⟨-,z1⟩
   ·skip
    exact goE (IC (D:=D) B D0 Q J V0 H1 z1 HT Y) (by simp only[bK];rw[h16,h32];rfl)
   ·skip
    exact goE (IB (D:=D) B D0 Q J V0 H1 z1 HT Y) (by simp only[bK];rw[h16,h32];rfl)
 ·skip
  rcases P1_ with ⟨h32,H1⟩|⟨h32,H1⟩
  ·rcases au (am.mpr H1.pb.2.2.2) D0 with ⟨-,z1⟩|⟨-,z1⟩
   ·skip
    rcases P2_ with ⟨h37,H2⟩|⟨h37,H2⟩
    ·rcases au (am.mpr H2.pb.2.2.2) D0 with ⟨-,z2⟩|⟨-,z2⟩
     ·skip
      exact goE (y2 (D:=D) B D0 Q J V0 H1 z1 H2 z2 HT Y) (by simp only[bK];rw[h16,h32,h37];rfl)
     ·skip
      exact goE (yZ (D:=D) B D0 Q J V0 H1 z1 H2 z2 HT Y) (by simp only[bK];rw[h16,h32,h37];rfl)
    ·rcases au (am.mpr H2.pb.2.2.2) D0 with ⟨-,z2⟩|⟨-,z2⟩
     ·skip
      exact goE (y4 (D:=D) B D0 Q J V0 H1 z1 H2 z2 HT Y) (by simp only[bK];rw[h16,h32,h37];rfl)
     ·skip
      exact goE (y3 (D:=D) B D0 Q J V0 H1 z1 H2 z2 HT Y) (by simp only[bK];rw[h16,h32,h37];rfl)
   ·skip
    rcases P2_ with ⟨h37,H2⟩|⟨h37,H2⟩
    ·rcases au (am.mpr H2.pb.2.2.2) D0 with ⟨-,z2⟩|⟨-,z2⟩
     ·skip
      exact goE (yW (D:=D) B D0 Q J V0 H1 z1 H2 z2 HT Y) (by simp only[bK];rw[h16,h32,h37];rfl)
     ·skip
      exact goE (yV (D:=D) B D0 Q J V0 H1 z1 H2 z2 HT Y) (by simp only[bK];rw[h16,h32,h37];rfl)
    ·rcases au (am.mpr H2.pb.2.2.2) D0 with ⟨-,z2⟩|⟨-,z2⟩
     ·skip
      exact goE (yY (D:=D) B D0 Q J V0 H1 z1 H2 z2 HT Y) (by simp only[bK];rw[h16,h32,h37];rfl)
     ·skip
      exact goE (yX (D:=D) B D0 Q J V0 H1 z1 H2 z2 HT Y) (by simp only[bK];rw[h16,h32,h37];rfl)
  ·rcases au (am.mpr H1.pb.2.2.2) D0 with ⟨-,z1⟩|⟨-,z1⟩
   ·skip
    rcases P2_ with ⟨h37,H2⟩|⟨h37,H2⟩
    ·rcases au (am.mpr H2.pb.2.2.2) D0 with ⟨-,z2⟩|⟨-,z2⟩
     ·skip
      exact goE (y_ (D:=D) B D0 Q J V0 H1 z1 H2 z2 HT Y) (by simp only[bK];rw[h16,h32,h37];rfl)
     ·skip
      exact goE (y9 (D:=D) B D0 Q J V0 H1 z1 H2 z2 HT Y) (by simp only[bK];rw[h16,h32,h37];rfl)
    ·rcases au (am.mpr H2.pb.2.2.2) D0 with ⟨-,z2⟩|⟨-,z2⟩
     ·skip
      exact goE (zc (D:=D) B D0 Q J V0 H1 z1 H2 z2 HT Y) (by simp only[bK];rw[h16,h32,h37];rfl)
     ·skip
      exact goE (zb (D:=D) B D0 Q J V0 H1 z1 H2 z2 HT Y) (by simp only[bK];rw[h16,h32,h37];rfl)
   ·skip
    rcases P2_ with ⟨h37,H2⟩|⟨h37,H2⟩
    ·rcases au (am.mpr H2.pb.2.2.2) D0 with ⟨-,z2⟩|⟨-,z2⟩
     ·skip
      exact goE (y6 (D:=D) B D0 Q J V0 H1 z1 H2 z2 HT Y) (by simp only[bK];rw[h16,h32,h37];rfl)
     ·skip
      exact goE (y5 (D:=D) B D0 Q J V0 H1 z1 H2 z2 HT Y) (by simp only[bK];rw[h16,h32,h37];rfl)
    ·rcases au (am.mpr H2.pb.2.2.2) D0 with ⟨-,z2⟩|⟨-,z2⟩
     ·skip
      exact goE (y8 (D:=D) B D0 Q J V0 H1 z1 H2 z2 HT Y) (by simp only[bK];rw[h16,h32,h37];rfl)
     ·skip
      exact goE (y7 (D:=D) B D0 Q J V0 H1 z1 H2 z2 HT Y) (by simp only[bK];rw[h16,h32,h37];rfl)
def cH (D:Nat→UInt64)(bs:Bool):Array Slot:=#[.val (.int (iW (D 5))),.val (.int (iW (D 6))),.val (.int (iW (D 7))),.val (.int (iW (D 8))),.val (.int (iW (D 9))),.val (.int (iW (D 10))),.val (.int (iW (D 11))),.val (.int (iW (D 12))),.val (.int (iW (D 13))),.val (.int (iW (D 14))),.val (.int (iW (D 15))),.val (.int (iW (D 16))),.val (.int (iW (D 17))),.val (.int (iW (D 18))),.val (.int (iW (D 19))),.val (.int (iW (D 20))),.val (.int (iW (D 21))),.val (.int (iW (D 22))),.val (.int (iW (D 23))),.val (.int (iW (D 24))),.val (.int (iW (D 25))),.val (.int (iW (D 26))),.val (.int (iW (D 27))),.val (.int (iW (D 1))),.val (.int (iW (D 2))),.val (.int (iW (D 3))),.val (.int (iW (D 4))),(bif bs then .val (.int (iW (D 28))) else .unset),(bif bs then .val (.int (iW (D 29))) else .unset),.unset,.unset,.unset,.unset,.unset,.unset,.unset,.unset,.unset,.unset,.unset,.unset,.unset,.unset,.unset,.unset,.unset,.unset,.unset,.unset,.unset,.unset,.unset,.unset]
def fF (D:Nat→UInt64)(w29 w30 w32 w33 w34 w35 w36 w37 w38 w39 w40 w41:UInt64):Nat→UInt64:=ac [0,FP.i2d (iW w29),FP.i2d (iW w30),D 5,D 6,D 7,D 8,D 9,D 10,D 11,D 12,D 13,D 14,D 15,D 16,D 17,D 18,D 19,D 20,D 21,D 22,D 23,D 24,D 25,D 26,D 27,D 1,D 2,D 3,D 4,w29,w30,w32,w33,w34,w35,w36,w37,w38,w39,w40,w41]
def aJ (J:List Nat)(A:Nat→Addr):Nat→Addr:=aP (J.map A)
def bC (J:List Nat)(K:Nat→ClassId):Nat→ClassId:=aQ (J.map K)
def bD (J:List Nat)(A:Nat→Addr):Nat→Value:=fun k => .ref (aJ J A k)
def QM4 (D:Nat→UInt64):Prop:=(-128≤(iW (D 1)).toInt∧(iW (D 1)).toInt≤128)∧(-128≤(iW (D 2)).toInt∧(iW (D 2)).toInt≤128)∧(-128≤(iW (D 3)).toInt∧(iW (D 3)).toInt≤128)∧(-128≤(iW (D 4)).toInt∧(iW (D 4)).toInt≤128)
def cO:Op:=(13,3,0,1)
def dH:AD:=aD [30]
def ix:Op:=(7,3,0,0)
theorem OU:∀bs:Bool,ai (run code aq 53 (8,192,1792,192) 471 36 [(NK,[],[0,1,2,19],[]),(NL,[],[0,3,4,19],[]),(NM,[],[0,1,2,19],[]),(NN,[],[0,3,4,19],[])] [] (411,#[sF 5,sF 6,sF 7,sF 8,sF 9,sF 10,sF 11,sF 12,sF 13,sF 14,sF 15,sF 16,sF 17,sF 18,sF 19,sF 20,sF 21,sF 22,sF 23,sF 24,sF 25,sF 26,sF 27,sF 1,sF 2,sF 3,sF 4,(bif bs then sF 28 else sU),(bif bs then sF 29 else sU),sU,sU,sU,sU,sU,sU,sU,sU,sU,sU,sU,sU,sU,sU,sU,sU,sU,sU,sU,sU,sU,sU,sU,sU],[],[],30,0,0)) (471,#[sF 5,sF 6,sF 7,sF 8,sF 9,sF 10,sF 11,sF 12,sF 13,sF 14,sF 15,sF 16,sF 17,sF 18,sF 19,sF 20,sF 21,sF 22,sF 23,sF 24,sF 25,sF 26,sF 27,sF 1,sF 2,sF 3,sF 4,sR 0,sR 3,sU,sU,sU,sU,sU,sU,sU,sU,sU,sU,sU,sU,sU,sU,sU,sU,sU,sU,sU,sU,sU,sU,sU,sU],[],[bE,aF,aG,bN,dH,aD [31]],32,6,8) [dq,dq,cO,(13,4,0,0),cO,dq,dq,fJ,cO,(13,4,0,0),cO,ix]=true:=by decide +kernel
def Ri:AD:=(2,0,[zq1,ay,vR 47,vR 48])
def Rj:AD:=(1,0,rS 50 3++[zq0])
def Rk:AD:=(1,0,rS 43 3++[zq0])
def Rl:AD:=(1,0,rS 39 3++[zq0])
def Rm:AD:=(1,0,rS 35 3++[zq0])
def Rn:AD:=(1,0,rS 31 3++[zq0])
def gv:AD:=aR 68 [59,61]
def gR:AD:=aR 67 [63,64]
def gw:AD:=aR 67 [58,60]
def oU:AD:=(4,0,rS 72 4)
def oV:AD:=(4,0,rS 67 4)
def G2:List Value:=[bF,vR 38,vR 42,vR 46,zq0]
def M2:AD:=(3,0,[vR 7]++rS 54 4++[vR 62,vR 66,vR 71,vR 76,zq0,zq0])
def gx:List AD:=[Rn,jA,je,gM,Rm,jA,je,gM,Rl,jA,je,gM,Rk,jA,je,gM,Ri,az,je,Rj,jA,je,gM]
def M3:List AD:=[bN,dH,aD [31],w8,(0,0,rS 8 13++[ay]++rS 21 10++G2)]
def OV:List AD:=[bE,aF,aG]++M3++f7++[za9,za4,aD [31,30],bv,bv,bv,bv,za9,za4]++gx++([M2,gw,gv,az,az,aF,dH,aG,aD [31],gR,aF,aG,bM,oV,za7,za2,fy,za2,oU]++vp)
def gS:Op:=(4,30,0,0)
def gy:Op:=(4,31,0,0)
def G3:Op:=(2,4591870180066957722,52,0)
def xt:List Op:=[gy,(11,46,4472406533629990549,1),gy,(5,0,47,0),(2,4591870180066957722,48,0),(10,46,49,1),gS,(11,50,4472406533629990549,1),gS,(5,0,51,0),G3,(10,50,53,1)]
def kg:Sc:=(Px,[7],[0],rp 13 (.null)++[zq0]++rp 14 (.null)++[zq0])
def kh:Sc:=(yo,[49],[0],qP)
def ki:List Value:=[vR 30,bF,vR 38,vR 42,vR 46]
def kj:List Value:=[ax,ax,zq0,zq0,zq0,zq0]
theorem OW:ai (run code aq 53 (8,192,1792,192) 682 17 [kg,kh,(JK,[0,1,2,3,4,5,7,12,14,21,22,23,24,25,26,27,28,29],[0,30,31],rS 8 4++[d4]++rS 15 6++ki++rp 5 zq0++kj)] [] (648,#[sF 5,sF 6,sF 7,sF 8,sF 9,sF 10,sF 11,sF 12,sF 13,sF 14,sF 15,sF 16,sF 17,sF 18,sF 19,sF 20,sF 21,sF 22,sF 23,sF 24,sF 25,sF 26,sF 27,sF 1,sF 2,sF 3,sF 4,sR 0,sR 3,sF 32,sF 33,sR 6,sF 34,sF 35,sF 36,sF 37,sF 38,sF 39,sF 40,sF 41,sF 42,sF 43,sU,sU,sU,sU,sU,sU,sU,sU,sU,sU,sU],[],[bE,aF,aG,bN,dH,aD [31],w8],46,7,14)) (682,#[sF 5,sF 6,sF 7,sF 8,sF 9,sF 10,sF 11,sF 12,sF 13,sF 14,sF 15,sF 16,sF 17,sF 18,sF 19,sF 20,sF 21,sF 22,sF 23,sF 24,sF 25,sF 26,sF 27,sF 1,sF 2,sF 3,sF 4,sR 0,sR 3,sF 32,sF 33,sR 6,sF 34,sF 35,sF 36,sF 37,sF 38,sF 39,sF 40,sF 41,sF 42,sF 43,sR 7,sR 49,sU,sU,sU,sU,sU,sU,sU,sU,sU],[],OV,54,79,817) xt=true:=by decide +kernel
def xu (D:Nat→UInt64)(w29 w30 w32 w33 w34 w35 w36 w37 w38 w39 w40 w41:UInt64):Nat→UInt64:=ac [0,D 1,D 2,D 3,D 4,D 5,D 6,D 7,D 8,D 9,D 10,D 11,D 12,D 13,D 14,D 15,D 16,D 17,D 18,D 19,D 20,D 21,D 22,D 23,D 24,D 25,D 26,D 27,0,0,FP.i2d (iW (D 2)),FP.i2d (iW (D 3)),w29,w30,w32,w33,w34,w35,w36,w37,w38,w39,w40,w41,FP.i2d (iW w29),FP.i2d (iW w30)]
theorem G4 {a u Lq Dd:Int}(bs:Bool)(B:LWB p l e s m args below meth c T0 Z a0 h0 n0 L0 0 0)(D0:D 0=0)(z0:(iW (D 1)).toInt=0)(z1:(iW (D 2)).toInt≠0)(z2:(iW (D 3)).toInt≠0)(z3:(iW (D 4)).toInt=0)(Q:QM4 D)(het:iW (D 18)=0∨iW (D 18)=1∨iW (D 18)=2)(hJ:∀i0 i1:Int,(-65536≤i0∧i0≤65536)→(-65536≤i1∧i1≤65536)→∃J0 J1,JT (iW (D 1)).toInt (iW (D 2)).toInt (iW (D 3)).toInt (iW (D 4)).toInt J0 J1 i0 i1)(S:S7 (u=0) (Lq=0) a u Lq Dd (iW (D 3)).toInt (iW (D 4)).toInt (iW (D 1)).toInt (iW (D 2)).toInt (FP.i2d (iW (D 3))) (FP.i2d (iW (D 2))))(hv:∀w29 w30 w32 w33 w34 w35 w36 w37 w38 w39 w40 w41:UInt64,okv xt 46 (xu D w29 w30 w32 w33 w34 w35 w36 w37 w38 w39 w40 w41)):Go p e below (bw s (aV n0) 192 1792) T0 (mkF m 411 (cH D bs) []):=by
 refine goE (aY (A:=fun _=>0) (K:=fun _=>0) (D:=D) (W:=fun _ => .null) (OU bs) (scS Pj (scS Pl (scS Pn (scS Pp sc0)))) B YgF.nil D0 (by decide) ⟨z0,z0,z2,z3,z2,z0,z0,trivial,z2,z3,z2,trivial,trivial⟩ ?_) (by cases bs<;>(simp only[cH];rfl))
 intro T1 h1 L1 A1 K1 B1 hA1 Kp1 f1 Y1
 have YA:Yf Z n0 h1 ([(A1 0,K1 0,67,2,[.ref (A1 1),.ref (A1 2)]),(A1 3,K1 3,68,2,[.ref (A1 4),.ref (A1 5)])]++[(A1 1,K1 1,64,1,[.int 1]),(A1 2,K1 2,64,1,[.int 0]),(A1 4,K1 4,65,1,[.double (FP.i2d (iW (D 2)))]),(A1 5,K1 5,65,1,[.double (FP.i2d (iW (D 3)))])]):=Yf.pick Y1.fl [0,3,1,2,4,5] (by decide) rfl
 refine goE (eP (D:=D) (B1.more (by decide) (by decide)) D0 YA ?_) (by simp only[f_];rfl)
 intro T2 h2 L2 vv kv w29 w30 w32 w33 w34 w35 w36 w37 w38 w39 w40 w41 B2 Y2 V
 have YB:YgF Z n0 h2 (aP [A1 0,A1 1,A1 2,A1 3,A1 4,A1 5,vv]) (aQ [K1 0,K1 1,K1 2,K1 3,K1 4,K1 5,kv]) (xu D w29 w30 w32 w33 w34 w35 w36 w37 w38 w39 w40 w41) (fun _ => .null) [aR 67 [1,2],aI [1],aI [0],aR 68 [4,5],aD [30],aD [31],aD [44,45]]:=Yf.to (Yf.pick (os':=ap (aP [A1 0,A1 1,A1 2,A1 3,A1 4,A1 5,vv]) (aQ [K1 0,K1 1,K1 2,K1 3,K1 4,K1 5,kv]) (xu D w29 w30 w32 w33 w34 w35 w36 w37 w38 w39 w40 w41) (fun _ => .null) 0 [aR 67 [1,2],aI [1],aI [0],aR 68 [4,5],aD [30],aD [31],aD [44,45]]) Y2 [0,3,4,1,5,6,2] (by decide) rfl) rfl
 refine goE (aY (A:=(aP [A1 0,A1 1,A1 2,A1 3,A1 4,A1 5,vv])) (K:=(aQ [K1 0,K1 1,K1 2,K1 3,K1 4,K1 5,kv])) (D:=(xu D w29 w30 w32 w33 w34 w35 w36 w37 w38 w39 w40 w41)) (W:=fun _ => .null) OW (scS jC (scS h9 (scS PS sc0))) B2 YB rfl (by decide) (hv w29 w30 w32 w33 w34 w35 w36 w37 w38 w39 w40 w41) ?_) (by simp only[gf];rfl)
 intro T3 h3 L3 A3 K3 B3 hA3 Kp3 f3 Y3
 have HT:=QD (l:=l) (Z:=Z) (n0:=n0) (la:=(aJ [21,22,23,24,8,9,27,14,15] A3)) (kl:=(bC [21,22,23,24,8,9,27,14,15] K3)) (g:=(bD [8,9,10,11,12,13,14,15,0,21,22,23,24,25,26,27,28,29,30,34,38,42,46,1,2,4,5] A3)) S
 obtain⟨J0,J1,J⟩:=hJ (iW w29).toInt (iW w30).toInt V.1 V.2.1
 exact goE (gu (A:=aJ [6,7,16,17,18,19,20,49,50,51,52,0,3] A3) (K:=bC [6,7,16,17,18,19,20,49,50,51,52,0,3] K3) (D:=(fF D w29 w30 w32 w33 w34 w35 w36 w37 w38 w39 w40 w41)) (W:=tmL (bD [8,9,10,11,12,13,14,15,0,21,22,23,24,25,26,27,28,29,30,34,38,42,46,1,2,4,5] A3) (aJ [21,22,23,24,8,9,27,14,15] A3)) (J0:=J0) (J1:=J1) (B3.more (by decide) (by decide)) rfl Q J ⟨Jvm.FP.Core.i2d_int _,Jvm.FP.Core.i2d_int _⟩ het V HT (Yf.pick Y3.fl [6,7,16,17,18,19,20,49,50,51,52,0,3,21,22,23,24,8,9,27,14,15] (by decide) rfl)) (by simp only[bK];rfl)
def fS:AD:=aD [31,32]
def fT:Op:=(13,4,0,1)
def iy:Op:=(7,4,0,0)
def xv:Sc:=(BE,[],[0,3,4],[])
def xw:Sc:=(BC,[],[0,3,4],[])
theorem G5:∀bs:Bool,ai (run code aq 53 (8,192,1792,192) 471 36 [(BB,[],[0,1,2],[]),xw,(BD,[],[0,1,2],[]),xv] [] (411,#[sF 5,sF 6,sF 7,sF 8,sF 9,sF 10,sF 11,sF 12,sF 13,sF 14,sF 15,sF 16,sF 17,sF 18,sI 0,sF 20,sF 21,sF 22,sF 23,sF 24,sF 25,sF 26,sF 27,sF 1,sF 2,sF 3,sF 4,(bif bs then sF 28 else sU),(bif bs then sF 29 else sU),sU,sU,sU,sU,sU,sU,sU,sU,sU,sU,sU,sU,sU,sU,sU,sU,sU,sU,sU,sU,sU,sU,sU,sU],[],[],30,0,0)) (471,#[sF 5,sF 6,sF 7,sF 8,sF 9,sF 10,sF 11,sF 12,sF 13,sF 14,sF 15,sF 16,sF 17,sF 18,sI 0,sF 20,sF 21,sF 22,sF 23,sF 24,sF 25,sF 26,sF 27,sF 1,sF 2,sF 3,sF 4,sR 0,sR 3,sU,sU,sU,sU,sU,sU,sU,sU,sU,sU,sU,sU,sU,sU,sU,sU,sU,sU,sU,sU,sU,sU,sU,sU],[],[bE,aF,za4,bN,dH,fS],33,6,10) [dq,dq,cO,fT,dq,dq,fJ,cO,fT,ix,iy]=true:=by decide +kernel
def s7:AD:=(0,0,[vR 77,vR 78,dr,vR 11,vR 79,vR 80]++rS 14 7++[ay]++rS 21 10++G2)
def s9:AD:=(3,0,[vR 7]++rS 54 4++[vR 62,vR 66,vR 71,vR 76,zq3,zq0])
def fU:AD:=aD [45,46]
def lN:List AD:=[oV,za7,za2,za2,za2,oU,za7,za2,za2,za2,za2]
def G6:List AD:=[bE,aF,za4,bN,dH,fS,fU,s7]++f7++[za9,za4,aD [31,30],dU,bv,iw,bv,za9,za4]++gx++([s9,gw,gv,za4,az,aF,dH,bM,aD [32,32],gR,aF,za4,d5]++lN++[za9,aD [32,0],az,aD [32,0],za4,az])
def M4:Op:=(11,53,4472406533629990549,1)
def M5:Op:=(11,47,4472406533629990549,1)
def M6:Op:=(2,4591870180066957722,55,0)
def M7:Op:=(2,4591870180066957722,51,0)
def lO:Op:=(4,32,0,0)
def M8:Op:=(10,53,56,1)
def M9:Op:=(10,47,52,1)
def M_:Op:=(5,49,50,0)
def Na:Op:=(5,0,54,0)
def Nb:Op:=(5,0,48,0)
def xx:List Op:=[M5,gy,Nb,lO,M_,M7,M9,gS,M4,gS,Na,M6,M8]
def oW:List Op:=[gy]++xx
def lP:List Value:=[dr,vR 11]
theorem G7:ai (run code aq 53 (8,192,1792,192) 682 17 [kg,kh,(KW,[0,1,2,3,4,5,7,8,9,12,13,14,21,22,23,24,25,26,27,28,29],[0,30,31,32],lP++rS 15 6++ki++rp 5 zq0++kj)] [] (648,#[sF 5,sF 6,sF 7,sF 8,sF 9,sF 10,sF 11,sF 12,sF 13,sF 14,sF 15,sF 16,sF 17,sF 18,sI 0,sF 20,sF 21,sF 22,sF 23,sF 24,sF 25,sF 26,sF 27,sF 1,sF 2,sF 3,sF 4,sR 0,sR 3,sF 33,sF 34,sR 6,sF 35,sF 36,sF 37,sF 38,sF 39,sF 40,sF 41,sF 42,sF 43,sF 44,sU,sU,sU,sU,sU,sU,sU,sU,sU,sU,sU],[],[bE,aF,za4,bN,dH,fS,fU],47,7,14)) (682,#[sF 5,sF 6,sF 7,sF 8,sF 9,sF 10,sF 11,sF 12,sF 13,sF 14,sF 15,sF 16,sF 17,sF 18,sI 0,sF 20,sF 21,sF 22,sF 23,sF 24,sF 25,sF 26,sF 27,sF 1,sF 2,sF 3,sF 4,sR 0,sR 3,sF 33,sF 34,sR 6,sF 35,sF 36,sF 37,sF 38,sF 39,sF 40,sF 41,sF 42,sF 43,sF 44,sR 7,sR 49,sU,sU,sU,sU,sU,sU,sU,sU,sU],[],G6,57,83,828) oW=true:=by decide +kernel
def l7 (D:Nat→UInt64)(w29 w30 w32 w33 w34 w35 w36 w37 w38 w39 w40 w41:UInt64):Nat→UInt64:=ac [0,D 1,D 2,D 3,D 4,D 5,D 6,D 7,D 8,D 9,D 10,D 11,D 12,D 13,D 14,D 15,D 16,D 17,D 18,D 19,D 20,D 21,D 22,D 23,D 24,D 25,D 26,D 27,0,0,FP.i2d (iW (D 2)),FP.i2d (iW (D 3)),FP.i2d (iW (D 4)),w29,w30,w32,w33,w34,w35,w36,w37,w38,w39,w40,w41,FP.i2d (iW w29),FP.i2d (iW w30)]
theorem uk {a u Lq Dd:Int}(bs:Bool)(B:LWB p l e s m args below meth c T0 Z a0 h0 n0 L0 0 0)(D0:D 0=0)(hrev:iW (D 19)=0)(z0:(iW (D 1)).toInt=0)(z1:(iW (D 2)).toInt≠0)(z2:(iW (D 3)).toInt≠0)(z3:(iW (D 4)).toInt≠0)(Q:QM4 D)(het:iW (D 18)=0∨iW (D 18)=1∨iW (D 18)=2)(hJ:∀i0 i1:Int,(-65536≤i0∧i0≤65536)→(-65536≤i1∧i1≤65536)→∃J0 J1,JT (iW (D 1)).toInt (iW (D 2)).toInt (iW (D 3)).toInt (iW (D 4)).toInt J0 J1 i0 i1)(S:S7 (ah u 0 (FP.i2d (iW (D 4)))) (Lq=0) a u Lq Dd (iW (D 3)).toInt (iW (D 4)).toInt (iW (D 1)).toInt (iW (D 2)).toInt (FP.i2d (iW (D 3))) (FP.i2d (iW (D 2))))(hv:∀w29 w30 w32 w33 w34 w35 w36 w37 w38 w39 w40 w41:UInt64,okv oW 47 (l7 D w29 w30 w32 w33 w34 w35 w36 w37 w38 w39 w40 w41)):Go p e below (bw s (aV n0) 192 1792) T0 (mkF m 411 (cH D bs) []):=by
 refine goE (aY (A:=fun _=>0) (K:=fun _=>0) (D:=D) (W:=fun _ => .null) (G5 bs) (scS JO (scS kY (scS JS (scS kZ sc0)))) B YgF.nil D0 (by decide) ⟨z0,z0,z2,z3,z0,z0,trivial,z2,z3,trivial,trivial,trivial⟩ ?_) (by cases bs<;>(simp only[cH];rw[hrev];rfl))
 intro T1 h1 L1 A1 K1 B1 hA1 Kp1 f1 Y1
 have YA:Yf Z n0 h1 ([(A1 0,K1 0,67,2,[.ref (A1 1),.ref (A1 2)]),(A1 3,K1 3,68,2,[.ref (A1 4),.ref (A1 5)])]++[(A1 1,K1 1,64,1,[.int 1]),(A1 2,K1 2,64,2,[.int 0,.int 1]),(A1 4,K1 4,65,1,[.double (FP.i2d (iW (D 2)))]),(A1 5,K1 5,65,2,[.double (FP.i2d (iW (D 3))),.double (FP.i2d (iW (D 4)))])]):=Yf.pick Y1.fl [0,3,1,2,4,5] (by decide) rfl
 refine goE (eP (D:=D) (B1.more (by decide) (by decide)) D0 YA ?_) (by simp only[f_];rw[hrev];rfl)
 intro T2 h2 L2 vv kv w29 w30 w32 w33 w34 w35 w36 w37 w38 w39 w40 w41 B2 Y2 V
 have YB:YgF Z n0 h2 (aP [A1 0,A1 1,A1 2,A1 3,A1 4,A1 5,vv]) (aQ [K1 0,K1 1,K1 2,K1 3,K1 4,K1 5,kv]) (l7 D w29 w30 w32 w33 w34 w35 w36 w37 w38 w39 w40 w41) (fun _ => .null) [aR 67 [1,2],aI [1],aI [0,1],aR 68 [4,5],aD [30],aD [31,32],aD [45,46]]:=Yf.to (Yf.pick (os':=ap (aP [A1 0,A1 1,A1 2,A1 3,A1 4,A1 5,vv]) (aQ [K1 0,K1 1,K1 2,K1 3,K1 4,K1 5,kv]) (l7 D w29 w30 w32 w33 w34 w35 w36 w37 w38 w39 w40 w41) (fun _ => .null) 0 [aR 67 [1,2],aI [1],aI [0,1],aR 68 [4,5],aD [30],aD [31,32],aD [45,46]]) Y2 [0,3,4,1,5,6,2] (by decide) rfl) rfl
 refine goE (aY (A:=(aP [A1 0,A1 1,A1 2,A1 3,A1 4,A1 5,vv])) (K:=(aQ [K1 0,K1 1,K1 2,K1 3,K1 4,K1 5,kv])) (D:=(l7 D w29 w30 w32 w33 w34 w35 w36 w37 w38 w39 w40 w41)) (W:=fun _ => .null) G7 (scS jC (scS h9 (scS P9 sc0))) B2 YB rfl (by decide) (hv w29 w30 w32 w33 w34 w35 w36 w37 w38 w39 w40 w41) ?_) (by simp only[gf];rw[hrev];rfl)
 intro T3 h3 L3 A3 K3 B3 hA3 Kp3 f3 Y3
 have HT:=FO (l:=l) (Z:=Z) (n0:=n0) (la:=(aJ [21,22,23,24,77,78,27,14,15] A3)) (kl:=(bC [21,22,23,24,77,78,27,14,15] K3)) (g:=(bD [77,78,10,11,79,80,14,15,0,21,22,23,24,25,26,27,28,29,30,34,38,42,46,1,2,4,5] A3)) S
 obtain⟨J0,J1,J⟩:=hJ (iW w29).toInt (iW w30).toInt V.1 V.2.1
 exact goE (gu (A:=aJ [6,7,16,17,18,19,20,49,50,51,52,0,3] A3) (K:=bC [6,7,16,17,18,19,20,49,50,51,52,0,3] K3) (D:=(fF D w29 w30 w32 w33 w34 w35 w36 w37 w38 w39 w40 w41)) (W:=tmL (bD [77,78,10,11,79,80,14,15,0,21,22,23,24,25,26,27,28,29,30,34,38,42,46,1,2,4,5] A3) (aJ [21,22,23,24,77,78,27,14,15] A3)) (J0:=J0) (J1:=J1) (B3.more (by decide) (by decide)) rfl Q J ⟨Jvm.FP.Core.i2d_int _,Jvm.FP.Core.i2d_int _⟩ het V HT (Yf.pick Y3.fl [6,7,16,17,18,19,20,49,50,51,52,0,3,21,22,23,24,77,78,27,14,15] (by decide) rfl)) (by simp only[bK];rw[show iW ((fF D w29 w30 w32 w33 w34 w35 w36 w37 w38 w39 w40 w41) 17)=0 from hrev];rfl)
def xy:Sc:=(BW,[],[0,3,4],[])
def xz:Sc:=(BU,[],[0,3,4],[])
theorem G8:∀bs:Bool,ai (run code aq 53 (8,192,1792,192) 471 36 [(BT,[],[0,1,2],[]),xz,(BV,[],[0,1,2],[]),xy] [] (411,#[sF 5,sF 6,sF 7,sF 8,sF 9,sF 10,sF 11,sF 12,sF 13,sF 14,sF 15,sF 16,sF 17,sF 18,sI 1,sF 20,sF 21,sF 22,sF 23,sF 24,sF 25,sF 26,sF 27,sF 1,sF 2,sF 3,sF 4,(bif bs then sF 28 else sU),(bif bs then sF 29 else sU),sU,sU,sU,sU,sU,sU,sU,sU,sU,sU,sU,sU,sU,sU,sU,sU,sU,sU,sU,sU,sU,sU,sU,sU],[],[],30,0,0)) (471,#[sF 5,sF 6,sF 7,sF 8,sF 9,sF 10,sF 11,sF 12,sF 13,sF 14,sF 15,sF 16,sF 17,sF 18,sI 1,sF 20,sF 21,sF 22,sF 23,sF 24,sF 25,sF 26,sF 27,sF 1,sF 2,sF 3,sF 4,sR 0,sR 3,sU,sU,sU,sU,sU,sU,sU,sU,sU,sU,sU,sU,sU,sU,sU,sU,sU,sU,sU,sU,sU,sU,sU,sU],[],[bE,aF,za9,bN,dH,fS],33,6,10) [dq,dq,cO,fT,dq,dq,fJ,cO,fT,iy,ix]=true:=by decide +kernel
def i_:AD:=aD [31,0]
def G9:List AD:=[bE,aF,za9,bN,dH,fS,fU,s7]++f7++[za9,za4,aD [32,30],dU,bv,iw,bv,za9,za4]++gx++([s9,gw,gv,za4,az,aF,dH,za9,fS,gR,aF,za4,d5]++lN++[za9,i_,az,i_,za4,az])
def oY:List Op:=[lO]++xx
theorem G_:ai (run code aq 53 (8,192,1792,192) 682 17 [kg,kh,(Lj,[0,1,2,3,4,5,7,8,9,12,13,14,21,22,23,24,25,26,27,28,29],[0,30,31,32],lP++rS 15 6++ki++rp 5 zq0++kj)] [] (648,#[sF 5,sF 6,sF 7,sF 8,sF 9,sF 10,sF 11,sF 12,sF 13,sF 14,sF 15,sF 16,sF 17,sF 18,sI 1,sF 20,sF 21,sF 22,sF 23,sF 24,sF 25,sF 26,sF 27,sF 1,sF 2,sF 3,sF 4,sR 0,sR 3,sF 33,sF 34,sR 6,sF 35,sF 36,sF 37,sF 38,sF 39,sF 40,sF 41,sF 42,sF 43,sF 44,sU,sU,sU,sU,sU,sU,sU,sU,sU,sU,sU],[],[bE,aF,za9,bN,dH,fS,fU],47,7,14)) (682,#[sF 5,sF 6,sF 7,sF 8,sF 9,sF 10,sF 11,sF 12,sF 13,sF 14,sF 15,sF 16,sF 17,sF 18,sI 1,sF 20,sF 21,sF 22,sF 23,sF 24,sF 25,sF 26,sF 27,sF 1,sF 2,sF 3,sF 4,sR 0,sR 3,sF 33,sF 34,sR 6,sF 35,sF 36,sF 37,sF 38,sF 39,sF 40,sF 41,sF 42,sF 43,sF 44,sR 7,sR 49,sU,sU,sU,sU,sU,sU,sU,sU,sU],[],G9,57,83,828) oY=true:=by decide +kernel
def l8 (D:Nat→UInt64)(w29 w30 w32 w33 w34 w35 w36 w37 w38 w39 w40 w41:UInt64):Nat→UInt64:=ac [0,D 1,D 2,D 3,D 4,D 5,D 6,D 7,D 8,D 9,D 10,D 11,D 12,D 13,D 14,D 15,D 16,D 17,D 18,D 19,D 20,D 21,D 22,D 23,D 24,D 25,D 26,D 27,0,0,FP.i2d (iW (D 2)),FP.i2d (iW (D 4)),FP.i2d (iW (D 3)),w29,w30,w32,w33,w34,w35,w36,w37,w38,w39,w40,w41,FP.i2d (iW w29),FP.i2d (iW w30)]
theorem ul {a u Lq Dd:Int}(bs:Bool)(B:LWB p l e s m args below meth c T0 Z a0 h0 n0 L0 0 0)(D0:D 0=0)(hrev:iW (D 19)=1)(z0:(iW (D 1)).toInt=0)(z1:(iW (D 2)).toInt≠0)(z2:(iW (D 3)).toInt≠0)(z3:(iW (D 4)).toInt≠0)(Q:QM4 D)(het:iW (D 18)=0∨iW (D 18)=1∨iW (D 18)=2)(hJ:∀i0 i1:Int,(-65536≤i0∧i0≤65536)→(-65536≤i1∧i1≤65536)→∃J0 J1,JT (iW (D 1)).toInt (iW (D 2)).toInt (iW (D 3)).toInt (iW (D 4)).toInt J0 J1 i0 i1)(S:S7 (ah u 0 (FP.i2d (iW (D 4)))) (Lq=0) a u Lq Dd (iW (D 3)).toInt (iW (D 4)).toInt (iW (D 1)).toInt (iW (D 2)).toInt (FP.i2d (iW (D 3))) (FP.i2d (iW (D 2))))(hv:∀w29 w30 w32 w33 w34 w35 w36 w37 w38 w39 w40 w41:UInt64,okv oY 47 (l8 D w29 w30 w32 w33 w34 w35 w36 w37 w38 w39 w40 w41)):Go p e below (bw s (aV n0) 192 1792) T0 (mkF m 411 (cH D bs) []):=by
 refine goE (aY (A:=fun _=>0) (K:=fun _=>0) (D:=D) (W:=fun _ => .null) (G8 bs) (scS KZ (scS lw (scS K5 (scS lx sc0)))) B YgF.nil D0 (by decide) ⟨z0,z0,z2,z3,z0,z0,trivial,z2,z3,trivial,trivial,trivial⟩ ?_) (by cases bs<;>(simp only[cH];rw[hrev];rfl))
 intro T1 h1 L1 A1 K1 B1 hA1 Kp1 f1 Y1
 have YA:Yf Z n0 h1 ([(A1 0,K1 0,67,2,[.ref (A1 1),.ref (A1 2)]),(A1 3,K1 3,68,2,[.ref (A1 4),.ref (A1 5)])]++[(A1 1,K1 1,64,1,[.int 1]),(A1 2,K1 2,64,2,[.int 1,.int 0]),(A1 4,K1 4,65,1,[.double (FP.i2d (iW (D 2)))]),(A1 5,K1 5,65,2,[.double (FP.i2d (iW (D 4))),.double (FP.i2d (iW (D 3)))])]):=Yf.pick Y1.fl [0,3,1,2,4,5] (by decide) rfl
 refine goE (eP (D:=D) (B1.more (by decide) (by decide)) D0 YA ?_) (by simp only[f_];rw[hrev];rfl)
 intro T2 h2 L2 vv kv w29 w30 w32 w33 w34 w35 w36 w37 w38 w39 w40 w41 B2 Y2 V
 have YB:YgF Z n0 h2 (aP [A1 0,A1 1,A1 2,A1 3,A1 4,A1 5,vv]) (aQ [K1 0,K1 1,K1 2,K1 3,K1 4,K1 5,kv]) (l8 D w29 w30 w32 w33 w34 w35 w36 w37 w38 w39 w40 w41) (fun _ => .null) [aR 67 [1,2],aI [1],aI [1,0],aR 68 [4,5],aD [30],aD [31,32],aD [45,46]]:=Yf.to (Yf.pick (os':=ap (aP [A1 0,A1 1,A1 2,A1 3,A1 4,A1 5,vv]) (aQ [K1 0,K1 1,K1 2,K1 3,K1 4,K1 5,kv]) (l8 D w29 w30 w32 w33 w34 w35 w36 w37 w38 w39 w40 w41) (fun _ => .null) 0 [aR 67 [1,2],aI [1],aI [1,0],aR 68 [4,5],aD [30],aD [31,32],aD [45,46]]) Y2 [0,3,4,1,5,6,2] (by decide) rfl) rfl
 refine goE (aY (A:=(aP [A1 0,A1 1,A1 2,A1 3,A1 4,A1 5,vv])) (K:=(aQ [K1 0,K1 1,K1 2,K1 3,K1 4,K1 5,kv])) (D:=(l8 D w29 w30 w32 w33 w34 w35 w36 w37 w38 w39 w40 w41)) (W:=fun _ => .null) G_ (scS jC (scS h9 (scS Qc sc0))) B2 YB rfl (by decide) (hv w29 w30 w32 w33 w34 w35 w36 w37 w38 w39 w40 w41) ?_) (by simp only[gf];rw[hrev];rfl)
 intro T3 h3 L3 A3 K3 B3 hA3 Kp3 f3 Y3
 have HT:=FO (l:=l) (Z:=Z) (n0:=n0) (la:=(aJ [21,22,23,24,77,78,27,14,15] A3)) (kl:=(bC [21,22,23,24,77,78,27,14,15] K3)) (g:=(bD [77,78,10,11,79,80,14,15,0,21,22,23,24,25,26,27,28,29,30,34,38,42,46,1,2,4,5] A3)) S
 obtain⟨J0,J1,J⟩:=hJ (iW w29).toInt (iW w30).toInt V.1 V.2.1
 exact goE (gu (A:=aJ [6,7,16,17,18,19,20,49,50,51,52,0,3] A3) (K:=bC [6,7,16,17,18,19,20,49,50,51,52,0,3] K3) (D:=(fF D w29 w30 w32 w33 w34 w35 w36 w37 w38 w39 w40 w41)) (W:=tmL (bD [77,78,10,11,79,80,14,15,0,21,22,23,24,25,26,27,28,29,30,34,38,42,46,1,2,4,5] A3) (aJ [21,22,23,24,77,78,27,14,15] A3)) (J0:=J0) (J1:=J1) (B3.more (by decide) (by decide)) rfl Q J ⟨Jvm.FP.Core.i2d_int _,Jvm.FP.Core.i2d_int _⟩ het V HT (Yf.pick Y3.fl [6,7,16,17,18,19,20,49,50,51,52,0,3,21,22,23,24,77,78,27,14,15] (by decide) rfl)) (by simp only[bK];rw[show iW ((fF D w29 w30 w32 w33 w34 w35 w36 w37 w38 w39 w40 w41) 17)=1 from hrev];rfl)
def hY:Op:=(13,3,0,0)
theorem OX:∀bs:Bool,ai (run code aq 53 (8,192,1792,192) 471 36 [(NL,[],[0,1,2,19],[]),(NK,[],[0,3,4,19],[]),(NN,[],[0,1,2,19],[]),(NM,[],[0,3,4,19],[])] [] (411,#[sF 5,sF 6,sF 7,sF 8,sF 9,sF 10,sF 11,sF 12,sF 13,sF 14,sF 15,sF 16,sF 17,sF 18,sF 19,sF 20,sF 21,sF 22,sF 23,sF 24,sF 25,sF 26,sF 27,sF 1,sF 2,sF 3,sF 4,(bif bs then sF 28 else sU),(bif bs then sF 29 else sU),sU,sU,sU,sU,sU,sU,sU,sU,sU,sU,sU,sU,sU,sU,sU,sU,sU,sU,sU,sU,sU,sU,sU,sU],[],[],30,0,0)) (471,#[sF 5,sF 6,sF 7,sF 8,sF 9,sF 10,sF 11,sF 12,sF 13,sF 14,sF 15,sF 16,sF 17,sF 18,sF 19,sF 20,sF 21,sF 22,sF 23,sF 24,sF 25,sF 26,sF 27,sF 1,sF 2,sF 3,sF 4,sR 0,sR 3,sU,sU,sU,sU,sU,sU,sU,sU,sU,sU,sU,sU,sU,sU,sU,sU,sU,sU,sU,sU,sU,sU,sU,sU],[],[bE,aG,aF,bN,dH,aD [31]],32,6,8) [cE,g7,cE,hY,hY,cE,g7,cE,fK,hY,hY,iy]=true:=by decide +kernel
def fg:AD:=aD [30,31]
def OY:List AD:=[bE,aG,aF]++M3++f7++[za4,za4,fg,bv,bv,bv,bv,za4,za4]++gx++([M2,gw,gv,az,az,aG,dH,aF,aD [31],gR,aG,aF,bM,oV,za7,ft,za2,za2,oU]++vp)
def xB:List Op:=[gS,(11,46,4472406533629990549,1),gS,(5,0,47,0),(2,4591870180066957722,48,0),(10,46,49,1),gy,(11,50,4472406533629990549,1),gy,(5,0,51,0),G3,(10,50,53,1)]
theorem OZ:ai (run code aq 53 (8,192,1792,192) 682 17 [kg,kh,(LG,[0,1,2,3,4,5,7,12,14,21,22,23,24,25,26,27,28,29],[0,30,31],rS 8 4++[d4]++rS 15 6++ki++rp 5 zq0++kj)] [] (648,#[sF 5,sF 6,sF 7,sF 8,sF 9,sF 10,sF 11,sF 12,sF 13,sF 14,sF 15,sF 16,sF 17,sF 18,sF 19,sF 20,sF 21,sF 22,sF 23,sF 24,sF 25,sF 26,sF 27,sF 1,sF 2,sF 3,sF 4,sR 0,sR 3,sF 32,sF 33,sR 6,sF 34,sF 35,sF 36,sF 37,sF 38,sF 39,sF 40,sF 41,sF 42,sF 43,sU,sU,sU,sU,sU,sU,sU,sU,sU,sU,sU],[],[bE,aG,aF,bN,dH,aD [31],w8],46,7,14)) (682,#[sF 5,sF 6,sF 7,sF 8,sF 9,sF 10,sF 11,sF 12,sF 13,sF 14,sF 15,sF 16,sF 17,sF 18,sF 19,sF 20,sF 21,sF 22,sF 23,sF 24,sF 25,sF 26,sF 27,sF 1,sF 2,sF 3,sF 4,sR 0,sR 3,sF 32,sF 33,sR 6,sF 34,sF 35,sF 36,sF 37,sF 38,sF 39,sF 40,sF 41,sF 42,sF 43,sR 7,sR 49,sU,sU,sU,sU,sU,sU,sU,sU,sU],[],OY,54,79,817) xB=true:=by decide +kernel
def xC (D:Nat→UInt64)(w29 w30 w32 w33 w34 w35 w36 w37 w38 w39 w40 w41:UInt64):Nat→UInt64:=ac [0,D 1,D 2,D 3,D 4,D 5,D 6,D 7,D 8,D 9,D 10,D 11,D 12,D 13,D 14,D 15,D 16,D 17,D 18,D 19,D 20,D 21,D 22,D 23,D 24,D 25,D 26,D 27,0,0,FP.i2d (iW (D 1)),FP.i2d (iW (D 4)),w29,w30,w32,w33,w34,w35,w36,w37,w38,w39,w40,w41,FP.i2d (iW w29),FP.i2d (iW w30)]
theorem Ha {a u Lq Dd:Int}(bs:Bool)(B:LWB p l e s m args below meth c T0 Z a0 h0 n0 L0 0 0)(D0:D 0=0)(z0:(iW (D 1)).toInt≠0)(z1:(iW (D 2)).toInt=0)(z2:(iW (D 3)).toInt=0)(z3:(iW (D 4)).toInt≠0)(Q:QM4 D)(het:iW (D 18)=0∨iW (D 18)=1∨iW (D 18)=2)(hJ:∀i0 i1:Int,(-65536≤i0∧i0≤65536)→(-65536≤i1∧i1≤65536)→∃J0 J1,JT (iW (D 1)).toInt (iW (D 2)).toInt (iW (D 3)).toInt (iW (D 4)).toInt J0 J1 i0 i1)(S:S7 (u=0) (Lq=0) a u Lq Dd (iW (D 1)).toInt (iW (D 2)).toInt (iW (D 3)).toInt (iW (D 4)).toInt (FP.i2d (iW (D 1))) (FP.i2d (iW (D 4))))(hv:∀w29 w30 w32 w33 w34 w35 w36 w37 w38 w39 w40 w41:UInt64,okv xB 46 (xC D w29 w30 w32 w33 w34 w35 w36 w37 w38 w39 w40 w41)):Go p e below (bw s (aV n0) 192 1792) T0 (mkF m 411 (cH D bs) []):=by
 refine goE (aY (A:=fun _=>0) (K:=fun _=>0) (D:=D) (W:=fun _ => .null) (OX bs) (scS Pl (scS Pj (scS Pp (scS Pn sc0)))) B YgF.nil D0 (by decide) ⟨z0,z1,z0,z2,z2,z0,z1,z0,trivial,z2,z2,trivial,trivial⟩ ?_) (by cases bs<;>(simp only[cH];rfl))
 intro T1 h1 L1 A1 K1 B1 hA1 Kp1 f1 Y1
 have YA:Yf Z n0 h1 ([(A1 0,K1 0,67,2,[.ref (A1 1),.ref (A1 2)]),(A1 3,K1 3,68,2,[.ref (A1 4),.ref (A1 5)])]++[(A1 1,K1 1,64,1,[.int 0]),(A1 2,K1 2,64,1,[.int 1]),(A1 4,K1 4,65,1,[.double (FP.i2d (iW (D 1)))]),(A1 5,K1 5,65,1,[.double (FP.i2d (iW (D 4)))])]):=Yf.pick Y1.fl [0,3,1,2,4,5] (by decide) rfl
 refine goE (eP (D:=D) (B1.more (by decide) (by decide)) D0 YA ?_) (by simp only[f_];rfl)
 intro T2 h2 L2 vv kv w29 w30 w32 w33 w34 w35 w36 w37 w38 w39 w40 w41 B2 Y2 V
 have YB:YgF Z n0 h2 (aP [A1 0,A1 1,A1 2,A1 3,A1 4,A1 5,vv]) (aQ [K1 0,K1 1,K1 2,K1 3,K1 4,K1 5,kv]) (xC D w29 w30 w32 w33 w34 w35 w36 w37 w38 w39 w40 w41) (fun _ => .null) [aR 67 [1,2],aI [0],aI [1],aR 68 [4,5],aD [30],aD [31],aD [44,45]]:=Yf.to (Yf.pick (os':=ap (aP [A1 0,A1 1,A1 2,A1 3,A1 4,A1 5,vv]) (aQ [K1 0,K1 1,K1 2,K1 3,K1 4,K1 5,kv]) (xC D w29 w30 w32 w33 w34 w35 w36 w37 w38 w39 w40 w41) (fun _ => .null) 0 [aR 67 [1,2],aI [0],aI [1],aR 68 [4,5],aD [30],aD [31],aD [44,45]]) Y2 [0,3,4,1,5,6,2] (by decide) rfl) rfl
 refine goE (aY (A:=(aP [A1 0,A1 1,A1 2,A1 3,A1 4,A1 5,vv])) (K:=(aQ [K1 0,K1 1,K1 2,K1 3,K1 4,K1 5,kv])) (D:=(xC D w29 w30 w32 w33 w34 w35 w36 w37 w38 w39 w40 w41)) (W:=fun _ => .null) OZ (scS jC (scS h9 (scS Qi sc0))) B2 YB rfl (by decide) (hv w29 w30 w32 w33 w34 w35 w36 w37 w38 w39 w40 w41) ?_) (by simp only[gf];rfl)
 intro T3 h3 L3 A3 K3 B3 hA3 Kp3 f3 Y3
 have HT:=QG (l:=l) (Z:=Z) (n0:=n0) (la:=(aJ [21,22,23,24,8,9,27,14,15] A3)) (kl:=(bC [21,22,23,24,8,9,27,14,15] K3)) (g:=(bD [8,9,10,11,12,13,14,15,0,21,22,23,24,25,26,27,28,29,30,34,38,42,46,1,2,4,5] A3)) S
 obtain⟨J0,J1,J⟩:=hJ (iW w29).toInt (iW w30).toInt V.1 V.2.1
 exact goE (gu (A:=aJ [6,7,16,17,18,19,20,49,50,51,52,0,3] A3) (K:=bC [6,7,16,17,18,19,20,49,50,51,52,0,3] K3) (D:=(fF D w29 w30 w32 w33 w34 w35 w36 w37 w38 w39 w40 w41)) (W:=tmL (bD [8,9,10,11,12,13,14,15,0,21,22,23,24,25,26,27,28,29,30,34,38,42,46,1,2,4,5] A3) (aJ [21,22,23,24,8,9,27,14,15] A3)) (J0:=J0) (J1:=J1) (B3.more (by decide) (by decide)) rfl Q J ⟨Jvm.FP.Core.i2d_int _,Jvm.FP.Core.i2d_int _⟩ het V HT (Yf.pick Y3.fl [6,7,16,17,18,19,20,49,50,51,52,0,3,21,22,23,24,8,9,27,14,15] (by decide) rfl)) (by simp only[bK];rfl)
theorem Hb:∀bs:Bool,ai (run code aq 53 (8,192,1792,192) 471 36 [(B9,[],[0,1,2],[]),xw,(B_,[],[0,1,2],[]),xv] [] (411,#[sF 5,sF 6,sF 7,sF 8,sF 9,sF 10,sF 11,sF 12,sF 13,sF 14,sF 15,sF 16,sF 17,sF 18,sI 0,sF 20,sF 21,sF 22,sF 23,sF 24,sF 25,sF 26,sF 27,sF 1,sF 2,sF 3,sF 4,(bif bs then sF 28 else sU),(bif bs then sF 29 else sU),sU,sU,sU,sU,sU,sU,sU,sU,sU,sU,sU,sU,sU,sU,sU,sU,sU,sU,sU,sU,sU,sU,sU,sU],[],[],30,0,0)) (471,#[sF 5,sF 6,sF 7,sF 8,sF 9,sF 10,sF 11,sF 12,sF 13,sF 14,sF 15,sF 16,sF 17,sF 18,sI 0,sF 20,sF 21,sF 22,sF 23,sF 24,sF 25,sF 26,sF 27,sF 1,sF 2,sF 3,sF 4,sR 0,sR 3,sU,sU,sU,sU,sU,sU,sU,sU,sU,sU,sU,sU,sU,sU,sU,sU,sU,sU,sU,sU,sU,sU,sU,sU],[],[bE,aG,za4,bN,dH,fS],33,6,10) [cE,g7,cE,cO,fT,cE,g7,cE,fK,cO,fT,ix,iy]=true:=by decide +kernel
def Hc:List AD:=[bE,aG,za4,bN,dH,fS,fU,s7]++f7++[za9,za9,aD [32,30],dU,bv,dU,bv,za9,za9]++gx++([s9,gw,gv,za4,az,aG,dH,za4,fS,gR,za4,aF,d6]++lN++[az,i_,az,i_,bM,az])
def oZ:List Op:=[lO]++xx
theorem Hd:ai (run code aq 53 (8,192,1792,192) 682 17 [kg,kh,(Ct,[0,1,2,3,4,5,7,8,9,12,13,14,21,22,23,24,25,26,27,28,29],[0,30,31,32],lP++rS 15 6++ki++rp 5 zq0++kj)] [] (648,#[sF 5,sF 6,sF 7,sF 8,sF 9,sF 10,sF 11,sF 12,sF 13,sF 14,sF 15,sF 16,sF 17,sF 18,sI 0,sF 20,sF 21,sF 22,sF 23,sF 24,sF 25,sF 26,sF 27,sF 1,sF 2,sF 3,sF 4,sR 0,sR 3,sF 33,sF 34,sR 6,sF 35,sF 36,sF 37,sF 38,sF 39,sF 40,sF 41,sF 42,sF 43,sF 44,sU,sU,sU,sU,sU,sU,sU,sU,sU,sU,sU],[],[bE,aG,za4,bN,dH,fS,fU],47,7,14)) (682,#[sF 5,sF 6,sF 7,sF 8,sF 9,sF 10,sF 11,sF 12,sF 13,sF 14,sF 15,sF 16,sF 17,sF 18,sI 0,sF 20,sF 21,sF 22,sF 23,sF 24,sF 25,sF 26,sF 27,sF 1,sF 2,sF 3,sF 4,sR 0,sR 3,sF 33,sF 34,sR 6,sF 35,sF 36,sF 37,sF 38,sF 39,sF 40,sF 41,sF 42,sF 43,sF 44,sR 7,sR 49,sU,sU,sU,sU,sU,sU,sU,sU,sU],[],Hc,57,83,828) oZ=true:=by decide +kernel
def l9 (D:Nat→UInt64)(w29 w30 w32 w33 w34 w35 w36 w37 w38 w39 w40 w41:UInt64):Nat→UInt64:=ac [0,D 1,D 2,D 3,D 4,D 5,D 6,D 7,D 8,D 9,D 10,D 11,D 12,D 13,D 14,D 15,D 16,D 17,D 18,D 19,D 20,D 21,D 22,D 23,D 24,D 25,D 26,D 27,0,0,FP.i2d (iW (D 1)),FP.i2d (iW (D 3)),FP.i2d (iW (D 4)),w29,w30,w32,w33,w34,w35,w36,w37,w38,w39,w40,w41,FP.i2d (iW w29),FP.i2d (iW w30)]
theorem um {a u Lq Dd:Int}(bs:Bool)(B:LWB p l e s m args below meth c T0 Z a0 h0 n0 L0 0 0)(D0:D 0=0)(hrev:iW (D 19)=0)(z0:(iW (D 1)).toInt≠0)(z1:(iW (D 2)).toInt=0)(z2:(iW (D 3)).toInt≠0)(z3:(iW (D 4)).toInt≠0)(Q:QM4 D)(het:iW (D 18)=0∨iW (D 18)=1∨iW (D 18)=2)(hJ:∀i0 i1:Int,(-65536≤i0∧i0≤65536)→(-65536≤i1∧i1≤65536)→∃J0 J1,JT (iW (D 1)).toInt (iW (D 2)).toInt (iW (D 3)).toInt (iW (D 4)).toInt J0 J1 i0 i1)(S:S7 (ah u 0 (FP.i2d (iW (D 3)))) (Lq=0) a u Lq Dd (iW (D 4)).toInt (iW (D 3)).toInt (iW (D 2)).toInt (iW (D 1)).toInt (FP.i2d (iW (D 4))) (FP.i2d (iW (D 1))))(hv:∀w29 w30 w32 w33 w34 w35 w36 w37 w38 w39 w40 w41:UInt64,okv oZ 47 (l9 D w29 w30 w32 w33 w34 w35 w36 w37 w38 w39 w40 w41)):Go p e below (bw s (aV n0) 192 1792) T0 (mkF m 411 (cH D bs) []):=by
 refine goE (aY (A:=fun _=>0) (K:=fun _=>0) (D:=D) (W:=fun _ => .null) (Hb bs) (scS LI (scS kY (scS LK (scS kZ sc0)))) B YgF.nil D0 (by decide) ⟨z0,z1,z0,z2,z3,z0,z1,z0,trivial,z2,z3,trivial,trivial,trivial⟩ ?_) (by cases bs<;>(simp only[cH];rw[hrev];rfl))
 intro T1 h1 L1 A1 K1 B1 hA1 Kp1 f1 Y1
 have YA:Yf Z n0 h1 ([(A1 0,K1 0,67,2,[.ref (A1 1),.ref (A1 2)]),(A1 3,K1 3,68,2,[.ref (A1 4),.ref (A1 5)])]++[(A1 1,K1 1,64,1,[.int 0]),(A1 2,K1 2,64,2,[.int 0,.int 1]),(A1 4,K1 4,65,1,[.double (FP.i2d (iW (D 1)))]),(A1 5,K1 5,65,2,[.double (FP.i2d (iW (D 3))),.double (FP.i2d (iW (D 4)))])]):=Yf.pick Y1.fl [0,3,1,2,4,5] (by decide) rfl
 refine goE (eP (D:=D) (B1.more (by decide) (by decide)) D0 YA ?_) (by simp only[f_];rw[hrev];rfl)
 intro T2 h2 L2 vv kv w29 w30 w32 w33 w34 w35 w36 w37 w38 w39 w40 w41 B2 Y2 V
 have YB:YgF Z n0 h2 (aP [A1 0,A1 1,A1 2,A1 3,A1 4,A1 5,vv]) (aQ [K1 0,K1 1,K1 2,K1 3,K1 4,K1 5,kv]) (l9 D w29 w30 w32 w33 w34 w35 w36 w37 w38 w39 w40 w41) (fun _ => .null) [aR 67 [1,2],aI [0],aI [0,1],aR 68 [4,5],aD [30],aD [31,32],aD [45,46]]:=Yf.to (Yf.pick (os':=ap (aP [A1 0,A1 1,A1 2,A1 3,A1 4,A1 5,vv]) (aQ [K1 0,K1 1,K1 2,K1 3,K1 4,K1 5,kv]) (l9 D w29 w30 w32 w33 w34 w35 w36 w37 w38 w39 w40 w41) (fun _ => .null) 0 [aR 67 [1,2],aI [0],aI [0,1],aR 68 [4,5],aD [30],aD [31,32],aD [45,46]]) Y2 [0,3,4,1,5,6,2] (by decide) rfl) rfl
 refine goE (aY (A:=(aP [A1 0,A1 1,A1 2,A1 3,A1 4,A1 5,vv])) (K:=(aQ [K1 0,K1 1,K1 2,K1 3,K1 4,K1 5,kv])) (D:=(l9 D w29 w30 w32 w33 w34 w35 w36 w37 w38 w39 w40 w41)) (W:=fun _ => .null) Hd (scS jC (scS h9 (scS NP sc0))) B2 YB rfl (by decide) (hv w29 w30 w32 w33 w34 w35 w36 w37 w38 w39 w40 w41) ?_) (by simp only[gf];rw[hrev];rfl)
 intro T3 h3 L3 A3 K3 B3 hA3 Kp3 f3 Y3
 have HT:=F2 (l:=l) (Z:=Z) (n0:=n0) (la:=(aJ [21,22,23,24,77,78,27,14,15] A3)) (kl:=(bC [21,22,23,24,77,78,27,14,15] K3)) (g:=(bD [77,78,10,11,79,80,14,15,0,21,22,23,24,25,26,27,28,29,30,34,38,42,46,1,2,4,5] A3)) S
 obtain⟨J0,J1,J⟩:=hJ (iW w29).toInt (iW w30).toInt V.1 V.2.1
 exact goE (gu (A:=aJ [6,7,16,17,18,19,20,49,50,51,52,0,3] A3) (K:=bC [6,7,16,17,18,19,20,49,50,51,52,0,3] K3) (D:=(fF D w29 w30 w32 w33 w34 w35 w36 w37 w38 w39 w40 w41)) (W:=tmL (bD [77,78,10,11,79,80,14,15,0,21,22,23,24,25,26,27,28,29,30,34,38,42,46,1,2,4,5] A3) (aJ [21,22,23,24,77,78,27,14,15] A3)) (J0:=J0) (J1:=J1) (B3.more (by decide) (by decide)) rfl Q J ⟨Jvm.FP.Core.i2d_int _,Jvm.FP.Core.i2d_int _⟩ het V HT (Yf.pick Y3.fl [6,7,16,17,18,19,20,49,50,51,52,0,3,21,22,23,24,77,78,27,14,15] (by decide) rfl)) (by simp only[bK];rw[show iW ((fF D w29 w30 w32 w33 w34 w35 w36 w37 w38 w39 w40 w41) 17)=0 from hrev];rfl)
theorem He:∀bs:Bool,ai (run code aq 53 (8,192,1792,192) 471 36 [(tm,[],[0,1,2],[]),xz,(tn,[],[0,1,2],[]),xy] [] (411,#[sF 5,sF 6,sF 7,sF 8,sF 9,sF 10,sF 11,sF 12,sF 13,sF 14,sF 15,sF 16,sF 17,sF 18,sI 1,sF 20,sF 21,sF 22,sF 23,sF 24,sF 25,sF 26,sF 27,sF 1,sF 2,sF 3,sF 4,(bif bs then sF 28 else sU),(bif bs then sF 29 else sU),sU,sU,sU,sU,sU,sU,sU,sU,sU,sU,sU,sU,sU,sU,sU,sU,sU,sU,sU,sU,sU,sU,sU,sU],[],[],30,0,0)) (471,#[sF 5,sF 6,sF 7,sF 8,sF 9,sF 10,sF 11,sF 12,sF 13,sF 14,sF 15,sF 16,sF 17,sF 18,sI 1,sF 20,sF 21,sF 22,sF 23,sF 24,sF 25,sF 26,sF 27,sF 1,sF 2,sF 3,sF 4,sR 0,sR 3,sU,sU,sU,sU,sU,sU,sU,sU,sU,sU,sU,sU,sU,sU,sU,sU,sU,sU,sU,sU,sU,sU,sU,sU],[],[bE,aG,za9,bN,dH,fS],33,6,10) [cE,g7,cE,cO,fT,cE,g7,cE,fK,cO,fT,iy,ix]=true:=by decide +kernel
def Hf:List AD:=[bE,aG,za9,bN,dH,fS,fU,s7]++f7++[za9,za9,aD [31,30],dU,bv,dU,bv,za9,za9]++gx++([s9,gw,gv,za4,az,aG,dH,az,aD [32,32],gR,za4,aF,d6]++lN++[az,aD [32,0],az,aD [32,0],bM,az])
def o0:List Op:=[gy]++xx
theorem Hg:ai (run code aq 53 (8,192,1792,192) 682 17 [kg,kh,(CH,[0,1,2,3,4,5,7,8,9,12,13,14,21,22,23,24,25,26,27,28,29],[0,30,31,32],lP++rS 15 6++ki++rp 5 zq0++kj)] [] (648,#[sF 5,sF 6,sF 7,sF 8,sF 9,sF 10,sF 11,sF 12,sF 13,sF 14,sF 15,sF 16,sF 17,sF 18,sI 1,sF 20,sF 21,sF 22,sF 23,sF 24,sF 25,sF 26,sF 27,sF 1,sF 2,sF 3,sF 4,sR 0,sR 3,sF 33,sF 34,sR 6,sF 35,sF 36,sF 37,sF 38,sF 39,sF 40,sF 41,sF 42,sF 43,sF 44,sU,sU,sU,sU,sU,sU,sU,sU,sU,sU,sU],[],[bE,aG,za9,bN,dH,fS,fU],47,7,14)) (682,#[sF 5,sF 6,sF 7,sF 8,sF 9,sF 10,sF 11,sF 12,sF 13,sF 14,sF 15,sF 16,sF 17,sF 18,sI 1,sF 20,sF 21,sF 22,sF 23,sF 24,sF 25,sF 26,sF 27,sF 1,sF 2,sF 3,sF 4,sR 0,sR 3,sF 33,sF 34,sR 6,sF 35,sF 36,sF 37,sF 38,sF 39,sF 40,sF 41,sF 42,sF 43,sF 44,sR 7,sR 49,sU,sU,sU,sU,sU,sU,sU,sU,sU],[],Hf,57,83,828) o0=true:=by decide +kernel
def l_ (D:Nat→UInt64)(w29 w30 w32 w33 w34 w35 w36 w37 w38 w39 w40 w41:UInt64):Nat→UInt64:=ac [0,D 1,D 2,D 3,D 4,D 5,D 6,D 7,D 8,D 9,D 10,D 11,D 12,D 13,D 14,D 15,D 16,D 17,D 18,D 19,D 20,D 21,D 22,D 23,D 24,D 25,D 26,D 27,0,0,FP.i2d (iW (D 1)),FP.i2d (iW (D 4)),FP.i2d (iW (D 3)),w29,w30,w32,w33,w34,w35,w36,w37,w38,w39,w40,w41,FP.i2d (iW w29),FP.i2d (iW w30)]
theorem un {a u Lq Dd:Int}(bs:Bool)(B:LWB p l e s m args below meth c T0 Z a0 h0 n0 L0 0 0)(D0:D 0=0)(hrev:iW (D 19)=1)(z0:(iW (D 1)).toInt≠0)(z1:(iW (D 2)).toInt=0)(z2:(iW (D 3)).toInt≠0)(z3:(iW (D 4)).toInt≠0)(Q:QM4 D)(het:iW (D 18)=0∨iW (D 18)=1∨iW (D 18)=2)(hJ:∀i0 i1:Int,(-65536≤i0∧i0≤65536)→(-65536≤i1∧i1≤65536)→∃J0 J1,JT (iW (D 1)).toInt (iW (D 2)).toInt (iW (D 3)).toInt (iW (D 4)).toInt J0 J1 i0 i1)(S:S7 (ah u 0 (FP.i2d (iW (D 3)))) (Lq=0) a u Lq Dd (iW (D 4)).toInt (iW (D 3)).toInt (iW (D 2)).toInt (iW (D 1)).toInt (FP.i2d (iW (D 4))) (FP.i2d (iW (D 1))))(hv:∀w29 w30 w32 w33 w34 w35 w36 w37 w38 w39 w40 w41:UInt64,okv o0 47 (l_ D w29 w30 w32 w33 w34 w35 w36 w37 w38 w39 w40 w41)):Go p e below (bw s (aV n0) 192 1792) T0 (mkF m 411 (cH D bs) []):=by
 refine goE (aY (A:=fun _=>0) (K:=fun _=>0) (D:=D) (W:=fun _ => .null) (He bs) (scS Cv (scS lw (scS Cx (scS lx sc0)))) B YgF.nil D0 (by decide) ⟨z0,z1,z0,z2,z3,z0,z1,z0,trivial,z2,z3,trivial,trivial,trivial⟩ ?_) (by cases bs<;>(simp only[cH];rw[hrev];rfl))
 intro T1 h1 L1 A1 K1 B1 hA1 Kp1 f1 Y1
 have YA:Yf Z n0 h1 ([(A1 0,K1 0,67,2,[.ref (A1 1),.ref (A1 2)]),(A1 3,K1 3,68,2,[.ref (A1 4),.ref (A1 5)])]++[(A1 1,K1 1,64,1,[.int 0]),(A1 2,K1 2,64,2,[.int 1,.int 0]),(A1 4,K1 4,65,1,[.double (FP.i2d (iW (D 1)))]),(A1 5,K1 5,65,2,[.double (FP.i2d (iW (D 4))),.double (FP.i2d (iW (D 3)))])]):=Yf.pick Y1.fl [0,3,1,2,4,5] (by decide) rfl
 refine goE (eP (D:=D) (B1.more (by decide) (by decide)) D0 YA ?_) (by simp only[f_];rw[hrev];rfl)
 intro T2 h2 L2 vv kv w29 w30 w32 w33 w34 w35 w36 w37 w38 w39 w40 w41 B2 Y2 V
 have YB:YgF Z n0 h2 (aP [A1 0,A1 1,A1 2,A1 3,A1 4,A1 5,vv]) (aQ [K1 0,K1 1,K1 2,K1 3,K1 4,K1 5,kv]) (l_ D w29 w30 w32 w33 w34 w35 w36 w37 w38 w39 w40 w41) (fun _ => .null) [aR 67 [1,2],aI [0],aI [1,0],aR 68 [4,5],aD [30],aD [31,32],aD [45,46]]:=Yf.to (Yf.pick (os':=ap (aP [A1 0,A1 1,A1 2,A1 3,A1 4,A1 5,vv]) (aQ [K1 0,K1 1,K1 2,K1 3,K1 4,K1 5,kv]) (l_ D w29 w30 w32 w33 w34 w35 w36 w37 w38 w39 w40 w41) (fun _ => .null) 0 [aR 67 [1,2],aI [0],aI [1,0],aR 68 [4,5],aD [30],aD [31,32],aD [45,46]]) Y2 [0,3,4,1,5,6,2] (by decide) rfl) rfl
 refine goE (aY (A:=(aP [A1 0,A1 1,A1 2,A1 3,A1 4,A1 5,vv])) (K:=(aQ [K1 0,K1 1,K1 2,K1 3,K1 4,K1 5,kv])) (D:=(l_ D w29 w30 w32 w33 w34 w35 w36 w37 w38 w39 w40 w41)) (W:=fun _ => .null) Hg (scS jC (scS h9 (scS NU sc0))) B2 YB rfl (by decide) (hv w29 w30 w32 w33 w34 w35 w36 w37 w38 w39 w40 w41) ?_) (by simp only[gf];rw[hrev];rfl)
 intro T3 h3 L3 A3 K3 B3 hA3 Kp3 f3 Y3
 have HT:=F2 (l:=l) (Z:=Z) (n0:=n0) (la:=(aJ [21,22,23,24,77,78,27,14,15] A3)) (kl:=(bC [21,22,23,24,77,78,27,14,15] K3)) (g:=(bD [77,78,10,11,79,80,14,15,0,21,22,23,24,25,26,27,28,29,30,34,38,42,46,1,2,4,5] A3)) S
 obtain⟨J0,J1,J⟩:=hJ (iW w29).toInt (iW w30).toInt V.1 V.2.1
 exact goE (gu (A:=aJ [6,7,16,17,18,19,20,49,50,51,52,0,3] A3) (K:=bC [6,7,16,17,18,19,20,49,50,51,52,0,3] K3) (D:=(fF D w29 w30 w32 w33 w34 w35 w36 w37 w38 w39 w40 w41)) (W:=tmL (bD [77,78,10,11,79,80,14,15,0,21,22,23,24,25,26,27,28,29,30,34,38,42,46,1,2,4,5] A3) (aJ [21,22,23,24,77,78,27,14,15] A3)) (J0:=J0) (J1:=J1) (B3.more (by decide) (by decide)) rfl Q J ⟨Jvm.FP.Core.i2d_int _,Jvm.FP.Core.i2d_int _⟩ het V HT (Yf.pick Y3.fl [6,7,16,17,18,19,20,49,50,51,52,0,3,21,22,23,24,77,78,27,14,15] (by decide) rfl)) (by simp only[bK];rw[show iW ((fF D w29 w30 w32 w33 w34 w35 w36 w37 w38 w39 w40 w41) 17)=1 from hrev];rfl)
def fV:AD:=aD [32]
def xD:Sc:=(BE,[],[0,1,2],[])
def xE:Sc:=(BC,[],[0,1,2],[])
theorem Hh:∀bs:Bool,ai (run code aq 53 (8,192,1792,192) 471 36 [xE,(BB,[],[0,3,4],[]),xD,(BD,[],[0,3,4],[])] [] (411,#[sF 5,sF 6,sF 7,sF 8,sF 9,sF 10,sF 11,sF 12,sF 13,sF 14,sF 15,sF 16,sF 17,sF 18,sI 0,sF 20,sF 21,sF 22,sF 23,sF 24,sF 25,sF 26,sF 27,sF 1,sF 2,sF 3,sF 4,(bif bs then sF 28 else sU),(bif bs then sF 29 else sU),sU,sU,sU,sU,sU,sU,sU,sU,sU,sU,sU,sU,sU,sU,sU,sU,sU,sU,sU,sU,sU,sU,sU,sU],[],[],30,0,0)) (471,#[sF 5,sF 6,sF 7,sF 8,sF 9,sF 10,sF 11,sF 12,sF 13,sF 14,sF 15,sF 16,sF 17,sF 18,sI 0,sF 20,sF 21,sF 22,sF 23,sF 24,sF 25,sF 26,sF 27,sF 1,sF 2,sF 3,sF 4,sR 0,sR 3,sU,sU,sU,sU,sU,sU,sU,sU,sU,sU,sU,sU,sU,sU,sU,sU,sU,sU,sU,sU,sU,sU,sU,sU],[],[bE,za4,aF,bN,fg,fV],33,6,10) [cE,eA,hY,hY,cE,eA,fK,fJ,hY,hY,iy]=true:=by decide +kernel
def Hi:List AD:=[bE,za4,aF,bN,fg,fV,fU,s7]++f7++[za4,za4,aD [30,32],dU,bv,iw,bv,za4,za4]++gx++([s9,gw,gv,za9,az,bM,aD [31,31],aF,fV,gR,aG,bM,d5]++lN++[za9,i_,az,i_,za4,az])
def xF:List Op:=[M5,gS,Nb,gy,M_,M7,M9,lO,M4,lO,Na,M6,M8]
def o2:List Op:=[gS]++xF
theorem Hj:ai (run code aq 53 (8,192,1792,192) 682 17 [kg,kh,(CY,[0,1,2,3,4,5,7,8,9,12,13,14,21,22,23,24,25,26,27,28,29],[0,30,31,32],lP++rS 15 6++ki++rp 5 zq0++kj)] [] (648,#[sF 5,sF 6,sF 7,sF 8,sF 9,sF 10,sF 11,sF 12,sF 13,sF 14,sF 15,sF 16,sF 17,sF 18,sI 0,sF 20,sF 21,sF 22,sF 23,sF 24,sF 25,sF 26,sF 27,sF 1,sF 2,sF 3,sF 4,sR 0,sR 3,sF 33,sF 34,sR 6,sF 35,sF 36,sF 37,sF 38,sF 39,sF 40,sF 41,sF 42,sF 43,sF 44,sU,sU,sU,sU,sU,sU,sU,sU,sU,sU,sU],[],[bE,za4,aF,bN,fg,fV,fU],47,7,14)) (682,#[sF 5,sF 6,sF 7,sF 8,sF 9,sF 10,sF 11,sF 12,sF 13,sF 14,sF 15,sF 16,sF 17,sF 18,sI 0,sF 20,sF 21,sF 22,sF 23,sF 24,sF 25,sF 26,sF 27,sF 1,sF 2,sF 3,sF 4,sR 0,sR 3,sF 33,sF 34,sR 6,sF 35,sF 36,sF 37,sF 38,sF 39,sF 40,sF 41,sF 42,sF 43,sF 44,sR 7,sR 49,sU,sU,sU,sU,sU,sU,sU,sU,sU],[],Hi,57,83,828) o2=true:=by decide +kernel
def ma (D:Nat→UInt64)(w29 w30 w32 w33 w34 w35 w36 w37 w38 w39 w40 w41:UInt64):Nat→UInt64:=ac [0,D 1,D 2,D 3,D 4,D 5,D 6,D 7,D 8,D 9,D 10,D 11,D 12,D 13,D 14,D 15,D 16,D 17,D 18,D 19,D 20,D 21,D 22,D 23,D 24,D 25,D 26,D 27,0,0,FP.i2d (iW (D 1)),FP.i2d (iW (D 2)),FP.i2d (iW (D 4)),w29,w30,w32,w33,w34,w35,w36,w37,w38,w39,w40,w41,FP.i2d (iW w29),FP.i2d (iW w30)]
theorem uo {a u Lq Dd:Int}(bs:Bool)(B:LWB p l e s m args below meth c T0 Z a0 h0 n0 L0 0 0)(D0:D 0=0)(hrev:iW (D 19)=0)(z0:(iW (D 1)).toInt≠0)(z1:(iW (D 2)).toInt≠0)(z2:(iW (D 3)).toInt=0)(z3:(iW (D 4)).toInt≠0)(Q:QM4 D)(het:iW (D 18)=0∨iW (D 18)=1∨iW (D 18)=2)(hJ:∀i0 i1:Int,(-65536≤i0∧i0≤65536)→(-65536≤i1∧i1≤65536)→∃J0 J1,JT (iW (D 1)).toInt (iW (D 2)).toInt (iW (D 3)).toInt (iW (D 4)).toInt J0 J1 i0 i1)(S:S7 (ah u 0 (FP.i2d (iW (D 2)))) (Lq=0) a u Lq Dd (iW (D 1)).toInt (iW (D 2)).toInt (iW (D 3)).toInt (iW (D 4)).toInt (FP.i2d (iW (D 1))) (FP.i2d (iW (D 4))))(hv:∀w29 w30 w32 w33 w34 w35 w36 w37 w38 w39 w40 w41:UInt64,okv o2 47 (ma D w29 w30 w32 w33 w34 w35 w36 w37 w38 w39 w40 w41)):Go p e below (bw s (aV n0) 192 1792) T0 (mkF m 411 (cH D bs) []):=by
 refine goE (aY (A:=fun _=>0) (K:=fun _=>0) (D:=D) (W:=fun _ => .null) (Hh bs) (scS kY (scS JO (scS kZ (scS JS sc0)))) B YgF.nil D0 (by decide) ⟨z0,z1,z2,z2,z0,z1,trivial,trivial,z2,z2,trivial,trivial⟩ ?_) (by cases bs<;>(simp only[cH];rw[hrev];rfl))
 intro T1 h1 L1 A1 K1 B1 hA1 Kp1 f1 Y1
 have YA:Yf Z n0 h1 ([(A1 0,K1 0,67,2,[.ref (A1 1),.ref (A1 2)]),(A1 3,K1 3,68,2,[.ref (A1 4),.ref (A1 5)])]++[(A1 1,K1 1,64,2,[.int 0,.int 1]),(A1 2,K1 2,64,1,[.int 1]),(A1 4,K1 4,65,2,[.double (FP.i2d (iW (D 1))),.double (FP.i2d (iW (D 2)))]),(A1 5,K1 5,65,1,[.double (FP.i2d (iW (D 4)))])]):=Yf.pick Y1.fl [0,3,1,2,4,5] (by decide) rfl
 refine goE (eP (D:=D) (B1.more (by decide) (by decide)) D0 YA ?_) (by simp only[f_];rw[hrev];rfl)
 intro T2 h2 L2 vv kv w29 w30 w32 w33 w34 w35 w36 w37 w38 w39 w40 w41 B2 Y2 V
 have YB:YgF Z n0 h2 (aP [A1 0,A1 1,A1 2,A1 3,A1 4,A1 5,vv]) (aQ [K1 0,K1 1,K1 2,K1 3,K1 4,K1 5,kv]) (ma D w29 w30 w32 w33 w34 w35 w36 w37 w38 w39 w40 w41) (fun _ => .null) [aR 67 [1,2],aI [0,1],aI [1],aR 68 [4,5],aD [30,31],aD [32],aD [45,46]]:=Yf.to (Yf.pick (os':=ap (aP [A1 0,A1 1,A1 2,A1 3,A1 4,A1 5,vv]) (aQ [K1 0,K1 1,K1 2,K1 3,K1 4,K1 5,kv]) (ma D w29 w30 w32 w33 w34 w35 w36 w37 w38 w39 w40 w41) (fun _ => .null) 0 [aR 67 [1,2],aI [0,1],aI [1],aR 68 [4,5],aD [30,31],aD [32],aD [45,46]]) Y2 [0,3,4,1,5,6,2] (by decide) rfl) rfl
 refine goE (aY (A:=(aP [A1 0,A1 1,A1 2,A1 3,A1 4,A1 5,vv])) (K:=(aQ [K1 0,K1 1,K1 2,K1 3,K1 4,K1 5,kv])) (D:=(ma D w29 w30 w32 w33 w34 w35 w36 w37 w38 w39 w40 w41)) (W:=fun _ => .null) Hj (scS jC (scS h9 (scS NY sc0))) B2 YB rfl (by decide) (hv w29 w30 w32 w33 w34 w35 w36 w37 w38 w39 w40 w41) ?_) (by simp only[gf];rw[hrev];rfl)
 intro T3 h3 L3 A3 K3 B3 hA3 Kp3 f3 Y3
 have HT:=Ga (l:=l) (Z:=Z) (n0:=n0) (la:=(aJ [21,22,23,24,77,78,27,14,15] A3)) (kl:=(bC [21,22,23,24,77,78,27,14,15] K3)) (g:=(bD [77,78,10,11,79,80,14,15,0,21,22,23,24,25,26,27,28,29,30,34,38,42,46,1,2,4,5] A3)) S
 obtain⟨J0,J1,J⟩:=hJ (iW w29).toInt (iW w30).toInt V.1 V.2.1
 exact goE (gu (A:=aJ [6,7,16,17,18,19,20,49,50,51,52,0,3] A3) (K:=bC [6,7,16,17,18,19,20,49,50,51,52,0,3] K3) (D:=(fF D w29 w30 w32 w33 w34 w35 w36 w37 w38 w39 w40 w41)) (W:=tmL (bD [77,78,10,11,79,80,14,15,0,21,22,23,24,25,26,27,28,29,30,34,38,42,46,1,2,4,5] A3) (aJ [21,22,23,24,77,78,27,14,15] A3)) (J0:=J0) (J1:=J1) (B3.more (by decide) (by decide)) rfl Q J ⟨Jvm.FP.Core.i2d_int _,Jvm.FP.Core.i2d_int _⟩ het V HT (Yf.pick Y3.fl [6,7,16,17,18,19,20,49,50,51,52,0,3,21,22,23,24,77,78,27,14,15] (by decide) rfl)) (by simp only[bK];rw[show iW ((fF D w29 w30 w32 w33 w34 w35 w36 w37 w38 w39 w40 w41) 17)=0 from hrev];rfl)
def xG:Sc:=(BW,[],[0,1,2],[])
def xH:Sc:=(BU,[],[0,1,2],[])
theorem Hk:∀bs:Bool,ai (run code aq 53 (8,192,1792,192) 471 36 [xH,(BT,[],[0,3,4],[]),xG,(BV,[],[0,3,4],[])] [] (411,#[sF 5,sF 6,sF 7,sF 8,sF 9,sF 10,sF 11,sF 12,sF 13,sF 14,sF 15,sF 16,sF 17,sF 18,sI 1,sF 20,sF 21,sF 22,sF 23,sF 24,sF 25,sF 26,sF 27,sF 1,sF 2,sF 3,sF 4,(bif bs then sF 28 else sU),(bif bs then sF 29 else sU),sU,sU,sU,sU,sU,sU,sU,sU,sU,sU,sU,sU,sU,sU,sU,sU,sU,sU,sU,sU,sU,sU,sU,sU],[],[],30,0,0)) (471,#[sF 5,sF 6,sF 7,sF 8,sF 9,sF 10,sF 11,sF 12,sF 13,sF 14,sF 15,sF 16,sF 17,sF 18,sI 1,sF 20,sF 21,sF 22,sF 23,sF 24,sF 25,sF 26,sF 27,sF 1,sF 2,sF 3,sF 4,sR 0,sR 3,sU,sU,sU,sU,sU,sU,sU,sU,sU,sU,sU,sU,sU,sU,sU,sU,sU,sU,sU,sU,sU,sU,sU,sU],[],[bE,za9,aF,bN,fg,fV],33,6,10) [cE,eA,hY,hY,cE,eA,fJ,fK,hY,hY,iy]=true:=by decide +kernel
def Hl:List AD:=[bE,za9,aF,bN,fg,fV,fU,s7]++f7++[za4,za4,fS,dU,bv,iw,bv,za4,za4]++gx++([s9,gw,gv,za9,az,za9,fg,aF,fV,gR,aG,bM,d5]++lN++[za9,aD [30,0],az,aD [30,0],za4,az])
def o3:List Op:=[gy]++xF
theorem Hm:ai (run code aq 53 (8,192,1792,192) 682 17 [kg,kh,(C9,[0,1,2,3,4,5,7,8,9,12,13,14,21,22,23,24,25,26,27,28,29],[0,30,31,32],lP++rS 15 6++ki++rp 5 zq0++kj)] [] (648,#[sF 5,sF 6,sF 7,sF 8,sF 9,sF 10,sF 11,sF 12,sF 13,sF 14,sF 15,sF 16,sF 17,sF 18,sI 1,sF 20,sF 21,sF 22,sF 23,sF 24,sF 25,sF 26,sF 27,sF 1,sF 2,sF 3,sF 4,sR 0,sR 3,sF 33,sF 34,sR 6,sF 35,sF 36,sF 37,sF 38,sF 39,sF 40,sF 41,sF 42,sF 43,sF 44,sU,sU,sU,sU,sU,sU,sU,sU,sU,sU,sU],[],[bE,za9,aF,bN,fg,fV,fU],47,7,14)) (682,#[sF 5,sF 6,sF 7,sF 8,sF 9,sF 10,sF 11,sF 12,sF 13,sF 14,sF 15,sF 16,sF 17,sF 18,sI 1,sF 20,sF 21,sF 22,sF 23,sF 24,sF 25,sF 26,sF 27,sF 1,sF 2,sF 3,sF 4,sR 0,sR 3,sF 33,sF 34,sR 6,sF 35,sF 36,sF 37,sF 38,sF 39,sF 40,sF 41,sF 42,sF 43,sF 44,sR 7,sR 49,sU,sU,sU,sU,sU,sU,sU,sU,sU],[],Hl,57,83,828) o3=true:=by decide +kernel
def mb (D:Nat→UInt64)(w29 w30 w32 w33 w34 w35 w36 w37 w38 w39 w40 w41:UInt64):Nat→UInt64:=ac [0,D 1,D 2,D 3,D 4,D 5,D 6,D 7,D 8,D 9,D 10,D 11,D 12,D 13,D 14,D 15,D 16,D 17,D 18,D 19,D 20,D 21,D 22,D 23,D 24,D 25,D 26,D 27,0,0,FP.i2d (iW (D 2)),FP.i2d (iW (D 1)),FP.i2d (iW (D 4)),w29,w30,w32,w33,w34,w35,w36,w37,w38,w39,w40,w41,FP.i2d (iW w29),FP.i2d (iW w30)]
theorem uq {a u Lq Dd:Int}(bs:Bool)(B:LWB p l e s m args below meth c T0 Z a0 h0 n0 L0 0 0)(D0:D 0=0)(hrev:iW (D 19)=1)(z0:(iW (D 1)).toInt≠0)(z1:(iW (D 2)).toInt≠0)(z2:(iW (D 3)).toInt=0)(z3:(iW (D 4)).toInt≠0)(Q:QM4 D)(het:iW (D 18)=0∨iW (D 18)=1∨iW (D 18)=2)(hJ:∀i0 i1:Int,(-65536≤i0∧i0≤65536)→(-65536≤i1∧i1≤65536)→∃J0 J1,JT (iW (D 1)).toInt (iW (D 2)).toInt (iW (D 3)).toInt (iW (D 4)).toInt J0 J1 i0 i1)(S:S7 (ah u 0 (FP.i2d (iW (D 2)))) (Lq=0) a u Lq Dd (iW (D 1)).toInt (iW (D 2)).toInt (iW (D 3)).toInt (iW (D 4)).toInt (FP.i2d (iW (D 1))) (FP.i2d (iW (D 4))))(hv:∀w29 w30 w32 w33 w34 w35 w36 w37 w38 w39 w40 w41:UInt64,okv o3 47 (mb D w29 w30 w32 w33 w34 w35 w36 w37 w38 w39 w40 w41)):Go p e below (bw s (aV n0) 192 1792) T0 (mkF m 411 (cH D bs) []):=by
 refine goE (aY (A:=fun _=>0) (K:=fun _=>0) (D:=D) (W:=fun _ => .null) (Hk bs) (scS lw (scS KZ (scS lx (scS K5 sc0)))) B YgF.nil D0 (by decide) ⟨z0,z1,z2,z2,z0,z1,trivial,trivial,z2,z2,trivial,trivial⟩ ?_) (by cases bs<;>(simp only[cH];rw[hrev];rfl))
 intro T1 h1 L1 A1 K1 B1 hA1 Kp1 f1 Y1
 have YA:Yf Z n0 h1 ([(A1 0,K1 0,67,2,[.ref (A1 1),.ref (A1 2)]),(A1 3,K1 3,68,2,[.ref (A1 4),.ref (A1 5)])]++[(A1 1,K1 1,64,2,[.int 1,.int 0]),(A1 2,K1 2,64,1,[.int 1]),(A1 4,K1 4,65,2,[.double (FP.i2d (iW (D 2))),.double (FP.i2d (iW (D 1)))]),(A1 5,K1 5,65,1,[.double (FP.i2d (iW (D 4)))])]):=Yf.pick Y1.fl [0,3,1,2,4,5] (by decide) rfl
 refine goE (eP (D:=D) (B1.more (by decide) (by decide)) D0 YA ?_) (by simp only[f_];rw[hrev];rfl)
 intro T2 h2 L2 vv kv w29 w30 w32 w33 w34 w35 w36 w37 w38 w39 w40 w41 B2 Y2 V
 have YB:YgF Z n0 h2 (aP [A1 0,A1 1,A1 2,A1 3,A1 4,A1 5,vv]) (aQ [K1 0,K1 1,K1 2,K1 3,K1 4,K1 5,kv]) (mb D w29 w30 w32 w33 w34 w35 w36 w37 w38 w39 w40 w41) (fun _ => .null) [aR 67 [1,2],aI [1,0],aI [1],aR 68 [4,5],aD [30,31],aD [32],aD [45,46]]:=Yf.to (Yf.pick (os':=ap (aP [A1 0,A1 1,A1 2,A1 3,A1 4,A1 5,vv]) (aQ [K1 0,K1 1,K1 2,K1 3,K1 4,K1 5,kv]) (mb D w29 w30 w32 w33 w34 w35 w36 w37 w38 w39 w40 w41) (fun _ => .null) 0 [aR 67 [1,2],aI [1,0],aI [1],aR 68 [4,5],aD [30,31],aD [32],aD [45,46]]) Y2 [0,3,4,1,5,6,2] (by decide) rfl) rfl
 refine goE (aY (A:=(aP [A1 0,A1 1,A1 2,A1 3,A1 4,A1 5,vv])) (K:=(aQ [K1 0,K1 1,K1 2,K1 3,K1 4,K1 5,kv])) (D:=(mb D w29 w30 w32 w33 w34 w35 w36 w37 w38 w39 w40 w41)) (W:=fun _ => .null) Hm (scS jC (scS h9 (scS N5 sc0))) B2 YB rfl (by decide) (hv w29 w30 w32 w33 w34 w35 w36 w37 w38 w39 w40 w41) ?_) (by simp only[gf];rw[hrev];rfl)
 intro T3 h3 L3 A3 K3 B3 hA3 Kp3 f3 Y3
 have HT:=Ga (l:=l) (Z:=Z) (n0:=n0) (la:=(aJ [21,22,23,24,77,78,27,14,15] A3)) (kl:=(bC [21,22,23,24,77,78,27,14,15] K3)) (g:=(bD [77,78,10,11,79,80,14,15,0,21,22,23,24,25,26,27,28,29,30,34,38,42,46,1,2,4,5] A3)) S
 obtain⟨J0,J1,J⟩:=hJ (iW w29).toInt (iW w30).toInt V.1 V.2.1
 exact goE (gu (A:=aJ [6,7,16,17,18,19,20,49,50,51,52,0,3] A3) (K:=bC [6,7,16,17,18,19,20,49,50,51,52,0,3] K3) (D:=(fF D w29 w30 w32 w33 w34 w35 w36 w37 w38 w39 w40 w41)) (W:=tmL (bD [77,78,10,11,79,80,14,15,0,21,22,23,24,25,26,27,28,29,30,34,38,42,46,1,2,4,5] A3) (aJ [21,22,23,24,77,78,27,14,15] A3)) (J0:=J0) (J1:=J1) (B3.more (by decide) (by decide)) rfl Q J ⟨Jvm.FP.Core.i2d_int _,Jvm.FP.Core.i2d_int _⟩ het V HT (Yf.pick Y3.fl [6,7,16,17,18,19,20,49,50,51,52,0,3,21,22,23,24,77,78,27,14,15] (by decide) rfl)) (by simp only[bK];rw[show iW ((fF D w29 w30 w32 w33 w34 w35 w36 w37 w38 w39 w40 w41) 17)=1 from hrev];rfl)
theorem Hn:∀bs:Bool,ai (run code aq 53 (8,192,1792,192) 471 36 [xE,(B9,[],[0,3,4],[]),xD,(B_,[],[0,3,4],[])] [] (411,#[sF 5,sF 6,sF 7,sF 8,sF 9,sF 10,sF 11,sF 12,sF 13,sF 14,sF 15,sF 16,sF 17,sF 18,sI 0,sF 20,sF 21,sF 22,sF 23,sF 24,sF 25,sF 26,sF 27,sF 1,sF 2,sF 3,sF 4,(bif bs then sF 28 else sU),(bif bs then sF 29 else sU),sU,sU,sU,sU,sU,sU,sU,sU,sU,sU,sU,sU,sU,sU,sU,sU,sU,sU,sU,sU,sU,sU,sU,sU],[],[],30,0,0)) (471,#[sF 5,sF 6,sF 7,sF 8,sF 9,sF 10,sF 11,sF 12,sF 13,sF 14,sF 15,sF 16,sF 17,sF 18,sI 0,sF 20,sF 21,sF 22,sF 23,sF 24,sF 25,sF 26,sF 27,sF 1,sF 2,sF 3,sF 4,sR 0,sR 3,sU,sU,sU,sU,sU,sU,sU,sU,sU,sU,sU,sU,sU,sU,sU,sU,sU,sU,sU,sU,sU,sU,sU,sU],[],[bE,za4,aG,bN,fg,fV],33,6,10) [cE,eA,cO,(13,4,0,0),cO,cE,eA,fK,fJ,cO,(13,4,0,0),cO,ix]=true:=by decide +kernel
def Ho:List AD:=[bE,za4,aG,bN,fg,fV,fU,s7]++f7++[za4,za9,fS,dU,bv,dU,bv,za4,za9]++gx++([s9,gw,gv,za9,az,za4,fg,aG,fV,gR,bM,aG,d6]++lN++[az,aD [30,0],az,aD [30,0],bM,az])
def o4:List Op:=[gy]++xF
theorem Hp:ai (run code aq 53 (8,192,1792,192) 682 17 [kg,kh,(Dt,[0,1,2,3,4,5,7,8,9,12,13,14,21,22,23,24,25,26,27,28,29],[0,30,31,32],lP++rS 15 6++ki++rp 5 zq0++kj)] [] (648,#[sF 5,sF 6,sF 7,sF 8,sF 9,sF 10,sF 11,sF 12,sF 13,sF 14,sF 15,sF 16,sF 17,sF 18,sI 0,sF 20,sF 21,sF 22,sF 23,sF 24,sF 25,sF 26,sF 27,sF 1,sF 2,sF 3,sF 4,sR 0,sR 3,sF 33,sF 34,sR 6,sF 35,sF 36,sF 37,sF 38,sF 39,sF 40,sF 41,sF 42,sF 43,sF 44,sU,sU,sU,sU,sU,sU,sU,sU,sU,sU,sU],[],[bE,za4,aG,bN,fg,fV,fU],47,7,14)) (682,#[sF 5,sF 6,sF 7,sF 8,sF 9,sF 10,sF 11,sF 12,sF 13,sF 14,sF 15,sF 16,sF 17,sF 18,sI 0,sF 20,sF 21,sF 22,sF 23,sF 24,sF 25,sF 26,sF 27,sF 1,sF 2,sF 3,sF 4,sR 0,sR 3,sF 33,sF 34,sR 6,sF 35,sF 36,sF 37,sF 38,sF 39,sF 40,sF 41,sF 42,sF 43,sF 44,sR 7,sR 49,sU,sU,sU,sU,sU,sU,sU,sU,sU],[],Ho,57,83,828) o4=true:=by decide +kernel
def md (D:Nat→UInt64)(w29 w30 w32 w33 w34 w35 w36 w37 w38 w39 w40 w41:UInt64):Nat→UInt64:=ac [0,D 1,D 2,D 3,D 4,D 5,D 6,D 7,D 8,D 9,D 10,D 11,D 12,D 13,D 14,D 15,D 16,D 17,D 18,D 19,D 20,D 21,D 22,D 23,D 24,D 25,D 26,D 27,0,0,FP.i2d (iW (D 1)),FP.i2d (iW (D 2)),FP.i2d (iW (D 3)),w29,w30,w32,w33,w34,w35,w36,w37,w38,w39,w40,w41,FP.i2d (iW w29),FP.i2d (iW w30)]
theorem ur {a u Lq Dd:Int}(bs:Bool)(B:LWB p l e s m args below meth c T0 Z a0 h0 n0 L0 0 0)(D0:D 0=0)(hrev:iW (D 19)=0)(z0:(iW (D 1)).toInt≠0)(z1:(iW (D 2)).toInt≠0)(z2:(iW (D 3)).toInt≠0)(z3:(iW (D 4)).toInt=0)(Q:QM4 D)(het:iW (D 18)=0∨iW (D 18)=1∨iW (D 18)=2)(hJ:∀i0 i1:Int,(-65536≤i0∧i0≤65536)→(-65536≤i1∧i1≤65536)→∃J0 J1,JT (iW (D 1)).toInt (iW (D 2)).toInt (iW (D 3)).toInt (iW (D 4)).toInt J0 J1 i0 i1)(S:S7 (ah u 0 (FP.i2d (iW (D 1)))) (Lq=0) a u Lq Dd (iW (D 2)).toInt (iW (D 1)).toInt (iW (D 4)).toInt (iW (D 3)).toInt (FP.i2d (iW (D 2))) (FP.i2d (iW (D 3))))(hv:∀w29 w30 w32 w33 w34 w35 w36 w37 w38 w39 w40 w41:UInt64,okv o4 47 (md D w29 w30 w32 w33 w34 w35 w36 w37 w38 w39 w40 w41)):Go p e below (bw s (aV n0) 192 1792) T0 (mkF m 411 (cH D bs) []):=by
 refine goE (aY (A:=fun _=>0) (K:=fun _=>0) (D:=D) (W:=fun _ => .null) (Hn bs) (scS kY (scS LI (scS kZ (scS LK sc0)))) B YgF.nil D0 (by decide) ⟨z0,z1,z2,z3,z2,z0,z1,trivial,trivial,z2,z3,z2,trivial,trivial⟩ ?_) (by cases bs<;>(simp only[cH];rw[hrev];rfl))
 intro T1 h1 L1 A1 K1 B1 hA1 Kp1 f1 Y1
 have YA:Yf Z n0 h1 ([(A1 0,K1 0,67,2,[.ref (A1 1),.ref (A1 2)]),(A1 3,K1 3,68,2,[.ref (A1 4),.ref (A1 5)])]++[(A1 1,K1 1,64,2,[.int 0,.int 1]),(A1 2,K1 2,64,1,[.int 0]),(A1 4,K1 4,65,2,[.double (FP.i2d (iW (D 1))),.double (FP.i2d (iW (D 2)))]),(A1 5,K1 5,65,1,[.double (FP.i2d (iW (D 3)))])]):=Yf.pick Y1.fl [0,3,1,2,4,5] (by decide) rfl
 refine goE (eP (D:=D) (B1.more (by decide) (by decide)) D0 YA ?_) (by simp only[f_];rw[hrev];rfl)
 intro T2 h2 L2 vv kv w29 w30 w32 w33 w34 w35 w36 w37 w38 w39 w40 w41 B2 Y2 V
 have YB:YgF Z n0 h2 (aP [A1 0,A1 1,A1 2,A1 3,A1 4,A1 5,vv]) (aQ [K1 0,K1 1,K1 2,K1 3,K1 4,K1 5,kv]) (md D w29 w30 w32 w33 w34 w35 w36 w37 w38 w39 w40 w41) (fun _ => .null) [aR 67 [1,2],aI [0,1],aI [0],aR 68 [4,5],aD [30,31],aD [32],aD [45,46]]:=Yf.to (Yf.pick (os':=ap (aP [A1 0,A1 1,A1 2,A1 3,A1 4,A1 5,vv]) (aQ [K1 0,K1 1,K1 2,K1 3,K1 4,K1 5,kv]) (md D w29 w30 w32 w33 w34 w35 w36 w37 w38 w39 w40 w41) (fun _ => .null) 0 [aR 67 [1,2],aI [0,1],aI [0],aR 68 [4,5],aD [30,31],aD [32],aD [45,46]]) Y2 [0,3,4,1,5,6,2] (by decide) rfl) rfl
 refine goE (aY (A:=(aP [A1 0,A1 1,A1 2,A1 3,A1 4,A1 5,vv])) (K:=(aQ [K1 0,K1 1,K1 2,K1 3,K1 4,K1 5,kv])) (D:=(md D w29 w30 w32 w33 w34 w35 w36 w37 w38 w39 w40 w41)) (W:=fun _ => .null) Hp (scS jC (scS h9 (scS N_ sc0))) B2 YB rfl (by decide) (hv w29 w30 w32 w33 w34 w35 w36 w37 w38 w39 w40 w41) ?_) (by simp only[gf];rw[hrev];rfl)
 intro T3 h3 L3 A3 K3 B3 hA3 Kp3 f3 Y3
 have HT:=Gj (l:=l) (Z:=Z) (n0:=n0) (la:=(aJ [21,22,23,24,77,78,27,14,15] A3)) (kl:=(bC [21,22,23,24,77,78,27,14,15] K3)) (g:=(bD [77,78,10,11,79,80,14,15,0,21,22,23,24,25,26,27,28,29,30,34,38,42,46,1,2,4,5] A3)) S
 obtain⟨J0,J1,J⟩:=hJ (iW w29).toInt (iW w30).toInt V.1 V.2.1
 exact goE (gu (A:=aJ [6,7,16,17,18,19,20,49,50,51,52,0,3] A3) (K:=bC [6,7,16,17,18,19,20,49,50,51,52,0,3] K3) (D:=(fF D w29 w30 w32 w33 w34 w35 w36 w37 w38 w39 w40 w41)) (W:=tmL (bD [77,78,10,11,79,80,14,15,0,21,22,23,24,25,26,27,28,29,30,34,38,42,46,1,2,4,5] A3) (aJ [21,22,23,24,77,78,27,14,15] A3)) (J0:=J0) (J1:=J1) (B3.more (by decide) (by decide)) rfl Q J ⟨Jvm.FP.Core.i2d_int _,Jvm.FP.Core.i2d_int _⟩ het V HT (Yf.pick Y3.fl [6,7,16,17,18,19,20,49,50,51,52,0,3,21,22,23,24,77,78,27,14,15] (by decide) rfl)) (by simp only[bK];rw[show iW ((fF D w29 w30 w32 w33 w34 w35 w36 w37 w38 w39 w40 w41) 17)=0 from hrev];rfl)
theorem Hq:∀bs:Bool,ai (run code aq 53 (8,192,1792,192) 471 36 [xH,(tm,[],[0,3,4],[]),xG,(tn,[],[0,3,4],[])] [] (411,#[sF 5,sF 6,sF 7,sF 8,sF 9,sF 10,sF 11,sF 12,sF 13,sF 14,sF 15,sF 16,sF 17,sF 18,sI 1,sF 20,sF 21,sF 22,sF 23,sF 24,sF 25,sF 26,sF 27,sF 1,sF 2,sF 3,sF 4,(bif bs then sF 28 else sU),(bif bs then sF 29 else sU),sU,sU,sU,sU,sU,sU,sU,sU,sU,sU,sU,sU,sU,sU,sU,sU,sU,sU,sU,sU,sU,sU,sU,sU],[],[],30,0,0)) (471,#[sF 5,sF 6,sF 7,sF 8,sF 9,sF 10,sF 11,sF 12,sF 13,sF 14,sF 15,sF 16,sF 17,sF 18,sI 1,sF 20,sF 21,sF 22,sF 23,sF 24,sF 25,sF 26,sF 27,sF 1,sF 2,sF 3,sF 4,sR 0,sR 3,sU,sU,sU,sU,sU,sU,sU,sU,sU,sU,sU,sU,sU,sU,sU,sU,sU,sU,sU,sU,sU,sU,sU,sU],[],[bE,za9,aG,bN,fg,fV],33,6,10) [cE,eA,cO,(13,4,0,0),cO,cE,eA,fJ,fK,cO,(13,4,0,0),cO,ix]=true:=by decide +kernel
def Hr:List AD:=[bE,za9,aG,bN,fg,fV,fU,s7]++f7++[za4,za9,aD [30,32],dU,bv,dU,bv,za4,za9]++gx++([s9,gw,gv,za9,az,az,aD [31,31],aG,fV,gR,bM,aG,d6]++lN++[az,i_,az,i_,bM,az])
def o5:List Op:=[gS]++xF
theorem Hs:ai (run code aq 53 (8,192,1792,192) 682 17 [kg,kh,(DG,[0,1,2,3,4,5,7,8,9,12,13,14,21,22,23,24,25,26,27,28,29],[0,30,31,32],lP++rS 15 6++ki++rp 5 zq0++kj)] [] (648,#[sF 5,sF 6,sF 7,sF 8,sF 9,sF 10,sF 11,sF 12,sF 13,sF 14,sF 15,sF 16,sF 17,sF 18,sI 1,sF 20,sF 21,sF 22,sF 23,sF 24,sF 25,sF 26,sF 27,sF 1,sF 2,sF 3,sF 4,sR 0,sR 3,sF 33,sF 34,sR 6,sF 35,sF 36,sF 37,sF 38,sF 39,sF 40,sF 41,sF 42,sF 43,sF 44,sU,sU,sU,sU,sU,sU,sU,sU,sU,sU,sU],[],[bE,za9,aG,bN,fg,fV,fU],47,7,14)) (682,#[sF 5,sF 6,sF 7,sF 8,sF 9,sF 10,sF 11,sF 12,sF 13,sF 14,sF 15,sF 16,sF 17,sF 18,sI 1,sF 20,sF 21,sF 22,sF 23,sF 24,sF 25,sF 26,sF 27,sF 1,sF 2,sF 3,sF 4,sR 0,sR 3,sF 33,sF 34,sR 6,sF 35,sF 36,sF 37,sF 38,sF 39,sF 40,sF 41,sF 42,sF 43,sF 44,sR 7,sR 49,sU,sU,sU,sU,sU,sU,sU,sU,sU],[],Hr,57,83,828) o5=true:=by decide +kernel
def me (D:Nat→UInt64)(w29 w30 w32 w33 w34 w35 w36 w37 w38 w39 w40 w41:UInt64):Nat→UInt64:=ac [0,D 1,D 2,D 3,D 4,D 5,D 6,D 7,D 8,D 9,D 10,D 11,D 12,D 13,D 14,D 15,D 16,D 17,D 18,D 19,D 20,D 21,D 22,D 23,D 24,D 25,D 26,D 27,0,0,FP.i2d (iW (D 2)),FP.i2d (iW (D 1)),FP.i2d (iW (D 3)),w29,w30,w32,w33,w34,w35,w36,w37,w38,w39,w40,w41,FP.i2d (iW w29),FP.i2d (iW w30)]
theorem us {a u Lq Dd:Int}(bs:Bool)(B:LWB p l e s m args below meth c T0 Z a0 h0 n0 L0 0 0)(D0:D 0=0)(hrev:iW (D 19)=1)(z0:(iW (D 1)).toInt≠0)(z1:(iW (D 2)).toInt≠0)(z2:(iW (D 3)).toInt≠0)(z3:(iW (D 4)).toInt=0)(Q:QM4 D)(het:iW (D 18)=0∨iW (D 18)=1∨iW (D 18)=2)(hJ:∀i0 i1:Int,(-65536≤i0∧i0≤65536)→(-65536≤i1∧i1≤65536)→∃J0 J1,JT (iW (D 1)).toInt (iW (D 2)).toInt (iW (D 3)).toInt (iW (D 4)).toInt J0 J1 i0 i1)(S:S7 (ah u 0 (FP.i2d (iW (D 1)))) (Lq=0) a u Lq Dd (iW (D 2)).toInt (iW (D 1)).toInt (iW (D 4)).toInt (iW (D 3)).toInt (FP.i2d (iW (D 2))) (FP.i2d (iW (D 3))))(hv:∀w29 w30 w32 w33 w34 w35 w36 w37 w38 w39 w40 w41:UInt64,okv o5 47 (me D w29 w30 w32 w33 w34 w35 w36 w37 w38 w39 w40 w41)):Go p e below (bw s (aV n0) 192 1792) T0 (mkF m 411 (cH D bs) []):=by
 refine goE (aY (A:=fun _=>0) (K:=fun _=>0) (D:=D) (W:=fun _ => .null) (Hq bs) (scS lw (scS Cv (scS lx (scS Cx sc0)))) B YgF.nil D0 (by decide) ⟨z0,z1,z2,z3,z2,z0,z1,trivial,trivial,z2,z3,z2,trivial,trivial⟩ ?_) (by cases bs<;>(simp only[cH];rw[hrev];rfl))
 intro T1 h1 L1 A1 K1 B1 hA1 Kp1 f1 Y1
 have YA:Yf Z n0 h1 ([(A1 0,K1 0,67,2,[.ref (A1 1),.ref (A1 2)]),(A1 3,K1 3,68,2,[.ref (A1 4),.ref (A1 5)])]++[(A1 1,K1 1,64,2,[.int 1,.int 0]),(A1 2,K1 2,64,1,[.int 0]),(A1 4,K1 4,65,2,[.double (FP.i2d (iW (D 2))),.double (FP.i2d (iW (D 1)))]),(A1 5,K1 5,65,1,[.double (FP.i2d (iW (D 3)))])]):=Yf.pick Y1.fl [0,3,1,2,4,5] (by decide) rfl
 refine goE (eP (D:=D) (B1.more (by decide) (by decide)) D0 YA ?_) (by simp only[f_];rw[hrev];rfl)
 intro T2 h2 L2 vv kv w29 w30 w32 w33 w34 w35 w36 w37 w38 w39 w40 w41 B2 Y2 V
 have YB:YgF Z n0 h2 (aP [A1 0,A1 1,A1 2,A1 3,A1 4,A1 5,vv]) (aQ [K1 0,K1 1,K1 2,K1 3,K1 4,K1 5,kv]) (me D w29 w30 w32 w33 w34 w35 w36 w37 w38 w39 w40 w41) (fun _ => .null) [aR 67 [1,2],aI [1,0],aI [0],aR 68 [4,5],aD [30,31],aD [32],aD [45,46]]:=Yf.to (Yf.pick (os':=ap (aP [A1 0,A1 1,A1 2,A1 3,A1 4,A1 5,vv]) (aQ [K1 0,K1 1,K1 2,K1 3,K1 4,K1 5,kv]) (me D w29 w30 w32 w33 w34 w35 w36 w37 w38 w39 w40 w41) (fun _ => .null) 0 [aR 67 [1,2],aI [1,0],aI [0],aR 68 [4,5],aD [30,31],aD [32],aD [45,46]]) Y2 [0,3,4,1,5,6,2] (by decide) rfl) rfl
 refine goE (aY (A:=(aP [A1 0,A1 1,A1 2,A1 3,A1 4,A1 5,vv])) (K:=(aQ [K1 0,K1 1,K1 2,K1 3,K1 4,K1 5,kv])) (D:=(me D w29 w30 w32 w33 w34 w35 w36 w37 w38 w39 w40 w41)) (W:=fun _ => .null) Hs (scS jC (scS h9 (scS Oe sc0))) B2 YB rfl (by decide) (hv w29 w30 w32 w33 w34 w35 w36 w37 w38 w39 w40 w41) ?_) (by simp only[gf];rw[hrev];rfl)
 intro T3 h3 L3 A3 K3 B3 hA3 Kp3 f3 Y3
 have HT:=Gj (l:=l) (Z:=Z) (n0:=n0) (la:=(aJ [21,22,23,24,77,78,27,14,15] A3)) (kl:=(bC [21,22,23,24,77,78,27,14,15] K3)) (g:=(bD [77,78,10,11,79,80,14,15,0,21,22,23,24,25,26,27,28,29,30,34,38,42,46,1,2,4,5] A3)) S
 obtain⟨J0,J1,J⟩:=hJ (iW w29).toInt (iW w30).toInt V.1 V.2.1
 exact goE (gu (A:=aJ [6,7,16,17,18,19,20,49,50,51,52,0,3] A3) (K:=bC [6,7,16,17,18,19,20,49,50,51,52,0,3] K3) (D:=(fF D w29 w30 w32 w33 w34 w35 w36 w37 w38 w39 w40 w41)) (W:=tmL (bD [77,78,10,11,79,80,14,15,0,21,22,23,24,25,26,27,28,29,30,34,38,42,46,1,2,4,5] A3) (aJ [21,22,23,24,77,78,27,14,15] A3)) (J0:=J0) (J1:=J1) (B3.more (by decide) (by decide)) rfl Q J ⟨Jvm.FP.Core.i2d_int _,Jvm.FP.Core.i2d_int _⟩ het V HT (Yf.pick Y3.fl [6,7,16,17,18,19,20,49,50,51,52,0,3,21,22,23,24,77,78,27,14,15] (by decide) rfl)) (by simp only[bK];rw[show iW ((fF D w29 w30 w32 w33 w34 w35 w36 w37 w38 w39 w40 w41) 17)=1 from hrev];rfl)
def o6:List AD:=[bE,za4,za4,bN,fg,xn]
theorem ze:∀bs:Bool,ai (run code aq 53 (8,192,1792,192) 471 36 [xE,xw,xD,xv] [] (411,#[sF 5,sF 6,sF 7,sF 8,sF 9,sF 10,sF 11,sF 12,sF 13,sF 14,sF 15,sF 16,sF 17,sF 18,sI 0,sF 20,sF 21,sF 22,sF 23,sF 24,sF 25,sF 26,sF 27,sF 1,sF 2,sF 3,sF 4,(bif bs then sF 28 else sU),(bif bs then sF 29 else sU),sU,sU,sU,sU,sU,sU,sU,sU,sU,sU,sU,sU,sU,sU,sU,sU,sU,sU,sU,sU,sU,sU,sU,sU],[],[],30,0,0)) (471,#[sF 5,sF 6,sF 7,sF 8,sF 9,sF 10,sF 11,sF 12,sF 13,sF 14,sF 15,sF 16,sF 17,sF 18,sI 0,sF 20,sF 21,sF 22,sF 23,sF 24,sF 25,sF 26,sF 27,sF 1,sF 2,sF 3,sF 4,sR 0,sR 3,sU,sU,sU,sU,sU,sU,sU,sU,sU,sU,sU,sU,sU,sU,sU,sU,sU,sU,sU,sU,sU,sU,sU,sU],[],o6,34,6,12) [cE,eA,cO,fT,cE,eA,fK,fJ,cO,fT,ix,iy]=true:=by decide +kernel
def xI:AD:=(0,0,rS 77 8++rS 16 5++[ay]++rS 21 10++G2)
def xJ:AD:=(3,0,[vR 7]++rS 54 4++[vR 62,vR 66,vR 71,vR 76,zq3,zq3])
def lQ:AD:=aD [46,47]
def Nc:List AD:=[aD [56,33],gR,za4,bM,f9,oV,za7,ft,za2,za2,oU,za7,ft,za2,za2,za2,za9]
def zf:List AD:=o6++[lQ,xI]++f7++[za4,za4,aD [30,56],dU,dU,iw,iw,za4,za4]++gx++([xJ,gw,gv,za9,az,bM,aD [31,31],bM]++Nc++[i_,za9,aD [54,0],az,i_,az,aD [54,0],za4,za4])
def Q4:Op:=(11,48,4472406533629990549,1)
def Nd:List Op:=[(4,55,0,0),(5,58,59,0),(2,4397347889687374747,60,0),(11,57,61,1),(4,56,0,0),(11,62,4472406533629990549,1),(4,56,0,0),(5,0,63,0),(2,4591870180066957722,64,0),(10,62,65,1)]
def xL:List Op:=[Q4,gS,(5,0,49,0),gy,(5,50,51,0),G3]
def nH:List Op:=[gS]++xL++[(10,48,53,1),(3,32,30,0),(2,54,31,0),(1,33,55,0),(4,56,0,0),(4,33,0,0)]++Nd
theorem zg:ai (run code aq 53 (8,192,1792,192) 682 17 [kg,kh,(Ef,[0,1,2,3,4,5,7,8,9,10,11,12,13,14,15,21,22,23,24,25,26,27,28,29],[0,30,31,32,33],rS 16 5++ki++rp 5 zq0++kj)] [] (648,#[sF 5,sF 6,sF 7,sF 8,sF 9,sF 10,sF 11,sF 12,sF 13,sF 14,sF 15,sF 16,sF 17,sF 18,sI 0,sF 20,sF 21,sF 22,sF 23,sF 24,sF 25,sF 26,sF 27,sF 1,sF 2,sF 3,sF 4,sR 0,sR 3,sF 34,sF 35,sR 6,sF 36,sF 37,sF 38,sF 39,sF 40,sF 41,sF 42,sF 43,sF 44,sF 45,sU,sU,sU,sU,sU,sU,sU,sU,sU,sU,sU],[],o6++[lQ],48,7,14)) (682,#[sF 5,sF 6,sF 7,sF 8,sF 9,sF 10,sF 11,sF 12,sF 13,sF 14,sF 15,sF 16,sF 17,sF 18,sI 0,sF 20,sF 21,sF 22,sF 23,sF 24,sF 25,sF 26,sF 27,sF 1,sF 2,sF 3,sF 4,sR 0,sR 3,sF 34,sF 35,sR 6,sF 36,sF 37,sF 38,sF 39,sF 40,sF 41,sF 42,sF 43,sF 44,sF 45,sR 7,sR 49,sU,sU,sU,sU,sU,sU,sU,sU,sU],[],zf,66,87,839) nH=true:=by decide +kernel
def km (D:Nat→UInt64)(w29 w30 w32 w33 w34 w35 w36 w37 w38 w39 w40 w41:UInt64):Nat→UInt64:=ac [0,D 1,D 2,D 3,D 4,D 5,D 6,D 7,D 8,D 9,D 10,D 11,D 12,D 13,D 14,D 15,D 16,D 17,D 18,D 19,D 20,D 21,D 22,D 23,D 24,D 25,D 26,D 27,0,0,FP.i2d (iW (D 1)),FP.i2d (iW (D 2)),FP.i2d (iW (D 3)),FP.i2d (iW (D 4)),w29,w30,w32,w33,w34,w35,w36,w37,w38,w39,w40,w41,FP.i2d (iW w29),FP.i2d (iW w30)]
theorem s_ {a u Lq Dd:Int}(bs:Bool)(B:LWB p l e s m args below meth c T0 Z a0 h0 n0 L0 0 0)(D0:D 0=0)(hrev:iW (D 19)=0)(z0:(iW (D 1)).toInt≠0)(z1:(iW (D 2)).toInt≠0)(z2:(iW (D 3)).toInt≠0)(z3:(iW (D 4)).toInt≠0)(Q:QM4 D)(het:iW (D 18)=0∨iW (D 18)=1∨iW (D 18)=2)(hJ:∀i0 i1:Int,(-65536≤i0∧i0≤65536)→(-65536≤i1∧i1≤65536)→∃J0 J1,JT (iW (D 1)).toInt (iW (D 2)).toInt (iW (D 3)).toInt (iW (D 4)).toInt J0 J1 i0 i1)(S:S7 (ah u 0 (FP.i2d (iW (D 2)))) (ah Lq 7 (FP.ddiv (FP.i2d (iW (D 3))) (FP.i2d (iW (D 1))))) a u Lq Dd (iW (D 1)).toInt (iW (D 2)).toInt (iW (D 3)).toInt (iW (D 4)).toInt (FP.i2d (iW (D 1))) (FP.dsub (FP.i2d (iW (D 4))) (FP.dmul (FP.ddiv (FP.i2d (iW (D 3))) (FP.i2d (iW (D 1)))) (FP.i2d (iW (D 2))))))(hv:∀w29 w30 w32 w33 w34 w35 w36 w37 w38 w39 w40 w41:UInt64,okv nH 48 (km D w29 w30 w32 w33 w34 w35 w36 w37 w38 w39 w40 w41)):Go p e below (bw s (aV n0) 192 1792) T0 (mkF m 411 (cH D bs) []):=by
 refine goE (aY (A:=fun _=>0) (K:=fun _=>0) (D:=D) (W:=fun _ => .null) (ze bs) (scS kY (scS kY (scS kZ (scS kZ sc0)))) B YgF.nil D0 (by decide) ⟨z0,z1,z2,z3,z0,z1,trivial,trivial,z2,z3,trivial,trivial,trivial⟩ ?_) (by cases bs<;>(simp only[cH];rw[hrev];rfl))
 intro T1 h1 L1 A1 K1 B1 hA1 Kp1 f1 Y1
 have YA:Yf Z n0 h1 ([(A1 0,K1 0,67,2,[.ref (A1 1),.ref (A1 2)]),(A1 3,K1 3,68,2,[.ref (A1 4),.ref (A1 5)])]++[(A1 1,K1 1,64,2,[.int 0,.int 1]),(A1 2,K1 2,64,2,[.int 0,.int 1]),(A1 4,K1 4,65,2,[.double (FP.i2d (iW (D 1))),.double (FP.i2d (iW (D 2)))]),(A1 5,K1 5,65,2,[.double (FP.i2d (iW (D 3))),.double (FP.i2d (iW (D 4)))])]):=Yf.pick Y1.fl [0,3,1,2,4,5] (by decide) rfl
 refine goE (eP (D:=D) (B1.more (by decide) (by decide)) D0 YA ?_) (by simp only[f_];rw[hrev];rfl)
 intro T2 h2 L2 vv kv w29 w30 w32 w33 w34 w35 w36 w37 w38 w39 w40 w41 B2 Y2 V
 have YB:YgF Z n0 h2 (aP [A1 0,A1 1,A1 2,A1 3,A1 4,A1 5,vv]) (aQ [K1 0,K1 1,K1 2,K1 3,K1 4,K1 5,kv]) (km D w29 w30 w32 w33 w34 w35 w36 w37 w38 w39 w40 w41) (fun _ => .null) [aR 67 [1,2],aI [0,1],aI [0,1],aR 68 [4,5],aD [30,31],aD [32,33],aD [46,47]]:=Yf.to (Yf.pick (os':=ap (aP [A1 0,A1 1,A1 2,A1 3,A1 4,A1 5,vv]) (aQ [K1 0,K1 1,K1 2,K1 3,K1 4,K1 5,kv]) (km D w29 w30 w32 w33 w34 w35 w36 w37 w38 w39 w40 w41) (fun _ => .null) 0 [aR 67 [1,2],aI [0,1],aI [0,1],aR 68 [4,5],aD [30,31],aD [32,33],aD [46,47]]) Y2 [0,3,4,1,5,6,2] (by decide) rfl) rfl
 refine goE (aY (A:=(aP [A1 0,A1 1,A1 2,A1 3,A1 4,A1 5,vv])) (K:=(aQ [K1 0,K1 1,K1 2,K1 3,K1 4,K1 5,kv])) (D:=(km D w29 w30 w32 w33 w34 w35 w36 w37 w38 w39 w40 w41)) (W:=fun _ => .null) zg (scS jC (scS h9 (scS Ok sc0))) B2 YB rfl (by decide) (hv w29 w30 w32 w33 w34 w35 w36 w37 w38 w39 w40 w41) ?_) (by simp only[gf];rw[hrev];rfl)
 intro T3 h3 L3 A3 K3 B3 hA3 Kp3 f3 Y3
 have HT:=wJ (l:=l) (Z:=Z) (n0:=n0) (la:=(aJ [21,22,23,24,77,78,27,83,84] A3)) (kl:=(bC [21,22,23,24,77,78,27,83,84] K3)) (g:=(bD [77,78,79,80,81,82,83,84,0,21,22,23,24,25,26,27,28,29,30,34,38,42,46,1,2,4,5] A3)) S
 obtain⟨J0,J1,J⟩:=hJ (iW w29).toInt (iW w30).toInt V.1 V.2.1
 exact goE (gu (A:=aJ [6,7,16,17,18,19,20,49,50,51,52,0,3] A3) (K:=bC [6,7,16,17,18,19,20,49,50,51,52,0,3] K3) (D:=(fF D w29 w30 w32 w33 w34 w35 w36 w37 w38 w39 w40 w41)) (W:=tmL (bD [77,78,79,80,81,82,83,84,0,21,22,23,24,25,26,27,28,29,30,34,38,42,46,1,2,4,5] A3) (aJ [21,22,23,24,77,78,27,83,84] A3)) (J0:=J0) (J1:=J1) (B3.more (by decide) (by decide)) rfl Q J ⟨Jvm.FP.Core.i2d_int _,Jvm.FP.Core.i2d_int _⟩ het V HT (Yf.pick Y3.fl [6,7,16,17,18,19,20,49,50,51,52,0,3,21,22,23,24,77,78,27,83,84] (by decide) rfl)) (by simp only[bK];rw[show iW ((fF D w29 w30 w32 w33 w34 w35 w36 w37 w38 w39 w40 w41) 17)=0 from hrev];rfl)
def o7:List AD:=[bE,za9,za9,bN,fg,xn]
theorem zh:∀bs:Bool,ai (run code aq 53 (8,192,1792,192) 471 36 [xH,xz,xG,xy] [] (411,#[sF 5,sF 6,sF 7,sF 8,sF 9,sF 10,sF 11,sF 12,sF 13,sF 14,sF 15,sF 16,sF 17,sF 18,sI 1,sF 20,sF 21,sF 22,sF 23,sF 24,sF 25,sF 26,sF 27,sF 1,sF 2,sF 3,sF 4,(bif bs then sF 28 else sU),(bif bs then sF 29 else sU),sU,sU,sU,sU,sU,sU,sU,sU,sU,sU,sU,sU,sU,sU,sU,sU,sU,sU,sU,sU,sU,sU,sU,sU],[],[],30,0,0)) (471,#[sF 5,sF 6,sF 7,sF 8,sF 9,sF 10,sF 11,sF 12,sF 13,sF 14,sF 15,sF 16,sF 17,sF 18,sI 1,sF 20,sF 21,sF 22,sF 23,sF 24,sF 25,sF 26,sF 27,sF 1,sF 2,sF 3,sF 4,sR 0,sR 3,sU,sU,sU,sU,sU,sU,sU,sU,sU,sU,sU,sU,sU,sU,sU,sU,sU,sU,sU,sU,sU,sU,sU,sU],[],o7,34,6,12) [cE,eA,cO,fT,cE,eA,fJ,fK,cO,fT,iy,ix]=true:=by decide +kernel
def zi:List AD:=o7++[lQ,xI]++f7++[za4,za4,aD [31,56],dU,dU,iw,iw,za4,za4]++gx++([xJ,gw,gv,za9,az,za9,fg,za9]++Nc++[aD [30,0],za9,aD [54,0],az,aD [30,0],az,aD [54,0],za4,za4])
def nI:List Op:=[gy]++xL++[(10,48,53,1),(3,33,31,0),(2,54,30,0),(1,32,55,0),(4,56,0,0),lO]++Nd
theorem zj:ai (run code aq 53 (8,192,1792,192) 682 17 [kg,kh,(En,[0,1,2,3,4,5,7,8,9,10,11,12,13,14,15,21,22,23,24,25,26,27,28,29],[0,30,31,32,33],rS 16 5++ki++rp 5 zq0++kj)] [] (648,#[sF 5,sF 6,sF 7,sF 8,sF 9,sF 10,sF 11,sF 12,sF 13,sF 14,sF 15,sF 16,sF 17,sF 18,sI 1,sF 20,sF 21,sF 22,sF 23,sF 24,sF 25,sF 26,sF 27,sF 1,sF 2,sF 3,sF 4,sR 0,sR 3,sF 34,sF 35,sR 6,sF 36,sF 37,sF 38,sF 39,sF 40,sF 41,sF 42,sF 43,sF 44,sF 45,sU,sU,sU,sU,sU,sU,sU,sU,sU,sU,sU],[],o7++[lQ],48,7,14)) (682,#[sF 5,sF 6,sF 7,sF 8,sF 9,sF 10,sF 11,sF 12,sF 13,sF 14,sF 15,sF 16,sF 17,sF 18,sI 1,sF 20,sF 21,sF 22,sF 23,sF 24,sF 25,sF 26,sF 27,sF 1,sF 2,sF 3,sF 4,sR 0,sR 3,sF 34,sF 35,sR 6,sF 36,sF 37,sF 38,sF 39,sF 40,sF 41,sF 42,sF 43,sF 44,sF 45,sR 7,sR 49,sU,sU,sU,sU,sU,sU,sU,sU,sU],[],zi,66,87,839) nI=true:=by decide +kernel
def ko (D:Nat→UInt64)(w29 w30 w32 w33 w34 w35 w36 w37 w38 w39 w40 w41:UInt64):Nat→UInt64:=ac [0,D 1,D 2,D 3,D 4,D 5,D 6,D 7,D 8,D 9,D 10,D 11,D 12,D 13,D 14,D 15,D 16,D 17,D 18,D 19,D 20,D 21,D 22,D 23,D 24,D 25,D 26,D 27,0,0,FP.i2d (iW (D 2)),FP.i2d (iW (D 1)),FP.i2d (iW (D 4)),FP.i2d (iW (D 3)),w29,w30,w32,w33,w34,w35,w36,w37,w38,w39,w40,w41,FP.i2d (iW w29),FP.i2d (iW w30)]
theorem ta {a u Lq Dd:Int}(bs:Bool)(B:LWB p l e s m args below meth c T0 Z a0 h0 n0 L0 0 0)(D0:D 0=0)(hrev:iW (D 19)=1)(z0:(iW (D 1)).toInt≠0)(z1:(iW (D 2)).toInt≠0)(z2:(iW (D 3)).toInt≠0)(z3:(iW (D 4)).toInt≠0)(Q:QM4 D)(het:iW (D 18)=0∨iW (D 18)=1∨iW (D 18)=2)(hJ:∀i0 i1:Int,(-65536≤i0∧i0≤65536)→(-65536≤i1∧i1≤65536)→∃J0 J1,JT (iW (D 1)).toInt (iW (D 2)).toInt (iW (D 3)).toInt (iW (D 4)).toInt J0 J1 i0 i1)(S:S7 (ah u 0 (FP.i2d (iW (D 2)))) (ah Lq 7 (FP.ddiv (FP.i2d (iW (D 3))) (FP.i2d (iW (D 1))))) a u Lq Dd (iW (D 1)).toInt (iW (D 2)).toInt (iW (D 3)).toInt (iW (D 4)).toInt (FP.i2d (iW (D 1))) (FP.dsub (FP.i2d (iW (D 4))) (FP.dmul (FP.ddiv (FP.i2d (iW (D 3))) (FP.i2d (iW (D 1)))) (FP.i2d (iW (D 2))))))(hv:∀w29 w30 w32 w33 w34 w35 w36 w37 w38 w39 w40 w41:UInt64,okv nI 48 (ko D w29 w30 w32 w33 w34 w35 w36 w37 w38 w39 w40 w41)):Go p e below (bw s (aV n0) 192 1792) T0 (mkF m 411 (cH D bs) []):=by
 refine goE (aY (A:=fun _=>0) (K:=fun _=>0) (D:=D) (W:=fun _ => .null) (zh bs) (scS lw (scS lw (scS lx (scS lx sc0)))) B YgF.nil D0 (by decide) ⟨z0,z1,z2,z3,z0,z1,trivial,trivial,z2,z3,trivial,trivial,trivial⟩ ?_) (by cases bs<;>(simp only[cH];rw[hrev];rfl))
 intro T1 h1 L1 A1 K1 B1 hA1 Kp1 f1 Y1
 have YA:Yf Z n0 h1 ([(A1 0,K1 0,67,2,[.ref (A1 1),.ref (A1 2)]),(A1 3,K1 3,68,2,[.ref (A1 4),.ref (A1 5)])]++[(A1 1,K1 1,64,2,[.int 1,.int 0]),(A1 2,K1 2,64,2,[.int 1,.int 0]),(A1 4,K1 4,65,2,[.double (FP.i2d (iW (D 2))),.double (FP.i2d (iW (D 1)))]),(A1 5,K1 5,65,2,[.double (FP.i2d (iW (D 4))),.double (FP.i2d (iW (D 3)))])]):=Yf.pick Y1.fl [0,3,1,2,4,5] (by decide) rfl
 refine goE (eP (D:=D) (B1.more (by decide) (by decide)) D0 YA ?_) (by simp only[f_];rw[hrev];rfl)
 intro T2 h2 L2 vv kv w29 w30 w32 w33 w34 w35 w36 w37 w38 w39 w40 w41 B2 Y2 V
 have YB:YgF Z n0 h2 (aP [A1 0,A1 1,A1 2,A1 3,A1 4,A1 5,vv]) (aQ [K1 0,K1 1,K1 2,K1 3,K1 4,K1 5,kv]) (ko D w29 w30 w32 w33 w34 w35 w36 w37 w38 w39 w40 w41) (fun _ => .null) [aR 67 [1,2],aI [1,0],aI [1,0],aR 68 [4,5],aD [30,31],aD [32,33],aD [46,47]]:=Yf.to (Yf.pick (os':=ap (aP [A1 0,A1 1,A1 2,A1 3,A1 4,A1 5,vv]) (aQ [K1 0,K1 1,K1 2,K1 3,K1 4,K1 5,kv]) (ko D w29 w30 w32 w33 w34 w35 w36 w37 w38 w39 w40 w41) (fun _ => .null) 0 [aR 67 [1,2],aI [1,0],aI [1,0],aR 68 [4,5],aD [30,31],aD [32,33],aD [46,47]]) Y2 [0,3,4,1,5,6,2] (by decide) rfl) rfl
 refine goE (aY (A:=(aP [A1 0,A1 1,A1 2,A1 3,A1 4,A1 5,vv])) (K:=(aQ [K1 0,K1 1,K1 2,K1 3,K1 4,K1 5,kv])) (D:=(ko D w29 w30 w32 w33 w34 w35 w36 w37 w38 w39 w40 w41)) (W:=fun _ => .null) zj (scS jC (scS h9 (scS On sc0))) B2 YB rfl (by decide) (hv w29 w30 w32 w33 w34 w35 w36 w37 w38 w39 w40 w41) ?_) (by simp only[gf];rw[hrev];rfl)
 intro T3 h3 L3 A3 K3 B3 hA3 Kp3 f3 Y3
 have HT:=wJ (l:=l) (Z:=Z) (n0:=n0) (la:=(aJ [21,22,23,24,77,78,27,83,84] A3)) (kl:=(bC [21,22,23,24,77,78,27,83,84] K3)) (g:=(bD [77,78,79,80,81,82,83,84,0,21,22,23,24,25,26,27,28,29,30,34,38,42,46,1,2,4,5] A3)) S
 obtain⟨J0,J1,J⟩:=hJ (iW w29).toInt (iW w30).toInt V.1 V.2.1
 exact goE (gu (A:=aJ [6,7,16,17,18,19,20,49,50,51,52,0,3] A3) (K:=bC [6,7,16,17,18,19,20,49,50,51,52,0,3] K3) (D:=(fF D w29 w30 w32 w33 w34 w35 w36 w37 w38 w39 w40 w41)) (W:=tmL (bD [77,78,79,80,81,82,83,84,0,21,22,23,24,25,26,27,28,29,30,34,38,42,46,1,2,4,5] A3) (aJ [21,22,23,24,77,78,27,83,84] A3)) (J0:=J0) (J1:=J1) (B3.more (by decide) (by decide)) rfl Q J ⟨Jvm.FP.Core.i2d_int _,Jvm.FP.Core.i2d_int _⟩ het V HT (Yf.pick Y3.fl [6,7,16,17,18,19,20,49,50,51,52,0,3,21,22,23,24,77,78,27,83,84] (by decide) rfl)) (by simp only[bK];rw[show iW ((fF D w29 w30 w32 w33 w34 w35 w36 w37 w38 w39 w40 w41) 17)=1 from hrev];rfl)
theorem zk:∀bs:Bool,ai (run code aq 53 (8,192,1792,192) 471 36 [xE,xw,xD,xv] [] (411,#[sF 5,sF 6,sF 7,sF 8,sF 9,sF 10,sF 11,sF 12,sF 13,sF 14,sF 15,sF 16,sF 17,sF 18,sI 0,sF 20,sF 21,sF 22,sF 23,sF 24,sF 25,sF 26,sF 27,sF 1,sF 2,sF 3,sF 4,(bif bs then sF 28 else sU),(bif bs then sF 29 else sU),sU,sU,sU,sU,sU,sU,sU,sU,sU,sU,sU,sU,sU,sU,sU,sU,sU,sU,sU,sU,sU,sU,sU,sU],[],[],30,0,0)) (471,#[sF 5,sF 6,sF 7,sF 8,sF 9,sF 10,sF 11,sF 12,sF 13,sF 14,sF 15,sF 16,sF 17,sF 18,sI 0,sF 20,sF 21,sF 22,sF 23,sF 24,sF 25,sF 26,sF 27,sF 1,sF 2,sF 3,sF 4,sR 0,sR 3,sU,sU,sU,sU,sU,sU,sU,sU,sU,sU,sU,sU,sU,sU,sU,sU,sU,sU,sU,sU,sU,sU,sU,sU],[],o6,34,6,12) [cE,eA,cO,fT,cE,eA,fK,fJ,cO,fT,ix,iy]=true:=by decide +kernel
def zl:List AD:=o6++[lQ,xI]++f7++[za9,za4,aD [32,62],dU,dU,iw,dU,za9,za4]++gx++[xJ,gw,gv,za4,az,bM,aD [62,31],bM,aD [33,33],gR,za4,za4,f9,oV,za7,za2,fy,za2,oU,za7,ft,za2,za2,za2,za9,aD [33,0],az,aD [60,0],az,aD [33,0],az,aD [60,0],za4,bM]
def Ne:List Op:=[(4,61,0,0),(5,64,65,0),(2,4397347889687374747,66,0),(11,63,67,1),(4,62,0,0),(11,68,4472406533629990549,1),(4,62,0,0),(5,0,69,0),(2,4591870180066957722,70,0),(10,68,71,1)]
def Nf:List Op:=[(11,54,4472406533629990549,1),lO,(5,0,55,0),(4,33,0,0),(5,56,57,0),(2,4591870180066957722,58,0),(10,54,59,1)]
def nJ:List Op:=[gS]++xL++[(10,48,53,(-1)),lO]++Nf++[(3,30,32,0),(2,60,33,0),(1,31,61,0),(4,62,0,0),gy]++Ne
theorem zm:ai (run code aq 53 (8,192,1792,192) 682 17 [kg,kh,(EL,[0,1,2,3,4,5,7,8,9,10,11,12,13,14,15,21,22,23,24,25,26,27,28,29],[0,30,31,32,33],rS 16 5++ki++rp 5 zq0++kj)] [] (648,#[sF 5,sF 6,sF 7,sF 8,sF 9,sF 10,sF 11,sF 12,sF 13,sF 14,sF 15,sF 16,sF 17,sF 18,sI 0,sF 20,sF 21,sF 22,sF 23,sF 24,sF 25,sF 26,sF 27,sF 1,sF 2,sF 3,sF 4,sR 0,sR 3,sF 34,sF 35,sR 6,sF 36,sF 37,sF 38,sF 39,sF 40,sF 41,sF 42,sF 43,sF 44,sF 45,sU,sU,sU,sU,sU,sU,sU,sU,sU,sU,sU],[],o6++[lQ],48,7,14)) (682,#[sF 5,sF 6,sF 7,sF 8,sF 9,sF 10,sF 11,sF 12,sF 13,sF 14,sF 15,sF 16,sF 17,sF 18,sI 0,sF 20,sF 21,sF 22,sF 23,sF 24,sF 25,sF 26,sF 27,sF 1,sF 2,sF 3,sF 4,sR 0,sR 3,sF 34,sF 35,sR 6,sF 36,sF 37,sF 38,sF 39,sF 40,sF 41,sF 42,sF 43,sF 44,sF 45,sR 7,sR 49,sU,sU,sU,sU,sU,sU,sU,sU,sU],[],zl,72,87,839) nJ=true:=by decide +kernel
def kt (D:Nat→UInt64)(w29 w30 w32 w33 w34 w35 w36 w37 w38 w39 w40 w41:UInt64):Nat→UInt64:=ac [0,D 1,D 2,D 3,D 4,D 5,D 6,D 7,D 8,D 9,D 10,D 11,D 12,D 13,D 14,D 15,D 16,D 17,D 18,D 19,D 20,D 21,D 22,D 23,D 24,D 25,D 26,D 27,0,0,FP.i2d (iW (D 1)),FP.i2d (iW (D 2)),FP.i2d (iW (D 3)),FP.i2d (iW (D 4)),w29,w30,w32,w33,w34,w35,w36,w37,w38,w39,w40,w41,FP.i2d (iW w29),FP.i2d (iW w30)]
theorem tc {a u Lq Dd:Int}(bs:Bool)(B:LWB p l e s m args below meth c T0 Z a0 h0 n0 L0 0 0)(D0:D 0=0)(hrev:iW (D 19)=0)(z0:(iW (D 1)).toInt≠0)(z1:(iW (D 2)).toInt≠0)(z2:(iW (D 3)).toInt≠0)(z3:(iW (D 4)).toInt≠0)(Q:QM4 D)(het:iW (D 18)=0∨iW (D 18)=1∨iW (D 18)=2)(hJ:∀i0 i1:Int,(-65536≤i0∧i0≤65536)→(-65536≤i1∧i1≤65536)→∃J0 J1,JT (iW (D 1)).toInt (iW (D 2)).toInt (iW (D 3)).toInt (iW (D 4)).toInt J0 J1 i0 i1)(S:S7 (ah u 0 (FP.i2d (iW (D 4)))) (ah Lq 7 (FP.ddiv (FP.i2d (iW (D 1))) (FP.i2d (iW (D 3))))) a u Lq Dd (iW (D 3)).toInt (iW (D 4)).toInt (iW (D 1)).toInt (iW (D 2)).toInt (FP.i2d (iW (D 3))) (FP.dsub (FP.i2d (iW (D 2))) (FP.dmul (FP.ddiv (FP.i2d (iW (D 1))) (FP.i2d (iW (D 3)))) (FP.i2d (iW (D 4))))))(hv:∀w29 w30 w32 w33 w34 w35 w36 w37 w38 w39 w40 w41:UInt64,okv nJ 48 (kt D w29 w30 w32 w33 w34 w35 w36 w37 w38 w39 w40 w41)):Go p e below (bw s (aV n0) 192 1792) T0 (mkF m 411 (cH D bs) []):=by
 refine goE (aY (A:=fun _=>0) (K:=fun _=>0) (D:=D) (W:=fun _ => .null) (zk bs) (scS kY (scS kY (scS kZ (scS kZ sc0)))) B YgF.nil D0 (by decide) ⟨z0,z1,z2,z3,z0,z1,trivial,trivial,z2,z3,trivial,trivial,trivial⟩ ?_) (by cases bs<;>(simp only[cH];rw[hrev];rfl))
 intro T1 h1 L1 A1 K1 B1 hA1 Kp1 f1 Y1
 have YA:Yf Z n0 h1 ([(A1 0,K1 0,67,2,[.ref (A1 1),.ref (A1 2)]),(A1 3,K1 3,68,2,[.ref (A1 4),.ref (A1 5)])]++[(A1 1,K1 1,64,2,[.int 0,.int 1]),(A1 2,K1 2,64,2,[.int 0,.int 1]),(A1 4,K1 4,65,2,[.double (FP.i2d (iW (D 1))),.double (FP.i2d (iW (D 2)))]),(A1 5,K1 5,65,2,[.double (FP.i2d (iW (D 3))),.double (FP.i2d (iW (D 4)))])]):=Yf.pick Y1.fl [0,3,1,2,4,5] (by decide) rfl
 refine goE (eP (D:=D) (B1.more (by decide) (by decide)) D0 YA ?_) (by simp only[f_];rw[hrev];rfl)
 intro T2 h2 L2 vv kv w29 w30 w32 w33 w34 w35 w36 w37 w38 w39 w40 w41 B2 Y2 V
 have YB:YgF Z n0 h2 (aP [A1 0,A1 1,A1 2,A1 3,A1 4,A1 5,vv]) (aQ [K1 0,K1 1,K1 2,K1 3,K1 4,K1 5,kv]) (kt D w29 w30 w32 w33 w34 w35 w36 w37 w38 w39 w40 w41) (fun _ => .null) [aR 67 [1,2],aI [0,1],aI [0,1],aR 68 [4,5],aD [30,31],aD [32,33],aD [46,47]]:=Yf.to (Yf.pick (os':=ap (aP [A1 0,A1 1,A1 2,A1 3,A1 4,A1 5,vv]) (aQ [K1 0,K1 1,K1 2,K1 3,K1 4,K1 5,kv]) (kt D w29 w30 w32 w33 w34 w35 w36 w37 w38 w39 w40 w41) (fun _ => .null) 0 [aR 67 [1,2],aI [0,1],aI [0,1],aR 68 [4,5],aD [30,31],aD [32,33],aD [46,47]]) Y2 [0,3,4,1,5,6,2] (by decide) rfl) rfl
 refine goE (aY (A:=(aP [A1 0,A1 1,A1 2,A1 3,A1 4,A1 5,vv])) (K:=(aQ [K1 0,K1 1,K1 2,K1 3,K1 4,K1 5,kv])) (D:=(kt D w29 w30 w32 w33 w34 w35 w36 w37 w38 w39 w40 w41)) (W:=fun _ => .null) zm (scS jC (scS h9 (scS Ov sc0))) B2 YB rfl (by decide) (hv w29 w30 w32 w33 w34 w35 w36 w37 w38 w39 w40 w41) ?_) (by simp only[gf];rw[hrev];rfl)
 intro T3 h3 L3 A3 K3 B3 hA3 Kp3 f3 Y3
 have HT:=wK (l:=l) (Z:=Z) (n0:=n0) (la:=(aJ [21,22,23,24,77,78,27,83,84] A3)) (kl:=(bC [21,22,23,24,77,78,27,83,84] K3)) (g:=(bD [77,78,79,80,81,82,83,84,0,21,22,23,24,25,26,27,28,29,30,34,38,42,46,1,2,4,5] A3)) S
 obtain⟨J0,J1,J⟩:=hJ (iW w29).toInt (iW w30).toInt V.1 V.2.1
 exact goE (gu (A:=aJ [6,7,16,17,18,19,20,49,50,51,52,0,3] A3) (K:=bC [6,7,16,17,18,19,20,49,50,51,52,0,3] K3) (D:=(fF D w29 w30 w32 w33 w34 w35 w36 w37 w38 w39 w40 w41)) (W:=tmL (bD [77,78,79,80,81,82,83,84,0,21,22,23,24,25,26,27,28,29,30,34,38,42,46,1,2,4,5] A3) (aJ [21,22,23,24,77,78,27,83,84] A3)) (J0:=J0) (J1:=J1) (B3.more (by decide) (by decide)) rfl Q J ⟨Jvm.FP.Core.i2d_int _,Jvm.FP.Core.i2d_int _⟩ het V HT (Yf.pick Y3.fl [6,7,16,17,18,19,20,49,50,51,52,0,3,21,22,23,24,77,78,27,83,84] (by decide) rfl)) (by simp only[bK];rw[show iW ((fF D w29 w30 w32 w33 w34 w35 w36 w37 w38 w39 w40 w41) 17)=0 from hrev];rfl)
theorem zn:∀bs:Bool,ai (run code aq 53 (8,192,1792,192) 471 36 [xH,xz,xG,xy] [] (411,#[sF 5,sF 6,sF 7,sF 8,sF 9,sF 10,sF 11,sF 12,sF 13,sF 14,sF 15,sF 16,sF 17,sF 18,sI 1,sF 20,sF 21,sF 22,sF 23,sF 24,sF 25,sF 26,sF 27,sF 1,sF 2,sF 3,sF 4,(bif bs then sF 28 else sU),(bif bs then sF 29 else sU),sU,sU,sU,sU,sU,sU,sU,sU,sU,sU,sU,sU,sU,sU,sU,sU,sU,sU,sU,sU,sU,sU,sU,sU],[],[],30,0,0)) (471,#[sF 5,sF 6,sF 7,sF 8,sF 9,sF 10,sF 11,sF 12,sF 13,sF 14,sF 15,sF 16,sF 17,sF 18,sI 1,sF 20,sF 21,sF 22,sF 23,sF 24,sF 25,sF 26,sF 27,sF 1,sF 2,sF 3,sF 4,sR 0,sR 3,sU,sU,sU,sU,sU,sU,sU,sU,sU,sU,sU,sU,sU,sU,sU,sU,sU,sU,sU,sU,sU,sU,sU,sU],[],o7,34,6,12) [cE,eA,cO,fT,cE,eA,fJ,fK,cO,fT,iy,ix]=true:=by decide +kernel
def zo:List AD:=o7++[lQ,xI]++f7++[za9,za4,aD [33,62],dU,dU,iw,dU,za9,za4]++gx++[xJ,gw,gv,za4,az,za9,aD [62,31],za9,xn,gR,za4,za4,f9,oV,za7,za2,fy,za2,oU,za7,ft,za2,za2,za2,za9,aD [32,0],az,aD [60,0],az,aD [32,0],az,aD [60,0],za4,bM]
def nK:List Op:=[gy]++xL++[(10,48,53,(-1)),(4,33,0,0)]++Nf++[(3,31,33,0),(2,60,32,0),(1,30,61,0),(4,62,0,0),gS]++Ne
theorem zp:ai (run code aq 53 (8,192,1792,192) 682 17 [kg,kh,(ER,[0,1,2,3,4,5,7,8,9,10,11,12,13,14,15,21,22,23,24,25,26,27,28,29],[0,30,31,32,33],rS 16 5++ki++rp 5 zq0++kj)] [] (648,#[sF 5,sF 6,sF 7,sF 8,sF 9,sF 10,sF 11,sF 12,sF 13,sF 14,sF 15,sF 16,sF 17,sF 18,sI 1,sF 20,sF 21,sF 22,sF 23,sF 24,sF 25,sF 26,sF 27,sF 1,sF 2,sF 3,sF 4,sR 0,sR 3,sF 34,sF 35,sR 6,sF 36,sF 37,sF 38,sF 39,sF 40,sF 41,sF 42,sF 43,sF 44,sF 45,sU,sU,sU,sU,sU,sU,sU,sU,sU,sU,sU],[],o7++[lQ],48,7,14)) (682,#[sF 5,sF 6,sF 7,sF 8,sF 9,sF 10,sF 11,sF 12,sF 13,sF 14,sF 15,sF 16,sF 17,sF 18,sI 1,sF 20,sF 21,sF 22,sF 23,sF 24,sF 25,sF 26,sF 27,sF 1,sF 2,sF 3,sF 4,sR 0,sR 3,sF 34,sF 35,sR 6,sF 36,sF 37,sF 38,sF 39,sF 40,sF 41,sF 42,sF 43,sF 44,sF 45,sR 7,sR 49,sU,sU,sU,sU,sU,sU,sU,sU,sU],[],zo,72,87,839) nK=true:=by decide +kernel
def ku (D:Nat→UInt64)(w29 w30 w32 w33 w34 w35 w36 w37 w38 w39 w40 w41:UInt64):Nat→UInt64:=ac [0,D 1,D 2,D 3,D 4,D 5,D 6,D 7,D 8,D 9,D 10,D 11,D 12,D 13,D 14,D 15,D 16,D 17,D 18,D 19,D 20,D 21,D 22,D 23,D 24,D 25,D 26,D 27,0,0,FP.i2d (iW (D 2)),FP.i2d (iW (D 1)),FP.i2d (iW (D 4)),FP.i2d (iW (D 3)),w29,w30,w32,w33,w34,w35,w36,w37,w38,w39,w40,w41,FP.i2d (iW w29),FP.i2d (iW w30)]
theorem td {a u Lq Dd:Int}(bs:Bool)(B:LWB p l e s m args below meth c T0 Z a0 h0 n0 L0 0 0)(D0:D 0=0)(hrev:iW (D 19)=1)(z0:(iW (D 1)).toInt≠0)(z1:(iW (D 2)).toInt≠0)(z2:(iW (D 3)).toInt≠0)(z3:(iW (D 4)).toInt≠0)(Q:QM4 D)(het:iW (D 18)=0∨iW (D 18)=1∨iW (D 18)=2)(hJ:∀i0 i1:Int,(-65536≤i0∧i0≤65536)→(-65536≤i1∧i1≤65536)→∃J0 J1,JT (iW (D 1)).toInt (iW (D 2)).toInt (iW (D 3)).toInt (iW (D 4)).toInt J0 J1 i0 i1)(S:S7 (ah u 0 (FP.i2d (iW (D 4)))) (ah Lq 7 (FP.ddiv (FP.i2d (iW (D 1))) (FP.i2d (iW (D 3))))) a u Lq Dd (iW (D 3)).toInt (iW (D 4)).toInt (iW (D 1)).toInt (iW (D 2)).toInt (FP.i2d (iW (D 3))) (FP.dsub (FP.i2d (iW (D 2))) (FP.dmul (FP.ddiv (FP.i2d (iW (D 1))) (FP.i2d (iW (D 3)))) (FP.i2d (iW (D 4))))))(hv:∀w29 w30 w32 w33 w34 w35 w36 w37 w38 w39 w40 w41:UInt64,okv nK 48 (ku D w29 w30 w32 w33 w34 w35 w36 w37 w38 w39 w40 w41)):Go p e below (bw s (aV n0) 192 1792) T0 (mkF m 411 (cH D bs) []):=by
 refine goE (aY (A:=fun _=>0) (K:=fun _=>0) (D:=D) (W:=fun _ => .null) (zn bs) (scS lw (scS lw (scS lx (scS lx sc0)))) B YgF.nil D0 (by decide) ⟨z0,z1,z2,z3,z0,z1,trivial,trivial,z2,z3,trivial,trivial,trivial⟩ ?_) (by cases bs<;>(simp only[cH];rw[hrev];rfl))
 intro T1 h1 L1 A1 K1 B1 hA1 Kp1 f1 Y1
 have YA:Yf Z n0 h1 ([(A1 0,K1 0,67,2,[.ref (A1 1),.ref (A1 2)]),(A1 3,K1 3,68,2,[.ref (A1 4),.ref (A1 5)])]++[(A1 1,K1 1,64,2,[.int 1,.int 0]),(A1 2,K1 2,64,2,[.int 1,.int 0]),(A1 4,K1 4,65,2,[.double (FP.i2d (iW (D 2))),.double (FP.i2d (iW (D 1)))]),(A1 5,K1 5,65,2,[.double (FP.i2d (iW (D 4))),.double (FP.i2d (iW (D 3)))])]):=Yf.pick Y1.fl [0,3,1,2,4,5] (by decide) rfl
 refine goE (eP (D:=D) (B1.more (by decide) (by decide)) D0 YA ?_) (by simp only[f_];rw[hrev];rfl)
 intro T2 h2 L2 vv kv w29 w30 w32 w33 w34 w35 w36 w37 w38 w39 w40 w41 B2 Y2 V
 have YB:YgF Z n0 h2 (aP [A1 0,A1 1,A1 2,A1 3,A1 4,A1 5,vv]) (aQ [K1 0,K1 1,K1 2,K1 3,K1 4,K1 5,kv]) (ku D w29 w30 w32 w33 w34 w35 w36 w37 w38 w39 w40 w41) (fun _ => .null) [aR 67 [1,2],aI [1,0],aI [1,0],aR 68 [4,5],aD [30,31],aD [32,33],aD [46,47]]:=Yf.to (Yf.pick (os':=ap (aP [A1 0,A1 1,A1 2,A1 3,A1 4,A1 5,vv]) (aQ [K1 0,K1 1,K1 2,K1 3,K1 4,K1 5,kv]) (ku D w29 w30 w32 w33 w34 w35 w36 w37 w38 w39 w40 w41) (fun _ => .null) 0 [aR 67 [1,2],aI [1,0],aI [1,0],aR 68 [4,5],aD [30,31],aD [32,33],aD [46,47]]) Y2 [0,3,4,1,5,6,2] (by decide) rfl) rfl
 refine goE (aY (A:=(aP [A1 0,A1 1,A1 2,A1 3,A1 4,A1 5,vv])) (K:=(aQ [K1 0,K1 1,K1 2,K1 3,K1 4,K1 5,kv])) (D:=(ku D w29 w30 w32 w33 w34 w35 w36 w37 w38 w39 w40 w41)) (W:=fun _ => .null) zp (scS jC (scS h9 (scS Oz sc0))) B2 YB rfl (by decide) (hv w29 w30 w32 w33 w34 w35 w36 w37 w38 w39 w40 w41) ?_) (by simp only[gf];rw[hrev];rfl)
 intro T3 h3 L3 A3 K3 B3 hA3 Kp3 f3 Y3
 have HT:=wK (l:=l) (Z:=Z) (n0:=n0) (la:=(aJ [21,22,23,24,77,78,27,83,84] A3)) (kl:=(bC [21,22,23,24,77,78,27,83,84] K3)) (g:=(bD [77,78,79,80,81,82,83,84,0,21,22,23,24,25,26,27,28,29,30,34,38,42,46,1,2,4,5] A3)) S
 obtain⟨J0,J1,J⟩:=hJ (iW w29).toInt (iW w30).toInt V.1 V.2.1
 exact goE (gu (A:=aJ [6,7,16,17,18,19,20,49,50,51,52,0,3] A3) (K:=bC [6,7,16,17,18,19,20,49,50,51,52,0,3] K3) (D:=(fF D w29 w30 w32 w33 w34 w35 w36 w37 w38 w39 w40 w41)) (W:=tmL (bD [77,78,79,80,81,82,83,84,0,21,22,23,24,25,26,27,28,29,30,34,38,42,46,1,2,4,5] A3) (aJ [21,22,23,24,77,78,27,83,84] A3)) (J0:=J0) (J1:=J1) (B3.more (by decide) (by decide)) rfl Q J ⟨Jvm.FP.Core.i2d_int _,Jvm.FP.Core.i2d_int _⟩ het V HT (Yf.pick Y3.fl [6,7,16,17,18,19,20,49,50,51,52,0,3,21,22,23,24,77,78,27,83,84] (by decide) rfl)) (by simp only[bK];rw[show iW ((fF D w29 w30 w32 w33 w34 w35 w36 w37 w38 w39 w40 w41) 17)=1 from hrev];rfl)
def iz (x:Int32):Int32:=(1:Int32)<<<(x&&&31)
def iJ (a b:Int32):Int32:=if a.toInt≤b.toInt then a else b
def aE (s sa sb sc sd ea eb ec ed:Int32):Int32×Int32×Int32×Int32 :=
 if s.toInt≤1 then (sa*iz (iJ ea (eb+ec)),sb*iz eb,sc*iz ec,(sa*sb*sc*(if s=1 then 1 else -1))*iz (eb+ec-iJ ea (eb+ec)+s))
 else ((if s=5∨s=7 then 0 else sa*iz ea),(if s=3∨s=4 then 0 else sb*iz eb),(if s=2∨s=4 then 0 else sc*iz ec),(if s=6∨s=7 then 0 else sd*iz ed))
def O0 (rs cs:Bool)(M:Int32×Int32×Int32×Int32):Int32×Int32×Int32×Int32 :=
 bif rs then (bif cs then (M.2.2.2,M.2.2.1,M.2.1,M.1) else (M.2.2.1,M.2.2.2,M.1,M.2.1)) else (bif cs then (M.2.1,M.1,M.2.2.2,M.2.2.1) else M)
def bn:List Int32:=[1,-1]
def bo:List Int32:=[0,1,2,3]
def kM (M:Int32×Int32×Int32×Int32):Prop:=∃s∈([0,1,2,3,4,5,6,7]:List Int32),∃sa∈bn,∃sb∈bn,∃sc∈bn,∃sd∈bn,∃ea∈bo,∃eb∈bo,∃ec∈bo,∃ed∈bo,M=aE s sa sb sc sd ea eb ec ed
def O1 (M:Int32×Int32×Int32×Int32):Prop:=∃(rs cs:Bool)(N:Int32×Int32×Int32×Int32),kM N∧M=O0 rs cs N
def PR4 (D:Nat→UInt64):Prop:=(iW (D 8)∈bn∧iW (D 9)∈bn∧iW (D 10)∈bn∧iW (D 11)∈bn)∧(iW (D 14)=0∨iW (D 14)=1∨iW (D 14)=2)∧(iW (D 15)=0∨iW (D 15)=1)∧(iW (D 16)∈bo∧iW (D 17)∈bo∧iW (D 18)∈bo∧iW (D 19)∈bo)
theorem O2 (x r:Int32)(h:x&&&(7:Int32)=r):r=0∨r=1∨r=2∨r=3∨r=4∨r=5∨r=6∨r=7:=by
 have:=c_mask x 7 3 (by decide) (by decide)
 have e:((2 ^ 3:Nat):Int)=8:=rfl
 rw[e,h] at this
 have q:r.toInt=0∨r.toInt=1∨r.toInt=2∨r.toInt=3∨r.toInt=4∨r.toInt=5∨r.toInt=6∨r.toInt=7:=by omega
 rcases q with q|q|q|q|q|q|q|q
 ·exact Or.inl (Int32.toInt_inj.mp (q.trans (by decide)))
 ·exact Or.inr (Or.inl (Int32.toInt_inj.mp (q.trans (by decide))))
 ·exact Or.inr (Or.inr (Or.inl (Int32.toInt_inj.mp (q.trans (by decide)))))
 ·exact Or.inr (Or.inr (Or.inr (Or.inl (Int32.toInt_inj.mp (q.trans (by decide))))))
 ·exact Or.inr (Or.inr (Or.inr (Or.inr (Or.inl (Int32.toInt_inj.mp (q.trans (by decide)))))))
 ·exact Or.inr (Or.inr (Or.inr (Or.inr (Or.inr (Or.inl (Int32.toInt_inj.mp (q.trans (by decide))))))))
 ·exact Or.inr (Or.inr (Or.inr (Or.inr (Or.inr (Or.inr (Or.inl (Int32.toInt_inj.mp (q.trans (by decide)))))))))
 ·exact Or.inr (Or.inr (Or.inr (Or.inr (Or.inr (Or.inr (Or.inr (Int32.toInt_inj.mp (q.trans (by decide)))))))))
def Q5 (D:Nat→UInt64)(bt:Bool):Array Slot:=#[.val (.int (iW (D 5))),.val (.int (iW (D 6))),.val (.int (iW (D 7))),.val (.int (iW (D 8))),.val (.int (iW (D 9))),.val (.int (iW (D 10))),.val (.int (iW (D 11))),.val (.int (iW (D 12))),.val (.int (iW (D 13))),.val (.int (iW (D 14))),.val (.int (iW (D 15))),.val (.int (iW (D 16))),.val (.int (iW (D 17))),.val (.int (iW (D 18))),.val (.int (iW (D 19))),.val (.int (iW (D 20))),.val (.int (iW (D 21))),.val (.int (iW (D 22))),.val (.int (iW (D 23))),.val (.int (iW (D 1))),.val (.int (iW (D 2))),.val (.int (iW (D 3))),.val (.int (iW (D 4))),(bif bt then .val (.int (iW (D 24))) else .unset),(bif bt then .val (.int (iW (D 25))) else .unset),.unset,.unset,.unset,.unset,.unset,.unset,.unset,.unset,.unset,.unset,.unset,.unset,.unset,.unset,.unset,.unset,.unset,.unset,.unset,.unset,.unset,.unset,.unset,.unset,.unset,.unset,.unset,.unset]
def iA (D:Nat→UInt64):Array Slot:=#[.val (.int (iW (D 1))),.val (.int (iW (D 2))),.val (.int (iW (D 3))),.val (.int (iW (D 4))),.val (.int (iW (D 5))),.val (.int (iW (D 6))),.val (.int (iW (D 7))),.val (.int (iW (D 8))),.val (.int (iW (D 9))),.val (.int (iW (D 10))),.val (.int (iW (D 11))),.val (.int (iW (D 12))),.val (.int (iW (D 13))),.val (.int (iW (D 14))),.val (.int (iW (D 15))),.val (.int (iW (D 16))),.val (.int (iW (D 17))),.val (.int (iW (D 18))),.val (.int (iW (D 19))),.unset,.unset,.unset,.unset,.unset,.unset,.unset,.unset,.unset,.unset,.unset,.unset,.unset,.unset,.unset,.unset,.unset,.unset,.unset,.unset,.unset,.unset,.unset,.unset,.unset,.unset,.unset,.unset,.unset,.unset,.unset,.unset,.unset,.unset]
def fr0 (D:Nat→UInt64):Array Slot:=#[.val (.int (iW (D 1))),.val (.int (iW (D 2))),.val (.int (iW (D 3))),.val (.int (iW (D 4))),.val (.int (iW (D 5))),.val (.int (iW (D 6))),.unset,.unset,.unset,.unset,.unset,.unset,.unset,.unset,.unset,.unset,.unset,.unset,.unset,.unset,.unset,.unset,.unset,.unset,.unset,.unset,.unset,.unset,.unset,.unset,.unset,.unset,.unset,.unset,.unset,.unset,.unset,.unset,.unset,.unset,.unset,.unset,.unset,.unset,.unset,.unset,.unset,.unset,.unset,.unset,.unset,.unset,.unset]
theorem Ht {a b c d e q:Int}(he:a*d-b*c=e)(hq:q*e=128)(ba:-(8*e.natAbs:Int)≤a∧a≤8*e.natAbs)(bb:-(8*e.natAbs:Int)≤b∧b≤8*e.natAbs)(bc:-(8*e.natAbs:Int)≤c∧c≤8*e.natAbs)(bd:-(8*e.natAbs:Int)≤d∧d≤8*e.natAbs)(i0 i1:Int)(h0:-65536≤i0∧i0≤65536)(h1:-65536≤i1∧i1≤65536):∃J0 J1,JT a b c d J0 J1 i0 i1:=by
 have e128:q.natAbs*e.natAbs=128:=by rw[←Int.natAbs_mul,hq];rfl
 have bnd:∀x y:Int,(-(8*e.natAbs:Int)≤x∧x≤8*e.natAbs)→(-(8*e.natAbs:Int)≤y∧y≤8*e.natAbs)→∀i j:Int,(-65536≤i∧i≤65536)→(-65536≤j∧j≤65536)→(-134217728≤q*(x*i-y*j)∧q*(x*i-y*j)≤134217728):=by
  intro x y hx hy i j hi hj
  have p1:=cv hx hi
  have p2:=cv hy hj
  have p3:(q*(x*i-y*j)).natAbs≤q.natAbs*(e.natAbs*1048576):=by
   rw[Int.natAbs_mul]
   exact Nat.mul_le_mul_left _ (by omega)
  rw[←Nat.mul_assoc,e128] at p3
  omega
 refine⟨q*(d*i0-c*i1),q*(a*i1-b*i0),?_,?_,bnd d c bd bc i0 i1 h0 h1,bnd a b ba bb i1 i0 h1 h0,h0,h1⟩
 ·have:a*(q*(d*i0-c*i1))+c*(q*(a*i1-b*i0))=q*(a*d-b*c)*i0:=by
   simp only[Int.mul_sub,Int.sub_mul,Int.mul_assoc]
   rw[Int.mul_left_comm a q,Int.mul_left_comm a q,Int.mul_left_comm c q,Int.mul_left_comm c q,Int.mul_left_comm c a,Int.mul_left_comm c b]
   rw[Int.mul_left_comm a c]
   omega
  rw[this,he,hq]
 ·have:b*(q*(d*i0-c*i1))+d*(q*(a*i1-b*i0))=q*(a*d-b*c)*i1:=by
   simp only[Int.mul_sub,Int.sub_mul,Int.mul_assoc]
   rw[Int.mul_left_comm b q,Int.mul_left_comm b q,Int.mul_left_comm d q,Int.mul_left_comm d q,Int.mul_left_comm d a,Int.mul_left_comm d b]
   omega
  rw[this,he,hq]
theorem gE {a u d m10:Int}{ad dd:UInt64}(ha:a=1∨a=-1∨a=2∨a=-2∨a=4∨a=-4∨a=8∨a=-8∨a=16∨a=-16∨a=32∨a=-32∨a=64∨a=-64∨a=128∨a=-128)(hu:-128≤u∧u≤128)(hd:d≠0)(hm:m10=0)(fa:Jvm.FP.Core.DInt a ad)(fd:Jvm.FP.Core.DInt d dd){Du:Prop}(du:Du):S7 Du (0=(0:Int)) a u 0 (2*d) a u m10 d ad dd:=⟨ha,hu,by decide,by omega,am.mpr fa,du,rfl,aH 1 2 (am.mpr fd) rfl (by omega),rfl,rfl,by rw[hm,Int.zero_mul];rfl,by rw[Int.zero_mul];omega⟩
theorem O3 {a u c d e Lq Dd:Int}{ad ud cd dd:UInt64}(ha:a=1∨a=-1∨a=2∨a=-2∨a=4∨a=-4∨a=8∨a=-8∨a=16∨a=-16∨a=32∨a=-32∨a=64∨a=-64∨a=128∨a=-128)(hu:-128≤u∧u≤128)(hd:-128≤d∧d≤128)(hL:-2048≤Lq∧Lq≤2048)(h0:Dd≠0)(e1:128*c=Lq*a)(e2:128*d=64*Dd+Lq*u)(fa:Jvm.FP.Core.DInt a ad)(fu:Jvm.FP.Core.DInt u ud)(fc:Jvm.FP.Core.DInt c cd)(fd:Jvm.FP.Core.DInt d dd):S7 (ah u 0 ud) (ah Lq 7 (FP.ddiv cd ad)) a u Lq Dd a u c d ad (FP.dsub dd (FP.dmul (FP.ddiv cd ad) ud)):=by
 have hz:a≠0:=by omega
 have fl:ah Lq 7 (FP.ddiv cd ad):=gX (am.mpr fc) (am.mpr fa) hz (M:=7) (by rw[show ((2 ^ (0+7):Nat):Int)=128 from rfl,show ((2 ^ 0:Nat):Int)=1 from rfl,←e1];omega) (cp (by omega)) (by decide)
 have bp:=cv hL hu
 have fm:ah (Lq*u) 7 (FP.dmul (FP.ddiv cd ad) ud):=dD (k:=7) (l:=0) fl (am.mpr fu) (cp (by omega)) (by decide)
 have fs:=gW (aH 7 128 (am.mpr fd) rfl (Int.mul_comm _ _):ah (128*d) 7 dd) fm (cp (by omega)) (by decide)
 rw[show 128*d-Lq*u=Dd*((2 ^ 6:Nat):Int) by rw[show ((2 ^ 6:Nat):Int)=64 from rfl];omega] at fs
 exact⟨ha,hu,hL,h0,am.mpr fa,am.mpr fu,fl,jN (k:=1) 6 fs,rfl,rfl,e1,e2⟩
open Jvm.Free.Fl (NoNaN64)
abbrev mg (x:UInt64):UInt64:=x&&&0x7fffffffffffffff
abbrev iB (x y:UInt64):UInt64:=Jvm.Native.java_lang_Math.nans.pick64 true x y
def en:List UInt64:=[4571153621781053440,4575657221408423936,4580160821035794432,4584664420663164928,4589168020290535424,4593671619917905920,4598175219545276416,4602678819172646912,4607182418800017408,4611686018427387904,4616189618054758400,4620693217682128896,4625196817309499392,4629700416936869888,4634204016564240384,4638707616191610880,4643211215818981376,4647714815446351872,4652218415073722368,4656722014701092864,4661225614328463360,4665729213955833856,4670232813583204352]
def nL:List (Nat×UInt64):=[(1,4607182418800017408),(2,4611686018427387904),(4,4616189618054758400),(8,4620693217682128896),(16,4625196817309499392),(32,4629700416936869888),(64,4634204016564240384),(128,4638707616191610880)]
def ut:List (Int×UInt64):=[(1,4575657221408423936),(-1,13799029258263199744),(2,4580160821035794432),(-2,13803532857890570240),(4,4584664420663164928),(-4,13808036457517940736),(8,4589168020290535424),(-8,13812540057145311232),(16,4593671619917905920),(-16,13817043656772681728),(32,4598175219545276416),(-32,13821547256400052224),(64,4602678819172646912),(-64,13826050856027422720),(128,4607182418800017408),(-128,13830554455654793216),(256,4611686018427387904),(-256,13835058055282163712),(512,4616189618054758400),(-512,13839561654909534208),(1024,4620693217682128896),(-1024,13844065254536904704),(2048,4625196817309499392),(-2048,13848568854164275200)]
def uu:List (Int×UInt64):=[(1,4575657221408423936),(-1,13799029258263199744),(2,4580160821035794432),(-2,13803532857890570240),(4,4584664420663164928),(-4,13808036457517940736),(8,4589168020290535424),(-8,13812540057145311232),(16,4593671619917905920),(-16,13817043656772681728),(32,4598175219545276416),(-32,13821547256400052224),(64,4602678819172646912),(-64,13826050856027422720),(128,4607182418800017408),(-128,13830554455654793216),(256,4611686018427387904),(-256,13835058055282163712),(512,4616189618054758400),(-512,13839561654909534208),(1024,4620693217682128896),(-1024,13844065254536904704),(2048,4625196817309499392),(-2048,13848568854164275200),(4096,4629700416936869888),(-4096,13853072453791645696),(8192,4634204016564240384),(-8192,13857576053419016192),(16384,4638707616191610880),(-16384,13862079653046386688),(32768,4643211215818981376),(-32768,13866583252673757184),(65536,4647714815446351872),(-65536,13871086852301127680),(131072,4652218415073722368),(-131072,13875590451928498176),(262144,4656722014701092864),(-262144,13880094051555868672)]
def bz:List Int32:=[1,-1,2,-2,4,-4,8,-8,16,-16,32,-32,64,-64,128,-128]
theorem kw {x:UInt64}(h:mg x≤0x7ff0000000000000):NoNaN64 (mg x):=by
 show (x&&&0x7fffffffffffffff)&&&0x7fffffffffffffff≤0x7ff0000000000000
 rw[UInt64.and_assoc,UInt64.and_self]
 exact h
abbrev Bq1 (y:UInt64):Prop:=y≤0x7ff0000000000000∧cmpValue (FP.dcmp y 4472406533629990549) .g=1∧FP.dmul 4591870180066957722 (iB 0 y)&&&0x7fffffffffffffff≤0x7ff0000000000000∧cmpValue (FP.dcmp y (FP.dmul 4591870180066957722 (iB 0 y))) .l=1
theorem gg:∀y∈en,Bq1 y:=by decide +kernel
def B1 (x:UInt64):Prop:=NoNaN64 x∧cmpValue (FP.dcmp (mg x) 4472406533629990549) .g=1∧NoNaN64 x∧(NoNaN64 0∧NoNaN64 (mg x))∧NoNaN64 (FP.dmul 4591870180066957722 (iB 0 (mg x)))∧cmpValue (FP.dcmp (mg x) (FP.dmul 4591870180066957722 (iB 0 (mg x)))) .l=1
theorem nM {x:UInt64}(h:mg x∈en):B1 x:=by
 obtain⟨h1,h2,h3,h4⟩:=gg _ h
 exact⟨h1,h2,h1,⟨by decide,kw h1⟩,h3,h4⟩
abbrev Bq2 (p x y:UInt64)(z:Int32):Prop:=p≤0x7ff0000000000000∧cmpValue (FP.dcmp p 4472406533629990549) .g=1∧x≤0x7ff0000000000000∧y≤0x7ff0000000000000∧iB 0 x&&&0x7fffffffffffffff≤0x7ff0000000000000∧FP.dmul 4591870180066957722 (iB (iB 0 x) y)&&&0x7fffffffffffffff≤0x7ff0000000000000∧cmpValue (FP.dcmp p (FP.dmul 4591870180066957722 (iB (iB 0 x) y))) .l=z
theorem xM:∀a∈nL,∀b∈nL,if 16*a.1≤b.1 then Bq2 a.2 a.2 b.2 (-1)∧Bq2 a.2 b.2 a.2 (-1) else Bq2 a.2 a.2 b.2 1∧Bq2 a.2 b.2 a.2 1:=by decide +kernel
def B2 (p x y:UInt64)(z:Int32):Prop:=NoNaN64 p∧cmpValue (FP.dcmp (mg p) 4472406533629990549) .g=1∧NoNaN64 x∧(NoNaN64 0∧NoNaN64 (mg x))∧NoNaN64 y∧(NoNaN64 (iB 0 (mg x))∧NoNaN64 (mg y))∧NoNaN64 (FP.dmul 4591870180066957722 (iB (iB 0 (mg x)) (mg y)))∧cmpValue (FP.dcmp (mg p) (FP.dmul 4591870180066957722 (iB (iB 0 (mg x)) (mg y)))) .l=z
theorem mf {p x y:UInt64}{z:Int32}(h:Bq2 (mg p) (mg x) (mg y) z):B2 p x y z:=by
 obtain⟨h1,h2,h3,h4,h5,h6,h7⟩:=h
 exact⟨h1,h2,h3,⟨by decide,kw h3⟩,h4,⟨h5,kw h4⟩,h6,h7⟩
theorem iK:∀x∈bz,∃q∈nL,x.toInt.natAbs=q.1∧mg (FP.i2d x)=q.2:=by decide +kernel
theorem xN:∀q∈nL,q.2∈en:=by decide +kernel
theorem eh {x:Int32}(h:x∈bz):B1 (FP.i2d x):=by
 obtain⟨q,hq,-,e⟩:=iK x h
 exact nM (by rw[e];exact xN q hq)
theorem ek {x y:Int32}(hx:x∈bz)(hy:y∈bz)(h:¬16*x.toInt.natAbs≤y.toInt.natAbs):B2 (FP.i2d x) (FP.i2d x) (FP.i2d y) 1∧B2 (FP.i2d x) (FP.i2d y) (FP.i2d x) 1:=by
 obtain⟨q,hq,e1,e2⟩:=iK x hx
 obtain⟨r,hr,e3,e4⟩:=iK y hy
 have k:=xM q hq r hr
 rw[e1,e3] at h
 rw[if_neg h,←e2,←e4] at k
 exact⟨mf k.1,mf k.2⟩
theorem xO {x y:Int32}(hx:x∈bz)(hy:y∈bz)(h:16*x.toInt.natAbs≤y.toInt.natAbs):B2 (FP.i2d x) (FP.i2d x) (FP.i2d y) (-1)∧B2 (FP.i2d x) (FP.i2d y) (FP.i2d x) (-1):=by
 obtain⟨q,hq,e1,e2⟩:=iK x hx
 obtain⟨r,hr,e3,e4⟩:=iK y hy
 have k:=xM q hq r hr
 rw[e1,e3] at h
 rw[if_pos h,←e2,←e4] at k
 exact⟨mf k.1,mf k.2⟩
theorem IE:∀a∈nL,∀w∈en,iB a.2 w∈en:=by decide +kernel
theorem IF:∀w∈en,∀d∈en,d≤0x7ff0000000000000∧FP.dmul 4397347889687374747 w&&&0x7fffffffffffffff≤0x7ff0000000000000∧cmpValue (FP.dcmp d (FP.dmul 4397347889687374747 w)) .g=1:=by decide +kernel
def B3 (D d m:UInt64):Prop:=NoNaN64 D∧NoNaN64 d∧NoNaN64 m∧(NoNaN64 (mg d)∧NoNaN64 (mg m))∧NoNaN64 (FP.dmul 4397347889687374747 (iB (mg d) (mg m)))∧cmpValue (FP.dcmp (mg D) (FP.dmul 4397347889687374747 (iB (mg d) (mg m)))) .g=1
theorem p_ {D m:UInt64}{x:Int32}(hD:mg D∈en)(hm:mg m∈en)(hx:x∈bz):B3 D (FP.i2d x) m:=by
 obtain⟨q,hq,-,e⟩:=iK x hx
 have hw:=IE q hq _ hm
 rw[←e] at hw
 obtain⟨h1,h2,h3⟩:=IF _ hw _ hD
 have n2:=(gg _ (xN q hq)).1
 rw[←e] at n2
 have n3:=(gg _ hm).1
 exact⟨h1,n2,n3,⟨kw n2,kw n3⟩,h2,h3⟩
theorem O4:∀c∈bz,∀a∈bz,c.toInt.natAbs≤16*a.toInt.natAbs→∃q∈ut,q.1*a.toInt=128*c.toInt∧FP.ddiv (FP.i2d c) (FP.i2d a)=q.2:=by decide +kernel
theorem IG:∀q∈ut,q.2&&&0x7fffffffffffffff≤0x7ff0000000000000:=by decide +kernel
theorem O5:∀q∈ut,∀u∈bz,∃r∈uu,r.1=q.1*u.toInt∧FP.dmul q.2 (FP.i2d u)=r.2:=by decide +kernel
theorem IH:∀r∈uu,mg r.2∈en:=by decide +kernel
theorem O6:∀d∈bz,∀r∈uu,128*d.toInt-r.1≠0→16384 % (128*d.toInt-r.1).natAbs=0→mg (FP.dsub (FP.i2d d) r.2)∈en:=by decide +kernel
theorem Hu {a u c d:Int32}{Lq Dd:Int}(ha:a∈bz)(hu:u∈bz)(hc:c∈bz)(hd:d∈bz)(h:c.toInt.natAbs≤16*a.toInt.natAbs)(za:a.toInt≠0)(e1:128*c.toInt=Lq*a.toInt)(e2:128*d.toInt=64*Dd+Lq*u.toInt)(h0:Dd≠0)(hD:256 % Dd.natAbs=0):NoNaN64 (FP.ddiv (FP.i2d c) (FP.i2d a))∧mg (FP.dmul (FP.ddiv (FP.i2d c) (FP.i2d a)) (FP.i2d u))∈en∧mg (FP.dsub (FP.i2d d) (FP.dmul (FP.ddiv (FP.i2d c) (FP.i2d a)) (FP.i2d u)))∈en:=by
 obtain⟨q,hq,q1,q2⟩:=O4 c hc a ha h
 have eq:q.1=Lq:=Int.eq_of_mul_eq_mul_right za (q1.trans e1)
 obtain⟨r,hr,r1,r2⟩:=O5 q hq u hu
 rw[eq] at r1
 have ey:128*d.toInt-r.1=64*Dd:=by rw[r1];omega
 have k:=O6 d hd r hr (by rw[ey];omega) (by
  rw[ey,Int.natAbs_mul]
  show 64*256 % (64*Dd.natAbs)=0
  rw[Nat.mul_mod_mul_left,hD])
 rw[q2,r2]
 exact⟨IG q hq,IH r hr,k⟩
def uw (f:Int32×Int32×Int32×Int32→Bool):Bool:=(bn.all fun sa=>bn.all fun sb=>bn.all fun sc=>bo.all fun ea=>bo.all fun eb=>bo.all fun ec=>f (aE 0 sa sb sc 1 ea eb ec 0))&&((bn.all fun sa=>bn.all fun sb=>bn.all fun sc=>bo.all fun ea=>bo.all fun eb=>bo.all fun ec=>f (aE 1 sa sb sc 1 ea eb ec 0))&&((bn.all fun sa=>bn.all fun sb=>bn.all fun sd=>bo.all fun ea=>bo.all fun eb=>bo.all fun ed=>f (aE 2 sa sb 1 sd ea eb 0 ed))&&((bn.all fun sa=>bn.all fun sc=>bn.all fun sd=>bo.all fun ea=>bo.all fun ec=>bo.all fun ed=>f (aE 3 sa 1 sc sd ea 0 ec ed))&&((bn.all fun sa=>bn.all fun sd=>bo.all fun ea=>bo.all fun ed=>f (aE 4 sa 1 1 sd ea 0 0 ed))&&((bn.all fun sb=>bn.all fun sc=>bn.all fun sd=>bo.all fun eb=>bo.all fun ec=>bo.all fun ed=>f (aE 5 1 sb sc sd 0 eb ec ed))&&((bn.all fun sa=>bn.all fun sb=>bn.all fun sc=>bo.all fun ea=>bo.all fun eb=>bo.all fun ec=>f (aE 6 sa sb sc 1 ea eb ec 0))&&((bn.all fun sb=>bn.all fun sc=>bo.all fun eb=>bo.all fun ec=>f (aE 7 1 sb sc 1 0 eb ec 0)))))))))
theorem IJ (sa sb sc sd ea eb ec ed:Int32):aE 0 sa sb sc sd ea eb ec ed=aE 0 sa sb sc 1 ea eb ec 0:=by simp +decide only[aE,if_true,if_false]
theorem IK (sa sb sc sd ea eb ec ed:Int32):aE 1 sa sb sc sd ea eb ec ed=aE 1 sa sb sc 1 ea eb ec 0:=by simp +decide only[aE,if_true,if_false]
theorem IL (sa sb sc sd ea eb ec ed:Int32):aE 2 sa sb sc sd ea eb ec ed=aE 2 sa sb 1 sd ea eb 0 ed:=by simp +decide only[aE,if_true,if_false]
theorem IM (sa sb sc sd ea eb ec ed:Int32):aE 3 sa sb sc sd ea eb ec ed=aE 3 sa 1 sc sd ea 0 ec ed:=by simp +decide only[aE,if_true,if_false]
theorem IN (sa sb sc sd ea eb ec ed:Int32):aE 4 sa sb sc sd ea eb ec ed=aE 4 sa 1 1 sd ea 0 0 ed:=by simp +decide only[aE,if_true,if_false]
theorem IP (sa sb sc sd ea eb ec ed:Int32):aE 5 sa sb sc sd ea eb ec ed=aE 5 1 sb sc sd 0 eb ec ed:=by simp +decide only[aE,if_true,if_false]
theorem IQ (sa sb sc sd ea eb ec ed:Int32):aE 6 sa sb sc sd ea eb ec ed=aE 6 sa sb sc 1 ea eb ec 0:=by simp +decide only[aE,if_true,if_false]
theorem IR (sa sb sc sd ea eb ec ed:Int32):aE 7 sa sb sc sd ea eb ec ed=aE 7 1 sb sc 1 0 eb ec 0:=by simp +decide only[aE,if_true,if_false]
theorem Hv {f:Int32×Int32×Int32×Int32→Bool}(h:uw f=true){M:Int32×Int32×Int32×Int32}(F:kM M):f M=true:=by
 obtain⟨s,hs,sa,ha,sb,hb,sc,hc,sd,hd,ea,h1,eb,h2,ec,h3,ed,h4,rfl⟩:=F
 have L0:∀{l:List Int32} {g:Int32→Bool} (_:l.all g=true) (x:Int32) (_:x∈l),g x=true:=fun h=>List.all_eq_true.mp h
 unfold uw at h
 simp only[Bool.and_eq_true] at h
 obtain⟨c0,c1,c2,c3,c4,c5,c6,c7⟩:=h
 simp only[List.mem_cons,List.not_mem_nil,or_false] at hs
 rcases hs with rfl|rfl|rfl|rfl|rfl|rfl|rfl|rfl
 ·rw[IJ];exact (L0 (L0 (L0 (L0 (L0 (L0 c0 sa ha) sb hb) sc hc) ea h1) eb h2) ec h3)
 ·rw[IK];exact (L0 (L0 (L0 (L0 (L0 (L0 c1 sa ha) sb hb) sc hc) ea h1) eb h2) ec h3)
 ·rw[IL];exact (L0 (L0 (L0 (L0 (L0 (L0 c2 sa ha) sb hb) sd hd) ea h1) eb h2) ed h4)
 ·rw[IM];exact (L0 (L0 (L0 (L0 (L0 (L0 c3 sa ha) sc hc) sd hd) ea h1) ec h3) ed h4)
 ·rw[IN];exact (L0 (L0 (L0 (L0 c4 sa ha) sd hd) ea h1) ed h4)
 ·rw[IP];exact (L0 (L0 (L0 (L0 (L0 (L0 c5 sb hb) sc hc) sd hd) eb h2) ec h3) ed h4)
 ·rw[IQ];exact (L0 (L0 (L0 (L0 (L0 (L0 c6 sa ha) sb hb) sc hc) ea h1) eb h2) ec h3)
 ·rw[IR];exact (L0 (L0 (L0 (L0 c7 sb hb) sc hc) eb h2) ec h3)
def eQ (x:Int32):Bool:=decide (x=0)||decide (x∈bz)
def gZ (a b c d e:Nat):Bool:=if 16*a≤b then decide (a≤16*c)&&(decide (128*a % c=0)&&(decide (2*e % c=0)&&decide (¬16*c≤d))) else decide (c≤16*a)&&(decide (128*c % a=0)&&decide (2*e % a=0))
def Hw (a b c d e:Nat):Bool:=decide (e≠0)&&(decide (128 % e=0)&&(decide (a≤8*e)&&(decide (b≤8*e)&&(decide (c≤8*e)&&(decide (d≤8*e)&&(if a=0∨b=0∨c=0∨d=0 then decide (a≤8)&&(decide (b≤8)&&(decide (c≤8)&&decide (d≤8))) else gZ a b c d e&&(gZ c d a b e&&(gZ b a d c e&&gZ d c b a e))))))))
def Hx (M:Int32×Int32×Int32×Int32):Bool:=eQ M.1&&(eQ M.2.1&&(eQ M.2.2.1&&(eQ M.2.2.2&&Hw M.1.toInt.natAbs M.2.1.toInt.natAbs M.2.2.1.toInt.natAbs M.2.2.2.toInt.natAbs (M.1.toInt*M.2.2.2.toInt-M.2.1.toInt*M.2.2.1.toInt).natAbs)))
theorem IS:uw Hx=true:=by decide +kernel
def CK (a b c d:Int32):Prop:=(eQ a=true∧eQ b=true∧eQ c=true∧eQ d=true)∧(∃e:Int,a.toInt*d.toInt-b.toInt*c.toInt=e∧e≠0∧128 % e.natAbs=0∧(a.toInt.natAbs≤8*e.natAbs∧b.toInt.natAbs≤8*e.natAbs∧c.toInt.natAbs≤8*e.natAbs∧d.toInt.natAbs≤8*e.natAbs)∧((a.toInt=0∨b.toInt=0∨c.toInt=0∨d.toInt=0)→a.toInt.natAbs≤8∧b.toInt.natAbs≤8∧c.toInt.natAbs≤8∧d.toInt.natAbs≤8)∧(¬(a.toInt=0∨b.toInt=0∨c.toInt=0∨d.toInt=0)→gZ a.toInt.natAbs b.toInt.natAbs c.toInt.natAbs d.toInt.natAbs e.natAbs=true∧gZ c.toInt.natAbs d.toInt.natAbs a.toInt.natAbs b.toInt.natAbs e.natAbs=true∧gZ b.toInt.natAbs a.toInt.natAbs d.toInt.natAbs c.toInt.natAbs e.natAbs=true∧gZ d.toInt.natAbs c.toInt.natAbs b.toInt.natAbs a.toInt.natAbs e.natAbs=true))
theorem CK.rs {a b c d:Int32}(h:CK a b c d):CK c d a b:=by
 obtain⟨⟨z1,z2,z3,z4⟩,e,h1,h2,h3,⟨b1,b2,b3,b4⟩,h5,h6⟩:=h
 refine⟨⟨z3,z4,z1,z2⟩,-e,?_,by omega,by rw[Int.natAbs_neg];exact h3,?_,fun q=>?_,fun q=>?_⟩
 ·rw[←h1,Int.mul_comm c.toInt,Int.mul_comm d.toInt];omega
 ·rw[Int.natAbs_neg];exact⟨b3,b4,b1,b2⟩
 ·have:=h5 (by omega)
  omega
 ·rw[Int.natAbs_neg]
  obtain⟨k1,k2,k3,k4⟩:=h6 (by omega)
  exact⟨k2,k1,k4,k3⟩
theorem CK.cs {a b c d:Int32}(h:CK a b c d):CK b a d c:=by
 obtain⟨⟨z1,z2,z3,z4⟩,e,h1,h2,h3,⟨b1,b2,b3,b4⟩,h5,h6⟩:=h
 refine⟨⟨z2,z1,z4,z3⟩,-e,by omega,by omega,by rw[Int.natAbs_neg];exact h3,?_,fun q=>?_,fun q=>?_⟩
 ·rw[Int.natAbs_neg];exact⟨b2,b1,b4,b3⟩
 ·have:=h5 (by omega)
  omega
 ·rw[Int.natAbs_neg]
  obtain⟨k1,k2,k3,k4⟩:=h6 (by omega)
  exact⟨k3,k4,k1,k2⟩
theorem zq {a b c d:Int32}(F:O1 (a,b,c,d)):CK a b c d:=by
 obtain⟨rs,cs,⟨x,y,z,w⟩,hN,hM⟩:=F
 have k:=Hv IS hN
 have K:CK x y z w:=by
  unfold Hx Hw at k
  simp only[Bool.and_eq_true,decide_eq_true_eq] at k
  obtain⟨z1,z2,z3,z4,h1,h2,h3,h4,h5,h6,h7⟩:=k
  refine⟨⟨z1,z2,z3,z4⟩,_,rfl,fun q=>h1 (by rw[q];rfl),h2,⟨h3,h4,h5,h6⟩,fun q=>?_,fun q=>?_⟩
  ·rw[if_pos (by omega)] at h7
   simp only[Bool.and_eq_true,decide_eq_true_eq] at h7
   exact h7
  ·rw[if_neg (by omega)] at h7
   simp only[Bool.and_eq_true] at h7
   exact h7
 cases rs<;>cases cs
 ·have:=Prod.mk.inj hM;have q1:=this.1;have q2:=Prod.mk.inj this.2;have q3:=Prod.mk.inj q2.2;rw[q1,q2.1,q3.1,q3.2];exact K
 ·have:=Prod.mk.inj hM;have q1:=this.1;have q2:=Prod.mk.inj this.2;have q3:=Prod.mk.inj q2.2;rw[q1,q2.1,q3.1,q3.2];exact K.cs
 ·have:=Prod.mk.inj hM;have q1:=this.1;have q2:=Prod.mk.inj this.2;have q3:=Prod.mk.inj q2.2;rw[q1,q2.1,q3.1,q3.2];exact K.rs
 ·have:=Prod.mk.inj hM;have q1:=this.1;have q2:=Prod.mk.inj this.2;have q3:=Prod.mk.inj q2.2;rw[q1,q2.1,q3.1,q3.2];exact K.rs.cs
theorem cj {x:Int32}(h:eQ x=true):x.toInt=0∨x∈bz:=by
 unfold eQ at h
 rw[Bool.or_eq_true,decide_eq_true_eq,decide_eq_true_eq] at h
 rcases h with h|h
 ·exact Or.inl (by rw[h];rfl)
 ·exact Or.inr h
theorem de:∀x∈bz,x.toInt=1∨x.toInt=-1∨x.toInt=2∨x.toInt=-2∨x.toInt=4∨x.toInt=-4∨x.toInt=8∨x.toInt=-8∨x.toInt=16∨x.toInt=-16∨x.toInt=32∨x.toInt=-32∨x.toInt=64∨x.toInt=-64∨x.toInt=128∨x.toInt=-128:=by decide +kernel
theorem aS {x:Int32}(h:x∈bz):x.toInt≠0∧(-128≤x.toInt∧x.toInt≤128):=by
 have:=de x h
 omega
theorem qd {x:Int32}(h:eQ x=true):-128≤x.toInt∧x.toInt≤128:=by
 rcases cj h with h|h
 ·omega
 ·exact (aS h).2
theorem bf (x:Int32):Jvm.FP.Core.DInt x.toInt (FP.i2d x):=Jvm.FP.Core.i2d_int x
theorem qe {a u c d:Int32}{E e:Int}(ha:a∈bz)(hu:u∈bz)(hc:c∈bz)(hd:d∈bz)(he:a.toInt*d.toInt-u.toInt*c.toInt=E)(hE:E.natAbs=e.natAbs)(e0:e≠0)(e128:128 % e.natAbs=0)(h1:c.toInt.natAbs≤16*a.toInt.natAbs)(h2:128*c.toInt.natAbs % a.toInt.natAbs=0)(h3:2*e.natAbs % a.toInt.natAbs=0):∃Lq Dd,S7 (ah u.toInt 0 (FP.i2d u)) (ah Lq 7 (FP.ddiv (FP.i2d c) (FP.i2d a))) a.toInt u.toInt Lq Dd a.toInt u.toInt c.toInt d.toInt (FP.i2d a) (FP.dsub (FP.i2d d) (FP.dmul (FP.ddiv (FP.i2d c) (FP.i2d a)) (FP.i2d u)))∧Jvm.Free.Fl.NoNaN64 (FP.ddiv (FP.i2d c) (FP.i2d a))∧mg (FP.dmul (FP.ddiv (FP.i2d c) (FP.i2d a)) (FP.i2d u))∈en∧mg (FP.dsub (FP.i2d d) (FP.dmul (FP.ddiv (FP.i2d c) (FP.i2d a)) (FP.i2d u)))∈en:=by
 obtain⟨za,ba⟩:=aS ha
 obtain⟨Lq,eL⟩:a.toInt∣128*c.toInt:=Int.natAbs_dvd_natAbs.mp (by rw[Int.natAbs_mul];exact Nat.dvd_of_mod_eq_zero h2)
 obtain⟨Dd,eD⟩:a.toInt∣2*E:=Int.natAbs_dvd_natAbs.mp (by rw[Int.natAbs_mul,hE];exact Nat.dvd_of_mod_eq_zero h3)
 rw[Int.mul_comm a.toInt] at eD
 have e1:128*c.toInt=Lq*a.toInt:=by rw[eL,Int.mul_comm]
 have e2:128*d.toInt=64*Dd+Lq*u.toInt:=by
  refine Int.eq_of_mul_eq_mul_right za ?_
  have q1:u.toInt*c.toInt*128=Lq*a.toInt*u.toInt:=by rw[←e1,Int.mul_assoc,Int.mul_comm c.toInt,Int.mul_comm]
  have q2:Lq*a.toInt*u.toInt=Lq*u.toInt*a.toInt:=by rw[Int.mul_assoc,Int.mul_comm a.toInt,←Int.mul_assoc]
  rw[Int.add_mul,←q2,←q1,Int.mul_assoc 64,←eD,←he,Int.mul_assoc 128,Int.mul_comm d.toInt]
  omega
 have h0:Dd≠0:=by
  intro q
  rw[q,Int.zero_mul] at eD
  omega
 have bL:-2048≤Lq∧Lq≤2048:=by
  have q:Lq.natAbs*a.toInt.natAbs=128*c.toInt.natAbs:=by rw[←Int.natAbs_mul,←e1,Int.natAbs_mul];rfl
  have q3:Lq.natAbs*a.toInt.natAbs≤2048*a.toInt.natAbs:=by omega
  have:=Nat.le_of_mul_le_mul_right q3 (by omega)
  omega
 have hD:256 % Dd.natAbs=0:=by
  have q:Dd.natAbs*a.toInt.natAbs=2*e.natAbs:=by rw[←Int.natAbs_mul,←eD,Int.natAbs_mul,hE];rfl
  exact Nat.mod_eq_zero_of_dvd (Nat.dvd_trans ⟨_,q.symm⟩ (show 2*e.natAbs∣2*128 from Nat.mul_dvd_mul_left 2 (Nat.dvd_of_mod_eq_zero e128)))
 exact⟨Lq,Dd,O3 (e:=E) (de a ha) (aS hu).2 (aS hd).2 bL h0 e1 e2 (bf a) (bf u) (bf c) (bf d),Hu ha hu hc hd h1 za e1 e2 h0 hD⟩
theorem Ng (bs:Bool)(B:LWB p l e s m args below meth c T0 Z a0 h0 n0 L0 0 0)(D0:D 0=0)(het:iW (D 18)=0∨iW (D 18)=1∨iW (D 18)=2)(hrev:iW (D 19)=0∨iW (D 19)=1)(F:O1 (iW (D 1),iW (D 2),iW (D 3),iW (D 4))):Go p e below (bw s (aV n0) 192 1792) T0 (mkF m 411 (cH D bs) []):=by
 obtain⟨⟨z1,z2,z3,z4⟩,e,he,e0,e128,⟨b1,b2,b3,b4⟩,hs,hf⟩:=zq F
 have Q:QM4 D:=⟨qd z1,qd z2,qd z3,qd z4⟩
 have hq:128 / e*e=128:=Int.ediv_mul_cancel (Int.natAbs_dvd_natAbs.mp (Nat.dvd_of_mod_eq_zero e128))
 have hJ:=Ht he hq (by omega) (by omega) (by omega) (by omega)
 rcases cj z1 with a1|a1
 ·rcases cj z2 with a2|a2
  ·rcases cj z3 with a3|a3
   ·rcases cj z4 with a4|a4
    ·exact absurd (by rw[←he,a1,a2];simp:e=0) e0
    ·exact absurd (by rw[←he,a1,a2];simp:e=0) e0
   ·rcases cj z4 with a4|a4
    ·exact absurd (by rw[←he,a1,a2];simp:e=0) e0
    ·exact absurd (by rw[←he,a1,a2];simp:e=0) e0
  ·rcases cj z3 with a3|a3
   ·rcases cj z4 with a4|a4
    ·exact absurd (by rw[←he,a1,a3];simp:e=0) e0
    ·exact absurd (by rw[←he,a1,a3];simp:e=0) e0
   ·rcases cj z4 with a4|a4
    ·have n1:=a1
     have n2:=(aS a2).1
     have n3:=(aS a3).1
     have n4:=a4
     obtain⟨t1,t2,t3,t4⟩:=hs (by omega)
     have S:=gE (de _ a3) (u:=(iW (D 4)).toInt) (by omega) n2 n1 (bf _) (bf _) (Du:=(iW (D 4)).toInt=0) n4
     obtain⟨x1_1,x1_2,x1_3,x1_4,x1_5,x1_6⟩:=eh a3
     obtain⟨x2_1,x2_2,x2_3,x2_4,x2_5,x2_6⟩:=eh a2
     exact G4 bs B D0 n1 n2 n3 n4 Q het hJ S (fun _ _ _ _ _ _ _ _ _ _ _ _=>⟨x1_1,x1_2,x1_3,x1_4,x1_5,x1_6,x2_1,x2_2,x2_3,x2_4,x2_5,x2_6,trivial⟩)
    ·have n1:=a1
     have n2:=(aS a2).1
     have n3:=(aS a3).1
     have n4:=(aS a4).1
     obtain⟨t1,t2,t3,t4⟩:=hs (by omega)
     rcases hrev with hr|hr
     ·have S:=gE (de _ a3) (u:=(iW (D 4)).toInt) (by omega) n2 n1 (bf _) (bf _) (Du:=ah (iW (D 4)).toInt 0 (FP.i2d (iW (D 4)))) (am.mpr (bf _))
      obtain⟨x1_1,x1_2,x1_3,x1_4,x1_5,x1_6,x1_7,x1_8⟩:=(ek a3 a4 (by omega)).1
      obtain⟨x2_1,x2_2,x2_3,x2_4,x2_5,x2_6⟩:=eh a2
      exact uk bs B D0 hr n1 n2 n3 n4 Q het hJ S (fun _ _ _ _ _ _ _ _ _ _ _ _=>⟨x1_1,x1_2,x1_3,x1_4,x1_5,x1_6,x1_7,x1_8,x2_1,x2_2,x2_3,x2_4,x2_5,x2_6,trivial⟩)
     ·have S:=gE (de _ a3) (u:=(iW (D 4)).toInt) (by omega) n2 n1 (bf _) (bf _) (Du:=ah (iW (D 4)).toInt 0 (FP.i2d (iW (D 4)))) (am.mpr (bf _))
      obtain⟨x1_1,x1_2,x1_3,x1_4,x1_5,x1_6,x1_7,x1_8⟩:=(ek a3 a4 (by omega)).2
      obtain⟨x2_1,x2_2,x2_3,x2_4,x2_5,x2_6⟩:=eh a2
      exact ul bs B D0 hr n1 n2 n3 n4 Q het hJ S (fun _ _ _ _ _ _ _ _ _ _ _ _=>⟨x1_1,x1_2,x1_3,x1_4,x1_5,x1_6,x1_7,x1_8,x2_1,x2_2,x2_3,x2_4,x2_5,x2_6,trivial⟩)
 ·rcases cj z2 with a2|a2
  ·rcases cj z3 with a3|a3
   ·rcases cj z4 with a4|a4
    ·exact absurd (by rw[←he,a4,a2];simp:e=0) e0
    ·have n1:=(aS a1).1
     have n2:=a2
     have n3:=a3
     have n4:=(aS a4).1
     obtain⟨t1,t2,t3,t4⟩:=hs (by omega)
     have S:=gE (de _ a1) (u:=(iW (D 2)).toInt) (by omega) n4 n3 (bf _) (bf _) (Du:=(iW (D 2)).toInt=0) n2
     obtain⟨x1_1,x1_2,x1_3,x1_4,x1_5,x1_6⟩:=eh a1
     obtain⟨x2_1,x2_2,x2_3,x2_4,x2_5,x2_6⟩:=eh a4
     exact Ha bs B D0 n1 n2 n3 n4 Q het hJ S (fun _ _ _ _ _ _ _ _ _ _ _ _=>⟨x1_1,x1_2,x1_3,x1_4,x1_5,x1_6,x2_1,x2_2,x2_3,x2_4,x2_5,x2_6,trivial⟩)
   ·rcases cj z4 with a4|a4
    ·exact absurd (by rw[←he,a4,a2];simp:e=0) e0
    ·have n1:=(aS a1).1
     have n2:=a2
     have n3:=(aS a3).1
     have n4:=(aS a4).1
     obtain⟨t1,t2,t3,t4⟩:=hs (by omega)
     rcases hrev with hr|hr
     ·have S:=gE (de _ a4) (u:=(iW (D 3)).toInt) (by omega) n1 n2 (bf _) (bf _) (Du:=ah (iW (D 3)).toInt 0 (FP.i2d (iW (D 3)))) (am.mpr (bf _))
      obtain⟨x1_1,x1_2,x1_3,x1_4,x1_5,x1_6,x1_7,x1_8⟩:=(ek a4 a3 (by omega)).2
      obtain⟨x2_1,x2_2,x2_3,x2_4,x2_5,x2_6⟩:=eh a1
      exact um bs B D0 hr n1 n2 n3 n4 Q het hJ S (fun _ _ _ _ _ _ _ _ _ _ _ _=>⟨x1_1,x1_2,x1_3,x1_4,x1_5,x1_6,x1_7,x1_8,x2_1,x2_2,x2_3,x2_4,x2_5,x2_6,trivial⟩)
     ·have S:=gE (de _ a4) (u:=(iW (D 3)).toInt) (by omega) n1 n2 (bf _) (bf _) (Du:=ah (iW (D 3)).toInt 0 (FP.i2d (iW (D 3)))) (am.mpr (bf _))
      obtain⟨x1_1,x1_2,x1_3,x1_4,x1_5,x1_6,x1_7,x1_8⟩:=(ek a4 a3 (by omega)).1
      obtain⟨x2_1,x2_2,x2_3,x2_4,x2_5,x2_6⟩:=eh a1
      exact un bs B D0 hr n1 n2 n3 n4 Q het hJ S (fun _ _ _ _ _ _ _ _ _ _ _ _=>⟨x1_1,x1_2,x1_3,x1_4,x1_5,x1_6,x1_7,x1_8,x2_1,x2_2,x2_3,x2_4,x2_5,x2_6,trivial⟩)
  ·rcases cj z3 with a3|a3
   ·rcases cj z4 with a4|a4
    ·exact absurd (by rw[←he,a4,a3];simp:e=0) e0
    ·have n1:=(aS a1).1
     have n2:=(aS a2).1
     have n3:=a3
     have n4:=(aS a4).1
     obtain⟨t1,t2,t3,t4⟩:=hs (by omega)
     rcases hrev with hr|hr
     ·have S:=gE (de _ a1) (u:=(iW (D 2)).toInt) (by omega) n4 n3 (bf _) (bf _) (Du:=ah (iW (D 2)).toInt 0 (FP.i2d (iW (D 2)))) (am.mpr (bf _))
      obtain⟨x1_1,x1_2,x1_3,x1_4,x1_5,x1_6,x1_7,x1_8⟩:=(ek a1 a2 (by omega)).1
      obtain⟨x2_1,x2_2,x2_3,x2_4,x2_5,x2_6⟩:=eh a4
      exact uo bs B D0 hr n1 n2 n3 n4 Q het hJ S (fun _ _ _ _ _ _ _ _ _ _ _ _=>⟨x1_1,x1_2,x1_3,x1_4,x1_5,x1_6,x1_7,x1_8,x2_1,x2_2,x2_3,x2_4,x2_5,x2_6,trivial⟩)
     ·have S:=gE (de _ a1) (u:=(iW (D 2)).toInt) (by omega) n4 n3 (bf _) (bf _) (Du:=ah (iW (D 2)).toInt 0 (FP.i2d (iW (D 2)))) (am.mpr (bf _))
      obtain⟨x1_1,x1_2,x1_3,x1_4,x1_5,x1_6,x1_7,x1_8⟩:=(ek a1 a2 (by omega)).2
      obtain⟨x2_1,x2_2,x2_3,x2_4,x2_5,x2_6⟩:=eh a4
      exact uq bs B D0 hr n1 n2 n3 n4 Q het hJ S (fun _ _ _ _ _ _ _ _ _ _ _ _=>⟨x1_1,x1_2,x1_3,x1_4,x1_5,x1_6,x1_7,x1_8,x2_1,x2_2,x2_3,x2_4,x2_5,x2_6,trivial⟩)
   ·rcases cj z4 with a4|a4
    ·have n1:=(aS a1).1
     have n2:=(aS a2).1
     have n3:=(aS a3).1
     have n4:=a4
     obtain⟨t1,t2,t3,t4⟩:=hs (by omega)
     rcases hrev with hr|hr
     ·have S:=gE (de _ a2) (u:=(iW (D 1)).toInt) (by omega) n3 n4 (bf _) (bf _) (Du:=ah (iW (D 1)).toInt 0 (FP.i2d (iW (D 1)))) (am.mpr (bf _))
      obtain⟨x1_1,x1_2,x1_3,x1_4,x1_5,x1_6,x1_7,x1_8⟩:=(ek a2 a1 (by omega)).2
      obtain⟨x2_1,x2_2,x2_3,x2_4,x2_5,x2_6⟩:=eh a3
      exact ur bs B D0 hr n1 n2 n3 n4 Q het hJ S (fun _ _ _ _ _ _ _ _ _ _ _ _=>⟨x1_1,x1_2,x1_3,x1_4,x1_5,x1_6,x1_7,x1_8,x2_1,x2_2,x2_3,x2_4,x2_5,x2_6,trivial⟩)
     ·have S:=gE (de _ a2) (u:=(iW (D 1)).toInt) (by omega) n3 n4 (bf _) (bf _) (Du:=ah (iW (D 1)).toInt 0 (FP.i2d (iW (D 1)))) (am.mpr (bf _))
      obtain⟨x1_1,x1_2,x1_3,x1_4,x1_5,x1_6,x1_7,x1_8⟩:=(ek a2 a1 (by omega)).1
      obtain⟨x2_1,x2_2,x2_3,x2_4,x2_5,x2_6⟩:=eh a3
      exact us bs B D0 hr n1 n2 n3 n4 Q het hJ S (fun _ _ _ _ _ _ _ _ _ _ _ _=>⟨x1_1,x1_2,x1_3,x1_4,x1_5,x1_6,x1_7,x1_8,x2_1,x2_2,x2_3,x2_4,x2_5,x2_6,trivial⟩)
    ·have n1:=(aS a1).1
     have n2:=(aS a2).1
     have n3:=(aS a3).1
     have n4:=(aS a4).1
     have k1:=(hf (by omega)).1
     unfold gZ at k1
     by_cases sp:16*(iW (D 1)).toInt.natAbs≤(iW (D 2)).toInt.natAbs
     ·rw[if_pos sp] at k1
      simp only[Bool.and_eq_true,decide_eq_true_eq] at k1
      obtain⟨f1,f2,f3,f4⟩:=k1
      rcases hrev with hr|hr
      ·obtain⟨Lq,Dd,S,l1,l2,l3⟩:=qe a3 a4 a1 a2 (E:=-e) (by rw[Int.mul_comm (iW (D 3)).toInt,Int.mul_comm (iW (D 4)).toInt];omega) (by omega) e0 e128 f1 f2 f3
       obtain⟨x1_1,x1_2,x1_3,x1_4,x1_5,x1_6,x1_7,x1_8⟩:=(xO a1 a2 sp).1
       obtain⟨x2_1,x2_2,x2_3,x2_4,x2_5,x2_6,x2_7,x2_8⟩:=(ek a3 a4 f4).1
       obtain⟨x4_1,x4_2,x4_3,x4_4,x4_5,x4_6⟩:=p_ l3 l2 a2
       obtain⟨x5_1,x5_2,x5_3,x5_4,x5_5,x5_6⟩:=nM l3
       exact tc bs B D0 hr n1 n2 n3 n4 Q het hJ S (fun _ _ _ _ _ _ _ _ _ _ _ _=>⟨x1_1,x1_2,x1_3,x1_4,x1_5,x1_6,x1_7,x1_8,x2_1,x2_2,x2_3,x2_4,x2_5,x2_6,x2_7,x2_8,l1,(gg _ l2).1,(gg _ l3).1,x4_1,x4_2,x4_3,x4_4,x4_5,x4_6,x5_1,x5_2,x5_3,x5_4,x5_5,x5_6,trivial⟩)
      ·obtain⟨Lq,Dd,S,l1,l2,l3⟩:=qe a3 a4 a1 a2 (E:=-e) (by rw[Int.mul_comm (iW (D 3)).toInt,Int.mul_comm (iW (D 4)).toInt];omega) (by omega) e0 e128 f1 f2 f3
       obtain⟨x1_1,x1_2,x1_3,x1_4,x1_5,x1_6,x1_7,x1_8⟩:=(xO a1 a2 sp).2
       obtain⟨x2_1,x2_2,x2_3,x2_4,x2_5,x2_6,x2_7,x2_8⟩:=(ek a3 a4 f4).2
       obtain⟨x4_1,x4_2,x4_3,x4_4,x4_5,x4_6⟩:=p_ l3 l2 a2
       obtain⟨x5_1,x5_2,x5_3,x5_4,x5_5,x5_6⟩:=nM l3
       exact td bs B D0 hr n1 n2 n3 n4 Q het hJ S (fun _ _ _ _ _ _ _ _ _ _ _ _=>⟨x1_1,x1_2,x1_3,x1_4,x1_5,x1_6,x1_7,x1_8,x2_1,x2_2,x2_3,x2_4,x2_5,x2_6,x2_7,x2_8,l1,(gg _ l2).1,(gg _ l3).1,x4_1,x4_2,x4_3,x4_4,x4_5,x4_6,x5_1,x5_2,x5_3,x5_4,x5_5,x5_6,trivial⟩)
     ·rw[if_neg sp] at k1
      simp only[Bool.and_eq_true,decide_eq_true_eq] at k1
      obtain⟨f1,f2,f3⟩:=k1
      rcases hrev with hr|hr
      ·obtain⟨Lq,Dd,S,l1,l2,l3⟩:=qe a1 a2 a3 a4 (E:=e) (by exact he) (by rfl) e0 e128 f1 f2 f3
       obtain⟨x1_1,x1_2,x1_3,x1_4,x1_5,x1_6,x1_7,x1_8⟩:=(ek a1 a2 sp).1
       obtain⟨x3_1,x3_2,x3_3,x3_4,x3_5,x3_6⟩:=p_ l3 l2 a4
       obtain⟨x4_1,x4_2,x4_3,x4_4,x4_5,x4_6⟩:=nM l3
       exact s_ bs B D0 hr n1 n2 n3 n4 Q het hJ S (fun _ _ _ _ _ _ _ _ _ _ _ _=>⟨x1_1,x1_2,x1_3,x1_4,x1_5,x1_6,x1_7,x1_8,l1,(gg _ l2).1,(gg _ l3).1,x3_1,x3_2,x3_3,x3_4,x3_5,x3_6,x4_1,x4_2,x4_3,x4_4,x4_5,x4_6,trivial⟩)
      ·obtain⟨Lq,Dd,S,l1,l2,l3⟩:=qe a1 a2 a3 a4 (E:=e) (by exact he) (by rfl) e0 e128 f1 f2 f3
       obtain⟨x1_1,x1_2,x1_3,x1_4,x1_5,x1_6,x1_7,x1_8⟩:=(ek a1 a2 sp).2
       obtain⟨x3_1,x3_2,x3_3,x3_4,x3_5,x3_6⟩:=p_ l3 l2 a4
       obtain⟨x4_1,x4_2,x4_3,x4_4,x4_5,x4_6⟩:=nM l3
       exact ta bs B D0 hr n1 n2 n3 n4 Q het hJ S (fun _ _ _ _ _ _ _ _ _ _ _ _=>⟨x1_1,x1_2,x1_3,x1_4,x1_5,x1_6,x1_7,x1_8,l1,(gg _ l2).1,(gg _ l3).1,x3_1,x3_2,x3_3,x3_4,x3_5,x3_6,x4_1,x4_2,x4_3,x4_4,x4_5,x4_6,trivial⟩)
theorem ja (bt:Bool)(B:LWB p l e s m args below meth c T0 Z a0 h0 n0 L0 0 0)(D0:D 0=0)(het:iW (D 18)=0∨iW (D 18)=1∨iW (D 18)=2)(hrev:iW (D 19)=0∨iW (D 19)=1)(F:kM (iW (D 1),iW (D 2),iW (D 3),iW (D 4))):Go p e below (bw s (aV n0) 192 1792) T0 (mkF m 345 (Q5 D bt) []):=by
 obtain⟨b1,hb1⟩:=cU (iW (D 16))
 obtain⟨b2,hb2⟩:=cU (iW (D 17))
 have FF:O1 (iW (bif b1 then (bif b2 then D 4 else D 3) else (bif b2 then D 2 else D 1)),iW (bif b1 then (bif b2 then D 3 else D 4) else (bif b2 then D 1 else D 2)),iW (bif b1 then (bif b2 then D 2 else D 1) else (bif b2 then D 4 else D 3)),iW (bif b1 then (bif b2 then D 1 else D 2) else (bif b2 then D 3 else D 4))):=⟨b1,b2,_,F,by cases b1<;>cases b2<;>rfl⟩
 cases bt
 ·refine goE (aY (A:=fun _=>0) (K:=fun _=>0) (W:=fun _ => .null) (D:=D) (Q1 b1 b2) sc0 B YgF.nil D0 (by decide) ⟨hb1,hb2,trivial⟩ ?_) rfl
  intro T1 h1 L1 A1 K1 B1 hA1 Kp1 f1 Y1
  exact goE (Ng (D:=(ac [0,(bif b1 then (bif b2 then D 4 else D 3) else (bif b2 then D 2 else D 1)),(bif b1 then (bif b2 then D 3 else D 4) else (bif b2 then D 1 else D 2)),(bif b1 then (bif b2 then D 2 else D 1) else (bif b2 then D 4 else D 3)),(bif b1 then (bif b2 then D 1 else D 2) else (bif b2 then D 3 else D 4)),D 5,D 6,D 7,D 8,D 9,D 10,D 11,D 12,D 13,D 14,D 15,D 16,D 17,D 18,D 19,D 20,D 21,D 22,D 23,D 1,D 2,D 3,D 4,(bif b1 then D 3 else D 1),(bif b1 then D 1 else D 3)])) b2 B1 rfl het hrev FF) (by cases b1<;>cases b2<;>rfl)
 ·refine goE (aY (A:=fun _=>0) (K:=fun _=>0) (W:=fun _ => .null) (D:=D) (Q3 b1 b2) sc0 B YgF.nil D0 (by decide) ⟨hb1,hb2,trivial⟩ ?_) rfl
  intro T1 h1 L1 A1 K1 B1 hA1 Kp1 f1 Y1
  exact goE (Ng (D:=(ac [0,(bif b1 then (bif b2 then D 4 else D 3) else (bif b2 then D 2 else D 1)),(bif b1 then (bif b2 then D 3 else D 4) else (bif b2 then D 1 else D 2)),(bif b1 then (bif b2 then D 2 else D 1) else (bif b2 then D 4 else D 3)),(bif b1 then (bif b2 then D 1 else D 2) else (bif b2 then D 3 else D 4)),D 5,D 6,D 7,D 8,D 9,D 10,D 11,D 12,D 13,D 14,D 15,D 16,D 17,D 18,D 19,D 20,D 21,D 22,D 23,D 1,D 2,D 3,D 4,(bif b1 then D 3 else D 1),(bif b1 then D 1 else D 3)])) b2 B1 rfl het hrev FF) (by cases b1<;>cases b2<;>rfl)
theorem Nh (B:LWB p l e s m args below meth c T0 Z a0 h0 n0 L0 0 0)(D0:D 0=0)(hs:iW (D 7)=0∨iW (D 7)=1∨iW (D 7)=2∨iW (D 7)=3∨iW (D 7)=4∨iW (D 7)=5∨iW (D 7)=6∨iW (D 7)=7)(Pr:PR4 D):Go p e below (bw s (aV n0) 192 1792) T0 (mkF m 154 (iA D) []):=by
 obtain⟨⟨ga,gb,gc,gd⟩,het,hrev,gea,geb,gec,ged⟩:=Pr
 rcases hs with h|h|h|h|h|h|h|h
 ·by_cases hm:(iW (D 16)).toInt≤(iW (ab (aa 20 (iW (D 17)) (iW (D 18))))).toInt
  ·have F:kM (iW (ab (aa 22 (iW (D 8)) (iW (ab (aa 24 (iW 1099511627777) (iW (D 16))))))),iW (ab (aa 22 (iW (D 9)) (iW (ab (aa 24 (iW 1099511627777) (iW (D 17))))))),iW (ab (aa 22 (iW (D 10)) (iW (ab (aa 24 (iW 1099511627777) (iW (D 18))))))),iW (ab (aa 22 (iW (ab (aa 22 (iW (ab (aa 22 (iW (ab (aa 22 (iW (D 8)) (iW (D 9))))) (iW (D 10))))) (iW 1103806595071)))) (iW (ab (aa 24 (iW 1099511627777) (iW (ab (aa 20 (iW (ab (aa 21 (iW (ab (aa 20 (iW (D 17)) (iW (D 18))))) (iW (D 16))))) (iW 1099511627776)))))))))):=⟨0,by decide,_,ga,_,gb,_,gc,_,gd,_,gea,_,geb,_,gec,_,ged,by have hm':=hm;simp only[be] at hm';have e0:iJ (iW (D 16)) (iW (D 17)+iW (D 18))=iW (D 16):=if_pos hm';simp only[be];unfold aE;rw[e0];rfl⟩
   refine goE (aY (A:=fun _=>0) (K:=fun _=>0) (W:=fun _ => .null) (D:=D) OQ (scS Fx sc0) B YgF.nil D0 (by decide) ⟨trivial,hm,trivial,trivial,trivial,trivial,trivial,trivial,trivial,trivial,trivial,trivial,trivial,trivial,trivial,trivial,trivial⟩ ?_) (by simp only[iA];rw[h];rfl)
   intro T1 h1 L1 A1 K1 B1 hA1 Kp1 f1 Y1
   exact goE (ja (D:=(ac [0,(ab (aa 22 (iW (D 8)) (iW (ab (aa 24 (iW 1099511627777) (iW (D 16))))))),(ab (aa 22 (iW (D 9)) (iW (ab (aa 24 (iW 1099511627777) (iW (D 17))))))),(ab (aa 22 (iW (D 10)) (iW (ab (aa 24 (iW 1099511627777) (iW (D 18))))))),(ab (aa 22 (iW (ab (aa 22 (iW (ab (aa 22 (iW (ab (aa 22 (iW (D 8)) (iW (D 9))))) (iW (D 10))))) (iW 1103806595071)))) (iW (ab (aa 24 (iW 1099511627777) (iW (ab (aa 20 (iW (ab (aa 21 (iW (ab (aa 20 (iW (D 17)) (iW (D 18))))) (iW (D 16))))) (iW 1099511627776))))))))),D 1,D 2,D 3,D 4,D 5,D 6,0,D 8,D 9,D 10,D 11,D 12,D 13,D 14,D 15,D 16,D 17,D 18,D 19,(D 16),(ab (aa 22 (iW (ab (aa 22 (iW (ab (aa 22 (iW (D 8)) (iW (D 9))))) (iW (D 10))))) (iW 1103806595071)))])) true B1 rfl het hrev F) rfl
  ·have F:kM (iW (ab (aa 22 (iW (D 8)) (iW (ab (aa 24 (iW 1099511627777) (iW (ab (aa 20 (iW (D 17)) (iW (D 18)))))))))),iW (ab (aa 22 (iW (D 9)) (iW (ab (aa 24 (iW 1099511627777) (iW (D 17))))))),iW (ab (aa 22 (iW (D 10)) (iW (ab (aa 24 (iW 1099511627777) (iW (D 18))))))),iW (ab (aa 22 (iW (ab (aa 22 (iW (ab (aa 22 (iW (ab (aa 22 (iW (D 8)) (iW (D 9))))) (iW (D 10))))) (iW 1103806595071)))) (iW (ab (aa 24 (iW 1099511627777) (iW (ab (aa 20 (iW (ab (aa 21 (iW (ab (aa 20 (iW (D 17)) (iW (D 18))))) (iW (ab (aa 20 (iW (D 17)) (iW (D 18)))))))) (iW 1099511627776)))))))))):=⟨0,by decide,_,ga,_,gb,_,gc,_,gd,_,gea,_,geb,_,gec,_,ged,by have hm':=hm;simp only[be] at hm';have e0:iJ (iW (D 16)) (iW (D 17)+iW (D 18))=iW (D 17)+iW (D 18):=if_neg hm';simp only[be];unfold aE;rw[e0];rfl⟩
   refine goE (aY (A:=fun _=>0) (K:=fun _=>0) (W:=fun _ => .null) (D:=D) OR (scS Fz sc0) B YgF.nil D0 (by decide) ⟨trivial,(Int.not_le.mp hm),trivial,trivial,trivial,trivial,trivial,trivial,trivial,trivial,trivial,trivial,trivial,trivial,trivial,trivial,trivial⟩ ?_) (by simp only[iA];rw[h];rfl)
   intro T1 h1 L1 A1 K1 B1 hA1 Kp1 f1 Y1
   exact goE (ja (D:=(ac [0,(ab (aa 22 (iW (D 8)) (iW (ab (aa 24 (iW 1099511627777) (iW (ab (aa 20 (iW (D 17)) (iW (D 18)))))))))),(ab (aa 22 (iW (D 9)) (iW (ab (aa 24 (iW 1099511627777) (iW (D 17))))))),(ab (aa 22 (iW (D 10)) (iW (ab (aa 24 (iW 1099511627777) (iW (D 18))))))),(ab (aa 22 (iW (ab (aa 22 (iW (ab (aa 22 (iW (ab (aa 22 (iW (D 8)) (iW (D 9))))) (iW (D 10))))) (iW 1103806595071)))) (iW (ab (aa 24 (iW 1099511627777) (iW (ab (aa 20 (iW (ab (aa 21 (iW (ab (aa 20 (iW (D 17)) (iW (D 18))))) (iW (ab (aa 20 (iW (D 17)) (iW (D 18)))))))) (iW 1099511627776))))))))),D 1,D 2,D 3,D 4,D 5,D 6,0,D 8,D 9,D 10,D 11,D 12,D 13,D 14,D 15,D 16,D 17,D 18,D 19,(ab (aa 20 (iW (D 17)) (iW (D 18)))),(ab (aa 22 (iW (ab (aa 22 (iW (ab (aa 22 (iW (D 8)) (iW (D 9))))) (iW (D 10))))) (iW 1103806595071)))])) true B1 rfl het hrev F) rfl
 ·by_cases hm:(iW (D 16)).toInt≤(iW (ab (aa 20 (iW (D 17)) (iW (D 18))))).toInt
  ·have F:kM (iW (ab (aa 22 (iW (D 8)) (iW (ab (aa 24 (iW 1099511627777) (iW (D 16))))))),iW (ab (aa 22 (iW (D 9)) (iW (ab (aa 24 (iW 1099511627777) (iW (D 17))))))),iW (ab (aa 22 (iW (D 10)) (iW (ab (aa 24 (iW 1099511627777) (iW (D 18))))))),iW (ab (aa 22 (iW (ab (aa 22 (iW (ab (aa 22 (iW (ab (aa 22 (iW (D 8)) (iW (D 9))))) (iW (D 10))))) (iW 1099511627777)))) (iW (ab (aa 24 (iW 1099511627777) (iW (ab (aa 20 (iW (ab (aa 21 (iW (ab (aa 20 (iW (D 17)) (iW (D 18))))) (iW (D 16))))) (iW 1099511627777)))))))))):=⟨1,by decide,_,ga,_,gb,_,gc,_,gd,_,gea,_,geb,_,gec,_,ged,by have hm':=hm;simp only[be] at hm';have e0:iJ (iW (D 16)) (iW (D 17)+iW (D 18))=iW (D 16):=if_pos hm';simp only[be];unfold aE;rw[e0];rfl⟩
   refine goE (aY (A:=fun _=>0) (K:=fun _=>0) (W:=fun _ => .null) (D:=D) OS (scS Fx sc0) B YgF.nil D0 (by decide) ⟨trivial,hm,trivial,trivial,trivial,trivial,trivial,trivial,trivial,trivial,trivial,trivial,trivial,trivial,trivial,trivial,trivial⟩ ?_) (by simp only[iA];rw[h];rfl)
   intro T1 h1 L1 A1 K1 B1 hA1 Kp1 f1 Y1
   exact goE (ja (D:=(ac [0,(ab (aa 22 (iW (D 8)) (iW (ab (aa 24 (iW 1099511627777) (iW (D 16))))))),(ab (aa 22 (iW (D 9)) (iW (ab (aa 24 (iW 1099511627777) (iW (D 17))))))),(ab (aa 22 (iW (D 10)) (iW (ab (aa 24 (iW 1099511627777) (iW (D 18))))))),(ab (aa 22 (iW (ab (aa 22 (iW (ab (aa 22 (iW (ab (aa 22 (iW (D 8)) (iW (D 9))))) (iW (D 10))))) (iW 1099511627777)))) (iW (ab (aa 24 (iW 1099511627777) (iW (ab (aa 20 (iW (ab (aa 21 (iW (ab (aa 20 (iW (D 17)) (iW (D 18))))) (iW (D 16))))) (iW 1099511627777))))))))),D 1,D 2,D 3,D 4,D 5,D 6,1,D 8,D 9,D 10,D 11,D 12,D 13,D 14,D 15,D 16,D 17,D 18,D 19,(D 16),(ab (aa 22 (iW (ab (aa 22 (iW (ab (aa 22 (iW (D 8)) (iW (D 9))))) (iW (D 10))))) (iW 1099511627777)))])) true B1 rfl het hrev F) rfl
  ·have F:kM (iW (ab (aa 22 (iW (D 8)) (iW (ab (aa 24 (iW 1099511627777) (iW (ab (aa 20 (iW (D 17)) (iW (D 18)))))))))),iW (ab (aa 22 (iW (D 9)) (iW (ab (aa 24 (iW 1099511627777) (iW (D 17))))))),iW (ab (aa 22 (iW (D 10)) (iW (ab (aa 24 (iW 1099511627777) (iW (D 18))))))),iW (ab (aa 22 (iW (ab (aa 22 (iW (ab (aa 22 (iW (ab (aa 22 (iW (D 8)) (iW (D 9))))) (iW (D 10))))) (iW 1099511627777)))) (iW (ab (aa 24 (iW 1099511627777) (iW (ab (aa 20 (iW (ab (aa 21 (iW (ab (aa 20 (iW (D 17)) (iW (D 18))))) (iW (ab (aa 20 (iW (D 17)) (iW (D 18)))))))) (iW 1099511627777)))))))))):=⟨1,by decide,_,ga,_,gb,_,gc,_,gd,_,gea,_,geb,_,gec,_,ged,by have hm':=hm;simp only[be] at hm';have e0:iJ (iW (D 16)) (iW (D 17)+iW (D 18))=iW (D 17)+iW (D 18):=if_neg hm';simp only[be];unfold aE;rw[e0];rfl⟩
   refine goE (aY (A:=fun _=>0) (K:=fun _=>0) (W:=fun _ => .null) (D:=D) OT (scS Fz sc0) B YgF.nil D0 (by decide) ⟨trivial,(Int.not_le.mp hm),trivial,trivial,trivial,trivial,trivial,trivial,trivial,trivial,trivial,trivial,trivial,trivial,trivial,trivial,trivial⟩ ?_) (by simp only[iA];rw[h];rfl)
   intro T1 h1 L1 A1 K1 B1 hA1 Kp1 f1 Y1
   exact goE (ja (D:=(ac [0,(ab (aa 22 (iW (D 8)) (iW (ab (aa 24 (iW 1099511627777) (iW (ab (aa 20 (iW (D 17)) (iW (D 18)))))))))),(ab (aa 22 (iW (D 9)) (iW (ab (aa 24 (iW 1099511627777) (iW (D 17))))))),(ab (aa 22 (iW (D 10)) (iW (ab (aa 24 (iW 1099511627777) (iW (D 18))))))),(ab (aa 22 (iW (ab (aa 22 (iW (ab (aa 22 (iW (ab (aa 22 (iW (D 8)) (iW (D 9))))) (iW (D 10))))) (iW 1099511627777)))) (iW (ab (aa 24 (iW 1099511627777) (iW (ab (aa 20 (iW (ab (aa 21 (iW (ab (aa 20 (iW (D 17)) (iW (D 18))))) (iW (ab (aa 20 (iW (D 17)) (iW (D 18)))))))) (iW 1099511627777))))))))),D 1,D 2,D 3,D 4,D 5,D 6,1,D 8,D 9,D 10,D 11,D 12,D 13,D 14,D 15,D 16,D 17,D 18,D 19,(ab (aa 20 (iW (D 17)) (iW (D 18)))),(ab (aa 22 (iW (ab (aa 22 (iW (ab (aa 22 (iW (D 8)) (iW (D 9))))) (iW (D 10))))) (iW 1099511627777)))])) true B1 rfl het hrev F) rfl
 ·have F:kM (iW (ab (aa 22 (iW (D 8)) (iW (ab (aa 24 (iW 1099511627777) (iW (D 16))))))),iW (ab (aa 22 (iW (D 9)) (iW (ab (aa 24 (iW 1099511627777) (iW (D 17))))))),iW 0,iW (ab (aa 22 (iW (D 11)) (iW (ab (aa 24 (iW 1099511627777) (iW (D 19)))))))):=⟨2,by decide,_,ga,_,gb,_,gc,_,gd,_,gea,_,geb,_,gec,_,ged,by simp only[be];rfl⟩
  refine goE (aY (A:=fun _=>0) (K:=fun _=>0) (W:=fun _ => .null) (D:=D) QV sc0 B YgF.nil D0 (by decide) ⟨trivial,trivial,trivial,trivial,trivial,trivial,trivial⟩ ?_) (by simp only[iA];rw[h];rfl)
  intro T1 h1 L1 A1 K1 B1 hA1 Kp1 f1 Y1
  exact goE (ja (D:=(ac [0,(ab (aa 22 (iW (D 8)) (iW (ab (aa 24 (iW 1099511627777) (iW (D 16))))))),(ab (aa 22 (iW (D 9)) (iW (ab (aa 24 (iW 1099511627777) (iW (D 17))))))),0,(ab (aa 22 (iW (D 11)) (iW (ab (aa 24 (iW 1099511627777) (iW (D 19))))))),D 1,D 2,D 3,D 4,D 5,D 6,2,D 8,D 9,D 10,D 11,D 12,D 13,D 14,D 15,D 16,D 17,D 18,D 19,0,0])) false B1 rfl het hrev F) rfl
 ·have F:kM (iW (ab (aa 22 (iW (D 8)) (iW (ab (aa 24 (iW 1099511627777) (iW (D 16))))))),iW 0,iW (ab (aa 22 (iW (D 10)) (iW (ab (aa 24 (iW 1099511627777) (iW (D 18))))))),iW (ab (aa 22 (iW (D 11)) (iW (ab (aa 24 (iW 1099511627777) (iW (D 19)))))))):=⟨3,by decide,_,ga,_,gb,_,gc,_,gd,_,gea,_,geb,_,gec,_,ged,by simp only[be];rfl⟩
  refine goE (aY (A:=fun _=>0) (K:=fun _=>0) (W:=fun _ => .null) (D:=D) QW sc0 B YgF.nil D0 (by decide) ⟨trivial,trivial,trivial,trivial,trivial,trivial,trivial⟩ ?_) (by simp only[iA];rw[h];rfl)
  intro T1 h1 L1 A1 K1 B1 hA1 Kp1 f1 Y1
  exact goE (ja (D:=(ac [0,(ab (aa 22 (iW (D 8)) (iW (ab (aa 24 (iW 1099511627777) (iW (D 16))))))),0,(ab (aa 22 (iW (D 10)) (iW (ab (aa 24 (iW 1099511627777) (iW (D 18))))))),(ab (aa 22 (iW (D 11)) (iW (ab (aa 24 (iW 1099511627777) (iW (D 19))))))),D 1,D 2,D 3,D 4,D 5,D 6,3,D 8,D 9,D 10,D 11,D 12,D 13,D 14,D 15,D 16,D 17,D 18,D 19,0,0])) false B1 rfl het hrev F) rfl
 ·have F:kM (iW (ab (aa 22 (iW (D 8)) (iW (ab (aa 24 (iW 1099511627777) (iW (D 16))))))),iW 0,iW 0,iW (ab (aa 22 (iW (D 11)) (iW (ab (aa 24 (iW 1099511627777) (iW (D 19)))))))):=⟨4,by decide,_,ga,_,gb,_,gc,_,gd,_,gea,_,geb,_,gec,_,ged,by simp only[be];rfl⟩
  refine goE (aY (A:=fun _=>0) (K:=fun _=>0) (W:=fun _ => .null) (D:=D) QX sc0 B YgF.nil D0 (by decide) ⟨trivial,trivial,trivial,trivial,trivial⟩ ?_) (by simp only[iA];rw[h];rfl)
  intro T1 h1 L1 A1 K1 B1 hA1 Kp1 f1 Y1
  exact goE (ja (D:=(ac [0,(ab (aa 22 (iW (D 8)) (iW (ab (aa 24 (iW 1099511627777) (iW (D 16))))))),0,0,(ab (aa 22 (iW (D 11)) (iW (ab (aa 24 (iW 1099511627777) (iW (D 19))))))),D 1,D 2,D 3,D 4,D 5,D 6,4,D 8,D 9,D 10,D 11,D 12,D 13,D 14,D 15,D 16,D 17,D 18,D 19,0,0])) false B1 rfl het hrev F) rfl
 ·have F:kM (iW 0,iW (ab (aa 22 (iW (D 9)) (iW (ab (aa 24 (iW 1099511627777) (iW (D 17))))))),iW (ab (aa 22 (iW (D 10)) (iW (ab (aa 24 (iW 1099511627777) (iW (D 18))))))),iW (ab (aa 22 (iW (D 11)) (iW (ab (aa 24 (iW 1099511627777) (iW (D 19)))))))):=⟨5,by decide,_,ga,_,gb,_,gc,_,gd,_,gea,_,geb,_,gec,_,ged,by simp only[be];rfl⟩
  refine goE (aY (A:=fun _=>0) (K:=fun _=>0) (W:=fun _ => .null) (D:=D) QY sc0 B YgF.nil D0 (by decide) ⟨trivial,trivial,trivial,trivial,trivial,trivial,trivial⟩ ?_) (by simp only[iA];rw[h];rfl)
  intro T1 h1 L1 A1 K1 B1 hA1 Kp1 f1 Y1
  exact goE (ja (D:=(ac [0,0,(ab (aa 22 (iW (D 9)) (iW (ab (aa 24 (iW 1099511627777) (iW (D 17))))))),(ab (aa 22 (iW (D 10)) (iW (ab (aa 24 (iW 1099511627777) (iW (D 18))))))),(ab (aa 22 (iW (D 11)) (iW (ab (aa 24 (iW 1099511627777) (iW (D 19))))))),D 1,D 2,D 3,D 4,D 5,D 6,5,D 8,D 9,D 10,D 11,D 12,D 13,D 14,D 15,D 16,D 17,D 18,D 19,0,0])) false B1 rfl het hrev F) rfl
 ·have F:kM (iW (ab (aa 22 (iW (D 8)) (iW (ab (aa 24 (iW 1099511627777) (iW (D 16))))))),iW (ab (aa 22 (iW (D 9)) (iW (ab (aa 24 (iW 1099511627777) (iW (D 17))))))),iW (ab (aa 22 (iW (D 10)) (iW (ab (aa 24 (iW 1099511627777) (iW (D 18))))))),iW 0):=⟨6,by decide,_,ga,_,gb,_,gc,_,gd,_,gea,_,geb,_,gec,_,ged,by simp only[be];rfl⟩
  refine goE (aY (A:=fun _=>0) (K:=fun _=>0) (W:=fun _ => .null) (D:=D) QZ sc0 B YgF.nil D0 (by decide) ⟨trivial,trivial,trivial,trivial,trivial,trivial,trivial⟩ ?_) (by simp only[iA];rw[h];rfl)
  intro T1 h1 L1 A1 K1 B1 hA1 Kp1 f1 Y1
  exact goE (ja (D:=(ac [0,(ab (aa 22 (iW (D 8)) (iW (ab (aa 24 (iW 1099511627777) (iW (D 16))))))),(ab (aa 22 (iW (D 9)) (iW (ab (aa 24 (iW 1099511627777) (iW (D 17))))))),(ab (aa 22 (iW (D 10)) (iW (ab (aa 24 (iW 1099511627777) (iW (D 18))))))),0,D 1,D 2,D 3,D 4,D 5,D 6,6,D 8,D 9,D 10,D 11,D 12,D 13,D 14,D 15,D 16,D 17,D 18,D 19,0,0])) false B1 rfl het hrev F) rfl
 ·have F:kM (iW 0,iW (ab (aa 22 (iW (D 9)) (iW (ab (aa 24 (iW 1099511627777) (iW (D 17))))))),iW (ab (aa 22 (iW (D 10)) (iW (ab (aa 24 (iW 1099511627777) (iW (D 18))))))),iW 0):=⟨7,by decide,_,ga,_,gb,_,gc,_,gd,_,gea,_,geb,_,gec,_,ged,by simp only[be];rfl⟩
  refine goE (aY (A:=fun _=>0) (K:=fun _=>0) (W:=fun _ => .null) (D:=D) Q0 sc0 B YgF.nil D0 (by decide) ⟨trivial,trivial,trivial,trivial,trivial⟩ ?_) (by simp only[iA];rw[h];rfl)
  intro T1 h1 L1 A1 K1 B1 hA1 Kp1 f1 Y1
  exact goE (ja (D:=(ac [0,0,(ab (aa 22 (iW (D 9)) (iW (ab (aa 24 (iW 1099511627777) (iW (D 17))))))),(ab (aa 22 (iW (D 10)) (iW (ab (aa 24 (iW 1099511627777) (iW (D 18))))))),0,D 1,D 2,D 3,D 4,D 5,D 6,7,D 8,D 9,D 10,D 11,D 12,D 13,D 14,D 15,D 16,D 17,D 18,D 19,0,0])) false B1 rfl het hrev F) rfl
theorem st0 (B:LWB p l e s m args below meth c T0 Z a0 h0 n0 L0 0 0)(D0:D 0=0):Go p e below (bw s (aV n0) 192 1792) T0 (mkF m 0 (fr0 D) []):=by
 obtain⟨b1,hb1⟩:=cU (iW (ab (aa 23 (iW (ab (aa 26 (iW (D 1)) (iW 1099511627779)))) (iW 1099511627777))))
 obtain⟨b2,hb2⟩:=cU (iW (ab (aa 23 (iW (ab (aa 26 (iW (D 1)) (iW 1099511627780)))) (iW 1099511627777))))
 obtain⟨b3,hb3⟩:=cU (iW (ab (aa 23 (iW (ab (aa 26 (iW (D 1)) (iW 1099511627781)))) (iW 1099511627777))))
 obtain⟨b4,hb4⟩:=cU (iW (ab (aa 23 (iW (ab (aa 26 (iW (D 1)) (iW 1099511627782)))) (iW 1099511627777))))
 refine goE (aY (A:=fun _=>0) (K:=fun _=>0) (W:=fun _ => .null) (D:=D) (Rg b1 b2 b3 b4) sc0 B YgF.nil D0 (by decide) ⟨trivial,trivial,trivial,hb1,trivial,trivial,hb2,trivial,trivial,hb3,trivial,trivial,hb4,trivial⟩ ?_) rfl
 intro T1 h1 L1 A1 K1 B1 hA1 Kp1 f1 Y1
 obtain⟨b5,hb5⟩:=cU (iW (ab (aa 23 (iW (ab (aa 26 (iW (D 1)) (iW 1099511627783)))) (iW 1099511627777))))
 obtain⟨b6,hb6⟩:=cU (iW (ab (aa 23 (iW (ab (aa 26 (iW (D 1)) (iW 1099511627784)))) (iW 1099511627777))))
 obtain⟨b7,hb7⟩:=cU (iW (ab (aa 23 (iW (ab (aa 26 (iW (D 1)) (iW 1099511627787)))) (iW 1099511627777))))
 have m4:=p9 _ (iW (ab (aa 23 (iW (ab (aa 26 (iW (D 1)) (iW 1099511627785)))) (iW 1099511627779)))) (be _).symm
 have gs:∀b:Bool,iW (bif b then (4294967295:UInt64) else 1)∈bn:=fun b=>by cases b<;>decide
 have g4:∀x:Int32,iW (ab (aa 23 x (iW 1099511627779)))∈bo:=fun x=>by
  rcases p9 _ (iW (ab (aa 23 x (iW 1099511627779)))) (be _).symm with h|h|h|h<;>rw[h]<;>decide
 have b01:∀b:Bool,iW (bif b then (1:UInt64) else 0)=0∨iW (bif b then (1:UInt64) else 0)=1:=fun b=>by cases b<;>decide
 have s8:=O2 _ (iW (ab (aa 23 (iW (D 1)) (iW 1099511627783)))) (be _).symm
 by_cases hm:(iW (ab (aa 23 (iW (ab (aa 26 (iW (D 1)) (iW 1099511627785)))) (iW 1099511627779)))).toInt≤(iW 1099511627778).toInt
 ·refine goE (aY (A:=fun _=>0) (K:=fun _=>0) (W:=fun _ => .null) (D:=(ac [0,D 1,D 2,D 3,D 4,D 5,D 6,(ab (aa 23 (iW (D 1)) (iW 1099511627783))),(bif b1 then (4294967295:UInt64) else 1),(bif b2 then (4294967295:UInt64) else 1),(bif b3 then (4294967295:UInt64) else 1),(bif b4 then (4294967295:UInt64) else 1)])) (QT b5 b6 b7) (scS OD sc0) B1 YgF.nil rfl (by decide) ⟨trivial,trivial,hb5,trivial,trivial,hb6,trivial,trivial,hm,trivial,trivial,hb7,trivial,trivial,trivial,trivial,trivial,trivial,trivial,trivial⟩ ?_) (by cases b1<;>cases b2<;>cases b3<;>cases b4<;>rfl)
  intro T2 h2 L2 A2 K2 B2 hA2 Kp2 f2 Y2
  exact goE (Nh (D:=(ac [0,D 1,D 2,D 3,D 4,D 5,D 6,(ab (aa 23 (iW (D 1)) (iW 1099511627783))),(bif b1 then (4294967295:UInt64) else 1),(bif b2 then (4294967295:UInt64) else 1),(bif b3 then (4294967295:UInt64) else 1),(bif b4 then (4294967295:UInt64) else 1),(bif b5 then (1:UInt64) else 0),(bif b6 then (1:UInt64) else 0),(ab (aa 23 (iW (ab (aa 26 (iW (D 1)) (iW 1099511627785)))) (iW 1099511627779))),(bif b7 then (1:UInt64) else 0),(ab (aa 23 (iW (D 2)) (iW 1099511627779))),(ab (aa 23 (iW (ab (aa 26 (iW (D 2)) (iW 1099511627778)))) (iW 1099511627779))),(ab (aa 23 (iW (ab (aa 26 (iW (D 2)) (iW 1099511627780)))) (iW 1099511627779))),(ab (aa 23 (iW (ab (aa 26 (iW (D 2)) (iW 1099511627782)))) (iW 1099511627779)))])) B2 rfl s8 ⟨⟨gs b1,gs b2,gs b3,gs b4⟩,(by rcases m4 with h|h|h|h;exact Or.inl h;exact Or.inr (Or.inl h);exact Or.inr (Or.inr h);(exfalso;rw[h] at hm;exact absurd hm (by decide))),b01 b7,g4 _,g4 _,g4 _,g4 _⟩) (by cases b5<;>cases b6<;>cases b7<;>rfl)
 ·refine goE (aY (A:=fun _=>0) (K:=fun _=>0) (W:=fun _ => .null) (D:=(ac [0,D 1,D 2,D 3,D 4,D 5,D 6,(ab (aa 23 (iW (D 1)) (iW 1099511627783))),(bif b1 then (4294967295:UInt64) else 1),(bif b2 then (4294967295:UInt64) else 1),(bif b3 then (4294967295:UInt64) else 1),(bif b4 then (4294967295:UInt64) else 1)])) (QU b5 b6 b7) (scS OE sc0) B1 YgF.nil rfl (by decide) ⟨trivial,trivial,hb5,trivial,trivial,hb6,trivial,trivial,(Int.not_le.mp hm),trivial,trivial,hb7,trivial,trivial,trivial,trivial,trivial,trivial,trivial,trivial⟩ ?_) (by cases b1<;>cases b2<;>cases b3<;>cases b4<;>rfl)
  intro T2 h2 L2 A2 K2 B2 hA2 Kp2 f2 Y2
  exact goE (Nh (D:=(ac [0,D 1,D 2,D 3,D 4,D 5,D 6,(ab (aa 23 (iW (D 1)) (iW 1099511627783))),(bif b1 then (4294967295:UInt64) else 1),(bif b2 then (4294967295:UInt64) else 1),(bif b3 then (4294967295:UInt64) else 1),(bif b4 then (4294967295:UInt64) else 1),(bif b5 then (1:UInt64) else 0),(bif b6 then (1:UInt64) else 0),2,(bif b7 then (1:UInt64) else 0),(ab (aa 23 (iW (D 2)) (iW 1099511627779))),(ab (aa 23 (iW (ab (aa 26 (iW (D 2)) (iW 1099511627778)))) (iW 1099511627779))),(ab (aa 23 (iW (ab (aa 26 (iW (D 2)) (iW 1099511627780)))) (iW 1099511627779))),(ab (aa 23 (iW (ab (aa 26 (iW (D 2)) (iW 1099511627782)))) (iW 1099511627779)))])) B2 rfl s8 ⟨⟨gs b1,gs b2,gs b3,gs b4⟩,(Or.inr (Or.inr rfl)),b01 b7,g4 _,g4 _,g4 _,g4 _⟩) (by cases b5<;>cases b6<;>cases b7<;>rfl)
end OwnLaw
theorem IT:plainFor x=true:=plainFor_of_name (show plainName "com/example/tracefold/tracefold/mining/FactoredInverseTransposeTimesPinLaw" = true by first|(simp [plainName,overriddenIn];done)|decide +kernel)
theorem O7 (p0:Int32)(p1:Int32)(p2:Int32)(p3:Int32)(p4:Int32)(p5:Int32)(m:MethodId):entryFrame m #[(.int p0),(.int p1),(.int p2),(.int p3),(.int p4),(.int p5)] maxLocals=mkF m 0 #[.val (.int p0),.val (.int p1),.val (.int p2),.val (.int p3),.val (.int p4),.val (.int p5),.unset,.unset,.unset,.unset,.unset,.unset,.unset,.unset,.unset,.unset,.unset,.unset,.unset,.unset,.unset,.unset,.unset,.unset,.unset,.unset,.unset,.unset,.unset,.unset,.unset,.unset,.unset,.unset,.unset,.unset,.unset,.unset,.unset,.unset,.unset,.unset,.unset,.unset,.unset,.unset,.unset,.unset,.unset,.unset,.unset,.unset,.unset] []:=by first|(simp [entryFrame,mkF,argsToLocals,Value.category,maxLocals];done)|rfl
theorem rm0 (l:Launch)(Z:State)(a0:Array Value)(hw:HW a0 Z)(ws:List Jvm.Cond)(p0:Int32)(p1:Int32)(p2:Int32)(p3:Int32)(p4:Int32)(p5:Int32)(h0:Heap)(n0:Nat)(Z0:n0≤h0.size)  :
  MetFree l x (head1 (Jvm.Cond.code x code maxLocals ret::ws) room_1) (fun as_ U=>as_=#[(.int p0),(.int p1),(.int p2),(.int p3),(.int p4),(.int p5)]∧Z.Warmed39 U.vm∧U.heap=h0) (fun _ _ _ _ _=>True) (fun _ U o U'=>∃v L,o = .returned v∧aV n0 v U'.heap L∧FrameEnd U o U' L 192 1792):=by
 refine o8 IT (O7 p0 p1 p2 p3 p4 p5) ?_
 intro p e s m below meth c T0 X0 hx hby hml hret hlk hnm hown hZ e0
 have N0:=Fr.nil n0
 obtain⟨u0,rfl⟩:∃w,iW w=p0:=⟨_,be p0⟩
 obtain⟨u1,rfl⟩:∃w,iW w=p1:=⟨_,be p1⟩
 obtain⟨u2,rfl⟩:∃w,iW w=p2:=⟨_,be p2⟩
 obtain⟨u3,rfl⟩:∃w,iW w=p3:=⟨_,be p3⟩
 obtain⟨u4,rfl⟩:∃w,iW w=p4:=⟨_,be p4⟩
 obtain⟨u5,rfl⟩:∃w,iW w=p5:=⟨_,be p5⟩
 exact goE (st0 (D:=ac [0,u0,u1,u2,u3,u4,u5]) ⟨X0,hx,hby,hml,hret,hlk,hown,hZ,hw,e0,Z0,N0⟩ rfl) rfl
theorem xP {Post:Tables→Env→Array Value→State→Outcome→State→Prop}(hpost:∀tb e args s v u,(limb_1_1.after args s (.returned v) u=true∧limb_1_2.after args s (.returned v) u=true∧True)→FrameEnd s (.returned v) u (Jvm.fieldLocs frame_1_writes args s++Jvm.arrayLocs frame_1_arrays args s++Jvm.staticLocs frame_1_statics s) 192 1792→Post tb e args s (.returned v) u) :
  ArmFor flags0 classFile x code maxLocals ret World_1 tables_1 room_1 Calls_1 rest_1 Pre_1 Post:=by
 intro l hfl _ _ p e ha hc hk s m args below hf hA hF happ hP
 obtain⟨hcalls,hrest,hpre⟩:=hP
 obtain⟨-,-,-,hnamed,-,-,-,hat⟩:=(Spec.applies_iff hf).mp happ
 obtain⟨hg,hn⟩:=and_e (Cond.before_iff.mp (show (Jvm.Cond.and given_1 narrow_1).before args s=true from hpre))
 obtain⟨h1,g0⟩:=and_e hg
 obtain⟨t0,g1⟩:=and_e g0
 obtain⟨t1,g2⟩:=and_e g1
 obtain⟨t2,g3⟩:=and_e g2
 obtain⟨t3,g4⟩:=and_e g3
 obtain⟨t4,g5⟩:=and_e g4
 have t5:=g5
 obtain⟨w0,w1,w2,w3,w4,w5,rfl⟩:∃w0 w1 w2 w3 w4 w5:Value,args=#[w0,w1,w2,w3,w4,w5]:=by
  have hs:args.size=6:=by simpa [Cond.value,given_1] using h1
  obtain⟨L⟩:=args
  match L,hs with
  | [w0,w1,w2,w3,w4,w5],_=>exact⟨w0,w1,w2,w3,w4,w5,rfl⟩
 have hw:=fun d (hd:d∈tables_1)=>atoms_spec (ws:=Jvm.Cond.code x code maxLocals ret::tables_1) hat d (List.mem_cons_of_mem _ hd)
 obtain⟨i0,e0⟩:=is_v t0
 obtain rfl:w0=(.int i0):=Option.some.inj e0
 obtain⟨i1,e1⟩:=is_v t1
 obtain rfl:w1=(.int i1):=Option.some.inj e1
 obtain⟨i2,e2⟩:=is_v t2
 obtain rfl:w2=(.int i2):=Option.some.inj e2
 obtain⟨i3,e3⟩:=is_v t3
 obtain rfl:w3=(.int i3):=Option.some.inj e3
 obtain⟨i4,e4⟩:=is_v t4
 obtain rfl:w4=(.int i4):=Option.some.inj e4
 obtain⟨i5,e5⟩:=is_v t5
 obtain rfl:w5=(.int i5):=Option.some.inj e5
 obtain⟨n,o,h1,h2,h3,_,L,rfl,⟨rfl,N⟩,hq⟩:=rm0 l s _ hw tables_1 i0 i1 i2 i3 i4 i5 s.heap s.heap.size (Nat.le_refl _)  p e ha hc hk s m _ below hf ((Spec.applies_iff_loose hf).mp happ).1 ⟨rfl,State.Warmed39.refl s,rfl⟩ trivial
 refine⟨n,_,h1,h2,h3,hpost _ _ _ _ _ _ ⟨Cond.after_iff.mpr rfl,Cond.after_iff.mpr (eq_i res_at (Term.int_eval (1)) rfl),trivial⟩ ⟨hq.1,hq.2.1,(hq.2.2.sift fun y hy=>Or.inr (N y hy)).mono (by decide) (by decide)⟩⟩
theorem main_1_1:Claimed_1_1:=xP fun _ _ _ _ _ _ h hF=>⟨h.1,hF⟩
theorem main_1_2:Claimed_1_2:=xP fun _ _ _ _ _ _ h hF=>⟨h.2.1,hF⟩
end Jvm.Pilot.@@N@@
namespace Jvm.Pilot.@@N@@
open Jvm Jvm.ClassFile Sem Op Lib Jvm.Free Jvm.Stand Jvm.Pilot.@@N@@.Jvm.D
/-! MADE BY PROGRAM (witnessworld.py) out of the Statement's table words and the real class files: 21 classes;the members and pool entries that the words name. The judged class is class 1,her method 1. -/
namespace start1
open Jvm.ClassFile
def u (s:String):CpInfo := .utf8 (stringToUtf16 s)
def gap:Nat→List CpInfo→List CpInfo
 | 0,r=>r
 | n+1,r => .unusable::gap n r
def poolList (es:List (Nat×CpInfo))(last:Nat):List CpInfo:=es.foldr (fun e r=>gap e.1 (e.2::r)) (gap last [])
def pool (es:List (Nat×CpInfo))(last:Nat):Array CpInfo:=⟨poolList es last⟩
def fileOf (pool:Array CpInfo)(this:Nat)(attrs:Array Attribute:=#[])(ms:Array MethodInfo:=#[])(fl:Nat:=33)(sup:Nat:=0)(ifs:Array Nat:=#[])(fds:Array FieldInfo:=#[]):ClassFile where
 minorVersion:=0
 majorVersion:=65
 constantPool:=pool
 accessFlags:=fl
 thisClass:=this
 superClass:=sup
 interfaces:=ifs
 fields:=fds
 methods:=ms
 attributes:=attrs
def plain (name:String)(sup:Option ClassId):Class where
 name:=name
 kind := .ordinary
 loader:=none
 accessFlags:=33
 super:=sup
 interfaces:=#[]
 cf:=none
 fields:=#[]
 methods:=#[]
 instanceTypes:=#[]
 staticTypes:=#[]
 resolved:=#[]
 callSites:=[]
 init := .initialized
 statics:=none
 mirror:=none

def pool0:Array CpInfo:=pool [(5,u "<init>"),(0,u "()V"),(1,.class_ 10),(1,u "java/lang/Object"),(85,u "clone"),(0,u "()Ljava/lang/Object;")] 26

def k0c0:Code:={ maxStack:=0,maxLocals:=1,code:=object_method_1_code,exceptionTable:=#[],attributes:=#[] }
def k0m0:Method:={ name := "<init>",desc := "()V",sig:={ parameters:=[],returnType:=none },accessFlags:=1,code:=some k0c0 }
def k0m1:Method:={ name := "clone",desc := "()Ljava/lang/Object;",sig:={ parameters:=[],returnType:=some (.object "java/lang/Object") },accessFlags:=260,code:=none }
def k0:Class:={ plain "java/lang/Object" none with
 accessFlags:=33
 interfaces:=#[]
 cf:=some (fileOf pool0 8 #[] #[⟨1,5,6,#[]⟩,⟨260,96,97,#[]⟩] 33 0 #[] #[])
 fields:=#[]
 methods:=#[k0m0,k0m1]
 instanceTypes:=#[]
 staticTypes:=#[]
 resolved:=Array.replicate 124 none
 statics:=none }

def pool1:Array CpInfo:=pool [(2,.class_ 4),(1,u "java/lang/Object"),(0,u "<init>"),(0,u "()V"),(0,.methodref 8 9),(0,.class_ 10),(0,.nameAndType 11 12),(0,u "java/lang/Math"),(0,u "min"),(0,u "(II)I"),(0,.class_ 14),(0,u "[I"),(0,.methodref 16 17),(0,.class_ 18),(0,.nameAndType 19 20),(0,u "com/example/tracefold/tracefold/mining/FactoredInverseTransposeTimesPinLaw"),(0,u "cols"),(0,u "(IIZ)[I"),(0,.class_ 22),(0,u "[D"),(0,.methodref 16 24),(0,.nameAndType 25 26),(0,u "vals"),(0,u "(IIZ)[D"),(0,.class_ 28),(0,u "com/example/tracefold/tracefold/mining/FactoredInverse"),(0,.methodref 27 30),(0,.nameAndType 5 31),(0,u "(I)V"),(0,.class_ 33),(0,u "com/example/tracefold/tracefold/mining/SparseVector"),(0,.methodref 32 30),(0,.methodref 27 36),(0,.nameAndType 37 38),(0,u "invert"),(0,u "([[I[[D)Z"),(0,.methodref 32 40),(0,.nameAndType 41 42),(0,u "set"),(0,u "(ID)V"),(0,.methodref 27 44),(0,.nameAndType 45 46),(0,u "replaceRow"),(0,u "(ILcom/example/tracefold/tracefold/mining/SparseVector;)V"),(0,.methodref 27 48),(0,.nameAndType 49 50),(0,u "transposeTimes"),(0,u "([D)[D"),(2,u "law"),(0,u "(IIIIII)Z")] 7

def k1m0:Method:={ name := "<init>",desc := "()V",sig:={ parameters:=[],returnType:=none },accessFlags:=2,code:=none }
def k1c1:Code:={ maxStack:=6,maxLocals:=53,code:=code,exceptionTable:=#[],attributes:=#[] }
def k1m1:Method:={ name := "law",desc := "(IIIIII)Z",sig:={ parameters:=[.int,.int,.int,.int,.int,.int],returnType:=some .boolean },accessFlags:=9,code:=some k1c1 }
def k1c2:Code:={ maxStack:=4,maxLocals:=3,code:=method_3_code,exceptionTable:=#[],attributes:=#[] }
def k1m2:Method:={ name := "cols",desc := "(IIZ)[I",sig:={ parameters:=[.int,.int,.boolean],returnType:=some (.array .int) },accessFlags:=10,code:=some k1c2 }
def k1c3:Code:={ maxStack:=5,maxLocals:=3,code:=method_4_code,exceptionTable:=#[],attributes:=#[] }
def k1m3:Method:={ name := "vals",desc := "(IIZ)[D",sig:={ parameters:=[.int,.int,.boolean],returnType:=some (.array .double) },accessFlags:=10,code:=some k1c3 }
def k1:Class:={ plain "com/example/tracefold/tracefold/mining/FactoredInverseTransposeTimesPinLaw" (some 0) with
 accessFlags:=49
 interfaces:=#[]
 cf:=some (fileOf pool1 16 #[] #[⟨2,5,6,#[]⟩,⟨9,53,54,#[]⟩,⟨10,19,20,#[]⟩,⟨10,25,26,#[]⟩] 49 2 #[] #[])
 fields:=#[]
 methods:=#[k1m0,k1m1,k1m2,k1m3]
 instanceTypes:=#[]
 staticTypes:=#[]
 resolved:=Array.replicate 62 none
 statics:=none }

def pool2:Array CpInfo:=pool [(1,.class_ 2),(0,u "java/lang/Math"),(1,.class_ 6),(1,u "java/lang/Object"),(0,u "<init>"),(0,u "()V"),(5,u "(D)D"),(37,u "(DD)D"),(45,.class_ 100),(1,u "java/lang/Math$RandomNumberGeneratorHolder"),(23,u "abs"),(47,u "negativeZeroFloatBits"),(0,u "J"),(2,u "negativeZeroDoubleBits"),(21,u "max"),(2,u "min"),(43,u "$assertionsDisabled"),(0,u "Z"),(88,u "(II)I"),(2,u "twoToTheDoubleScaleDown"),(0,u "D"),(4,u "twoToTheDoubleScaleUp"),(9,u "E"),(3,u "PI"),(2,u "TAU"),(2,u "DEGREES_TO_RADIANS"),(0,u "RADIANS_TO_DEGREES")] 94

def k2m0:Method:={ name := "<init>",desc := "()V",sig:={ parameters:=[],returnType:=none },accessFlags:=2,code:=none }
def k2c1:Code:={ maxStack:=4,maxLocals:=2,code:=jdk_29_method_64_code,exceptionTable:=#[],attributes:=#[] }
def k2m1:Method:={ name := "abs",desc := "(D)D",sig:={ parameters:=[.double],returnType:=some .double },accessFlags:=9,code:=some k2c1 }
def k2c2:Code:={ maxStack:=2,maxLocals:=2,code:=jdk_29_method_65_code,exceptionTable:=#[],attributes:=#[] }
def k2m2:Method:={ name := "max",desc := "(II)I",sig:={ parameters:=[.int,.int],returnType:=some .int },accessFlags:=9,code:=some k2c2 }
def k2c3:Code:={ maxStack:=4,maxLocals:=4,code:=jdk_29_method_68_code,exceptionTable:=#[],attributes:=#[] }
def k2m3:Method:={ name := "max",desc := "(DD)D",sig:={ parameters:=[.double,.double],returnType:=some .double },accessFlags:=9,code:=some k2c3 }
def k2c4:Code:={ maxStack:=2,maxLocals:=2,code:=jdk_29_method_69_code,exceptionTable:=#[],attributes:=#[] }
def k2m4:Method:={ name := "min",desc := "(II)I",sig:={ parameters:=[.int,.int],returnType:=some .int },accessFlags:=9,code:=some k2c4 }
def k2:Class:={ plain "java/lang/Math" (some 0) with
 accessFlags:=49
 interfaces:=#[]
 cf:=some (fileOf pool2 1 #[.nestMembers #[98]] #[⟨2,7,8,#[]⟩,⟨9,124,14,#[]⟩,⟨9,198,335,#[]⟩,⟨9,198,52,#[]⟩,⟨9,201,335,#[]⟩] 49 4 #[] #[⟨25,354,339,#[]⟩,⟨25,358,339,#[]⟩,⟨25,361,339,#[]⟩,⟨26,364,339,#[]⟩,⟨26,365,339,#[]⟩,⟨26,172,173,#[]⟩,⟨26,176,173,#[]⟩,⟨8,344,339,#[]⟩,⟨8,338,339,#[]⟩,⟨4120,245,246,#[]⟩])
 fields:=#[⟨"E",.double,25,0,0⟩,⟨"PI",.double,25,1,0⟩,⟨"TAU",.double,25,2,0⟩,⟨"DEGREES_TO_RADIANS",.double,26,3,0⟩,⟨"RADIANS_TO_DEGREES",.double,26,4,0⟩,⟨"negativeZeroFloatBits",.long,26,5,0⟩,⟨"negativeZeroDoubleBits",.long,26,6,0⟩,⟨"twoToTheDoubleScaleUp",.double,8,7,0⟩,⟨"twoToTheDoubleScaleDown",.double,8,8,0⟩,⟨"$assertionsDisabled",.boolean,4120,9,0⟩]
 methods:=#[k2m0,k2m1,k2m2,k2m3,k2m4]
 instanceTypes:=#[]
 staticTypes:=#[.double,.double,.double,.double,.double,.long,.long,.double,.double,.boolean]
 resolved:=Array.replicate 460 none
 statics:=none }

def pool3:Array CpInfo:=pool [(1,.class_ 2),(0,u "com/example/tracefold/tracefold/mining/BasisInverse"),(0,.class_ 4),(0,u "java/lang/Object")] 14

def k3:Class:={ plain "com/example/tracefold/tracefold/mining/BasisInverse" (some 0) with
 accessFlags:=1536
 interfaces:=#[]
 cf:=some (fileOf pool3 1 #[] #[] 1536 3 #[] #[])
 fields:=#[]
 methods:=#[]
 instanceTypes:=#[]
 staticTypes:=#[]
 resolved:=Array.replicate 19 none
 statics:=none }

def pool4:Array CpInfo:=pool [(1,.methodref 2 3),(0,.class_ 4),(0,.nameAndType 5 6),(0,u "java/lang/Object"),(0,u "<init>"),(0,u "()V"),(0,.fieldref 8 9),(0,.class_ 10),(0,.nameAndType 11 12),(0,u "com/example/tracefold/tracefold/mining/FactoredInverse"),(0,u "uColumns"),(0,u "[I"),(0,.fieldref 8 14),(0,.nameAndType 15 16),(0,u "uValues"),(0,u "[D"),(0,.fieldref 8 18),(0,.nameAndType 19 12),(0,u "lRows"),(0,.fieldref 8 21),(0,.nameAndType 22 16),(0,u "lValues"),(0,.fieldref 8 24),(0,.nameAndType 25 12),(0,u "uColumnSteps"),(0,.fieldref 8 27),(0,.nameAndType 28 16),(0,u "uColumnValues"),(0,.fieldref 8 30),(0,.nameAndType 31 12),(0,u "lRowSteps"),(0,.fieldref 8 33),(0,.nameAndType 34 16),(0,u "lRowValues"),(0,.fieldref 8 36),(0,.nameAndType 37 12),(0,u "etaRows"),(0,.fieldref 8 39),(0,.nameAndType 40 16),(0,u "etaPivots"),(0,.fieldref 8 42),(0,.nameAndType 43 12),(0,u "etaStarts"),(0,.fieldref 8 45),(0,.nameAndType 46 12),(0,u "etaPositions"),(0,.fieldref 8 48),(0,.nameAndType 49 16),(0,u "etaValues"),(0,.fieldref 8 51),(0,.nameAndType 52 53),(0,u "n"),(0,u "I"),(0,.fieldref 8 55),(0,.nameAndType 56 12),(0,u "pivotRows"),(0,.fieldref 8 58),(0,.nameAndType 59 12),(0,u "pivotColumns"),(0,.fieldref 8 61),(0,.nameAndType 62 16),(0,u "pivotValues"),(0,.fieldref 8 64),(0,.nameAndType 65 12),(0,u "uStarts"),(0,.fieldref 8 67),(0,.nameAndType 68 12),(0,u "lStarts"),(0,.fieldref 8 70),(0,.nameAndType 71 12),(0,u "uColumnStarts"),(0,.fieldref 8 73),(0,.nameAndType 74 12),(0,u "lRowStarts"),(0,.fieldref 8 76),(0,.nameAndType 77 12),(0,u "rowSteps"),(0,.fieldref 8 79),(0,.nameAndType 80 12),(0,u "columnSteps"),(0,.class_ 82),(0,u "com/example/tracefold/tracefold/mining/SparseVector"),(0,.methodref 81 84),(0,.nameAndType 5 85),(0,u "(I)V"),(0,.fieldref 8 87),(0,.nameAndType 88 89),(0,u "written"),(0,u "Lcom/example/tracefold/tracefold/mining/SparseVector;"),(0,.fieldref 8 91),(0,.nameAndType 92 89),(0,u "moved"),(0,.fieldref 8 94),(0,.nameAndType 95 89),(0,u "work"),(0,.fieldref 8 97),(0,.nameAndType 98 89),(0,u "steps"),(0,.class_ 100),(0,u "com/example/tracefold/tracefold/mining/FactoredInverse$StepQueue"),(0,.methodref 99 84),(0,.fieldref 8 103),(0,.nameAndType 104 105),(0,u "queue"),(0,u "Lcom/example/tracefold/tracefold/mining/FactoredInverse$StepQueue;"),(0,.fieldref 8 107),(0,.nameAndType 108 53),(0,u "etaCount"),(0,.class_ 110),(0,u "com/example/tracefold/tracefold/mining/FactoredInverse$Elimination"),(0,.methodref 109 112),(0,.nameAndType 5 113),(0,u "(Lcom/example/tracefold/tracefold/mining/FactoredInverse;[[I[[D)V"),(0,.methodref 109 115),(0,.nameAndType 116 117),(0,u "pivot"),(0,u "()J"),(0,.methodref 109 119),(0,.nameAndType 120 121),(0,u "eliminate"),(0,u "(III)V"),(0,.methodref 8 123),(0,.nameAndType 124 6),(0,u "transpose"),(0,.methodref 126 127),(0,.class_ 128),(0,.nameAndType 129 130),(0,u "java/util/Arrays"),(0,u "fill"),(0,u "([II)V"),(0,.methodref 126 132),(0,.nameAndType 133 134),(0,u "copyOf"),(0,u "([II)[I"),(0,.methodref 136 137),(0,.class_ 16),(0,.nameAndType 138 139),(0,u "clone"),(0,u "()Ljava/lang/Object;"),(21,u "()I"),(0,.methodref 81 163),(0,.nameAndType 164 165),(0,u "get"),(0,u "(I)D"),(7,.methodref 81 174),(0,.nameAndType 175 161),(0,u "size"),(0,.methodref 81 177),(0,.nameAndType 178 179),(0,u "position"),(0,u "(I)I"),(2,.methodref 126 183),(0,.nameAndType 133 184),(0,u "([DI)[D"),(0,.class_ 186),(0,u "com/example/tracefold/tracefold/mining/BasisInverse"),(0,u "PIVOT"),(0,u "D"),(1,u "THRESHOLD"),(2,u "CANDIDATES"),(1,u "CANCELLED"),(4,u "invert"),(0,u "([[I[[D)Z"),(4,u "([D)[D"),(0,u "transposeTimes"),(5,u "replaceRow"),(0,u "(ILcom/example/tracefold/tracefold/mining/SparseVector;)V"),(3,.class_ 219),(0,u "com/example/tracefold/tracefold/mining/FactoredInverse$Lists")] 4

def k4c0:Code:={ maxStack:=4,maxLocals:=2,code:=prog_41_method_1_code,exceptionTable:=#[],attributes:=#[] }
def k4m0:Method:={ name := "<init>",desc := "(I)V",sig:={ parameters:=[.int],returnType:=none },accessFlags:=0,code:=some k4c0 }
def k4c1:Code:={ maxStack:=5,maxLocals:=7,code:=prog_41_method_2_code,exceptionTable:=#[],attributes:=#[] }
def k4m1:Method:={ name := "invert",desc := "([[I[[D)Z",sig:={ parameters:=[(.array (.array .int)),(.array (.array .double))],returnType:=some .boolean },accessFlags:=1,code:=some k4c1 }
def k4c2:Code:={ maxStack:=5,maxLocals:=8,code:=prog_41_method_4_code,exceptionTable:=#[],attributes:=#[] }
def k4m2:Method:={ name := "transpose",desc := "()V",sig:={ parameters:=[],returnType:=none },accessFlags:=2,code:=some k4c2 }
def k4c3:Code:={ maxStack:=8,maxLocals:=10,code:=prog_41_method_6_code,exceptionTable:=#[],attributes:=#[] }
def k4m3:Method:={ name := "transposeTimes",desc := "([D)[D",sig:={ parameters:=[(.array .double)],returnType:=some (.array .double) },accessFlags:=1,code:=some k4c3 }
def k4c4:Code:={ maxStack:=4,maxLocals:=7,code:=prog_41_method_10_code,exceptionTable:=#[],attributes:=#[] }
def k4m4:Method:={ name := "replaceRow",desc := "(ILcom/example/tracefold/tracefold/mining/SparseVector;)V",sig:={ parameters:=[.int,(.object "com/example/tracefold/tracefold/mining/SparseVector")],returnType:=none },accessFlags:=1,code:=some k4c4 }
def k4:Class:={ plain "com/example/tracefold/tracefold/mining/FactoredInverse" (some 0) with
 accessFlags:=48
 interfaces:=#[3]
 cf:=some (fileOf pool4 8 #[.nestMembers #[99,218,109]] #[⟨0,5,85,#[]⟩,⟨1,200,201,#[]⟩,⟨2,124,6,#[]⟩,⟨1,207,206,#[]⟩,⟨1,213,214,#[]⟩] 48 2 #[185] #[⟨26,187,188,#[]⟩,⟨26,190,188,#[]⟩,⟨26,193,53,#[]⟩,⟨26,195,188,#[]⟩,⟨18,52,53,#[]⟩,⟨18,56,12,#[]⟩,⟨18,59,12,#[]⟩,⟨18,62,16,#[]⟩,⟨18,65,12,#[]⟩,⟨18,68,12,#[]⟩,⟨2,11,12,#[]⟩,⟨2,15,16,#[]⟩,⟨2,19,12,#[]⟩,⟨2,22,16,#[]⟩,⟨18,71,12,#[]⟩,⟨18,74,12,#[]⟩,⟨2,25,12,#[]⟩,⟨2,28,16,#[]⟩,⟨2,31,12,#[]⟩,⟨2,34,16,#[]⟩,⟨2,37,12,#[]⟩,⟨2,40,16,#[]⟩,⟨2,43,12,#[]⟩,⟨2,46,12,#[]⟩,⟨2,49,16,#[]⟩,⟨2,108,53,#[]⟩,⟨18,77,12,#[]⟩,⟨18,80,12,#[]⟩,⟨18,88,89,#[]⟩,⟨18,92,89,#[]⟩,⟨18,95,89,#[]⟩,⟨18,98,89,#[]⟩,⟨18,104,105,#[]⟩])
 fields:=#[⟨"PIVOT",.double,26,0,0⟩,⟨"THRESHOLD",.double,26,1,0⟩,⟨"CANDIDATES",.int,26,2,0⟩,⟨"CANCELLED",.double,26,3,0⟩,⟨"n",.int,18,0,0⟩,⟨"pivotRows",(.array .int),18,1,0⟩,⟨"pivotColumns",(.array .int),18,2,0⟩,⟨"pivotValues",(.array .double),18,3,0⟩,⟨"uStarts",(.array .int),18,4,0⟩,⟨"lStarts",(.array .int),18,5,0⟩,⟨"uColumns",(.array .int),2,6,0⟩,⟨"uValues",(.array .double),2,7,0⟩,⟨"lRows",(.array .int),2,8,0⟩,⟨"lValues",(.array .double),2,9,0⟩,⟨"uColumnStarts",(.array .int),18,10,0⟩,⟨"lRowStarts",(.array .int),18,11,0⟩,⟨"uColumnSteps",(.array .int),2,12,0⟩,⟨"uColumnValues",(.array .double),2,13,0⟩,⟨"lRowSteps",(.array .int),2,14,0⟩,⟨"lRowValues",(.array .double),2,15,0⟩,⟨"etaRows",(.array .int),2,16,0⟩,⟨"etaPivots",(.array .double),2,17,0⟩,⟨"etaStarts",(.array .int),2,18,0⟩,⟨"etaPositions",(.array .int),2,19,0⟩,⟨"etaValues",(.array .double),2,20,0⟩,⟨"etaCount",.int,2,21,0⟩,⟨"rowSteps",(.array .int),18,22,0⟩,⟨"columnSteps",(.array .int),18,23,0⟩,⟨"written",(.object "com/example/tracefold/tracefold/mining/SparseVector"),18,24,0⟩,⟨"moved",(.object "com/example/tracefold/tracefold/mining/SparseVector"),18,25,0⟩,⟨"work",(.object "com/example/tracefold/tracefold/mining/SparseVector"),18,26,0⟩,⟨"steps",(.object "com/example/tracefold/tracefold/mining/SparseVector"),18,27,0⟩,⟨"queue",(.object "com/example/tracefold/tracefold/mining/FactoredInverse$StepQueue"),18,28,0⟩]
 methods:=#[k4m0,k4m1,k4m2,k4m3,k4m4]
 instanceTypes:=#[.int,(.array .int),(.array .int),(.array .double),(.array .int),(.array .int),(.array .int),(.array .double),(.array .int),(.array .double),(.array .int),(.array .int),(.array .int),(.array .double),(.array .int),(.array .double),(.array .int),(.array .double),(.array .int),(.array .int),(.array .double),.int,(.array .int),(.array .int),(.object "com/example/tracefold/tracefold/mining/SparseVector"),(.object "com/example/tracefold/tracefold/mining/SparseVector"),(.object "com/example/tracefold/tracefold/mining/SparseVector"),(.object "com/example/tracefold/tracefold/mining/SparseVector"),(.object "com/example/tracefold/tracefold/mining/FactoredInverse$StepQueue")]
 staticTypes:=#[.double,.double,.int,.double]
 resolved:=Array.replicate 224 none
 statics:=none }

def pool5:Array CpInfo:=pool [(1,.methodref 2 3),(0,.class_ 4),(0,.nameAndType 5 6),(0,u "java/lang/Object"),(0,u "<init>"),(0,u "()V"),(0,.fieldref 8 9),(0,.class_ 10),(0,.nameAndType 11 12),(0,u "com/example/tracefold/tracefold/mining/SparseVector"),(0,u "values"),(0,u "[D"),(0,.fieldref 8 14),(0,.nameAndType 15 16),(0,u "listed"),(0,u "[Z"),(0,.fieldref 8 18),(0,.nameAndType 19 20),(0,u "positions"),(0,u "[I"),(4,.class_ 27),(1,u "java/util/Arrays"),(2,.fieldref 8 31),(0,.nameAndType 32 33),(0,u "size"),(0,u "I"),(0,.methodref 25 35),(0,.nameAndType 36 37),(0,u "copyOf"),(0,u "([II)[I"),(2,u "set"),(0,u "(ID)V"),(0,u "(I)V"),(5,u "get"),(0,u "(I)D"),(1,u "()I"),(0,u "position"),(0,u "(I)I")] 5

def k5c0:Code:={ maxStack:=2,maxLocals:=2,code:=prog_74_method_1_code,exceptionTable:=#[],attributes:=#[] }
def k5m0:Method:={ name := "<init>",desc := "(I)V",sig:={ parameters:=[.int],returnType:=none },accessFlags:=0,code:=some k5c0 }
def k5c1:Code:={ maxStack:=2,maxLocals:=2,code:=prog_74_method_4_code,exceptionTable:=#[],attributes:=#[] }
def k5m1:Method:={ name := "get",desc := "(I)D",sig:={ parameters:=[.int],returnType:=some .double },accessFlags:=0,code:=some k5c1 }
def k5c2:Code:={ maxStack:=1,maxLocals:=1,code:=prog_74_method_6_code,exceptionTable:=#[],attributes:=#[] }
def k5m2:Method:={ name := "size",desc := "()I",sig:={ parameters:=[],returnType:=some .int },accessFlags:=0,code:=some k5c2 }
def k5c3:Code:={ maxStack:=2,maxLocals:=2,code:=prog_74_method_7_code,exceptionTable:=#[],attributes:=#[] }
def k5m3:Method:={ name := "position",desc := "(I)I",sig:={ parameters:=[.int],returnType:=some .int },accessFlags:=0,code:=some k5c3 }
def k5c4:Code:={ maxStack:=5,maxLocals:=4,code:=prog_74_method_9_code,exceptionTable:=#[],attributes:=#[] }
def k5m4:Method:={ name := "set",desc := "(ID)V",sig:={ parameters:=[.int,.double],returnType:=none },accessFlags:=0,code:=some k5c4 }
def k5:Class:={ plain "com/example/tracefold/tracefold/mining/SparseVector" (some 0) with
 accessFlags:=48
 interfaces:=#[]
 cf:=some (fileOf pool5 8 #[] #[⟨0,5,42,#[]⟩,⟨0,48,49,#[]⟩,⟨0,32,51,#[]⟩,⟨0,52,53,#[]⟩,⟨0,40,41,#[]⟩] 48 2 #[] #[⟨18,11,12,#[]⟩,⟨18,15,16,#[]⟩,⟨2,19,20,#[]⟩,⟨2,32,33,#[]⟩])
 fields:=#[⟨"values",(.array .double),18,0,0⟩,⟨"listed",(.array .boolean),18,1,0⟩,⟨"positions",(.array .int),2,2,0⟩,⟨"size",.int,2,3,0⟩]
 methods:=#[k5m0,k5m1,k5m2,k5m3,k5m4]
 instanceTypes:=#[(.array .double),(.array .boolean),(.array .int),.int]
 staticTypes:=#[]
 resolved:=Array.replicate 59 none
 statics:=none }

def pool6:Array CpInfo:=pool [(1,.methodref 2 3),(0,.class_ 4),(0,.nameAndType 5 6),(0,u "java/lang/Object"),(0,u "<init>"),(0,u "()V"),(0,.fieldref 8 9),(0,.class_ 10),(0,.nameAndType 11 12),(0,u "com/example/tracefold/tracefold/mining/FactoredInverse$StepQueue"),(0,u "sweep"),(0,u "I"),(0,.fieldref 8 14),(0,.nameAndType 15 12),(0,u "n"),(0,.fieldref 8 17),(0,.nameAndType 18 19),(0,u "heap"),(0,u "[I"),(0,.fieldref 8 21),(0,.nameAndType 22 23),(0,u "queued"),(0,u "[Z"),(2,u "largestFirst"),(0,u "Z"),(2,u "size"),(10,u "SWEEP"),(2,u "(I)V"),(13,.class_ 59),(0,u "com/example/tracefold/tracefold/mining/FactoredInverse")] 2

def k6c0:Code:={ maxStack:=2,maxLocals:=2,code:=prog_44_method_1_code,exceptionTable:=#[],attributes:=#[] }
def k6m0:Method:={ name := "<init>",desc := "(I)V",sig:={ parameters:=[.int],returnType:=none },accessFlags:=0,code:=some k6c0 }
def k6:Class:={ plain "com/example/tracefold/tracefold/mining/FactoredInverse$StepQueue" (some 0) with
 accessFlags:=48
 interfaces:=#[]
 cf:=some (fileOf pool6 8 #[.nestHost 58] #[⟨0,5,44,#[]⟩] 48 2 #[] #[⟨26,41,12,#[]⟩,⟨18,15,12,#[]⟩,⟨18,18,19,#[]⟩,⟨18,22,23,#[]⟩,⟨2,30,12,#[]⟩,⟨2,26,27,#[]⟩,⟨2,11,12,#[]⟩])
 fields:=#[⟨"SWEEP",.int,26,0,0⟩,⟨"n",.int,18,0,0⟩,⟨"heap",(.array .int),18,1,0⟩,⟨"queued",(.array .boolean),18,2,0⟩,⟨"size",.int,2,3,0⟩,⟨"largestFirst",.boolean,2,4,0⟩,⟨"sweep",.int,2,5,0⟩]
 methods:=#[k6m0]
 instanceTypes:=#[.int,(.array .int),(.array .boolean),.int,.boolean,.int]
 staticTypes:=#[.int]
 resolved:=Array.replicate 62 none
 statics:=none }

def pool7:Array CpInfo:=pool [(1,.class_ 2),(0,u "com/example/tracefold/tracefold/mining/FactoredInverse"),(0,.fieldref 4 5),(0,.class_ 6),(0,.nameAndType 7 8),(0,u "com/example/tracefold/tracefold/mining/FactoredInverse$Elimination"),(0,u "this$0"),(0,u "Lcom/example/tracefold/tracefold/mining/FactoredInverse;"),(0,.methodref 10 11),(0,.class_ 12),(0,.nameAndType 13 14),(0,u "java/lang/Object"),(0,u "<init>"),(0,u "()V"),(0,.fieldref 1 16),(0,.nameAndType 17 18),(0,u "n"),(0,u "I"),(0,.class_ 20),(0,u "[I"),(0,.fieldref 4 22),(0,.nameAndType 23 24),(0,u "rowColumns"),(0,u "[[I"),(0,.class_ 26),(0,u "[D"),(0,.fieldref 4 28),(0,.nameAndType 29 30),(0,u "rowValues"),(0,u "[[D"),(0,.fieldref 4 32),(0,.nameAndType 33 20),(0,u "rowLengths"),(0,.fieldref 4 35),(0,.nameAndType 36 20),(0,u "columnLengths"),(0,.methodref 38 39),(0,.class_ 40),(0,.nameAndType 41 42),(0,u "java/lang/Math"),(0,u "max"),(0,u "(II)I"),(0,.methodref 44 45),(0,.class_ 46),(0,.nameAndType 47 48),(0,u "java/util/Arrays"),(0,u "copyOf"),(0,u "([II)[I"),(0,.methodref 44 50),(0,.nameAndType 47 51),(0,u "([DI)[D"),(0,.fieldref 4 53),(0,.nameAndType 54 24),(0,u "columnRows"),(0,.class_ 56),(0,u "com/example/tracefold/tracefold/mining/FactoredInverse$Lists"),(0,.methodref 55 58),(0,.nameAndType 13 59),(0,u "(Lcom/example/tracefold/tracefold/mining/FactoredInverse;[I)V"),(0,.fieldref 4 61),(0,.nameAndType 62 63),(0,u "rowLists"),(0,u "Lcom/example/tracefold/tracefold/mining/FactoredInverse$Lists;"),(0,.fieldref 4 65),(0,.nameAndType 66 63),(0,u "columnLists"),(0,.fieldref 4 68),(0,.nameAndType 69 20),(0,u "positions"),(0,.methodref 44 71),(0,.nameAndType 72 73),(0,u "fill"),(0,u "([II)V"),(0,.long 18446744073709551615),(3,.long 9223372036854775807),(1,.methodref 55 81),(0,.nameAndType 82 83),(0,u "first"),(0,u "(I)I"),(0,.methodref 4 85),(0,.nameAndType 86 42),(0,u "find"),(0,.methodref 4 88),(0,.nameAndType 89 90),(0,u "qualifies"),(0,u "(ID)Z"),(0,.methodref 55 92),(0,.nameAndType 93 83),(0,u "next"),(0,.methodref 38 95),(0,.nameAndType 96 97),(0,u "abs"),(0,u "(D)D"),(0,.double 4472406533629990549),(1,.methodref 38 101),(0,.nameAndType 41 102),(0,u "(DD)D"),(0,.double 4591870180066957722),(1,.methodref 4 106),(0,.nameAndType 107 108),(0,u "removeEntry"),(0,u "(II)V"),(0,.fieldref 1 110),(0,.nameAndType 111 20),(0,u "pivotRows"),(0,.fieldref 1 113),(0,.nameAndType 114 20),(0,u "pivotColumns"),(0,.fieldref 1 116),(0,.nameAndType 117 20),(0,u "rowSteps"),(0,.fieldref 1 119),(0,.nameAndType 120 20),(0,u "columnSteps"),(0,.fieldref 1 122),(0,.nameAndType 123 26),(0,u "pivotValues"),(0,.fieldref 1 125),(0,.nameAndType 126 20),(0,u "uStarts"),(0,.fieldref 4 128),(0,.nameAndType 129 18),(0,u "uCount"),(0,.methodref 4 131),(0,.nameAndType 132 133),(0,u "addU"),(0,u "(ID)V"),(0,.methodref 55 135),(0,.nameAndType 136 137),(0,u "remove"),(0,u "(I)V"),(0,.methodref 4 139),(0,.nameAndType 140 108),(0,u "removeFromColumn"),(0,.methodref 55 142),(0,.nameAndType 143 108),(0,u "move"),(0,.fieldref 1 145),(0,.nameAndType 146 20),(0,u "lStarts"),(0,.fieldref 4 148),(0,.nameAndType 149 18),(0,u "lCount"),(0,.methodref 4 151),(0,.nameAndType 152 133),(0,u "addL"),(0,.methodref 4 154),(0,.nameAndType 155 156),(0,u "subtract"),(0,u "(IID)V"),(6,.double 4397347889687374747),(1,.fieldref 1 166),(0,.nameAndType 167 20),(0,u "uColumns"),(0,.fieldref 1 169),(0,.nameAndType 170 26),(0,u "uValues"),(0,.fieldref 1 172),(0,.nameAndType 173 20),(0,u "lRows"),(0,.fieldref 1 175),(0,.nameAndType 176 26),(0,u "lValues"),(0,u "(Lcom/example/tracefold/tracefold/mining/FactoredInverse;[[I[[D)V"),(6,u "pivot"),(0,u "()J"),(0,u "eliminate"),(0,u "(III)V")] 6

def k7c0:Code:={ maxStack:=6,maxLocals:=10,code:=prog_42_method_1_code,exceptionTable:=#[],attributes:=#[] }
def k7m0:Method:={ name := "<init>",desc := "(Lcom/example/tracefold/tracefold/mining/FactoredInverse;[[I[[D)V",sig:={ parameters:=[(.object "com/example/tracefold/tracefold/mining/FactoredInverse"),(.array (.array .int)),(.array (.array .double))],returnType:=none },accessFlags:=0,code:=some k7c0 }
def k7c1:Code:={ maxStack:=6,maxLocals:=12,code:=prog_42_method_2_code,exceptionTable:=#[],attributes:=#[] }
def k7m1:Method:={ name := "pivot",desc := "()J",sig:={ parameters:=[],returnType:=some .long },accessFlags:=0,code:=some k7c1 }
def k7c2:Code:={ maxStack:=6,maxLocals:=9,code:=prog_42_method_3_code,exceptionTable:=#[],attributes:=#[] }
def k7m2:Method:={ name := "qualifies",desc := "(ID)Z",sig:={ parameters:=[.int,.double],returnType:=some .boolean },accessFlags:=2,code:=some k7c2 }
def k7c3:Code:={ maxStack:=2,maxLocals:=4,code:=prog_42_method_4_code,exceptionTable:=#[],attributes:=#[] }
def k7m3:Method:={ name := "find",desc := "(II)I",sig:={ parameters:=[.int,.int],returnType:=some .int },accessFlags:=2,code:=some k7c3 }
def k7c4:Code:={ maxStack:=5,maxLocals:=12,code:=prog_42_method_5_code,exceptionTable:=#[],attributes:=#[] }
def k7m4:Method:={ name := "eliminate",desc := "(III)V",sig:={ parameters:=[.int,.int,.int],returnType:=none },accessFlags:=0,code:=some k7c4 }
def k7c5:Code:={ maxStack:=8,maxLocals:=15,code:=prog_42_method_6_code,exceptionTable:=#[],attributes:=#[] }
def k7m5:Method:={ name := "subtract",desc := "(IID)V",sig:={ parameters:=[.int,.int,.double],returnType:=none },accessFlags:=2,code:=some k7c5 }
def k7c6:Code:={ maxStack:=4,maxLocals:=4,code:=prog_42_method_7_code,exceptionTable:=#[],attributes:=#[] }
def k7m6:Method:={ name := "removeEntry",desc := "(II)V",sig:={ parameters:=[.int,.int],returnType:=none },accessFlags:=2,code:=some k7c6 }
def k7c7:Code:={ maxStack:=7,maxLocals:=4,code:=prog_42_method_9_code,exceptionTable:=#[],attributes:=#[] }
def k7m7:Method:={ name := "removeFromColumn",desc := "(II)V",sig:={ parameters:=[.int,.int],returnType:=none },accessFlags:=2,code:=some k7c7 }
def k7c8:Code:={ maxStack:=5,maxLocals:=4,code:=prog_42_method_11_code,exceptionTable:=#[],attributes:=#[] }
def k7m8:Method:={ name := "addU",desc := "(ID)V",sig:={ parameters:=[.int,.double],returnType:=none },accessFlags:=2,code:=some k7c8 }
def k7c9:Code:={ maxStack:=5,maxLocals:=4,code:=prog_42_method_12_code,exceptionTable:=#[],attributes:=#[] }
def k7m9:Method:={ name := "addL",desc := "(ID)V",sig:={ parameters:=[.int,.double],returnType:=none },accessFlags:=2,code:=some k7c9 }
def k7:Class:={ plain "com/example/tracefold/tracefold/mining/FactoredInverse$Elimination" (some 0) with
 accessFlags:=48
 interfaces:=#[]
 cf:=some (fileOf pool7 4 #[.nestHost 1] #[⟨0,13,177,#[]⟩,⟨0,184,185,#[]⟩,⟨2,89,90,#[]⟩,⟨2,86,42,#[]⟩,⟨0,186,187,#[]⟩,⟨2,155,156,#[]⟩,⟨2,107,108,#[]⟩,⟨2,140,108,#[]⟩,⟨2,132,133,#[]⟩,⟨2,152,133,#[]⟩] 48 10 #[] #[⟨18,23,24,#[]⟩,⟨18,29,30,#[]⟩,⟨18,33,20,#[]⟩,⟨18,54,24,#[]⟩,⟨18,36,20,#[]⟩,⟨18,62,63,#[]⟩,⟨18,66,63,#[]⟩,⟨18,69,20,#[]⟩,⟨2,129,18,#[]⟩,⟨2,149,18,#[]⟩,⟨4112,7,8,#[]⟩])
 fields:=#[⟨"rowColumns",(.array (.array .int)),18,0,0⟩,⟨"rowValues",(.array (.array .double)),18,1,0⟩,⟨"rowLengths",(.array .int),18,2,0⟩,⟨"columnRows",(.array (.array .int)),18,3,0⟩,⟨"columnLengths",(.array .int),18,4,0⟩,⟨"rowLists",(.object "com/example/tracefold/tracefold/mining/FactoredInverse$Lists"),18,5,0⟩,⟨"columnLists",(.object "com/example/tracefold/tracefold/mining/FactoredInverse$Lists"),18,6,0⟩,⟨"positions",(.array .int),18,7,0⟩,⟨"uCount",.int,2,8,0⟩,⟨"lCount",.int,2,9,0⟩,⟨"this$0",(.object "com/example/tracefold/tracefold/mining/FactoredInverse"),4112,10,0⟩]
 methods:=#[k7m0,k7m1,k7m2,k7m3,k7m4,k7m5,k7m6,k7m7,k7m8,k7m9]
 instanceTypes:=#[(.array (.array .int)),(.array (.array .double)),(.array .int),(.array (.array .int)),(.array .int),(.object "com/example/tracefold/tracefold/mining/FactoredInverse$Lists"),(.object "com/example/tracefold/tracefold/mining/FactoredInverse$Lists"),(.array .int),.int,.int,(.object "com/example/tracefold/tracefold/mining/FactoredInverse")]
 staticTypes:=#[]
 resolved:=Array.replicate 194 none
 statics:=none }

def pool8:Array CpInfo:=pool [(2,.class_ 4),(1,u "java/lang/Object"),(0,u "<init>"),(0,u "()V"),(7,.class_ 16),(1,u "java/util/Arrays"),(57,.class_ 76),(1,u "java/util/Arrays$NaturalOrder"),(32,u "()Ljava/lang/Object;"),(3,.class_ 115),(1,u "java/util/Arrays$LegacyMergeSort"),(1,u "Z"),(10,.nameAndType 129 109),(0,u "clone"),(20,.methodref 151 152),(0,.class_ 153),(0,.nameAndType 154 155),(0,u "java/lang/System"),(0,u "arraycopy"),(0,u "(Ljava/lang/Object;ILjava/lang/Object;II)V"),(146,u "copyOf"),(1,.methodref 305 306),(0,.class_ 307),(0,.nameAndType 308 309),(0,u "java/lang/Math"),(0,u "min"),(0,u "(II)I"),(6,.methodref 317 128),(0,.class_ 318),(0,u "[I"),(9,.methodref 329 128),(0,.class_ 330),(0,u "[D"),(44,.class_ 376),(0,u "java/util/Arrays$ArrayList"),(68,u "$assertionsDisabled"),(269,u "MIN_ARRAY_SORT_GRAN"),(0,u "I"),(2,u "INSERTIONSORT_THRESHOLD"),(120,u "fill"),(4,u "([II)V"),(25,u "([II)[I"),(3,u "([DI)[D"),(99,.class_ 976),(0,u "java/util/Arrays$ArrayItr")] 52

def k8m0:Method:={ name := "<init>",desc := "()V",sig:={ parameters:=[],returnType:=none },accessFlags:=2,code:=none }
def k8c1:Code:={ maxStack:=3,maxLocals:=4,code:=jdk_65_method_103_code,exceptionTable:=#[],attributes:=#[] }
def k8m1:Method:={ name := "fill",desc := "([II)V",sig:={ parameters:=[(.array .int),.int],returnType:=none },accessFlags:=9,code:=some k8c1 }
def k8c2:Code:={ maxStack:=6,maxLocals:=3,code:=jdk_65_method_123_code,exceptionTable:=#[],attributes:=#[] }
def k8m2:Method:={ name := "copyOf",desc := "([II)[I",sig:={ parameters:=[(.array .int),.int],returnType:=some (.array .int) },accessFlags:=9,code:=some k8c2 }
def k8c3:Code:={ maxStack:=6,maxLocals:=3,code:=jdk_65_method_127_code,exceptionTable:=#[],attributes:=#[] }
def k8m3:Method:={ name := "copyOf",desc := "([DI)[D",sig:={ parameters:=[(.array .double),.int],returnType:=some (.array .double) },accessFlags:=9,code:=some k8c3 }
def k8:Class:={ plain "java/util/Arrays" (some 0) with
 accessFlags:=49
 interfaces:=#[]
 cf:=some (fileOf pool8 14 #[.nestMembers #[975,375,113,74]] #[⟨2,5,6,#[]⟩,⟨9,840,845,#[]⟩,⟨9,302,871,#[]⟩,⟨9,302,875,#[]⟩] 49 2 #[] #[⟨26,715,716,#[]⟩,⟨26,719,716,#[]⟩,⟨4120,445,117,#[]⟩])
 fields:=#[⟨"MIN_ARRAY_SORT_GRAN",.int,26,0,0⟩,⟨"INSERTIONSORT_THRESHOLD",.int,26,1,0⟩,⟨"$assertionsDisabled",.boolean,4120,2,0⟩]
 methods:=#[k8m0,k8m1,k8m2,k8m3]
 instanceTypes:=#[]
 staticTypes:=#[.int,.int,.boolean]
 resolved:=Array.replicate 1029 none
 statics:=none }

def pool9:Array CpInfo:=pool [(1,.class_ 2),(0,u "java/lang/Cloneable"),(0,.class_ 4),(0,u "java/lang/Object")] 2

def k9:Class:={ plain "java/lang/Cloneable" (some 0) with
 accessFlags:=1537
 interfaces:=#[]
 cf:=some (fileOf pool9 1 #[] #[] 1537 3 #[] #[])
 fields:=#[]
 methods:=#[]
 instanceTypes:=#[]
 staticTypes:=#[]
 resolved:=Array.replicate 7 none
 statics:=none }

def pool10:Array CpInfo:=pool [(1,.methodref 2 3),(0,.class_ 4),(0,.nameAndType 5 6),(0,u "java/lang/Object"),(0,u "<init>"),(0,u "()V"),(0,.fieldref 8 9),(0,.class_ 10),(0,.nameAndType 11 12),(0,u "com/example/tracefold/tracefold/mining/FactoredInverse"),(0,u "n"),(0,u "I"),(0,.fieldref 14 15),(0,.class_ 16),(0,.nameAndType 17 18),(0,u "com/example/tracefold/tracefold/mining/FactoredInverse$Lists"),(0,u "first"),(0,u "[I"),(0,.fieldref 14 20),(0,.nameAndType 21 18),(0,u "next"),(0,.fieldref 14 23),(0,.nameAndType 24 18),(0,u "previous"),(0,.fieldref 14 26),(0,.nameAndType 27 18),(0,u "listed"),(0,.methodref 29 30),(0,.class_ 31),(0,.nameAndType 32 33),(0,u "java/util/Arrays"),(0,u "fill"),(0,u "([II)V"),(0,.methodref 14 35),(0,.nameAndType 36 37),(0,u "add"),(0,u "(II)V"),(0,.methodref 14 39),(0,.nameAndType 40 41),(0,u "remove"),(0,u "(I)V"),(0,u "(Lcom/example/tracefold/tracefold/mining/FactoredInverse;[I)V"),(5,u "(I)I"),(0,u "move")] 5

def k10c0:Code:={ maxStack:=4,maxLocals:=4,code:=prog_43_method_1_code,exceptionTable:=#[],attributes:=#[] }
def k10m0:Method:={ name := "<init>",desc := "(Lcom/example/tracefold/tracefold/mining/FactoredInverse;[I)V",sig:={ parameters:=[(.object "com/example/tracefold/tracefold/mining/FactoredInverse"),(.array .int)],returnType:=none },accessFlags:=0,code:=some k10c0 }
def k10c1:Code:={ maxStack:=2,maxLocals:=2,code:=prog_43_method_2_code,exceptionTable:=#[],attributes:=#[] }
def k10m1:Method:={ name := "first",desc := "(I)I",sig:={ parameters:=[.int],returnType:=some .int },accessFlags:=0,code:=some k10c1 }
def k10c2:Code:={ maxStack:=2,maxLocals:=2,code:=prog_43_method_3_code,exceptionTable:=#[],attributes:=#[] }
def k10m2:Method:={ name := "next",desc := "(I)I",sig:={ parameters:=[.int],returnType:=some .int },accessFlags:=0,code:=some k10c2 }
def k10c3:Code:={ maxStack:=4,maxLocals:=3,code:=prog_43_method_4_code,exceptionTable:=#[],attributes:=#[] }
def k10m3:Method:={ name := "add",desc := "(II)V",sig:={ parameters:=[.int,.int],returnType:=none },accessFlags:=2,code:=some k10c3 }
def k10c4:Code:={ maxStack:=4,maxLocals:=2,code:=prog_43_method_5_code,exceptionTable:=#[],attributes:=#[] }
def k10m4:Method:={ name := "remove",desc := "(I)V",sig:={ parameters:=[.int],returnType:=none },accessFlags:=0,code:=some k10c4 }
def k10c5:Code:={ maxStack:=3,maxLocals:=3,code:=prog_43_method_6_code,exceptionTable:=#[],attributes:=#[] }
def k10m5:Method:={ name := "move",desc := "(II)V",sig:={ parameters:=[.int,.int],returnType:=none },accessFlags:=0,code:=some k10c5 }
def k10:Class:={ plain "com/example/tracefold/tracefold/mining/FactoredInverse$Lists" (some 0) with
 accessFlags:=48
 interfaces:=#[]
 cf:=some (fileOf pool10 14 #[.nestHost 8] #[⟨0,5,42,#[]⟩,⟨0,17,48,#[]⟩,⟨0,21,48,#[]⟩,⟨2,36,37,#[]⟩,⟨0,40,41,#[]⟩,⟨0,49,37,#[]⟩] 48 2 #[] #[⟨18,17,18,#[]⟩,⟨18,21,18,#[]⟩,⟨18,24,18,#[]⟩,⟨18,27,18,#[]⟩])
 fields:=#[⟨"first",(.array .int),18,0,0⟩,⟨"next",(.array .int),18,1,0⟩,⟨"previous",(.array .int),18,2,0⟩,⟨"listed",(.array .int),18,3,0⟩]
 methods:=#[k10m0,k10m1,k10m2,k10m3,k10m4,k10m5]
 instanceTypes:=#[(.array .int),(.array .int),(.array .int),(.array .int)]
 staticTypes:=#[]
 resolved:=Array.replicate 55 none
 statics:=none }

def pool11:Array CpInfo:=pool [(2,.class_ 4),(1,u "java/lang/Object"),(0,u "<init>"),(0,u "()V"),(1,.class_ 10),(1,u "java/lang/System"),(0,u "allowSecurityManager"),(0,u "I"),(16,u "cons"),(0,u "Ljava/io/Console;"),(77,.class_ 110),(1,u "java/lang/System$CallersHolder"),(43,u "initialErrStream"),(0,u "Ljava/io/PrintStream;"),(19,u "security"),(0,u "Ljava/lang/SecurityManager;"),(31,.class_ 209),(0,u "java/lang/System$1"),(7,u "props"),(0,u "Ljava/util/Properties;"),(2,u "lineSeparator"),(0,u "Ljava/lang/String;"),(96,.class_ 321),(1,u "java/lang/System$LoggerFinder"),(5,.class_ 328),(0,u "java/lang/System$Logger"),(67,u "err"),(2,u "out"),(91,u "notSupportedJnuEncoding"),(15,u "in"),(17,u "initialIn"),(0,u "Ljava/io/InputStream;"),(35,u "bootLayer"),(0,u "Ljava/lang/ModuleLayer;"),(99,.class_ 664),(0,u "java/lang/System$2"),(9,u "NEVER"),(2,u "MAYBE"),(49,u "arraycopy"),(0,u "(Ljava/lang/Object;ILjava/lang/Object;II)V"),(72,.class_ 802),(0,u "java/lang/System$Logger$Level")] 31

def k11m0:Method:={ name := "<init>",desc := "()V",sig:={ parameters:=[],returnType:=none },accessFlags:=2,code:=none }
def k11m1:Method:={ name := "arraycopy",desc := "(Ljava/lang/Object;ILjava/lang/Object;II)V",sig:={ parameters:=[(.object "java/lang/Object"),.int,(.object "java/lang/Object"),.int,.int],returnType:=none },accessFlags:=265,code:=none }
def k11:Class:={ plain "java/lang/System" (some 0) with
 accessFlags:=49
 interfaces:=#[]
 cf:=some (fileOf pool11 8 #[.nestMembers #[319,327,801,108,663,208]] #[⟨2,5,6,#[]⟩,⟨265,727,728,#[]⟩] 49 2 #[] #[⟨25,507,526,#[]⟩,⟨25,399,155,#[]⟩,⟨25,396,155,#[]⟩,⟨10,525,526,#[]⟩,⟨26,674,12,#[]⟩,⟨26,677,12,#[]⟩,⟨10,11,12,#[]⟩,⟨74,175,176,#[]⟩,⟨10,491,222,#[]⟩,⟨74,29,30,#[]⟩,⟨74,154,155,#[]⟩,⟨10,217,218,#[]⟩,⟨10,221,222,#[]⟩,⟨8,562,563,#[]⟩])
 fields:=#[⟨"in",(.object "java/io/InputStream"),25,0,0⟩,⟨"out",(.object "java/io/PrintStream"),25,1,0⟩,⟨"err",(.object "java/io/PrintStream"),25,2,0⟩,⟨"initialIn",(.object "java/io/InputStream"),10,3,0⟩,⟨"NEVER",.int,26,4,0⟩,⟨"MAYBE",.int,26,5,0⟩,⟨"allowSecurityManager",.int,10,6,0⟩,⟨"security",(.object "java/lang/SecurityManager"),74,7,0⟩,⟨"notSupportedJnuEncoding",(.object "java/lang/String"),10,8,0⟩,⟨"cons",(.object "java/io/Console"),74,9,0⟩,⟨"initialErrStream",(.object "java/io/PrintStream"),74,10,0⟩,⟨"props",(.object "java/util/Properties"),10,11,0⟩,⟨"lineSeparator",(.object "java/lang/String"),10,12,0⟩,⟨"bootLayer",(.object "java/lang/ModuleLayer"),8,13,0⟩]
 methods:=#[k11m0,k11m1]
 instanceTypes:=#[]
 staticTypes:=#[(.object "java/io/InputStream"),(.object "java/io/PrintStream"),(.object "java/io/PrintStream"),(.object "java/io/InputStream"),.int,.int,.int,(.object "java/lang/SecurityManager"),(.object "java/lang/String"),(.object "java/io/Console"),(.object "java/io/PrintStream"),(.object "java/util/Properties"),(.object "java/lang/String"),(.object "java/lang/ModuleLayer")]
 resolved:=Array.replicate 834 none
 statics:=none }

def pool12:Array CpInfo:=pool [(1,u "java/io/Serializable"),(0,.class_ 1),(0,u "java/lang/Object"),(0,.class_ 3)] 3

def k12:Class:={ plain "java/io/Serializable" (some 0) with
 accessFlags:=1537
 interfaces:=#[]
 cf:=some (fileOf pool12 2 #[] #[] 1537 4 #[] #[])
 fields:=#[]
 methods:=#[]
 instanceTypes:=#[]
 staticTypes:=#[]
 resolved:=Array.replicate 8 none
 statics:=none }

def k13:Class:={ plain "boolean" none with kind := .primitive 'Z',accessFlags:=0x411 }
def k14:Class:={ plain "[Z" (some 0) with kind := .array 13 .boolean,interfaces:=#[9,12],accessFlags:=1041 }

def k15:Class:={ plain "byte" none with kind := .primitive 'B',accessFlags:=0x411 }
def k16:Class:={ plain "[B" (some 0) with kind := .array 15 .byte,interfaces:=#[9,12],accessFlags:=1041 }

def k17:Class:={ plain "double" none with kind := .primitive 'D',accessFlags:=0x411 }
def k18:Class:={ plain "[D" (some 0) with kind := .array 17 .double,interfaces:=#[9,12],accessFlags:=1041 }

def k19:Class:={ plain "int" none with kind := .primitive 'I',accessFlags:=0x411 }
def k20:Class:={ plain "[I" (some 0) with kind := .array 19 .int,interfaces:=#[9,12],accessFlags:=1041 }

def k21:Class:={ plain "[[D" (some 0) with kind := .array 18 (.array .double),interfaces:=#[9,12],accessFlags:=1041 }

def k22:Class:={ plain "[[I" (some 0) with kind := .array 20 (.array .int),interfaces:=#[9,12],accessFlags:=1041 }

def heap:Heap:=#[]
def classes:Array Class:=#[k0,k1,k2,k3,k4,k5,k6,k7,k8,k9,k10,k11,k12,k13,k14,k15,k16,k17,k18,k19,k20,k21,k22]
def interned:List (Array UInt16×Addr):=[]
def slotsUsed:Nat:=0
def theMethod:MethodId:=⟨1,1⟩
def args0:Array Value:=#[.int 5,.int 3,.int 4,.int 7,.int 9,.int 6]
def aboutOver (below:List Frame):State where
 vm:={ classes:=classes,interned:=interned.toArray }
 heap:=heap
 slotsUsed:=slotsUsed
 threads:=#[{ frames := .invoking theMethod args0::below }]
def below0:List Frame:=[.native { method:=⟨0,0⟩,args:=#[] }]
def about1:State:=aboutOver below0
def p0:Program := .bare "" "" ""
def e0:Env:=launch0.env 0 0 0
theorem w_frames:about1.frames=Frame.invoking theMethod args0::below0:=rfl
set_option maxRecDepth 65536 in
theorem w_args:argsFit about1.vm theMethod args0=true:=by decide +kernel
set_option maxRecDepth 65536 in
theorem w_heap:heapFits about1=true:=by decide +kernel
set_option maxRecDepth 65536 in
theorem w_runnable:about1.curStatus? = some .runnable:=by decide +kernel
set_option maxRecDepth 65536 in
theorem w_alone:about1.alone=true:=by decide +kernel
set_option maxRecDepth 65536 in
theorem w_named:about1.methodNamed? x=some theMethod:=by decide +kernel
set_option maxRecDepth 65536 in
theorem w_hears:about1.hears theMethod below0=true:=by decide +kernel
set_option maxRecDepth 65536 in
theorem w_ripe:about1.ripe theMethod args0 below0=true:=by decide +kernel
theorem w_running:about1.status = .running:=rfl
set_option maxRecDepth 65536 in
theorem w_room:about1.hasRoom e0.platform room_1=true :=
 launch0.hasRoom_least _ room_1 (by decide +kernel) (by decide +kernel) (by decide +kernel) (by decide +kernel) (by decide +kernel) (by decide +kernel)
theorem allAtoms_all (ts:List Jvm.Cond)(a:Array Jvm.Value)(st:Jvm.State):(allAtoms ts).before a st=ts.all (fun c=>c.before a st):=by
 induction ts with
 | nil=>rfl
 | cons c t ih =>
  show (Jvm.Cond.and c (allAtoms t)).before a st=_
  rw[Jvm.Cond.before_and,ih,List.all_cons]
def words1:List Jvm.Cond:=Jvm.Cond.code x code maxLocals ret::tables_1
theorem code_word {y:MethodName}{bytes:ByteArray}{mx:Nat}{rt:Option FieldType}{a:Array Value}{s:State}{m:MethodId}{meth:Method}{c:Code}(h1:s.methodNamed? y=some m)(h2:s.vm.method? m=some meth)(h3:meth.code=some c)(h4:c.code=bytes)
  (h5:(c.maxLocals==mx&&c.exceptionTable.isEmpty&&decide (c.maxStack≤mostOperands)&&decide (meth.sig.returnType=rt)&&!meth.locks&&decide (parseMethodDescriptor y.desc=some meth.sig))=true):(Jvm.Cond.code y bytes mx rt).before a s=true:=by
 simp only[Bool.and_eq_true,beq_iff_eq,Bool.not_eq_true',decide_eq_true_eq] at h5
 obtain⟨⟨⟨⟨⟨g1,g2⟩,g3⟩,g4⟩,g5⟩,g6⟩:=h5
 simp [Cond.before,Cond.holds,Cond.value,h1,h2,h3,h4,g1,g2,g3,g4,g5,g6]
def isCode:Jvm.Cond→Bool
 | .code _ _ _ _=>true
 | _=>false
theorem all_split {L:List Jvm.Cond}{P:Jvm.Cond→Bool}(h1:L.all (fun c=>isCode c||P c)=true)(h2:∀c∈L.filter isCode,P c=true):L.all P=true:=by
 refine List.all_eq_true.mpr fun c hc=>?_
 have h:=List.all_eq_true.mp h1 c hc
 rcases Bool.eq_false_or_eq_true (isCode c) with hi|hi
 ·exact h2 c (List.mem_filter.mpr ⟨hc,hi⟩)
 ·simpa [hi] using h
set_option maxRecDepth 65536 in
theorem w_c0:(Jvm.Cond.code x code maxLocals ret).before args0 about1=true:=code_word (m:=⟨1,1⟩) (meth:=k1m1) (c:=k1c1) (by decide +kernel) rfl rfl rfl (by decide +kernel)
set_option maxRecDepth 65536 in
theorem w_c1:(Jvm.Cond.code ⟨"java/lang/Math","min","(II)I"⟩ jdk_29_method_69_code (2:Nat) (Option.some .int)).before args0 about1=true:=code_word (m:=⟨2,4⟩) (meth:=k2m4) (c:=k2c4) (by decide +kernel) rfl rfl rfl (by decide +kernel)
set_option maxRecDepth 65536 in
theorem w_c2:(Jvm.Cond.code ⟨"com/example/tracefold/tracefold/mining/FactoredInverseTransposeTimesPinLaw","cols","(IIZ)[I"⟩ method_3_code (3:Nat) (Option.some (.array .int))).before args0 about1=true:=code_word (m:=⟨1,2⟩) (meth:=k1m2) (c:=k1c2) (by decide +kernel) rfl rfl rfl (by decide +kernel)
set_option maxRecDepth 65536 in
theorem w_c3:(Jvm.Cond.code ⟨"com/example/tracefold/tracefold/mining/FactoredInverseTransposeTimesPinLaw","vals","(IIZ)[D"⟩ method_4_code (3:Nat) (Option.some (.array .double))).before args0 about1=true:=code_word (m:=⟨1,3⟩) (meth:=k1m3) (c:=k1c3) (by decide +kernel) rfl rfl rfl (by decide +kernel)
set_option maxRecDepth 65536 in
theorem w_c4:(Jvm.Cond.code ⟨"com/example/tracefold/tracefold/mining/FactoredInverse","<init>","(I)V"⟩ prog_41_method_1_code (2:Nat) (Option.none:Option Jvm.ClassFile.FieldType)).before args0 about1=true:=code_word (m:=⟨4,0⟩) (meth:=k4m0) (c:=k4c0) (by decide +kernel) rfl rfl rfl (by decide +kernel)
set_option maxRecDepth 65536 in
theorem w_c5:(Jvm.Cond.code ⟨"java/lang/Object","<init>","()V"⟩ object_method_1_code (1:Nat) (Option.none:Option Jvm.ClassFile.FieldType)).before args0 about1=true:=code_word (m:=⟨0,0⟩) (meth:=k0m0) (c:=k0c0) (by decide +kernel) rfl rfl rfl (by decide +kernel)
set_option maxRecDepth 65536 in
theorem w_c6:(Jvm.Cond.code ⟨"com/example/tracefold/tracefold/mining/SparseVector","<init>","(I)V"⟩ prog_74_method_1_code (2:Nat) (Option.none:Option Jvm.ClassFile.FieldType)).before args0 about1=true:=code_word (m:=⟨5,0⟩) (meth:=k5m0) (c:=k5c0) (by decide +kernel) rfl rfl rfl (by decide +kernel)
set_option maxRecDepth 65536 in
theorem w_c7:(Jvm.Cond.code ⟨"com/example/tracefold/tracefold/mining/FactoredInverse$StepQueue","<init>","(I)V"⟩ prog_44_method_1_code (2:Nat) (Option.none:Option Jvm.ClassFile.FieldType)).before args0 about1=true:=code_word (m:=⟨6,0⟩) (meth:=k6m0) (c:=k6c0) (by decide +kernel) rfl rfl rfl (by decide +kernel)
set_option maxRecDepth 65536 in
theorem w_c8:(Jvm.Cond.code ⟨"com/example/tracefold/tracefold/mining/FactoredInverse","invert","([[I[[D)Z"⟩ prog_41_method_2_code (7:Nat) (Option.some .boolean)).before args0 about1=true:=code_word (m:=⟨4,1⟩) (meth:=k4m1) (c:=k4c1) (by decide +kernel) rfl rfl rfl (by decide +kernel)
set_option maxRecDepth 65536 in
theorem w_c9:(Jvm.Cond.code ⟨"com/example/tracefold/tracefold/mining/FactoredInverse$Elimination","<init>","(Lcom/example/tracefold/tracefold/mining/FactoredInverse;[[I[[D)V"⟩ prog_42_method_1_code (10:Nat) (Option.none:Option Jvm.ClassFile.FieldType)).before args0 about1=true:=code_word (m:=⟨7,0⟩) (meth:=k7m0) (c:=k7c0) (by decide +kernel) rfl rfl rfl (by decide +kernel)
set_option maxRecDepth 65536 in
theorem w_c10:(Jvm.Cond.code ⟨"java/lang/Math","max","(II)I"⟩ jdk_29_method_65_code (2:Nat) (Option.some .int)).before args0 about1=true:=code_word (m:=⟨2,2⟩) (meth:=k2m2) (c:=k2c2) (by decide +kernel) rfl rfl rfl (by decide +kernel)
set_option maxRecDepth 65536 in
theorem w_c11:(Jvm.Cond.code ⟨"java/util/Arrays","copyOf","([II)[I"⟩ jdk_65_method_123_code (3:Nat) (Option.some (.array .int))).before args0 about1=true:=code_word (m:=⟨8,2⟩) (meth:=k8m2) (c:=k8c2) (by decide +kernel) rfl rfl rfl (by decide +kernel)
set_option maxRecDepth 65536 in
theorem w_c12:(Jvm.Cond.code ⟨"java/util/Arrays","copyOf","([DI)[D"⟩ jdk_65_method_127_code (3:Nat) (Option.some (.array .double))).before args0 about1=true:=code_word (m:=⟨8,3⟩) (meth:=k8m3) (c:=k8c3) (by decide +kernel) rfl rfl rfl (by decide +kernel)
set_option maxRecDepth 65536 in
theorem w_c13:(Jvm.Cond.code ⟨"com/example/tracefold/tracefold/mining/FactoredInverse$Lists","<init>","(Lcom/example/tracefold/tracefold/mining/FactoredInverse;[I)V"⟩ prog_43_method_1_code (4:Nat) (Option.none:Option Jvm.ClassFile.FieldType)).before args0 about1=true:=code_word (m:=⟨10,0⟩) (meth:=k10m0) (c:=k10c0) (by decide +kernel) rfl rfl rfl (by decide +kernel)
set_option maxRecDepth 65536 in
theorem w_c14:(Jvm.Cond.code ⟨"java/util/Arrays","fill","([II)V"⟩ jdk_65_method_103_code (4:Nat) (Option.none:Option Jvm.ClassFile.FieldType)).before args0 about1=true:=code_word (m:=⟨8,1⟩) (meth:=k8m1) (c:=k8c1) (by decide +kernel) rfl rfl rfl (by decide +kernel)
set_option maxRecDepth 65536 in
theorem w_c15:(Jvm.Cond.code ⟨"com/example/tracefold/tracefold/mining/FactoredInverse$Lists","add","(II)V"⟩ prog_43_method_4_code (3:Nat) (Option.none:Option Jvm.ClassFile.FieldType)).before args0 about1=true:=code_word (m:=⟨10,3⟩) (meth:=k10m3) (c:=k10c3) (by decide +kernel) rfl rfl rfl (by decide +kernel)
set_option maxRecDepth 65536 in
theorem w_c16:(Jvm.Cond.code ⟨"com/example/tracefold/tracefold/mining/FactoredInverse$Elimination","pivot","()J"⟩ prog_42_method_2_code (12:Nat) (Option.some .long)).before args0 about1=true:=code_word (m:=⟨7,1⟩) (meth:=k7m1) (c:=k7c1) (by decide +kernel) rfl rfl rfl (by decide +kernel)
set_option maxRecDepth 65536 in
theorem w_c17:(Jvm.Cond.code ⟨"com/example/tracefold/tracefold/mining/FactoredInverse$Lists","first","(I)I"⟩ prog_43_method_2_code (2:Nat) (Option.some .int)).before args0 about1=true:=code_word (m:=⟨10,1⟩) (meth:=k10m1) (c:=k10c1) (by decide +kernel) rfl rfl rfl (by decide +kernel)
set_option maxRecDepth 65536 in
theorem w_c18:(Jvm.Cond.code ⟨"com/example/tracefold/tracefold/mining/FactoredInverse$Elimination","find","(II)I"⟩ prog_42_method_4_code (4:Nat) (Option.some .int)).before args0 about1=true:=code_word (m:=⟨7,3⟩) (meth:=k7m3) (c:=k7c3) (by decide +kernel) rfl rfl rfl (by decide +kernel)
set_option maxRecDepth 65536 in
theorem w_c19:(Jvm.Cond.code ⟨"com/example/tracefold/tracefold/mining/FactoredInverse$Elimination","qualifies","(ID)Z"⟩ prog_42_method_3_code (9:Nat) (Option.some .boolean)).before args0 about1=true:=code_word (m:=⟨7,2⟩) (meth:=k7m2) (c:=k7c2) (by decide +kernel) rfl rfl rfl (by decide +kernel)
set_option maxRecDepth 65536 in
theorem w_c20:(Jvm.Cond.code ⟨"java/lang/Math","abs","(D)D"⟩ jdk_29_method_64_code (2:Nat) (Option.some .double)).before args0 about1=true:=code_word (m:=⟨2,1⟩) (meth:=k2m1) (c:=k2c1) (by decide +kernel) rfl rfl rfl (by decide +kernel)
set_option maxRecDepth 65536 in
theorem w_c21:(Jvm.Cond.code ⟨"java/lang/Math","max","(DD)D"⟩ jdk_29_method_68_code (4:Nat) (Option.some .double)).before args0 about1=true:=code_word (m:=⟨2,3⟩) (meth:=k2m3) (c:=k2c3) (by decide +kernel) rfl rfl rfl (by decide +kernel)
set_option maxRecDepth 65536 in
theorem w_c22:(Jvm.Cond.code ⟨"com/example/tracefold/tracefold/mining/FactoredInverse$Lists","next","(I)I"⟩ prog_43_method_3_code (2:Nat) (Option.some .int)).before args0 about1=true:=code_word (m:=⟨10,2⟩) (meth:=k10m2) (c:=k10c2) (by decide +kernel) rfl rfl rfl (by decide +kernel)
set_option maxRecDepth 65536 in
theorem w_c23:(Jvm.Cond.code ⟨"com/example/tracefold/tracefold/mining/FactoredInverse$Elimination","eliminate","(III)V"⟩ prog_42_method_5_code (12:Nat) (Option.none:Option Jvm.ClassFile.FieldType)).before args0 about1=true:=code_word (m:=⟨7,4⟩) (meth:=k7m4) (c:=k7c4) (by decide +kernel) rfl rfl rfl (by decide +kernel)
set_option maxRecDepth 65536 in
theorem w_c24:(Jvm.Cond.code ⟨"com/example/tracefold/tracefold/mining/FactoredInverse$Elimination","removeEntry","(II)V"⟩ prog_42_method_7_code (4:Nat) (Option.none:Option Jvm.ClassFile.FieldType)).before args0 about1=true:=code_word (m:=⟨7,6⟩) (meth:=k7m6) (c:=k7c6) (by decide +kernel) rfl rfl rfl (by decide +kernel)
set_option maxRecDepth 65536 in
theorem w_c25:(Jvm.Cond.code ⟨"com/example/tracefold/tracefold/mining/FactoredInverse$Elimination","addU","(ID)V"⟩ prog_42_method_11_code (4:Nat) (Option.none:Option Jvm.ClassFile.FieldType)).before args0 about1=true:=code_word (m:=⟨7,8⟩) (meth:=k7m8) (c:=k7c8) (by decide +kernel) rfl rfl rfl (by decide +kernel)
set_option maxRecDepth 65536 in
theorem w_c26:(Jvm.Cond.code ⟨"com/example/tracefold/tracefold/mining/FactoredInverse$Lists","remove","(I)V"⟩ prog_43_method_5_code (2:Nat) (Option.none:Option Jvm.ClassFile.FieldType)).before args0 about1=true:=code_word (m:=⟨10,4⟩) (meth:=k10m4) (c:=k10c4) (by decide +kernel) rfl rfl rfl (by decide +kernel)
set_option maxRecDepth 65536 in
theorem w_c27:(Jvm.Cond.code ⟨"com/example/tracefold/tracefold/mining/FactoredInverse$Elimination","removeFromColumn","(II)V"⟩ prog_42_method_9_code (4:Nat) (Option.none:Option Jvm.ClassFile.FieldType)).before args0 about1=true:=code_word (m:=⟨7,7⟩) (meth:=k7m7) (c:=k7c7) (by decide +kernel) rfl rfl rfl (by decide +kernel)
set_option maxRecDepth 65536 in
theorem w_c28:(Jvm.Cond.code ⟨"com/example/tracefold/tracefold/mining/FactoredInverse$Lists","move","(II)V"⟩ prog_43_method_6_code (3:Nat) (Option.none:Option Jvm.ClassFile.FieldType)).before args0 about1=true:=code_word (m:=⟨10,5⟩) (meth:=k10m5) (c:=k10c5) (by decide +kernel) rfl rfl rfl (by decide +kernel)
set_option maxRecDepth 65536 in
theorem w_c29:(Jvm.Cond.code ⟨"com/example/tracefold/tracefold/mining/FactoredInverse$Elimination","addL","(ID)V"⟩ prog_42_method_12_code (4:Nat) (Option.none:Option Jvm.ClassFile.FieldType)).before args0 about1=true:=code_word (m:=⟨7,9⟩) (meth:=k7m9) (c:=k7c9) (by decide +kernel) rfl rfl rfl (by decide +kernel)
set_option maxRecDepth 65536 in
theorem w_c30:(Jvm.Cond.code ⟨"com/example/tracefold/tracefold/mining/FactoredInverse$Elimination","subtract","(IID)V"⟩ prog_42_method_6_code (15:Nat) (Option.none:Option Jvm.ClassFile.FieldType)).before args0 about1=true:=code_word (m:=⟨7,5⟩) (meth:=k7m5) (c:=k7c5) (by decide +kernel) rfl rfl rfl (by decide +kernel)
set_option maxRecDepth 65536 in
theorem w_c31:(Jvm.Cond.code ⟨"com/example/tracefold/tracefold/mining/FactoredInverse","transpose","()V"⟩ prog_41_method_4_code (8:Nat) (Option.none:Option Jvm.ClassFile.FieldType)).before args0 about1=true:=code_word (m:=⟨4,2⟩) (meth:=k4m2) (c:=k4c2) (by decide +kernel) rfl rfl rfl (by decide +kernel)
set_option maxRecDepth 65536 in
theorem w_c32:(Jvm.Cond.code ⟨"com/example/tracefold/tracefold/mining/FactoredInverse","transposeTimes","([D)[D"⟩ prog_41_method_6_code (10:Nat) (Option.some (.array .double))).before args0 about1=true:=code_word (m:=⟨4,3⟩) (meth:=k4m3) (c:=k4c3) (by decide +kernel) rfl rfl rfl (by decide +kernel)
set_option maxRecDepth 65536 in
theorem w_c33:(Jvm.Cond.code ⟨"com/example/tracefold/tracefold/mining/SparseVector","set","(ID)V"⟩ prog_74_method_9_code (4:Nat) (Option.none:Option Jvm.ClassFile.FieldType)).before args0 about1=true:=code_word (m:=⟨5,4⟩) (meth:=k5m4) (c:=k5c4) (by decide +kernel) rfl rfl rfl (by decide +kernel)
set_option maxRecDepth 65536 in
theorem w_c34:(Jvm.Cond.code ⟨"com/example/tracefold/tracefold/mining/FactoredInverse","replaceRow","(ILcom/example/tracefold/tracefold/mining/SparseVector;)V"⟩ prog_41_method_10_code (7:Nat) (Option.none:Option Jvm.ClassFile.FieldType)).before args0 about1=true:=code_word (m:=⟨4,4⟩) (meth:=k4m4) (c:=k4c4) (by decide +kernel) rfl rfl rfl (by decide +kernel)
set_option maxRecDepth 65536 in
theorem w_c35:(Jvm.Cond.code ⟨"com/example/tracefold/tracefold/mining/SparseVector","size","()I"⟩ prog_74_method_6_code (1:Nat) (Option.some .int)).before args0 about1=true:=code_word (m:=⟨5,2⟩) (meth:=k5m2) (c:=k5c2) (by decide +kernel) rfl rfl rfl (by decide +kernel)
set_option maxRecDepth 65536 in
theorem w_c36:(Jvm.Cond.code ⟨"com/example/tracefold/tracefold/mining/SparseVector","position","(I)I"⟩ prog_74_method_7_code (2:Nat) (Option.some .int)).before args0 about1=true:=code_word (m:=⟨5,3⟩) (meth:=k5m3) (c:=k5c3) (by decide +kernel) rfl rfl rfl (by decide +kernel)
set_option maxRecDepth 65536 in
theorem w_c37:(Jvm.Cond.code ⟨"com/example/tracefold/tracefold/mining/SparseVector","get","(I)D"⟩ prog_74_method_4_code (2:Nat) (Option.some .double)).before args0 about1=true:=code_word (m:=⟨5,1⟩) (meth:=k5m1) (c:=k5c1) (by decide +kernel) rfl rfl rfl (by decide +kernel)
def codes1:List Jvm.Cond:=[Jvm.Cond.code x code maxLocals ret,Jvm.Cond.code ⟨"java/lang/Math","min","(II)I"⟩ jdk_29_method_69_code (2:Nat) (Option.some .int),Jvm.Cond.code ⟨"com/example/tracefold/tracefold/mining/FactoredInverseTransposeTimesPinLaw","cols","(IIZ)[I"⟩ method_3_code (3:Nat) (Option.some (.array .int)),Jvm.Cond.code ⟨"com/example/tracefold/tracefold/mining/FactoredInverseTransposeTimesPinLaw","vals","(IIZ)[D"⟩ method_4_code (3:Nat) (Option.some (.array .double)),Jvm.Cond.code ⟨"com/example/tracefold/tracefold/mining/FactoredInverse","<init>","(I)V"⟩ prog_41_method_1_code (2:Nat) (Option.none:Option Jvm.ClassFile.FieldType),Jvm.Cond.code ⟨"java/lang/Object","<init>","()V"⟩ object_method_1_code (1:Nat) (Option.none:Option Jvm.ClassFile.FieldType),Jvm.Cond.code ⟨"com/example/tracefold/tracefold/mining/SparseVector","<init>","(I)V"⟩ prog_74_method_1_code (2:Nat) (Option.none:Option Jvm.ClassFile.FieldType),Jvm.Cond.code ⟨"com/example/tracefold/tracefold/mining/FactoredInverse$StepQueue","<init>","(I)V"⟩ prog_44_method_1_code (2:Nat) (Option.none:Option Jvm.ClassFile.FieldType),Jvm.Cond.code ⟨"com/example/tracefold/tracefold/mining/FactoredInverse","invert","([[I[[D)Z"⟩ prog_41_method_2_code (7:Nat) (Option.some .boolean),Jvm.Cond.code ⟨"com/example/tracefold/tracefold/mining/FactoredInverse$Elimination","<init>","(Lcom/example/tracefold/tracefold/mining/FactoredInverse;[[I[[D)V"⟩ prog_42_method_1_code (10:Nat) (Option.none:Option Jvm.ClassFile.FieldType),Jvm.Cond.code ⟨"java/lang/Math","max","(II)I"⟩ jdk_29_method_65_code (2:Nat) (Option.some .int),Jvm.Cond.code ⟨"java/util/Arrays","copyOf","([II)[I"⟩ jdk_65_method_123_code (3:Nat) (Option.some (.array .int)),Jvm.Cond.code ⟨"java/util/Arrays","copyOf","([DI)[D"⟩ jdk_65_method_127_code (3:Nat) (Option.some (.array .double)),Jvm.Cond.code ⟨"com/example/tracefold/tracefold/mining/FactoredInverse$Lists","<init>","(Lcom/example/tracefold/tracefold/mining/FactoredInverse;[I)V"⟩ prog_43_method_1_code (4:Nat) (Option.none:Option Jvm.ClassFile.FieldType),Jvm.Cond.code ⟨"java/util/Arrays","fill","([II)V"⟩ jdk_65_method_103_code (4:Nat) (Option.none:Option Jvm.ClassFile.FieldType),Jvm.Cond.code ⟨"com/example/tracefold/tracefold/mining/FactoredInverse$Lists","add","(II)V"⟩ prog_43_method_4_code (3:Nat) (Option.none:Option Jvm.ClassFile.FieldType),Jvm.Cond.code ⟨"com/example/tracefold/tracefold/mining/FactoredInverse$Elimination","pivot","()J"⟩ prog_42_method_2_code (12:Nat) (Option.some .long),Jvm.Cond.code ⟨"com/example/tracefold/tracefold/mining/FactoredInverse$Lists","first","(I)I"⟩ prog_43_method_2_code (2:Nat) (Option.some .int),Jvm.Cond.code ⟨"com/example/tracefold/tracefold/mining/FactoredInverse$Elimination","find","(II)I"⟩ prog_42_method_4_code (4:Nat) (Option.some .int),Jvm.Cond.code ⟨"com/example/tracefold/tracefold/mining/FactoredInverse$Elimination","qualifies","(ID)Z"⟩ prog_42_method_3_code (9:Nat) (Option.some .boolean),Jvm.Cond.code ⟨"java/lang/Math","abs","(D)D"⟩ jdk_29_method_64_code (2:Nat) (Option.some .double),Jvm.Cond.code ⟨"java/lang/Math","max","(DD)D"⟩ jdk_29_method_68_code (4:Nat) (Option.some .double),Jvm.Cond.code ⟨"com/example/tracefold/tracefold/mining/FactoredInverse$Lists","next","(I)I"⟩ prog_43_method_3_code (2:Nat) (Option.some .int),Jvm.Cond.code ⟨"com/example/tracefold/tracefold/mining/FactoredInverse$Elimination","eliminate","(III)V"⟩ prog_42_method_5_code (12:Nat) (Option.none:Option Jvm.ClassFile.FieldType),Jvm.Cond.code ⟨"com/example/tracefold/tracefold/mining/FactoredInverse$Elimination","removeEntry","(II)V"⟩ prog_42_method_7_code (4:Nat) (Option.none:Option Jvm.ClassFile.FieldType),Jvm.Cond.code ⟨"com/example/tracefold/tracefold/mining/FactoredInverse$Elimination","addU","(ID)V"⟩ prog_42_method_11_code (4:Nat) (Option.none:Option Jvm.ClassFile.FieldType),Jvm.Cond.code ⟨"com/example/tracefold/tracefold/mining/FactoredInverse$Lists","remove","(I)V"⟩ prog_43_method_5_code (2:Nat) (Option.none:Option Jvm.ClassFile.FieldType),Jvm.Cond.code ⟨"com/example/tracefold/tracefold/mining/FactoredInverse$Elimination","removeFromColumn","(II)V"⟩ prog_42_method_9_code (4:Nat) (Option.none:Option Jvm.ClassFile.FieldType),Jvm.Cond.code ⟨"com/example/tracefold/tracefold/mining/FactoredInverse$Lists","move","(II)V"⟩ prog_43_method_6_code (3:Nat) (Option.none:Option Jvm.ClassFile.FieldType),Jvm.Cond.code ⟨"com/example/tracefold/tracefold/mining/FactoredInverse$Elimination","addL","(ID)V"⟩ prog_42_method_12_code (4:Nat) (Option.none:Option Jvm.ClassFile.FieldType),Jvm.Cond.code ⟨"com/example/tracefold/tracefold/mining/FactoredInverse$Elimination","subtract","(IID)V"⟩ prog_42_method_6_code (15:Nat) (Option.none:Option Jvm.ClassFile.FieldType),Jvm.Cond.code ⟨"com/example/tracefold/tracefold/mining/FactoredInverse","transpose","()V"⟩ prog_41_method_4_code (8:Nat) (Option.none:Option Jvm.ClassFile.FieldType),Jvm.Cond.code ⟨"com/example/tracefold/tracefold/mining/FactoredInverse","transposeTimes","([D)[D"⟩ prog_41_method_6_code (10:Nat) (Option.some (.array .double)),Jvm.Cond.code ⟨"com/example/tracefold/tracefold/mining/SparseVector","set","(ID)V"⟩ prog_74_method_9_code (4:Nat) (Option.none:Option Jvm.ClassFile.FieldType),Jvm.Cond.code ⟨"com/example/tracefold/tracefold/mining/FactoredInverse","replaceRow","(ILcom/example/tracefold/tracefold/mining/SparseVector;)V"⟩ prog_41_method_10_code (7:Nat) (Option.none:Option Jvm.ClassFile.FieldType),Jvm.Cond.code ⟨"com/example/tracefold/tracefold/mining/SparseVector","size","()I"⟩ prog_74_method_6_code (1:Nat) (Option.some .int),Jvm.Cond.code ⟨"com/example/tracefold/tracefold/mining/SparseVector","position","(I)I"⟩ prog_74_method_7_code (2:Nat) (Option.some .int),Jvm.Cond.code ⟨"com/example/tracefold/tracefold/mining/SparseVector","get","(I)D"⟩ prog_74_method_4_code (2:Nat) (Option.some .double)]
set_option maxRecDepth 65536 in
theorem codes_eq:words1.filter isCode=codes1:=rfl
theorem w_codes:∀c∈words1.filter isCode,c.before args0 about1=true:=by
 rw[codes_eq]
 intro c hc
 simp only[codes1,List.mem_cons,List.not_mem_nil,or_false] at hc
 rcases hc with rfl|rfl|rfl|rfl|rfl|rfl|rfl|rfl|rfl|rfl|rfl|rfl|rfl|rfl|rfl|rfl|rfl|rfl|rfl|rfl|rfl|rfl|rfl|rfl|rfl|rfl|rfl|rfl|rfl|rfl|rfl|rfl|rfl|rfl|rfl|rfl|rfl|rfl
 ·exact w_c0
 ·exact w_c1
 ·exact w_c2
 ·exact w_c3
 ·exact w_c4
 ·exact w_c5
 ·exact w_c6
 ·exact w_c7
 ·exact w_c8
 ·exact w_c9
 ·exact w_c10
 ·exact w_c11
 ·exact w_c12
 ·exact w_c13
 ·exact w_c14
 ·exact w_c15
 ·exact w_c16
 ·exact w_c17
 ·exact w_c18
 ·exact w_c19
 ·exact w_c20
 ·exact w_c21
 ·exact w_c22
 ·exact w_c23
 ·exact w_c24
 ·exact w_c25
 ·exact w_c26
 ·exact w_c27
 ·exact w_c28
 ·exact w_c29
 ·exact w_c30
 ·exact w_c31
 ·exact w_c32
 ·exact w_c33
 ·exact w_c34
 ·exact w_c35
 ·exact w_c36
 ·exact w_c37
set_option maxRecDepth 65536 in
theorem w_t1:(words1.take 24).all (fun c=>isCode c||c.before args0 about1)=true:=by decide +kernel
set_option maxRecDepth 65536 in
theorem w_t2:((words1.drop 24).take 24).all (fun c=>isCode c||c.before args0 about1)=true:=by decide +kernel
set_option maxRecDepth 65536 in
theorem w_t3:(((words1.drop 24).drop 24).take 24).all (fun c=>isCode c||c.before args0 about1)=true:=by decide +kernel
set_option maxRecDepth 65536 in
theorem w_t4:((((words1.drop 24).drop 24).drop 24).take 24).all (fun c=>isCode c||c.before args0 about1)=true:=by decide +kernel
set_option maxRecDepth 65536 in
theorem w_t5:(((((words1.drop 24).drop 24).drop 24).drop 24).take 24).all (fun c=>isCode c||c.before args0 about1)=true:=by decide +kernel
set_option maxRecDepth 65536 in
theorem w_t6:((((((words1.drop 24).drop 24).drop 24).drop 24).drop 24).take 24).all (fun c=>isCode c||c.before args0 about1)=true:=by decide +kernel
set_option maxRecDepth 65536 in
theorem w_t7:(((((((words1.drop 24).drop 24).drop 24).drop 24).drop 24).drop 24).take 24).all (fun c=>isCode c||c.before args0 about1)=true:=by decide +kernel
set_option maxRecDepth 65536 in
theorem w_t8:((((((((words1.drop 24).drop 24).drop 24).drop 24).drop 24).drop 24).drop 24).take 24).all (fun c=>isCode c||c.before args0 about1)=true:=by decide +kernel
set_option maxRecDepth 65536 in
theorem w_t9:(((((((((words1.drop 24).drop 24).drop 24).drop 24).drop 24).drop 24).drop 24).drop 24).take 24).all (fun c=>isCode c||c.before args0 about1)=true:=by decide +kernel
set_option maxRecDepth 65536 in
theorem w_t10:((((((((((words1.drop 24).drop 24).drop 24).drop 24).drop 24).drop 24).drop 24).drop 24).drop 24).take 24).all (fun c=>isCode c||c.before args0 about1)=true:=by decide +kernel
set_option maxRecDepth 65536 in
theorem w_t11:(((((((((((words1.drop 24).drop 24).drop 24).drop 24).drop 24).drop 24).drop 24).drop 24).drop 24).drop 24).take 24).all (fun c=>isCode c||c.before args0 about1)=true:=by decide +kernel
set_option maxRecDepth 65536 in
theorem w_t12:((((((((((((words1.drop 24).drop 24).drop 24).drop 24).drop 24).drop 24).drop 24).drop 24).drop 24).drop 24).drop 24).take 24).all (fun c=>isCode c||c.before args0 about1)=true:=by decide +kernel
set_option maxRecDepth 65536 in
theorem w_t13:(((((((((((((words1.drop 24).drop 24).drop 24).drop 24).drop 24).drop 24).drop 24).drop 24).drop 24).drop 24).drop 24).drop 24).take 24).all (fun c=>isCode c||c.before args0 about1)=true:=by decide +kernel
set_option maxRecDepth 65536 in
theorem w_t14:(((((((((((((words1.drop 24).drop 24).drop 24).drop 24).drop 24).drop 24).drop 24).drop 24).drop 24).drop 24).drop 24).drop 24).drop 24).all (fun c=>isCode c||c.before args0 about1)=true:=by decide +kernel
theorem w_tables:(allAtoms (Jvm.Cond.code x code maxLocals ret::tables_1)).before args0 about1=true:=by
 rw[allAtoms_all]
 show words1.all (fun c=>c.before args0 about1)=true
 refine all_split ?_ w_codes
 rw[←List.take_append_drop 24 words1,List.all_append,w_t1,←List.take_append_drop 24 (words1.drop 24),List.all_append,w_t2,←List.take_append_drop 24 ((words1.drop 24).drop 24),List.all_append,w_t3,←List.take_append_drop 24 (((words1.drop 24).drop 24).drop 24),List.all_append,w_t4,←List.take_append_drop 24 ((((words1.drop 24).drop 24).drop 24).drop 24),List.all_append,w_t5,←List.take_append_drop 24 (((((words1.drop 24).drop 24).drop 24).drop 24).drop 24),List.all_append,w_t6,←List.take_append_drop 24 ((((((words1.drop 24).drop 24).drop 24).drop 24).drop 24).drop 24),List.all_append,w_t7,←List.take_append_drop 24 (((((((words1.drop 24).drop 24).drop 24).drop 24).drop 24).drop 24).drop 24),List.all_append,w_t8,←List.take_append_drop 24 ((((((((words1.drop 24).drop 24).drop 24).drop 24).drop 24).drop 24).drop 24).drop 24),List.all_append,w_t9,←List.take_append_drop 24 (((((((((words1.drop 24).drop 24).drop 24).drop 24).drop 24).drop 24).drop 24).drop 24).drop 24),List.all_append,w_t10,←List.take_append_drop 24 ((((((((((words1.drop 24).drop 24).drop 24).drop 24).drop 24).drop 24).drop 24).drop 24).drop 24).drop 24),List.all_append,w_t11,←List.take_append_drop 24 (((((((((((words1.drop 24).drop 24).drop 24).drop 24).drop 24).drop 24).drop 24).drop 24).drop 24).drop 24).drop 24),List.all_append,w_t12,←List.take_append_drop 24 ((((((((((((words1.drop 24).drop 24).drop 24).drop 24).drop 24).drop 24).drop 24).drop 24).drop 24).drop 24).drop 24).drop 24),List.all_append,w_t13,w_t14]
 rfl
set_option maxRecDepth 65536 in
theorem w_case:(Jvm.Cond.and given_1 narrow_1).before args0 about1=true:=by decide +kernel
theorem w_applies:(headSpec (Jvm.Cond.code x code maxLocals ret::tables_1) room_1).applies x e0.platform about1=true :=
 (Spec.applies_iff w_frames).mpr ⟨w_running,w_runnable,w_alone,w_named,w_hears,w_ripe,w_room,w_tables⟩
theorem atStart:AtStart classFile x code maxLocals ret World_1 tables_1 room_1 Calls_1 rest_1 Pre_1 launch0 p0 e0 about1 theMethod args0 below0 :=
 ⟨lists_1,trivial,launch0.admits_env _ _ _,launch0.least_env,fairChoices_fair.cas,fairChoices_fair.clock,w_frames,w_args,w_heap,w_applies,trivial,trivial,w_case⟩
end start1
theorem witness_1:WitnessClaimed_1:=⟨start1.p0,start1.e0,start1.about1,start1.theMethod,start1.args0,start1.below0,start1.atStart⟩
end Jvm.Pilot.@@N@@
