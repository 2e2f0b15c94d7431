import JvmDerived
import JvmDerived.Pilot.@@N@@Statement
import JvmDerived.Pilot.@@N@@Code
set_option linter.unusedVariables false
set_option linter.unusedSimpArgs false
set_option maxRecDepth 65536
set_option maxHeartbeats 40000000
namespace Jvm.Pilot.@@N@@
open Jvm Jvm.ClassFile Sem Op Lib Jvm.Free Jvm.Stand Jvm.LawKit Jvm.RoadKit Bundle Jvm.Pilot.@@N@@.Jvm.D
section OwnKit
variable {p : Program} {l : Launch} {e : Env} {R : Room} {s : State} {m : MethodId} {args : Array Value} {below : List Frame} {meth : Method} {c : Code} {T : State} {locs : List Loc} {cells slots : Nat} {Z : State} {a0 : Array Value} {h h' : Heap} {Ev : State → Outcome → Prop}
def Go (p : Program) (e : Env) (below : List Frame) (Ev : State → Outcome → Prop) (T : State) (g : JFrame) : Prop :=
  ∃ (U : State) (o : Outcome), Steps p.tables e below (T.setTop g) U ∧ U.status = .running ∧ Ended U below o ∧ Ev U o
theorem Go.on {T T' : State} {g g' : JFrame} (K : Go p e below Ev T' g') (st : ∀ t, Steps p.tables e below (T'.setTop g') t → Steps p.tables e below (T.setTop g) t) : Go p e below Ev T g := by
  obtain ⟨U, o, h1, h2⟩ := K
  exact ⟨U, o, st _ h1, h2⟩
/-- what a body leaves -/
abbrev EndQ (s : State) (Q : Option Value → Heap → List Loc → Prop) (K N : Nat) : State → Outcome → Prop := fun U o => ∃ (v : Option Value) (L : List Loc), o = .returned v ∧ Q v U.heap L ∧ FrameEnd s o U L K N
theorem own_met {x : MethodName} {code : ByteArray} {ml : Nat} {ret : Option FieldType} {ws : List Jvm.Cond} {rm : Room} {as : Array Value} {h0 : Heap} {Q : Option Value → Heap → List Loc → Prop} {K N : Nat} {Ls : Array Slot} (hpn : plainFor x = true) (hef : ∀ m, entryFrame m as ml = mkF m 0 Ls [])
    (body : ∀ (p : Program) (e : Env) (s : State) (m : MethodId) (below : List Frame) (meth : Method) (c : Code) (T : State), Stand p l e rm s m as below meth c T [] 0 0 → p.tables.exec = Jvm.exec → c.code = code → c.maxLocals = ml → meth.sig.returnType = ret → meth.locks = false → meth.name = x.name → s.vm.findClass x.cls = some m.cls → Z.Warmed39 s.vm → T.heap = h0 → Go p e below (EndQ s Q K N) T (mkF m 0 Ls [])) :
    MetFree l x (head1 (Jvm.Cond.code x code ml ret :: ws) rm) (fun a U => a = as ∧ Z.Warmed39 U.vm ∧ U.heap = h0) (fun _ _ _ _ _ => True) (fun _ U o U' => ∃ v L, o = .returned v ∧ Q v U'.heap L ∧ FrameEnd U o U' L K N) := by
  refine MetFree.of_bodySF hpn hisR ?_
  intro p e s m args below meth c s₁ Bd hml0 hP hK
  obtain ⟨rfl, hZ, hh⟩ := hP
  have e0 : s₁.heap = h0 := by rw [← hh, Bd.state]; rfl
  obtain ⟨U, o, h1, h2, h3, h4⟩ := body p e s m below meth c s₁ (Stand.of_body Bd) Bd.exec Bd.bytes hml0 Bd.returns (BodyLoose.notSynchronized Bd) (name_of_methodNamed Bd.named Bd.method).1 (findClass_of_methodNamed Bd.named) hZ e0
  rw [← hef m] at h1
  exact ⟨U, o, h1, h2, h3, h4⟩
theorem g_leave (X : Stand p l e R s m args below meth c T locs cells slots) (hlk : meth.locks = false) {Q : Option Value → Heap → List Loc → Prop} {K N : Nat} {g : JFrame} {v : Option Value} (hv : meth.sig.returnType = none → v = none) (hK : cells ≤ K) (hN : slots ≤ N) (eT : T.heap = h) (hQ : Q v h locs)
    (hst : ∀ fs, (∀ (f : JFrame) (acts : List Action), f.method = m → f.locked = none → f.entered = [] → (doReturn e (T.setTop f) acts v).1 = T.setFrames fs) → Steps p.tables e below (T.setTop g) (T.setFrames fs)) : Go p e below (EndQ s Q K N) T g := by
  obtain ⟨fs, hr, hrun, hended, hW, hsame⟩ := X.leave (v := v) hv hlk
  exact ⟨_, _, hst fs hr, hrun, hended, _, _, rfl, by rw [show (T.setFrames fs).heap = T.heap from rfl, eT]; exact hQ, ⟨_, rfl⟩, hW, hsame.mono hK hN⟩
theorem g_retI (X : Stand p l e R s m args below meth c T locs cells slots) (hx : p.tables.exec = Jvm.exec) (hlk : meth.locks = false) {Q : Option Value → Heap → List Loc → Prop} {K N : Nat} {pc : Nat} {Ls : Array Slot} {z : Int32} {rest : List Value} (hret : meth.sig.returnType = some .int) (hd : decode c.code pc = .ok (.ireturn, 1)) (hK : cells ≤ K) (hN : slots ≤ N) (eT : T.heap = h) (hQ : Q (some (.int z)) h locs) : Go p e below (EndQ s Q K N) T (mkF m pc Ls (.int z :: rest)) :=
  g_leave X hlk (fun q => by rw [hret] at q; cases q) hK hN eT hQ (fun fs hr => retOut X hx hret rfl (Or.inl ⟨rfl, Or.inl rfl, _, rfl⟩) hd hr)
theorem g_retZ (X : Stand p l e R s m args below meth c T locs cells slots) (hx : p.tables.exec = Jvm.exec) (hlk : meth.locks = false) {Q : Option Value → Heap → List Loc → Prop} {K N : Nat} {pc : Nat} {Ls : Array Slot} {z : Int32} {rest : List Value} (hret : meth.sig.returnType = some .boolean) (hd : decode c.code pc = .ok (.ireturn, 1)) (hK : cells ≤ K) (hN : slots ≤ N) (eT : T.heap = h) (hQ : Q (some (.int (nar .boolean z))) h locs) : Go p e below (EndQ s Q K N) T (mkF m pc Ls (.int z :: rest)) :=
  g_leave X hlk (fun q => by rw [hret] at q; cases q) hK hN eT hQ (fun fs hr => retN X hx (t := .boolean) hret (by simp) hd hr)
theorem g_retD (X : Stand p l e R s m args below meth c T locs cells slots) (hx : p.tables.exec = Jvm.exec) (hlk : meth.locks = false) {Q : Option Value → Heap → List Loc → Prop} {K N : Nat} {pc : Nat} {Ls : Array Slot} {z : UInt64} {rest : List Value} (hret : meth.sig.returnType = some .double) (hd : decode c.code pc = .ok (.dreturn, 1)) (hK : cells ≤ K) (hN : slots ≤ N) (eT : T.heap = h) (hQ : Q (some (.double z)) h locs) : Go p e below (EndQ s Q K N) T (mkF m pc Ls (.double z :: rest)) :=
  g_leave X hlk (fun q => by rw [hret] at q; cases q) hK hN eT hQ (fun fs hr => retOut X hx hret rfl (Or.inr (Or.inr (Or.inl ⟨rfl, rfl, _, rfl⟩))) hd hr)
theorem g_retJ (X : Stand p l e R s m args below meth c T locs cells slots) (hx : p.tables.exec = Jvm.exec) (hlk : meth.locks = false) {Q : Option Value → Heap → List Loc → Prop} {K N : Nat} {pc : Nat} {Ls : Array Slot} {z : Int64} {rest : List Value} (hret : meth.sig.returnType = some .long) (hd : decode c.code pc = .ok (.lreturn, 1)) (hK : cells ≤ K) (hN : slots ≤ N) (eT : T.heap = h) (hQ : Q (some (.long z)) h locs) : Go p e below (EndQ s Q K N) T (mkF m pc Ls (.long z :: rest)) :=
  g_leave X hlk (fun q => by rw [hret] at q; cases q) hK hN eT hQ (fun fs hr => retOut X hx hret rfl (Or.inr (Or.inl ⟨rfl, rfl, _, rfl⟩)) hd hr)
theorem g_retA (X : Stand p l e R s m args below meth c T locs cells slots) (hx : p.tables.exec = Jvm.exec) (hlk : meth.locks = false) {Q : Option Value → Heap → List Loc → Prop} {K N : Nat} {pc : Nat} {Ls : Array Slot} {w : Value} {rest : List Value} {t : FieldType} (hret : meth.sig.returnType = some t) (ht : t.isReference = true) (hw : w.isRef = true) (hn : narrow t w = w) (hd : decode c.code pc = .ok (.areturn, 1)) (hK : cells ≤ K) (hN : slots ≤ N) (eT : T.heap = h) (hQ : Q (some w) h locs) : Go p e below (EndQ s Q K N) T (mkF m pc Ls (w :: rest)) :=
  g_leave X hlk (fun q => by rw [hret] at q; cases q) hK hN eT hQ (fun fs hr => retOut X hx hret hn (Or.inr (Or.inr (Or.inr (Or.inr ⟨rfl, ht, hw⟩)))) hd hr)
theorem g_retV (X : Stand p l e R s m args below meth c T locs cells slots) (hx : p.tables.exec = Jvm.exec) (hlk : meth.locks = false) {Q : Option Value → Heap → List Loc → Prop} {K N : Nat} {pc : Nat} {Ls : Array Slot} (hret : meth.sig.returnType = none) (hd : decode c.code pc = .ok (.return_, 1)) (hK : cells ≤ K) (hN : slots ≤ N) (eT : T.heap = h) (hQ : Q none h locs) : Go p e below (EndQ s Q K N) T (mkF m pc Ls []) :=
  g_leave X hlk (fun _ => rfl) hK hN eT hQ (fun fs hr => X.returnOut hx hret hd hr)
theorem g_iloadN (X : Stand p l e R s m args below meth c T locs cells slots) (hx : p.tables.exec = Jvm.exec) {pc : Nat} {Ls : Array Slot} {st : List Value} {k : Fin 4} {v : Int32} (q : Nat) (hd : decode c.code pc = .ok (.iload_n k, 1)) (hq : pc + 1 = q) (hl : Ls[k.val]? = some (.val (.int v))) (K : Go p e below Ev T (mkF m q Ls (.int v :: st))) : Go p e below Ev T (mkF m pc Ls st) := by
  subst hq
  exact K.on fun _ k => XS.iloadN X.here hx rfl hd hl k
theorem g_iload (X : Stand p l e R s m args below meth c T locs cells slots) (hx : p.tables.exec = Jvm.exec) {pc : Nat} {Ls : Array Slot} {st : List Value} {k : Nat} {v : Int32} (q : Nat) (hd : decode c.code pc = .ok (.iload k, 2)) (hq : pc + 2 = q) (hl : Ls[k]? = some (.val (.int v))) (K : Go p e below Ev T (mkF m q Ls (.int v :: st))) : Go p e below Ev T (mkF m pc Ls st) := by
  subst hq
  exact K.on fun _ k => XS.iload X.here hx rfl hd hl k
theorem g_istoreN (X : Stand p l e R s m args below meth c T locs cells slots) (hx : p.tables.exec = Jvm.exec) {pc : Nat} {Ls : Array Slot} {st : List Value} {k : Fin 4} {v : Int32} {l' : Array Slot} (q : Nat) (hd : decode c.code pc = .ok (.istore_n k, 1)) (hq : pc + 1 = q) (hl : storeLocals Ls k.val (.int v) = some l') (K : Go p e below Ev T (mkF m q l' st)) : Go p e below Ev T (mkF m pc Ls (.int v :: st)) := by
  subst hq
  exact K.on fun _ k => XS.istoreN X.here hx rfl hd rfl hl k
theorem g_istore (X : Stand p l e R s m args below meth c T locs cells slots) (hx : p.tables.exec = Jvm.exec) {pc : Nat} {Ls : Array Slot} {st : List Value} {k : Nat} {v : Int32} {l' : Array Slot} (q : Nat) (hd : decode c.code pc = .ok (.istore k, 2)) (hq : pc + 2 = q) (hl : storeLocals Ls k (.int v) = some l') (K : Go p e below Ev T (mkF m q l' st)) : Go p e below Ev T (mkF m pc Ls (.int v :: st)) := by
  subst hq
  exact K.on fun _ k => XS.istore X.here hx rfl hd rfl hl k
theorem g_lloadN (X : Stand p l e R s m args below meth c T locs cells slots) (hx : p.tables.exec = Jvm.exec) {pc : Nat} {Ls : Array Slot} {st : List Value} {k : Fin 4} {v : Int64} (q : Nat) (hd : decode c.code pc = .ok (.lload_n k, 1)) (hq : pc + 1 = q) (hl : Ls[k.val]? = some (.val (.long v))) (K : Go p e below Ev T (mkF m q Ls (.long v :: st))) : Go p e below Ev T (mkF m pc Ls st) := by
  subst hq
  exact K.on fun _ k => XS.lloadN X.here hx rfl hd hl k
theorem g_lload (X : Stand p l e R s m args below meth c T locs cells slots) (hx : p.tables.exec = Jvm.exec) {pc : Nat} {Ls : Array Slot} {st : List Value} {k : Nat} {v : Int64} (q : Nat) (hd : decode c.code pc = .ok (.lload k, 2)) (hq : pc + 2 = q) (hl : Ls[k]? = some (.val (.long v))) (K : Go p e below Ev T (mkF m q Ls (.long v :: st))) : Go p e below Ev T (mkF m pc Ls st) := by
  subst hq
  exact K.on fun _ k => XS.lload X.here hx rfl hd hl k
theorem g_lstoreN (X : Stand p l e R s m args below meth c T locs cells slots) (hx : p.tables.exec = Jvm.exec) {pc : Nat} {Ls : Array Slot} {st : List Value} {k : Fin 4} {v : Int64} {l' : Array Slot} (q : Nat) (hd : decode c.code pc = .ok (.lstore_n k, 1)) (hq : pc + 1 = q) (hl : storeLocals Ls k.val (.long v) = some l') (K : Go p e below Ev T (mkF m q l' st)) : Go p e below Ev T (mkF m pc Ls (.long v :: st)) := by
  subst hq
  exact K.on fun _ k => XS.lstoreN X.here hx rfl hd rfl hl k
theorem g_lstore (X : Stand p l e R s m args below meth c T locs cells slots) (hx : p.tables.exec = Jvm.exec) {pc : Nat} {Ls : Array Slot} {st : List Value} {k : Nat} {v : Int64} {l' : Array Slot} (q : Nat) (hd : decode c.code pc = .ok (.lstore k, 2)) (hq : pc + 2 = q) (hl : storeLocals Ls k (.long v) = some l') (K : Go p e below Ev T (mkF m q l' st)) : Go p e below Ev T (mkF m pc Ls (.long v :: st)) := by
  subst hq
  exact K.on fun _ k => XS.lstore X.here hx rfl hd rfl hl k
theorem g_dloadN (X : Stand p l e R s m args below meth c T locs cells slots) (hx : p.tables.exec = Jvm.exec) {pc : Nat} {Ls : Array Slot} {st : List Value} {k : Fin 4} {v : UInt64} (q : Nat) (hd : decode c.code pc = .ok (.dload_n k, 1)) (hq : pc + 1 = q) (hl : Ls[k.val]? = some (.val (.double v))) (K : Go p e below Ev T (mkF m q Ls (.double v :: st))) : Go p e below Ev T (mkF m pc Ls st) := by
  subst hq
  exact K.on fun _ k => XS.dloadN X.here hx rfl hd hl k
theorem g_dload (X : Stand p l e R s m args below meth c T locs cells slots) (hx : p.tables.exec = Jvm.exec) {pc : Nat} {Ls : Array Slot} {st : List Value} {k : Nat} {v : UInt64} (q : Nat) (hd : decode c.code pc = .ok (.dload k, 2)) (hq : pc + 2 = q) (hl : Ls[k]? = some (.val (.double v))) (K : Go p e below Ev T (mkF m q Ls (.double v :: st))) : Go p e below Ev T (mkF m pc Ls st) := by
  subst hq
  exact K.on fun _ k => XS.dload X.here hx rfl hd hl k
theorem g_dstoreN (X : Stand p l e R s m args below meth c T locs cells slots) (hx : p.tables.exec = Jvm.exec) {pc : Nat} {Ls : Array Slot} {st : List Value} {k : Fin 4} {v : UInt64} {l' : Array Slot} (q : Nat) (hd : decode c.code pc = .ok (.dstore_n k, 1)) (hq : pc + 1 = q) (hl : storeLocals Ls k.val (.double v) = some l') (K : Go p e below Ev T (mkF m q l' st)) : Go p e below Ev T (mkF m pc Ls (.double v :: st)) := by
  subst hq
  exact K.on fun _ k => XS.dstoreN X.here hx rfl hd rfl hl k
theorem g_dstore (X : Stand p l e R s m args below meth c T locs cells slots) (hx : p.tables.exec = Jvm.exec) {pc : Nat} {Ls : Array Slot} {st : List Value} {k : Nat} {v : UInt64} {l' : Array Slot} (q : Nat) (hd : decode c.code pc = .ok (.dstore k, 2)) (hq : pc + 2 = q) (hl : storeLocals Ls k (.double v) = some l') (K : Go p e below Ev T (mkF m q l' st)) : Go p e below Ev T (mkF m pc Ls (.double v :: st)) := by
  subst hq
  exact K.on fun _ k => XS.dstore X.here hx rfl hd rfl hl k
theorem g_aloadN (X : Stand p l e R s m args below meth c T locs cells slots) (hx : p.tables.exec = Jvm.exec) {pc : Nat} {Ls : Array Slot} {st : List Value} {k : Fin 4} {v : Value} (q : Nat) (hd : decode c.code pc = .ok (.aload_n k, 1)) (hq : pc + 1 = q) (hl : Ls[k.val]? = some (.val v)) (hv : v.isRef = true) (K : Go p e below Ev T (mkF m q Ls (v :: st))) : Go p e below Ev T (mkF m pc Ls st) := by
  subst hq
  exact K.on fun _ k => XS.aloadN X.here hx rfl hd hl hv k
theorem g_aload (X : Stand p l e R s m args below meth c T locs cells slots) (hx : p.tables.exec = Jvm.exec) {pc : Nat} {Ls : Array Slot} {st : List Value} {k : Nat} {v : Value} (q : Nat) (hd : decode c.code pc = .ok (.aload k, 2)) (hq : pc + 2 = q) (hl : Ls[k]? = some (.val v)) (hv : v.isRef = true) (K : Go p e below Ev T (mkF m q Ls (v :: st))) : Go p e below Ev T (mkF m pc Ls st) := by
  subst hq
  exact K.on fun _ k => XS.aload X.here hx rfl hd hl hv k
theorem g_astoreN (X : Stand p l e R s m args below meth c T locs cells slots) (hx : p.tables.exec = Jvm.exec) {pc : Nat} {Ls : Array Slot} {st : List Value} {k : Fin 4} {v : Value} {l' : Array Slot} (q : Nat) (hd : decode c.code pc = .ok (.astore_n k, 1)) (hq : pc + 1 = q) (hv : v.isRef = true) (hl : storeLocals Ls k.val v = some l') (K : Go p e below Ev T (mkF m q l' st)) : Go p e below Ev T (mkF m pc Ls (v :: st)) := by
  subst hq
  exact K.on fun _ k => XS.astoreN X.here hx rfl hd rfl hv hl k
theorem g_astore (X : Stand p l e R s m args below meth c T locs cells slots) (hx : p.tables.exec = Jvm.exec) {pc : Nat} {Ls : Array Slot} {st : List Value} {k : Nat} {v : Value} {l' : Array Slot} (q : Nat) (hd : decode c.code pc = .ok (.astore k, 2)) (hq : pc + 2 = q) (hv : v.isRef = true) (hl : storeLocals Ls k v = some l') (K : Go p e below Ev T (mkF m q l' st)) : Go p e below Ev T (mkF m pc Ls (v :: st)) := by
  subst hq
  exact K.on fun _ k => XS.astore X.here hx rfl hd rfl hv hl k
theorem g_iconst (X : Stand p l e R s m args below meth c T locs cells slots) (hx : p.tables.exec = Jvm.exec) {pc : Nat} {Ls : Array Slot} {st : List Value} {i : Int} (v : Int32) (q : Nat) (hd : decode c.code pc = .ok (.iconst i, 1)) (hq : pc + 1 = q) (hv : Int32.ofInt i = v) (K : Go p e below Ev T (mkF m q Ls (.int v :: st))) : Go p e below Ev T (mkF m pc Ls st) := by
  subst hq
  exact K.on fun _ k => XT.iconstV X.here hx rfl v hd hv k
theorem g_bipush (X : Stand p l e R s m args below meth c T locs cells slots) (hx : p.tables.exec = Jvm.exec) {pc : Nat} {Ls : Array Slot} {st : List Value} {i : Int} (v : Int32) (q : Nat) (hd : decode c.code pc = .ok (.bipush i, 2)) (hq : pc + 2 = q) (hv : (Int8.ofInt i).toInt32 = v) (K : Go p e below Ev T (mkF m q Ls (.int v :: st))) : Go p e below Ev T (mkF m pc Ls st) := by
  subst hq
  exact K.on fun _ k => XT.bipushV X.here hx rfl v hd hv k
theorem g_sipush (X : Stand p l e R s m args below meth c T locs cells slots) (hx : p.tables.exec = Jvm.exec) {pc : Nat} {Ls : Array Slot} {st : List Value} {i : Int} (v : Int32) (q : Nat) (hd : decode c.code pc = .ok (.sipush i, 3)) (hq : pc + 3 = q) (hv : (Int16.ofInt i).toInt32 = v) (K : Go p e below Ev T (mkF m q Ls (.int v :: st))) : Go p e below Ev T (mkF m pc Ls st) := by
  subst hq
  exact K.on fun _ k => XT.sipushV X.here hx rfl v hd hv k
theorem g_lconst (X : Stand p l e R s m args below meth c T locs cells slots) (hx : p.tables.exec = Jvm.exec) {pc : Nat} {Ls : Array Slot} {st : List Value} {i : Fin 2} (v : Int64) (q : Nat) (hd : decode c.code pc = .ok (.lconst i, 1)) (hq : pc + 1 = q) (hv : Int64.ofNat i = v) (K : Go p e below Ev T (mkF m q Ls (.long v :: st))) : Go p e below Ev T (mkF m pc Ls st) := by
  subst hq
  exact K.on fun _ k => XT.lconstV X.here hx rfl v hd hv k
theorem g_dconst0 (X : Stand p l e R s m args below meth c T locs cells slots) (hx : p.tables.exec = Jvm.exec) {pc : Nat} {Ls : Array Slot} {st : List Value}  (q : Nat) (hd : decode c.code pc = .ok (.dconst 0, 1)) (hq : pc + 1 = q)  (K : Go p e below Ev T (mkF m q Ls (.double 0 :: st))) : Go p e below Ev T (mkF m pc Ls st) := by
  subst hq
  exact K.on fun _ k => XS.dconst0 X.here hx rfl hd rfl k
theorem g_dconst1 (X : Stand p l e R s m args below meth c T locs cells slots) (hx : p.tables.exec = Jvm.exec) {pc : Nat} {Ls : Array Slot} {st : List Value}  (q : Nat) (hd : decode c.code pc = .ok (.dconst 1, 1)) (hq : pc + 1 = q)  (K : Go p e below Ev T (mkF m q Ls (.double 4607182418800017408 :: st))) : Go p e below Ev T (mkF m pc Ls st) := by
  subst hq
  exact K.on fun _ k => XS.dconst1 X.here hx rfl hd rfl k
theorem g_null (X : Stand p l e R s m args below meth c T locs cells slots) (hx : p.tables.exec = Jvm.exec) {pc : Nat} {Ls : Array Slot} {st : List Value}  (q : Nat) (hd : decode c.code pc = .ok (.aconst_null, 1)) (hq : pc + 1 = q)  (K : Go p e below Ev T (mkF m q Ls (.null :: st))) : Go p e below Ev T (mkF m pc Ls st) := by
  subst hq
  exact K.on fun _ k => XS.aconstNull X.here hx rfl hd k
theorem g_iinc (X : Stand p l e R s m args below meth c T locs cells slots) (hx : p.tables.exec = Jvm.exec) {pc : Nat} {Ls : Array Slot} {st : List Value} {k : Nat} {i : Int} {v w : Int32} {l' : Array Slot} (q : Nat) (hd : decode c.code pc = .ok (.iinc k i, 3)) (hq : pc + 3 = q) (hl : Ls[k]? = some (.val (.int v))) (hv : Int32.ofInt i = w) (hl' : storeLocals Ls k (.int (v + w)) = some l') (K : Go p e below Ev T (mkF m q l' st)) : Go p e below Ev T (mkF m pc Ls st) := by
  subst hq
  exact K.on fun _ k => XT.iincV X.here hx rfl w hd hv hl hl' k
theorem g_iadd (X : Stand p l e R s m args below meth c T locs cells slots) (hx : p.tables.exec = Jvm.exec) {pc : Nat} {Ls : Array Slot} {st : List Value} {x y : Int32} (q : Nat) (hd : decode c.code pc = .ok (.iadd, 1)) (hq : pc + 1 = q)  (K : Go p e below Ev T (mkF m q Ls (.int (x + y) :: st))) : Go p e below Ev T (mkF m pc Ls (.int y :: .int x :: st)) := by
  subst hq
  exact K.on fun _ k => XS.iadd X.here hx rfl hd rfl k
theorem g_ladd (X : Stand p l e R s m args below meth c T locs cells slots) (hx : p.tables.exec = Jvm.exec) {pc : Nat} {Ls : Array Slot} {st : List Value} {x y : Int64} (q : Nat) (hd : decode c.code pc = .ok (.ladd, 1)) (hq : pc + 1 = q)  (K : Go p e below Ev T (mkF m q Ls (.long (x + y) :: st))) : Go p e below Ev T (mkF m pc Ls (.long y :: .long x :: st)) := by
  subst hq
  exact K.on fun _ k => XS.ladd X.here hx rfl hd rfl k
theorem g_isub (X : Stand p l e R s m args below meth c T locs cells slots) (hx : p.tables.exec = Jvm.exec) {pc : Nat} {Ls : Array Slot} {st : List Value} {x y : Int32} (q : Nat) (hd : decode c.code pc = .ok (.isub, 1)) (hq : pc + 1 = q)  (K : Go p e below Ev T (mkF m q Ls (.int (x - y) :: st))) : Go p e below Ev T (mkF m pc Ls (.int y :: .int x :: st)) := by
  subst hq
  exact K.on fun _ k => XS.isub X.here hx rfl hd rfl k
theorem g_lsub (X : Stand p l e R s m args below meth c T locs cells slots) (hx : p.tables.exec = Jvm.exec) {pc : Nat} {Ls : Array Slot} {st : List Value} {x y : Int64} (q : Nat) (hd : decode c.code pc = .ok (.lsub, 1)) (hq : pc + 1 = q)  (K : Go p e below Ev T (mkF m q Ls (.long (x - y) :: st))) : Go p e below Ev T (mkF m pc Ls (.long y :: .long x :: st)) := by
  subst hq
  exact K.on fun _ k => XS.lsub X.here hx rfl hd rfl k
theorem g_imul (X : Stand p l e R s m args below meth c T locs cells slots) (hx : p.tables.exec = Jvm.exec) {pc : Nat} {Ls : Array Slot} {st : List Value} {x y : Int32} (q : Nat) (hd : decode c.code pc = .ok (.imul, 1)) (hq : pc + 1 = q)  (K : Go p e below Ev T (mkF m q Ls (.int (x * y) :: st))) : Go p e below Ev T (mkF m pc Ls (.int y :: .int x :: st)) := by
  subst hq
  exact K.on fun _ k => XS.imul X.here hx rfl hd rfl k
theorem g_lmul (X : Stand p l e R s m args below meth c T locs cells slots) (hx : p.tables.exec = Jvm.exec) {pc : Nat} {Ls : Array Slot} {st : List Value} {x y : Int64} (q : Nat) (hd : decode c.code pc = .ok (.lmul, 1)) (hq : pc + 1 = q)  (K : Go p e below Ev T (mkF m q Ls (.long (x * y) :: st))) : Go p e below Ev T (mkF m pc Ls (.long y :: .long x :: st)) := by
  subst hq
  exact K.on fun _ k => XS.lmul X.here hx rfl hd rfl k
theorem g_iand (X : Stand p l e R s m args below meth c T locs cells slots) (hx : p.tables.exec = Jvm.exec) {pc : Nat} {Ls : Array Slot} {st : List Value} {x y : Int32} (q : Nat) (hd : decode c.code pc = .ok (.iand, 1)) (hq : pc + 1 = q)  (K : Go p e below Ev T (mkF m q Ls (.int (x &&& y) :: st))) : Go p e below Ev T (mkF m pc Ls (.int y :: .int x :: st)) := by
  subst hq
  exact K.on fun _ k => XS.iand X.here hx rfl hd rfl k
theorem g_land (X : Stand p l e R s m args below meth c T locs cells slots) (hx : p.tables.exec = Jvm.exec) {pc : Nat} {Ls : Array Slot} {st : List Value} {x y : Int64} (q : Nat) (hd : decode c.code pc = .ok (.land, 1)) (hq : pc + 1 = q)  (K : Go p e below Ev T (mkF m q Ls (.long (x &&& y) :: st))) : Go p e below Ev T (mkF m pc Ls (.long y :: .long x :: st)) := by
  subst hq
  exact K.on fun _ k => XS.land X.here hx rfl hd rfl k
theorem g_ior (X : Stand p l e R s m args below meth c T locs cells slots) (hx : p.tables.exec = Jvm.exec) {pc : Nat} {Ls : Array Slot} {st : List Value} {x y : Int32} (q : Nat) (hd : decode c.code pc = .ok (.ior, 1)) (hq : pc + 1 = q)  (K : Go p e below Ev T (mkF m q Ls (.int (x ||| y) :: st))) : Go p e below Ev T (mkF m pc Ls (.int y :: .int x :: st)) := by
  subst hq
  exact K.on fun _ k => XS.ior X.here hx rfl hd rfl k
theorem g_lor (X : Stand p l e R s m args below meth c T locs cells slots) (hx : p.tables.exec = Jvm.exec) {pc : Nat} {Ls : Array Slot} {st : List Value} {x y : Int64} (q : Nat) (hd : decode c.code pc = .ok (.lor, 1)) (hq : pc + 1 = q)  (K : Go p e below Ev T (mkF m q Ls (.long (x ||| y) :: st))) : Go p e below Ev T (mkF m pc Ls (.long y :: .long x :: st)) := by
  subst hq
  exact K.on fun _ k => XS.lor X.here hx rfl hd rfl k
theorem g_ixor (X : Stand p l e R s m args below meth c T locs cells slots) (hx : p.tables.exec = Jvm.exec) {pc : Nat} {Ls : Array Slot} {st : List Value} {x y : Int32} (q : Nat) (hd : decode c.code pc = .ok (.ixor, 1)) (hq : pc + 1 = q)  (K : Go p e below Ev T (mkF m q Ls (.int (x ^^^ y) :: st))) : Go p e below Ev T (mkF m pc Ls (.int y :: .int x :: st)) := by
  subst hq
  exact K.on fun _ k => XS.ixor X.here hx rfl hd rfl k
theorem g_lxor (X : Stand p l e R s m args below meth c T locs cells slots) (hx : p.tables.exec = Jvm.exec) {pc : Nat} {Ls : Array Slot} {st : List Value} {x y : Int64} (q : Nat) (hd : decode c.code pc = .ok (.lxor, 1)) (hq : pc + 1 = q)  (K : Go p e below Ev T (mkF m q Ls (.long (x ^^^ y) :: st))) : Go p e below Ev T (mkF m pc Ls (.long y :: .long x :: st)) := by
  subst hq
  exact K.on fun _ k => XS.lxor X.here hx rfl hd rfl k
theorem g_idiv (X : Stand p l e R s m args below meth c T locs cells slots) (hx : p.tables.exec = Jvm.exec) {pc : Nat} {Ls : Array Slot} {st : List Value} {x y : Int32} (q : Nat) (hd : decode c.code pc = .ok (.idiv, 1)) (hq : pc + 1 = q) (hy : y ≠ 0) (K : Go p e below Ev T (mkF m q Ls (.int (x / y) :: st))) : Go p e below Ev T (mkF m pc Ls (.int y :: .int x :: st)) := by
  subst hq
  exact K.on fun _ k => XS.idiv X.here hx rfl hd rfl hy k
theorem g_ineg (X : Stand p l e R s m args below meth c T locs cells slots) (hx : p.tables.exec = Jvm.exec) {pc : Nat} {Ls : Array Slot} {st : List Value} {x : Int32} (q : Nat) (hd : decode c.code pc = .ok (.ineg, 1)) (hq : pc + 1 = q)  (K : Go p e below Ev T (mkF m q Ls (.int (-x) :: st))) : Go p e below Ev T (mkF m pc Ls (.int x :: st)) := by
  subst hq
  exact K.on fun _ k => XS.ineg X.here hx rfl hd rfl k
theorem g_ldiv (X : Stand p l e R s m args below meth c T locs cells slots) (hx : p.tables.exec = Jvm.exec) {pc : Nat} {Ls : Array Slot} {st : List Value} {x y : Int64} (q : Nat) (hd : decode c.code pc = .ok (.ldiv, 1)) (hq : pc + 1 = q) (hy : y ≠ 0) (K : Go p e below Ev T (mkF m q Ls (.long (x / y) :: st))) : Go p e below Ev T (mkF m pc Ls (.long y :: .long x :: st)) := by
  subst hq
  exact K.on fun _ k => XS.ldiv X.here hx rfl hd rfl hy k
theorem g_lneg (X : Stand p l e R s m args below meth c T locs cells slots) (hx : p.tables.exec = Jvm.exec) {pc : Nat} {Ls : Array Slot} {st : List Value} {x : Int64} (q : Nat) (hd : decode c.code pc = .ok (.lneg, 1)) (hq : pc + 1 = q)  (K : Go p e below Ev T (mkF m q Ls (.long (-x) :: st))) : Go p e below Ev T (mkF m pc Ls (.long x :: st)) := by
  subst hq
  exact K.on fun _ k => XS.lneg X.here hx rfl hd rfl k
theorem g_irem (X : Stand p l e R s m args below meth c T locs cells slots) (hx : p.tables.exec = Jvm.exec) {pc : Nat} {Ls : Array Slot} {st : List Value} {x y : Int32} (q : Nat) (hd : decode c.code pc = .ok (.irem, 1)) (hq : pc + 1 = q) (hy : y ≠ 0) (K : Go p e below Ev T (mkF m q Ls (.int (x % y) :: st))) : Go p e below Ev T (mkF m pc Ls (.int y :: .int x :: st)) := by
  subst hq
  exact K.on fun _ k => iremM X hx rfl hd rfl hy k
theorem g_lrem (X : Stand p l e R s m args below meth c T locs cells slots) (hx : p.tables.exec = Jvm.exec) {pc : Nat} {Ls : Array Slot} {st : List Value} {x y : Int64} (q : Nat) (hd : decode c.code pc = .ok (.lrem, 1)) (hq : pc + 1 = q) (hy : y ≠ 0) (K : Go p e below Ev T (mkF m q Ls (.long (x - (x / y) * y) :: st))) : Go p e below Ev T (mkF m pc Ls (.long y :: .long x :: st)) := by
  subst hq
  exact K.on fun _ k => XS.lrem X.here hx rfl hd rfl hy k
theorem g_ishl (X : Stand p l e R s m args below meth c T locs cells slots) (hx : p.tables.exec = Jvm.exec) {pc : Nat} {Ls : Array Slot} {st : List Value} {x y : Int32} (q : Nat) (hd : decode c.code pc = .ok (.ishl, 1)) (hq : pc + 1 = q)  (K : Go p e below Ev T (mkF m q Ls (.int (x <<< (y &&& 31)) :: st))) : Go p e below Ev T (mkF m pc Ls (.int y :: .int x :: st)) := by
  subst hq
  exact K.on fun _ k => XS.ishl X.here hx rfl hd rfl k
theorem g_ishr (X : Stand p l e R s m args below meth c T locs cells slots) (hx : p.tables.exec = Jvm.exec) {pc : Nat} {Ls : Array Slot} {st : List Value} {x y : Int32} (q : Nat) (hd : decode c.code pc = .ok (.ishr, 1)) (hq : pc + 1 = q)  (K : Go p e below Ev T (mkF m q Ls (.int (x >>> (y &&& 31)) :: st))) : Go p e below Ev T (mkF m pc Ls (.int y :: .int x :: st)) := by
  subst hq
  exact K.on fun _ k => XS.ishr X.here hx rfl hd rfl k
theorem g_iushr (X : Stand p l e R s m args below meth c T locs cells slots) (hx : p.tables.exec = Jvm.exec) {pc : Nat} {Ls : Array Slot} {st : List Value} {x y : Int32} (q : Nat) (hd : decode c.code pc = .ok (.iushr, 1)) (hq : pc + 1 = q)  (K : Go p e below Ev T (mkF m q Ls (.int ((x.toUInt32 >>> (y &&& 31).toUInt32).toInt32) :: st))) : Go p e below Ev T (mkF m pc Ls (.int y :: .int x :: st)) := by
  subst hq
  exact K.on fun _ k => XS.iushr X.here hx rfl hd rfl k
theorem g_lshl (X : Stand p l e R s m args below meth c T locs cells slots) (hx : p.tables.exec = Jvm.exec) {pc : Nat} {Ls : Array Slot} {st : List Value} {x : Int64} {y : Int32} (q : Nat) (hd : decode c.code pc = .ok (.lshl, 1)) (hq : pc + 1 = q)  (K : Go p e below Ev T (mkF m q Ls (.long (x <<< (y &&& 0x3f).toInt64) :: st))) : Go p e below Ev T (mkF m pc Ls (.int y :: .long x :: st)) := by
  subst hq
  exact K.on fun _ k => XS.lshl X.here hx rfl hd rfl k
theorem g_lshr (X : Stand p l e R s m args below meth c T locs cells slots) (hx : p.tables.exec = Jvm.exec) {pc : Nat} {Ls : Array Slot} {st : List Value} {x : Int64} {y : Int32} (q : Nat) (hd : decode c.code pc = .ok (.lshr, 1)) (hq : pc + 1 = q)  (K : Go p e below Ev T (mkF m q Ls (.long (x >>> (y &&& 0x3f).toInt64) :: st))) : Go p e below Ev T (mkF m pc Ls (.int y :: .long x :: st)) := by
  subst hq
  exact K.on fun _ k => XS.lshr X.here hx rfl hd rfl k
theorem g_lushr (X : Stand p l e R s m args below meth c T locs cells slots) (hx : p.tables.exec = Jvm.exec) {pc : Nat} {Ls : Array Slot} {st : List Value} {x : Int64} {y : Int32} (q : Nat) (hd : decode c.code pc = .ok (.lushr, 1)) (hq : pc + 1 = q)  (K : Go p e below Ev T (mkF m q Ls (.long ((x.toUInt64 >>> (y &&& 0x3f).toInt64.toUInt64).toInt64) :: st))) : Go p e below Ev T (mkF m pc Ls (.int y :: .long x :: st)) := by
  subst hq
  exact K.on fun _ k => XS.lushr X.here hx rfl hd rfl k
theorem g_i2l (X : Stand p l e R s m args below meth c T locs cells slots) (hx : p.tables.exec = Jvm.exec) {pc : Nat} {Ls : Array Slot} {st : List Value} {x : Int32} (q : Nat) (hd : decode c.code pc = .ok (.i2l, 1)) (hq : pc + 1 = q)  (K : Go p e below Ev T (mkF m q Ls (.long (x.toInt64) :: st))) : Go p e below Ev T (mkF m pc Ls (.int x :: st)) := by
  subst hq
  exact K.on fun _ k => XS.i2l X.here hx rfl hd rfl k
theorem g_l2i (X : Stand p l e R s m args below meth c T locs cells slots) (hx : p.tables.exec = Jvm.exec) {pc : Nat} {Ls : Array Slot} {st : List Value} {x : Int64} (q : Nat) (hd : decode c.code pc = .ok (.l2i, 1)) (hq : pc + 1 = q)  (K : Go p e below Ev T (mkF m q Ls (.int (x.toInt32) :: st))) : Go p e below Ev T (mkF m pc Ls (.long x :: st)) := by
  subst hq
  exact K.on fun _ k => XS.l2i X.here hx rfl hd rfl k
theorem g_i2b (X : Stand p l e R s m args below meth c T locs cells slots) (hx : p.tables.exec = Jvm.exec) {pc : Nat} {Ls : Array Slot} {st : List Value} {x : Int32} (q : Nat) (hd : decode c.code pc = .ok (.i2b, 1)) (hq : pc + 1 = q)  (K : Go p e below Ev T (mkF m q Ls (.int (x.toInt8.toInt32) :: st))) : Go p e below Ev T (mkF m pc Ls (.int x :: st)) := by
  subst hq
  exact K.on fun _ k => XS.i2b X.here hx rfl hd rfl k
theorem g_i2s (X : Stand p l e R s m args below meth c T locs cells slots) (hx : p.tables.exec = Jvm.exec) {pc : Nat} {Ls : Array Slot} {st : List Value} {x : Int32} (q : Nat) (hd : decode c.code pc = .ok (.i2s, 1)) (hq : pc + 1 = q)  (K : Go p e below Ev T (mkF m q Ls (.int (x.toInt16.toInt32) :: st))) : Go p e below Ev T (mkF m pc Ls (.int x :: st)) := by
  subst hq
  exact K.on fun _ k => XS.i2s X.here hx rfl hd rfl k
theorem g_i2c (X : Stand p l e R s m args below meth c T locs cells slots) (hx : p.tables.exec = Jvm.exec) {pc : Nat} {Ls : Array Slot} {st : List Value} {x : Int32} (q : Nat) (hd : decode c.code pc = .ok (.i2c, 1)) (hq : pc + 1 = q)  (K : Go p e below Ev T (mkF m q Ls (.int (x.toUInt32.toUInt16.toUInt32.toInt32) :: st))) : Go p e below Ev T (mkF m pc Ls (.int x :: st)) := by
  subst hq
  exact K.on fun _ k => XS.i2c X.here hx rfl hd rfl k
theorem g_lcmp (X : Stand p l e R s m args below meth c T locs cells slots) (hx : p.tables.exec = Jvm.exec) {pc : Nat} {Ls : Array Slot} {st : List Value} {x y : Int64} (q : Nat) (hd : decode c.code pc = .ok (.lcmp, 1)) (hq : pc + 1 = q)  (K : Go p e below Ev T (mkF m q Ls (.int (lcmpW x y) :: st))) : Go p e below Ev T (mkF m pc Ls (.long y :: .long x :: st)) := by
  subst hq
  exact K.on fun _ k => XS.lcmp X.here hx rfl hd rfl k
theorem g_i2d (X : Stand p l e R s m args below meth c T locs cells slots) (hx : p.tables.exec = Jvm.exec) {pc : Nat} {Ls : Array Slot} {st : List Value} {x : Int32} (q : Nat) (hd : decode c.code pc = .ok (.i2d, 1)) (hq : pc + 1 = q)  (K : Go p e below Ev T (mkF m q Ls (.double (FP.i2d x) :: st))) : Go p e below Ev T (mkF m pc Ls (.int x :: st)) := by
  subst hq
  exact K.on fun _ k => XS.i2dS X.here hx rfl hd rfl rfl k
theorem g_l2d (X : Stand p l e R s m args below meth c T locs cells slots) (hx : p.tables.exec = Jvm.exec) {pc : Nat} {Ls : Array Slot} {st : List Value} {x : Int64} (q : Nat) (hd : decode c.code pc = .ok (.l2d, 1)) (hq : pc + 1 = q)  (K : Go p e below Ev T (mkF m q Ls (.double (FP.l2d x) :: st))) : Go p e below Ev T (mkF m pc Ls (.long x :: st)) := by
  subst hq
  exact K.on fun _ k => XS.l2dS X.here hx rfl hd rfl rfl k
theorem g_dneg (X : Stand p l e R s m args below meth c T locs cells slots) (hx : p.tables.exec = Jvm.exec) {pc : Nat} {Ls : Array Slot} {st : List Value} {x : UInt64} (q : Nat) (hd : decode c.code pc = .ok (.dneg, 1)) (hq : pc + 1 = q)  (K : Go p e below Ev T (mkF m q Ls (.double (FP.dneg x) :: st))) : Go p e below Ev T (mkF m pc Ls (.double x :: st)) := by
  subst hq
  exact K.on fun _ k => XS.dnegS X.here hx rfl hd rfl rfl k
theorem g_dadd (X : Stand p l e R s m args below meth c T locs cells slots) (hx : p.tables.exec = Jvm.exec) {pc : Nat} {Ls : Array Slot} {st : List Value} {x y : UInt64} (q : Nat) (hd : decode c.code pc = .ok (.dadd, 1)) (hq : pc + 1 = q) (hn : Jvm.Free.Fl.NoNaN64 (FP.dadd x y)) (K : Go p e below Ev T (mkF m q Ls (.double (FP.dadd x y) :: st))) : Go p e below Ev T (mkF m pc Ls (.double y :: .double x :: st)) := by
  subst hq
  exact K.on fun _ k => XS.daddS X.here hx rfl hd rfl hn rfl k
theorem g_dsub (X : Stand p l e R s m args below meth c T locs cells slots) (hx : p.tables.exec = Jvm.exec) {pc : Nat} {Ls : Array Slot} {st : List Value} {x y : UInt64} (q : Nat) (hd : decode c.code pc = .ok (.dsub, 1)) (hq : pc + 1 = q) (hn : Jvm.Free.Fl.NoNaN64 (FP.dsub x y)) (K : Go p e below Ev T (mkF m q Ls (.double (FP.dsub x y) :: st))) : Go p e below Ev T (mkF m pc Ls (.double y :: .double x :: st)) := by
  subst hq
  exact K.on fun _ k => XS.dsubS X.here hx rfl hd rfl hn rfl k
theorem g_dmul (X : Stand p l e R s m args below meth c T locs cells slots) (hx : p.tables.exec = Jvm.exec) {pc : Nat} {Ls : Array Slot} {st : List Value} {x y : UInt64} (q : Nat) (hd : decode c.code pc = .ok (.dmul, 1)) (hq : pc + 1 = q) (hn : Jvm.Free.Fl.NoNaN64 (FP.dmul x y)) (K : Go p e below Ev T (mkF m q Ls (.double (FP.dmul x y) :: st))) : Go p e below Ev T (mkF m pc Ls (.double y :: .double x :: st)) := by
  subst hq
  exact K.on fun _ k => XS.dmulS X.here hx rfl hd rfl hn rfl k
theorem g_ddiv (X : Stand p l e R s m args below meth c T locs cells slots) (hx : p.tables.exec = Jvm.exec) {pc : Nat} {Ls : Array Slot} {st : List Value} {x y : UInt64} (q : Nat) (hd : decode c.code pc = .ok (.ddiv, 1)) (hq : pc + 1 = q) (hn : Jvm.Free.Fl.NoNaN64 (FP.ddiv x y)) (K : Go p e below Ev T (mkF m q Ls (.double (FP.ddiv x y) :: st))) : Go p e below Ev T (mkF m pc Ls (.double y :: .double x :: st)) := by
  subst hq
  exact K.on fun _ k => XS.ddivS X.here hx rfl hd rfl hn rfl k
theorem g_dcmp (X : Stand p l e R s m args below meth c T locs cells slots) (hx : p.tables.exec = Jvm.exec) {pc : Nat} {Ls : Array Slot} {st : List Value} {x y : UInt64} {o : CmpOp} {r : Int32} (q : Nat) (hd : decode c.code pc = .ok (.dcmp o, 1)) (hq : pc + 1 = q) (hr : cmpValue (FP.dcmp x y) o = r) (K : Go p e below Ev T (mkF m q Ls (.int r :: st))) : Go p e below Ev T (mkF m pc Ls (.double y :: .double x :: st)) := by
  subst hq
  exact K.on fun _ k => XS.dcmpS X.here hx rfl hd rfl hr k
theorem g_dup (X : Stand p l e R s m args below meth c T locs cells slots) (hx : p.tables.exec = Jvm.exec) {pc : Nat} {Ls : Array Slot} {st : List Value} {x : Value} (q : Nat) (hd : decode c.code pc = .ok (.dup, 1)) (hq : pc + 1 = q) (hc : x.category = 1) (K : Go p e below Ev T (mkF m q Ls (x :: x :: st))) : Go p e below Ev T (mkF m pc Ls (x :: st)) := by
  subst hq
  exact K.on fun _ k => XS.dup X.here hx rfl hd rfl hc k
theorem g_pop (X : Stand p l e R s m args below meth c T locs cells slots) (hx : p.tables.exec = Jvm.exec) {pc : Nat} {Ls : Array Slot} {st : List Value} {x : Value} (q : Nat) (hd : decode c.code pc = .ok (.pop, 1)) (hq : pc + 1 = q) (hc : x.category = 1) (K : Go p e below Ev T (mkF m q Ls st)) : Go p e below Ev T (mkF m pc Ls (x :: st)) := by
  subst hq
  exact K.on fun _ k => XS.pop X.here hx rfl hd rfl hc k
theorem g_dupX1 (X : Stand p l e R s m args below meth c T locs cells slots) (hx : p.tables.exec = Jvm.exec) {pc : Nat} {Ls : Array Slot} {st : List Value} {x y : Value} (q : Nat) (hd : decode c.code pc = .ok (.dup_x1, 1)) (hq : pc + 1 = q) (hc : x.category = 1) (hc' : y.category = 1) (K : Go p e below Ev T (mkF m q Ls (x :: y :: x :: st))) : Go p e below Ev T (mkF m pc Ls (x :: y :: st)) := by
  subst hq
  exact K.on fun _ k => XS.dupX1 X.here hx rfl hd rfl hc hc' k
theorem g_dup2 (X : Stand p l e R s m args below meth c T locs cells slots) (hx : p.tables.exec = Jvm.exec) {pc : Nat} {Ls : Array Slot} {st : List Value} {x y : Value} (q : Nat) (hd : decode c.code pc = .ok (.dup2, 1)) (hq : pc + 1 = q) (hc : x.category = 1) (hc' : y.category = 1) (K : Go p e below Ev T (mkF m q Ls (x :: y :: x :: y :: st))) : Go p e below Ev T (mkF m pc Ls (x :: y :: st)) := by
  subst hq
  exact K.on fun _ k => XT.dup2 X.here hx rfl hd rfl hc hc' k
theorem g_pop2 (X : Stand p l e R s m args below meth c T locs cells slots) (hx : p.tables.exec = Jvm.exec) {pc : Nat} {Ls : Array Slot} {st : List Value} {x : Value} (q : Nat) (hd : decode c.code pc = .ok (.pop2, 1)) (hq : pc + 1 = q) (hc : x.category = 2) (K : Go p e below Ev T (mkF m q Ls st)) : Go p e below Ev T (mkF m pc Ls (x :: st)) := by
  subst hq
  refine K.on fun t k => ?_
  jvm_step X.here [X.here.top, hx, hd, Op.pop2.wp_sem, hc]
  exact k
theorem g_ldcI (X : Stand p l e R s m args below meth c T locs cells slots) (hx : p.tables.exec = Jvm.exec) {pc : Nat} {Ls : Array Slot} {st : List Value} {own : String} {i : Nat} {v : Int32} (q : Nat) (hZ : Z.Warmed39 s.vm) (hown : s.vm.findClass own = some m.cls) (w : (Jvm.Cond.constant own i v).before a0 Z = true) (hd : decode c.code pc = .ok (.ldc i, 2)) (hq : pc + 2 = q) (K : Go p e below Ev T (mkF m q Ls (.int v :: st))) : Go p e below Ev T (mkF m pc Ls st) := by
  subst hq
  exact K.on fun _ k => X.ldcI hx hown (mvT hZ w) rfl hd k
theorem g_ldcWI (X : Stand p l e R s m args below meth c T locs cells slots) (hx : p.tables.exec = Jvm.exec) {pc : Nat} {Ls : Array Slot} {st : List Value} {own : String} {i : Nat} {v : Int32} (q : Nat) (hZ : Z.Warmed39 s.vm) (hown : s.vm.findClass own = some m.cls) (w : (Jvm.Cond.constant own i v).before a0 Z = true) (hd : decode c.code pc = .ok (.ldc_w i, 3)) (hq : pc + 3 = q) (K : Go p e below Ev T (mkF m q Ls (.int v :: st))) : Go p e below Ev T (mkF m pc Ls st) := by
  subst hq
  exact K.on fun _ k => X.ldcWI hx hown (mvT hZ w) rfl hd k
theorem g_ldc2J (X : Stand p l e R s m args below meth c T locs cells slots) (hx : p.tables.exec = Jvm.exec) {pc : Nat} {Ls : Array Slot} {st : List Value} {own : String} {i : Nat} {v : Int64} (q : Nat) (hZ : Z.Warmed39 s.vm) (hown : s.vm.findClass own = some m.cls) (w : (Jvm.Cond.constantLong own i v).before a0 Z = true) (hd : decode c.code pc = .ok (.ldc2_w i, 3)) (hq : pc + 3 = q) (K : Go p e below Ev T (mkF m q Ls (.long v :: st))) : Go p e below Ev T (mkF m pc Ls st) := by
  subst hq
  exact K.on fun _ k => X.ldc2J hx hown (mvT hZ w) rfl hd k
theorem g_ldc2D (X : Stand p l e R s m args below meth c T locs cells slots) (hx : p.tables.exec = Jvm.exec) {pc : Nat} {Ls : Array Slot} {st : List Value} {own : String} {i : Nat} {v : UInt64} (q : Nat) (hZ : Z.Warmed39 s.vm) (hown : s.vm.findClass own = some m.cls) (w : (Jvm.Cond.constantDouble own i v).before a0 Z = true) (hd : decode c.code pc = .ok (.ldc2_w i, 3)) (hq : pc + 3 = q) (K : Go p e below Ev T (mkF m q Ls (.double v :: st))) : Go p e below Ev T (mkF m pc Ls st) := by
  subst hq
  exact K.on (X.ldc2DoubleC hx hown (mvT hZ w) (g := mkF m pc Ls st) rfl hd)
theorem g_goto (X : Stand p l e R s m args below meth c T locs cells slots) (hx : p.tables.exec = Jvm.exec) {pc : Nat} {Ls : Array Slot} {st : List Value} {o : Int} (q : Nat) (hd : decode c.code pc = .ok (.goto o, 3)) (ho : 0 ≤ (pc : Int) + o) (hq : ((pc : Int) + o).toNat = q) (K : Go p e below Ev T (mkF m q Ls st)) : Go p e below Ev T (mkF m pc Ls st) :=
  K.on fun _ k => XS.goto X.here hx rfl rfl hd ho hq k
theorem own_i0 (x : Int32) : (x < 0 ↔ x.toInt < 0) ∧ (0 < x ↔ 0 < x.toInt) ∧ (x = 0 ↔ x.toInt = 0) := by
  refine ⟨by rw [Int32.lt_iff_toInt_lt]; simp, by rw [Int32.lt_iff_toInt_lt]; simp, ?_⟩
  rw [← Int32.toInt_inj]; simp
theorem g_if_eq (X : Stand p l e R s m args below meth c T locs cells slots) (hx : p.tables.exec = Jvm.exec) {pc : Nat} {Ls : Array Slot} {st : List Value} {x : Int32} {o : Int} (q1 q2 : Nat) (hd : decode c.code pc = .ok (.ifCond .eq o, 3)) (ho : 0 ≤ (pc : Int) + o) (h1 : ((pc : Int) + o).toNat = q1) (h2 : pc + 3 = q2) (Kt : x.toInt = 0 → Go p e below Ev T (mkF m q1 Ls st)) (Kf : x.toInt ≠ 0 → Go p e below Ev T (mkF m q2 Ls st)) : Go p e below Ev T (mkF m pc Ls (.int x :: st)) := by
  have Q := own_i0 x
  by_cases hc : x = 0
  · exact (Kt (by first | omega | (simp only [Q] at hc; omega))).on fun _ k => XS.ifYes X.here hx rfl rfl hd rfl (XT.i0_eq_t (by simpa using hc)) ho h1 k
  · subst h2
    exact (Kf (by first | omega | (simp only [Q] at hc; omega))).on fun _ k => XS.ifNo X.here hx rfl hd rfl (XT.i0_eq_f (by simpa using hc)) k
theorem g_if_ne (X : Stand p l e R s m args below meth c T locs cells slots) (hx : p.tables.exec = Jvm.exec) {pc : Nat} {Ls : Array Slot} {st : List Value} {x : Int32} {o : Int} (q1 q2 : Nat) (hd : decode c.code pc = .ok (.ifCond .ne o, 3)) (ho : 0 ≤ (pc : Int) + o) (h1 : ((pc : Int) + o).toNat = q1) (h2 : pc + 3 = q2) (Kt : x.toInt ≠ 0 → Go p e below Ev T (mkF m q1 Ls st)) (Kf : x.toInt = 0 → Go p e below Ev T (mkF m q2 Ls st)) : Go p e below Ev T (mkF m pc Ls (.int x :: st)) := by
  have Q := own_i0 x
  by_cases hc : ¬ x = 0
  · exact (Kt (by first | omega | (simp only [Q] at hc; omega))).on fun _ k => XS.ifYes X.here hx rfl rfl hd rfl (XT.i0_ne_t (by simpa using hc)) ho h1 k
  · subst h2
    exact (Kf (by first | omega | (simp only [Q] at hc; omega))).on fun _ k => XS.ifNo X.here hx rfl hd rfl (XT.i0_ne_f (by simpa using hc)) k
theorem g_if_lt (X : Stand p l e R s m args below meth c T locs cells slots) (hx : p.tables.exec = Jvm.exec) {pc : Nat} {Ls : Array Slot} {st : List Value} {x : Int32} {o : Int} (q1 q2 : Nat) (hd : decode c.code pc = .ok (.ifCond .lt o, 3)) (ho : 0 ≤ (pc : Int) + o) (h1 : ((pc : Int) + o).toNat = q1) (h2 : pc + 3 = q2) (Kt : x.toInt < 0 → Go p e below Ev T (mkF m q1 Ls st)) (Kf : 0 ≤ x.toInt → Go p e below Ev T (mkF m q2 Ls st)) : Go p e below Ev T (mkF m pc Ls (.int x :: st)) := by
  have Q := own_i0 x
  by_cases hc : x < 0
  · exact (Kt (by first | omega | (simp only [Q] at hc; omega))).on fun _ k => XS.ifYes X.here hx rfl rfl hd rfl (XT.i0_lt_t (by simpa using hc)) ho h1 k
  · subst h2
    exact (Kf (by first | omega | (simp only [Q] at hc; omega))).on fun _ k => XS.ifNo X.here hx rfl hd rfl (XT.i0_lt_f (by simpa using hc)) k
theorem g_if_ge (X : Stand p l e R s m args below meth c T locs cells slots) (hx : p.tables.exec = Jvm.exec) {pc : Nat} {Ls : Array Slot} {st : List Value} {x : Int32} {o : Int} (q1 q2 : Nat) (hd : decode c.code pc = .ok (.ifCond .ge o, 3)) (ho : 0 ≤ (pc : Int) + o) (h1 : ((pc : Int) + o).toNat = q1) (h2 : pc + 3 = q2) (Kt : 0 ≤ x.toInt → Go p e below Ev T (mkF m q1 Ls st)) (Kf : x.toInt < 0 → Go p e below Ev T (mkF m q2 Ls st)) : Go p e below Ev T (mkF m pc Ls (.int x :: st)) := by
  have Q := own_i0 x
  by_cases hc : ¬ x < 0
  · exact (Kt (by first | omega | (simp only [Q] at hc; omega))).on fun _ k => XS.ifYes X.here hx rfl rfl hd rfl (XT.i0_ge_t (by simpa using hc)) ho h1 k
  · subst h2
    exact (Kf (by first | omega | (simp only [Q] at hc; omega))).on fun _ k => XS.ifNo X.here hx rfl hd rfl (XT.i0_ge_f (by simpa using hc)) k
theorem g_if_gt (X : Stand p l e R s m args below meth c T locs cells slots) (hx : p.tables.exec = Jvm.exec) {pc : Nat} {Ls : Array Slot} {st : List Value} {x : Int32} {o : Int} (q1 q2 : Nat) (hd : decode c.code pc = .ok (.ifCond .gt o, 3)) (ho : 0 ≤ (pc : Int) + o) (h1 : ((pc : Int) + o).toNat = q1) (h2 : pc + 3 = q2) (Kt : 0 < x.toInt → Go p e below Ev T (mkF m q1 Ls st)) (Kf : x.toInt ≤ 0 → Go p e below Ev T (mkF m q2 Ls st)) : Go p e below Ev T (mkF m pc Ls (.int x :: st)) := by
  have Q := own_i0 x
  by_cases hc : 0 < x
  · exact (Kt (by first | omega | (simp only [Q] at hc; omega))).on fun _ k => XS.ifYes X.here hx rfl rfl hd rfl (XT.i0_gt_t (by simpa using hc)) ho h1 k
  · subst h2
    exact (Kf (by first | omega | (simp only [Q] at hc; omega))).on fun _ k => XS.ifNo X.here hx rfl hd rfl (XT.i0_gt_f (by simpa using hc)) k
theorem g_if_le (X : Stand p l e R s m args below meth c T locs cells slots) (hx : p.tables.exec = Jvm.exec) {pc : Nat} {Ls : Array Slot} {st : List Value} {x : Int32} {o : Int} (q1 q2 : Nat) (hd : decode c.code pc = .ok (.ifCond .le o, 3)) (ho : 0 ≤ (pc : Int) + o) (h1 : ((pc : Int) + o).toNat = q1) (h2 : pc + 3 = q2) (Kt : x.toInt ≤ 0 → Go p e below Ev T (mkF m q1 Ls st)) (Kf : 0 < x.toInt → Go p e below Ev T (mkF m q2 Ls st)) : Go p e below Ev T (mkF m pc Ls (.int x :: st)) := by
  have Q := own_i0 x
  by_cases hc : ¬ 0 < x
  · exact (Kt (by first | omega | (simp only [Q] at hc; omega))).on fun _ k => XS.ifYes X.here hx rfl rfl hd rfl (XT.i0_le_t (by simpa using hc)) ho h1 k
  · subst h2
    exact (Kf (by first | omega | (simp only [Q] at hc; omega))).on fun _ k => XS.ifNo X.here hx rfl hd rfl (XT.i0_le_f (by simpa using hc)) k
theorem own_ii (x y : Int32) : (x < y ↔ x.toInt < y.toInt) ∧ (y < x ↔ y.toInt < x.toInt) ∧ (x = y ↔ x.toInt = y.toInt) := by
  exact ⟨Int32.lt_iff_toInt_lt, Int32.lt_iff_toInt_lt, Int32.toInt_inj.symm⟩
theorem g_ic_eq (X : Stand p l e R s m args below meth c T locs cells slots) (hx : p.tables.exec = Jvm.exec) {pc : Nat} {Ls : Array Slot} {st : List Value} {x y : Int32} {o : Int} (q1 q2 : Nat) (hd : decode c.code pc = .ok (.if_icmp .eq o, 3)) (ho : 0 ≤ (pc : Int) + o) (h1 : ((pc : Int) + o).toNat = q1) (h2 : pc + 3 = q2) (Kt : x.toInt = y.toInt → Go p e below Ev T (mkF m q1 Ls st)) (Kf : x.toInt ≠ y.toInt → Go p e below Ev T (mkF m q2 Ls st)) : Go p e below Ev T (mkF m pc Ls (.int y :: .int x :: st)) := by
  have Q := own_ii x y
  by_cases hc : x = y
  · exact (Kt (by first | omega | (simp only [Q] at hc; omega))).on fun _ k => XS.icmpYes X.here hx rfl rfl hd rfl (XT.ii_eq_t (by simpa using hc)) ho h1 k
  · subst h2
    exact (Kf (by first | omega | (simp only [Q] at hc; omega))).on fun _ k => XS.icmpNo X.here hx rfl hd rfl (XT.ii_eq_f (by simpa using hc)) k
theorem g_ic_ne (X : Stand p l e R s m args below meth c T locs cells slots) (hx : p.tables.exec = Jvm.exec) {pc : Nat} {Ls : Array Slot} {st : List Value} {x y : Int32} {o : Int} (q1 q2 : Nat) (hd : decode c.code pc = .ok (.if_icmp .ne o, 3)) (ho : 0 ≤ (pc : Int) + o) (h1 : ((pc : Int) + o).toNat = q1) (h2 : pc + 3 = q2) (Kt : x.toInt ≠ y.toInt → Go p e below Ev T (mkF m q1 Ls st)) (Kf : x.toInt = y.toInt → Go p e below Ev T (mkF m q2 Ls st)) : Go p e below Ev T (mkF m pc Ls (.int y :: .int x :: st)) := by
  have Q := own_ii x y
  by_cases hc : ¬ x = y
  · exact (Kt (by first | omega | (simp only [Q] at hc; omega))).on fun _ k => XS.icmpYes X.here hx rfl rfl hd rfl (XT.ii_ne_t (by simpa using hc)) ho h1 k
  · subst h2
    exact (Kf (by first | omega | (simp only [Q] at hc; omega))).on fun _ k => XS.icmpNo X.here hx rfl hd rfl (XT.ii_ne_f (by simpa using hc)) k
theorem g_ic_lt (X : Stand p l e R s m args below meth c T locs cells slots) (hx : p.tables.exec = Jvm.exec) {pc : Nat} {Ls : Array Slot} {st : List Value} {x y : Int32} {o : Int} (q1 q2 : Nat) (hd : decode c.code pc = .ok (.if_icmp .lt o, 3)) (ho : 0 ≤ (pc : Int) + o) (h1 : ((pc : Int) + o).toNat = q1) (h2 : pc + 3 = q2) (Kt : x.toInt < y.toInt → Go p e below Ev T (mkF m q1 Ls st)) (Kf : y.toInt ≤ x.toInt → Go p e below Ev T (mkF m q2 Ls st)) : Go p e below Ev T (mkF m pc Ls (.int y :: .int x :: st)) := by
  have Q := own_ii x y
  by_cases hc : x < y
  · exact (Kt (by first | omega | (simp only [Q] at hc; omega))).on fun _ k => XS.icmpYes X.here hx rfl rfl hd rfl (XT.ii_lt_t (by simpa using hc)) ho h1 k
  · subst h2
    exact (Kf (by first | omega | (simp only [Q] at hc; omega))).on fun _ k => XS.icmpNo X.here hx rfl hd rfl (XT.ii_lt_f (by simpa using hc)) k
theorem g_ic_ge (X : Stand p l e R s m args below meth c T locs cells slots) (hx : p.tables.exec = Jvm.exec) {pc : Nat} {Ls : Array Slot} {st : List Value} {x y : Int32} {o : Int} (q1 q2 : Nat) (hd : decode c.code pc = .ok (.if_icmp .ge o, 3)) (ho : 0 ≤ (pc : Int) + o) (h1 : ((pc : Int) + o).toNat = q1) (h2 : pc + 3 = q2) (Kt : y.toInt ≤ x.toInt → Go p e below Ev T (mkF m q1 Ls st)) (Kf : x.toInt < y.toInt → Go p e below Ev T (mkF m q2 Ls st)) : Go p e below Ev T (mkF m pc Ls (.int y :: .int x :: st)) := by
  have Q := own_ii x y
  by_cases hc : ¬ x < y
  · exact (Kt (by first | omega | (simp only [Q] at hc; omega))).on fun _ k => XS.icmpYes X.here hx rfl rfl hd rfl (XT.ii_ge_t (by simpa using hc)) ho h1 k
  · subst h2
    exact (Kf (by first | omega | (simp only [Q] at hc; omega))).on fun _ k => XS.icmpNo X.here hx rfl hd rfl (XT.ii_ge_f (by simpa using hc)) k
theorem g_ic_gt (X : Stand p l e R s m args below meth c T locs cells slots) (hx : p.tables.exec = Jvm.exec) {pc : Nat} {Ls : Array Slot} {st : List Value} {x y : Int32} {o : Int} (q1 q2 : Nat) (hd : decode c.code pc = .ok (.if_icmp .gt o, 3)) (ho : 0 ≤ (pc : Int) + o) (h1 : ((pc : Int) + o).toNat = q1) (h2 : pc + 3 = q2) (Kt : y.toInt < x.toInt → Go p e below Ev T (mkF m q1 Ls st)) (Kf : x.toInt ≤ y.toInt → Go p e below Ev T (mkF m q2 Ls st)) : Go p e below Ev T (mkF m pc Ls (.int y :: .int x :: st)) := by
  have Q := own_ii x y
  by_cases hc : y < x
  · exact (Kt (by first | omega | (simp only [Q] at hc; omega))).on fun _ k => XS.icmpYes X.here hx rfl rfl hd rfl (XT.ii_gt_t (by simpa using hc)) ho h1 k
  · subst h2
    exact (Kf (by first | omega | (simp only [Q] at hc; omega))).on fun _ k => XS.icmpNo X.here hx rfl hd rfl (XT.ii_gt_f (by simpa using hc)) k
theorem g_ic_le (X : Stand p l e R s m args below meth c T locs cells slots) (hx : p.tables.exec = Jvm.exec) {pc : Nat} {Ls : Array Slot} {st : List Value} {x y : Int32} {o : Int} (q1 q2 : Nat) (hd : decode c.code pc = .ok (.if_icmp .le o, 3)) (ho : 0 ≤ (pc : Int) + o) (h1 : ((pc : Int) + o).toNat = q1) (h2 : pc + 3 = q2) (Kt : x.toInt ≤ y.toInt → Go p e below Ev T (mkF m q1 Ls st)) (Kf : y.toInt < x.toInt → Go p e below Ev T (mkF m q2 Ls st)) : Go p e below Ev T (mkF m pc Ls (.int y :: .int x :: st)) := by
  have Q := own_ii x y
  by_cases hc : ¬ y < x
  · exact (Kt (by first | omega | (simp only [Q] at hc; omega))).on fun _ k => XS.icmpYes X.here hx rfl rfl hd rfl (XT.ii_le_t (by simpa using hc)) ho h1 k
  · subst h2
    exact (Kf (by first | omega | (simp only [Q] at hc; omega))).on fun _ k => XS.icmpNo X.here hx rfl hd rfl (XT.ii_le_f (by simpa using hc)) k
theorem g_lc_eq (X : Stand p l e R s m args below meth c T locs cells slots) (hx : p.tables.exec = Jvm.exec) {pc : Nat} {Ls : Array Slot} {st : List Value} {x y : Int64} {o : Int} (q0 q1 q2 : Nat) (hd0 : decode c.code pc = .ok (.lcmp, 1)) (h0 : pc + 1 = q0) (hd : decode c.code q0 = .ok (.ifCond .eq o, 3)) (ho : 0 ≤ (q0 : Int) + o) (h1 : ((q0 : Int) + o).toNat = q1) (h2 : q0 + 3 = q2) (Kt : x.toInt = y.toInt → Go p e below Ev T (mkF m q1 Ls st)) (Kf : x.toInt ≠ y.toInt → Go p e below Ev T (mkF m q2 Ls st)) : Go p e below Ev T (mkF m pc Ls (.long y :: .long x :: st)) := by
  have Q := c_lcmp x y
  have C : x.toInt < y.toInt ∨ x.toInt = y.toInt ∨ y.toInt < x.toInt := by omega
  refine g_lcmp X hx q0 hd0 h0 (g_if_eq X hx q1 q2 hd ho h1 h2 (fun hc => Kt ?_) (fun hc => Kf ?_)) <;> (rcases C with C | C | C <;> first | (have := Q.1 C; omega) | (have := Q.2.1 C; omega) | (have := Q.2.2 C; omega))
theorem g_lc_ne (X : Stand p l e R s m args below meth c T locs cells slots) (hx : p.tables.exec = Jvm.exec) {pc : Nat} {Ls : Array Slot} {st : List Value} {x y : Int64} {o : Int} (q0 q1 q2 : Nat) (hd0 : decode c.code pc = .ok (.lcmp, 1)) (h0 : pc + 1 = q0) (hd : decode c.code q0 = .ok (.ifCond .ne o, 3)) (ho : 0 ≤ (q0 : Int) + o) (h1 : ((q0 : Int) + o).toNat = q1) (h2 : q0 + 3 = q2) (Kt : x.toInt ≠ y.toInt → Go p e below Ev T (mkF m q1 Ls st)) (Kf : x.toInt = y.toInt → Go p e below Ev T (mkF m q2 Ls st)) : Go p e below Ev T (mkF m pc Ls (.long y :: .long x :: st)) := by
  have Q := c_lcmp x y
  have C : x.toInt < y.toInt ∨ x.toInt = y.toInt ∨ y.toInt < x.toInt := by omega
  refine g_lcmp X hx q0 hd0 h0 (g_if_ne X hx q1 q2 hd ho h1 h2 (fun hc => Kt ?_) (fun hc => Kf ?_)) <;> (rcases C with C | C | C <;> first | (have := Q.1 C; omega) | (have := Q.2.1 C; omega) | (have := Q.2.2 C; omega))
theorem g_lc_lt (X : Stand p l e R s m args below meth c T locs cells slots) (hx : p.tables.exec = Jvm.exec) {pc : Nat} {Ls : Array Slot} {st : List Value} {x y : Int64} {o : Int} (q0 q1 q2 : Nat) (hd0 : decode c.code pc = .ok (.lcmp, 1)) (h0 : pc + 1 = q0) (hd : decode c.code q0 = .ok (.ifCond .lt o, 3)) (ho : 0 ≤ (q0 : Int) + o) (h1 : ((q0 : Int) + o).toNat = q1) (h2 : q0 + 3 = q2) (Kt : x.toInt < y.toInt → Go p e below Ev T (mkF m q1 Ls st)) (Kf : y.toInt ≤ x.toInt → Go p e below Ev T (mkF m q2 Ls st)) : Go p e below Ev T (mkF m pc Ls (.long y :: .long x :: st)) := by
  have Q := c_lcmp x y
  have C : x.toInt < y.toInt ∨ x.toInt = y.toInt ∨ y.toInt < x.toInt := by omega
  refine g_lcmp X hx q0 hd0 h0 (g_if_lt X hx q1 q2 hd ho h1 h2 (fun hc => Kt ?_) (fun hc => Kf ?_)) <;> (rcases C with C | C | C <;> first | (have := Q.1 C; omega) | (have := Q.2.1 C; omega) | (have := Q.2.2 C; omega))
theorem g_lc_ge (X : Stand p l e R s m args below meth c T locs cells slots) (hx : p.tables.exec = Jvm.exec) {pc : Nat} {Ls : Array Slot} {st : List Value} {x y : Int64} {o : Int} (q0 q1 q2 : Nat) (hd0 : decode c.code pc = .ok (.lcmp, 1)) (h0 : pc + 1 = q0) (hd : decode c.code q0 = .ok (.ifCond .ge o, 3)) (ho : 0 ≤ (q0 : Int) + o) (h1 : ((q0 : Int) + o).toNat = q1) (h2 : q0 + 3 = q2) (Kt : y.toInt ≤ x.toInt → Go p e below Ev T (mkF m q1 Ls st)) (Kf : x.toInt < y.toInt → Go p e below Ev T (mkF m q2 Ls st)) : Go p e below Ev T (mkF m pc Ls (.long y :: .long x :: st)) := by
  have Q := c_lcmp x y
  have C : x.toInt < y.toInt ∨ x.toInt = y.toInt ∨ y.toInt < x.toInt := by omega
  refine g_lcmp X hx q0 hd0 h0 (g_if_ge X hx q1 q2 hd ho h1 h2 (fun hc => Kt ?_) (fun hc => Kf ?_)) <;> (rcases C with C | C | C <;> first | (have := Q.1 C; omega) | (have := Q.2.1 C; omega) | (have := Q.2.2 C; omega))
theorem g_lc_gt (X : Stand p l e R s m args below meth c T locs cells slots) (hx : p.tables.exec = Jvm.exec) {pc : Nat} {Ls : Array Slot} {st : List Value} {x y : Int64} {o : Int} (q0 q1 q2 : Nat) (hd0 : decode c.code pc = .ok (.lcmp, 1)) (h0 : pc + 1 = q0) (hd : decode c.code q0 = .ok (.ifCond .gt o, 3)) (ho : 0 ≤ (q0 : Int) + o) (h1 : ((q0 : Int) + o).toNat = q1) (h2 : q0 + 3 = q2) (Kt : y.toInt < x.toInt → Go p e below Ev T (mkF m q1 Ls st)) (Kf : x.toInt ≤ y.toInt → Go p e below Ev T (mkF m q2 Ls st)) : Go p e below Ev T (mkF m pc Ls (.long y :: .long x :: st)) := by
  have Q := c_lcmp x y
  have C : x.toInt < y.toInt ∨ x.toInt = y.toInt ∨ y.toInt < x.toInt := by omega
  refine g_lcmp X hx q0 hd0 h0 (g_if_gt X hx q1 q2 hd ho h1 h2 (fun hc => Kt ?_) (fun hc => Kf ?_)) <;> (rcases C with C | C | C <;> first | (have := Q.1 C; omega) | (have := Q.2.1 C; omega) | (have := Q.2.2 C; omega))
theorem g_lc_le (X : Stand p l e R s m args below meth c T locs cells slots) (hx : p.tables.exec = Jvm.exec) {pc : Nat} {Ls : Array Slot} {st : List Value} {x y : Int64} {o : Int} (q0 q1 q2 : Nat) (hd0 : decode c.code pc = .ok (.lcmp, 1)) (h0 : pc + 1 = q0) (hd : decode c.code q0 = .ok (.ifCond .le o, 3)) (ho : 0 ≤ (q0 : Int) + o) (h1 : ((q0 : Int) + o).toNat = q1) (h2 : q0 + 3 = q2) (Kt : x.toInt ≤ y.toInt → Go p e below Ev T (mkF m q1 Ls st)) (Kf : y.toInt < x.toInt → Go p e below Ev T (mkF m q2 Ls st)) : Go p e below Ev T (mkF m pc Ls (.long y :: .long x :: st)) := by
  have Q := c_lcmp x y
  have C : x.toInt < y.toInt ∨ x.toInt = y.toInt ∨ y.toInt < x.toInt := by omega
  refine g_lcmp X hx q0 hd0 h0 (g_if_le X hx q1 q2 hd ho h1 h2 (fun hc => Kt ?_) (fun hc => Kf ?_)) <;> (rcases C with C | C | C <;> first | (have := Q.1 C; omega) | (have := Q.2.1 C; omega) | (have := Q.2.2 C; omega))
theorem own_cmpv (i j : Int) (o : CmpOp) : (i < j → (cmpValue (some (compare i j)) o).toInt = -1) ∧ (i = j → (cmpValue (some (compare i j)) o).toInt = 0) ∧ (j < i → (cmpValue (some (compare i j)) o).toInt = 1) := by
  refine ⟨fun q => ?_, fun q => ?_, fun q => ?_⟩
  · rw [show compare i j = .lt from by rw [Jvm.FP.Core.compare_ite]; simp [q]]; cases o <;> rfl
  · rw [show compare i j = .eq from by rw [Jvm.FP.Core.compare_ite]; simp [q]]; cases o <;> rfl
  · rw [show compare i j = .gt from by rw [Jvm.FP.Core.compare_ite]; simp [show ¬ i < j by omega, show ¬ i = j by omega]]; cases o <;> rfl
theorem g_dc_eq (X : Stand p l e R s m args below meth c T locs cells slots) (hx : p.tables.exec = Jvm.exec) {pc : Nat} {Ls : Array Slot} {st : List Value} {x y : UInt64} {oo : CmpOp} {i j : Int} {o : Int} (q0 q1 q2 : Nat) (hd0 : decode c.code pc = .ok (.dcmp oo, 1)) (h0 : pc + 1 = q0) (hd : decode c.code q0 = .ok (.ifCond .eq o, 3)) (ho : 0 ≤ (q0 : Int) + o) (h1 : ((q0 : Int) + o).toNat = q1) (h2 : q0 + 3 = q2) (hv : FP.dcmp x y = some (compare i j)) (Kt : i = j → Go p e below Ev T (mkF m q1 Ls st)) (Kf : i ≠ j → Go p e below Ev T (mkF m q2 Ls st)) : Go p e below Ev T (mkF m pc Ls (.double y :: .double x :: st)) := by
  have Q := own_cmpv i j oo
  have C : i < j ∨ i = j ∨ j < i := by omega
  refine g_dcmp X hx q0 hd0 h0 (by rw [hv]) (g_if_eq X hx q1 q2 hd ho h1 h2 (fun hc => Kt ?_) (fun hc => Kf ?_)) <;> (rcases C with C | C | C <;> first | (have := Q.1 C; omega) | (have := Q.2.1 C; omega) | (have := Q.2.2 C; omega))
theorem g_dc_ne (X : Stand p l e R s m args below meth c T locs cells slots) (hx : p.tables.exec = Jvm.exec) {pc : Nat} {Ls : Array Slot} {st : List Value} {x y : UInt64} {oo : CmpOp} {i j : Int} {o : Int} (q0 q1 q2 : Nat) (hd0 : decode c.code pc = .ok (.dcmp oo, 1)) (h0 : pc + 1 = q0) (hd : decode c.code q0 = .ok (.ifCond .ne o, 3)) (ho : 0 ≤ (q0 : Int) + o) (h1 : ((q0 : Int) + o).toNat = q1) (h2 : q0 + 3 = q2) (hv : FP.dcmp x y = some (compare i j)) (Kt : i ≠ j → Go p e below Ev T (mkF m q1 Ls st)) (Kf : i = j → Go p e below Ev T (mkF m q2 Ls st)) : Go p e below Ev T (mkF m pc Ls (.double y :: .double x :: st)) := by
  have Q := own_cmpv i j oo
  have C : i < j ∨ i = j ∨ j < i := by omega
  refine g_dcmp X hx q0 hd0 h0 (by rw [hv]) (g_if_ne X hx q1 q2 hd ho h1 h2 (fun hc => Kt ?_) (fun hc => Kf ?_)) <;> (rcases C with C | C | C <;> first | (have := Q.1 C; omega) | (have := Q.2.1 C; omega) | (have := Q.2.2 C; omega))
theorem g_dc_lt (X : Stand p l e R s m args below meth c T locs cells slots) (hx : p.tables.exec = Jvm.exec) {pc : Nat} {Ls : Array Slot} {st : List Value} {x y : UInt64} {oo : CmpOp} {i j : Int} {o : Int} (q0 q1 q2 : Nat) (hd0 : decode c.code pc = .ok (.dcmp oo, 1)) (h0 : pc + 1 = q0) (hd : decode c.code q0 = .ok (.ifCond .lt o, 3)) (ho : 0 ≤ (q0 : Int) + o) (h1 : ((q0 : Int) + o).toNat = q1) (h2 : q0 + 3 = q2) (hv : FP.dcmp x y = some (compare i j)) (Kt : i < j → Go p e below Ev T (mkF m q1 Ls st)) (Kf : j ≤ i → Go p e below Ev T (mkF m q2 Ls st)) : Go p e below Ev T (mkF m pc Ls (.double y :: .double x :: st)) := by
  have Q := own_cmpv i j oo
  have C : i < j ∨ i = j ∨ j < i := by omega
  refine g_dcmp X hx q0 hd0 h0 (by rw [hv]) (g_if_lt X hx q1 q2 hd ho h1 h2 (fun hc => Kt ?_) (fun hc => Kf ?_)) <;> (rcases C with C | C | C <;> first | (have := Q.1 C; omega) | (have := Q.2.1 C; omega) | (have := Q.2.2 C; omega))
theorem g_dc_ge (X : Stand p l e R s m args below meth c T locs cells slots) (hx : p.tables.exec = Jvm.exec) {pc : Nat} {Ls : Array Slot} {st : List Value} {x y : UInt64} {oo : CmpOp} {i j : Int} {o : Int} (q0 q1 q2 : Nat) (hd0 : decode c.code pc = .ok (.dcmp oo, 1)) (h0 : pc + 1 = q0) (hd : decode c.code q0 = .ok (.ifCond .ge o, 3)) (ho : 0 ≤ (q0 : Int) + o) (h1 : ((q0 : Int) + o).toNat = q1) (h2 : q0 + 3 = q2) (hv : FP.dcmp x y = some (compare i j)) (Kt : j ≤ i → Go p e below Ev T (mkF m q1 Ls st)) (Kf : i < j → Go p e below Ev T (mkF m q2 Ls st)) : Go p e below Ev T (mkF m pc Ls (.double y :: .double x :: st)) := by
  have Q := own_cmpv i j oo
  have C : i < j ∨ i = j ∨ j < i := by omega
  refine g_dcmp X hx q0 hd0 h0 (by rw [hv]) (g_if_ge X hx q1 q2 hd ho h1 h2 (fun hc => Kt ?_) (fun hc => Kf ?_)) <;> (rcases C with C | C | C <;> first | (have := Q.1 C; omega) | (have := Q.2.1 C; omega) | (have := Q.2.2 C; omega))
theorem g_dc_gt (X : Stand p l e R s m args below meth c T locs cells slots) (hx : p.tables.exec = Jvm.exec) {pc : Nat} {Ls : Array Slot} {st : List Value} {x y : UInt64} {oo : CmpOp} {i j : Int} {o : Int} (q0 q1 q2 : Nat) (hd0 : decode c.code pc = .ok (.dcmp oo, 1)) (h0 : pc + 1 = q0) (hd : decode c.code q0 = .ok (.ifCond .gt o, 3)) (ho : 0 ≤ (q0 : Int) + o) (h1 : ((q0 : Int) + o).toNat = q1) (h2 : q0 + 3 = q2) (hv : FP.dcmp x y = some (compare i j)) (Kt : j < i → Go p e below Ev T (mkF m q1 Ls st)) (Kf : i ≤ j → Go p e below Ev T (mkF m q2 Ls st)) : Go p e below Ev T (mkF m pc Ls (.double y :: .double x :: st)) := by
  have Q := own_cmpv i j oo
  have C : i < j ∨ i = j ∨ j < i := by omega
  refine g_dcmp X hx q0 hd0 h0 (by rw [hv]) (g_if_gt X hx q1 q2 hd ho h1 h2 (fun hc => Kt ?_) (fun hc => Kf ?_)) <;> (rcases C with C | C | C <;> first | (have := Q.1 C; omega) | (have := Q.2.1 C; omega) | (have := Q.2.2 C; omega))
theorem g_dc_le (X : Stand p l e R s m args below meth c T locs cells slots) (hx : p.tables.exec = Jvm.exec) {pc : Nat} {Ls : Array Slot} {st : List Value} {x y : UInt64} {oo : CmpOp} {i j : Int} {o : Int} (q0 q1 q2 : Nat) (hd0 : decode c.code pc = .ok (.dcmp oo, 1)) (h0 : pc + 1 = q0) (hd : decode c.code q0 = .ok (.ifCond .le o, 3)) (ho : 0 ≤ (q0 : Int) + o) (h1 : ((q0 : Int) + o).toNat = q1) (h2 : q0 + 3 = q2) (hv : FP.dcmp x y = some (compare i j)) (Kt : i ≤ j → Go p e below Ev T (mkF m q1 Ls st)) (Kf : j < i → Go p e below Ev T (mkF m q2 Ls st)) : Go p e below Ev T (mkF m pc Ls (.double y :: .double x :: st)) := by
  have Q := own_cmpv i j oo
  have C : i < j ∨ i = j ∨ j < i := by omega
  refine g_dcmp X hx q0 hd0 h0 (by rw [hv]) (g_if_le X hx q1 q2 hd ho h1 h2 (fun hc => Kt ?_) (fun hc => Kf ?_)) <;> (rcases C with C | C | C <;> first | (have := Q.1 C; omega) | (have := Q.2.1 C; omega) | (have := Q.2.2 C; omega))
theorem g_ifnull_t (X : Stand p l e R s m args below meth c T locs cells slots) (hx : p.tables.exec = Jvm.exec) {pc : Nat} {Ls : Array Slot} {st : List Value} {o : Int} (q : Nat) (hd : decode c.code pc = .ok (.ifnull o, 3)) (ho : 0 ≤ (pc : Int) + o) (h1 : ((pc : Int) + o).toNat = q) (K : Go p e below Ev T (mkF m q Ls st)) : Go p e below Ev T (mkF m pc Ls (.null :: st)) :=
  K.on fun _ k => XS.ifnullYes X.here hx rfl rfl hd rfl ho h1 k
theorem g_ifnull_f (X : Stand p l e R s m args below meth c T locs cells slots) (hx : p.tables.exec = Jvm.exec) {pc : Nat} {Ls : Array Slot} {st : List Value} {o : Int} {b : Addr} (q : Nat) (hd : decode c.code pc = .ok (.ifnull o, 3)) (h1 : pc + 3 = q) (K : Go p e below Ev T (mkF m q Ls st)) : Go p e below Ev T (mkF m pc Ls (.ref b :: st)) := by
  subst h1
  exact K.on fun _ k => XS.ifnullNo X.here hx rfl hd rfl k
theorem g_ifnonnull_t (X : Stand p l e R s m args below meth c T locs cells slots) (hx : p.tables.exec = Jvm.exec) {pc : Nat} {Ls : Array Slot} {st : List Value} {o : Int} {b : Addr} (q : Nat) (hd : decode c.code pc = .ok (.ifnonnull o, 3)) (ho : 0 ≤ (pc : Int) + o) (h1 : ((pc : Int) + o).toNat = q) (K : Go p e below Ev T (mkF m q Ls st)) : Go p e below Ev T (mkF m pc Ls (.ref b :: st)) :=
  K.on fun _ k => XS.ifnonnullYes X.here hx rfl rfl hd rfl ho h1 k
theorem g_ifnonnull_f (X : Stand p l e R s m args below meth c T locs cells slots) (hx : p.tables.exec = Jvm.exec) {pc : Nat} {Ls : Array Slot} {st : List Value} {o : Int} (q : Nat) (hd : decode c.code pc = .ok (.ifnonnull o, 3)) (h1 : pc + 3 = q) (K : Go p e below Ev T (mkF m q Ls st)) : Go p e below Ev T (mkF m pc Ls (.null :: st)) := by
  subst h1
  exact K.on fun _ k => XS.ifnonnullNo X.here hx rfl hd rfl k
theorem g_new (X : Stand p l e R s m args below meth c T locs cells slots) (hx : p.tables.exec = Jvm.exec) {pc : Nat} {Ls : Array Slot} {st : List Value} (hZ : Z.Warmed39 s.vm) {own C : String} {i n : Nat} (hown : s.vm.findClass own = some m.cls) (w : (Jvm.Cond.classLink own i C).before a0 Z = true) (wi : (Jvm.Cond.instantiable C n).before a0 Z = true) (wz : (Jvm.Cond.initialized C).before a0 Z = true) (eT : T.heap = h) (q : Nat) (hd : decode c.code pc = .ok (.new i, 3)) (hq : pc + 3 = q) (hc : cells + 1 ≤ R.cells) (hl : slots + n ≤ R.slots)
    (K : ∀ (T' : State) (h' : Heap) (a : Addr), a = h.size → Stand p l e R s m args below meth c T' locs (cells + 1) (slots + n) → T'.heap = h' → Ext h h' → Exa Z h' a C → (∀ {O nm d : String} {ty : FieldType}, Laid Z a0 C O nm d → parseFieldDescriptor d = some ty → Fld Z h' a O nm d (defaultValue ty)) → Go p e below Ev T' (mkF m q Ls (.ref a :: st))) : Go p e below Ev T (mkF m pc Ls st) := by
  subst hq
  obtain ⟨T', h', X', e', E', A', D', -, st'⟩ := newO X hx hZ hown w wi wz eT (g := mkF m pc Ls st) rfl hd hc hl
  exact (K T' h' _ rfl X' e' E' A' D').on st'
theorem g_getF (X : Stand p l e R s m args below meth c T locs cells slots) (hx : p.tables.exec = Jvm.exec) {pc : Nat} {Ls : Array Slot} {st : List Value} (hZ : Z.Warmed39 s.vm) {own R0 O n d : String} {i : Nat} (hown : s.vm.findClass own = some m.cls) (w : (Jvm.Cond.fieldLink own i R0 n d).before a0 Z = true) (via : Via Z R0 O n d) (eT : T.heap = h) {a : Addr} {v : Value} (F : Fld Z h a O n d v) (q : Nat) (hd : decode c.code pc = .ok (.getfield i, 3)) (hq : pc + 3 = q) (K : ∀ T', Stand p l e R s m args below meth c T' locs cells slots → T'.heap = h → Go p e below Ev T' (mkF m q Ls (v :: st))) : Go p e below Ev T (mkF m pc Ls (.ref a :: st)) := by
  subst hq
  obtain ⟨T', X', e', st'⟩ := getF X hx hZ hown (host := "") (Or.inl w) via eT F (g := mkF m pc Ls (.ref a :: st)) rfl rfl hd
  exact (K T' X' e').on st'
theorem g_putF (X : Stand p l e R s m args below meth c T locs cells slots) (hx : p.tables.exec = Jvm.exec) {pc : Nat} {Ls : Array Slot} {st : List Value} (hZ : Z.Warmed39 s.vm) {own R0 O n d C : String} {i kk : Nat} {ty : FieldType} (hown : s.vm.findClass own = some m.cls) (w : (Jvm.Cond.fieldLink own i R0 n d).before a0 Z = true) (via : Via Z R0 O n d) (eT : T.heap = h) {a : Addr} {v old : Value} (F : Fld Z h a O n d old) (E : Exa Z h a C) (L : (Jvm.Cond.lays C O n d).before a0 Z = true ∨ ((Jvm.Cond.laysFinal C O n d).before a0 Z = true ∧ own = O ∧ meth.name = "<init>")) (wi : (Jvm.Cond.instantiable C kk).before a0 Z = true) (hty : parseFieldDescriptor d = some ty) (hn : narrow ty v = v) (hf : fits ty v = true) (q : Nat) (hd : decode c.code pc = .ok (.putfield i, 3)) (hq : pc + 3 = q)
    (K : ∀ T' h', Stand p l e R s m args below meth c T' (locs ++ [⟨a, Jvm.RoadKit.slotOf Z O n d⟩]) cells slots → T'.heap = h' → Wr h h' a (Jvm.RoadKit.slotOf Z O n d) v → Go p e below Ev T' (mkF m q Ls st)) : Go p e below Ev T (mkF m pc Ls (v :: .ref a :: st)) := by
  subst hq
  obtain ⟨T', h', X', e', W', st'⟩ := putF X hx hZ hown (host := "") (Or.inl w) via eT F E L wi hty hn hf (g := mkF m pc Ls (v :: .ref a :: st)) rfl rfl hd
  exact (K T' h' X' e' W').on st'
theorem g_objinit (X : Stand p l e R s m args below meth c T locs cells slots) (hx : p.tables.exec = Jvm.exec) {pc : Nat} {Ls : Array Slot} {st : List Value} (hZ : Z.Warmed39 s.vm) {own : String} {i : Nat} (hown : s.vm.findClass own = some m.cls) (w1 : (Jvm.Cond.methodLink own i ⟨"java/lang/Object", "<init>", "()V"⟩).before a0 Z = true) (w2 : (Jvm.Cond.instanceMethod ⟨"java/lang/Object", "<init>", "()V"⟩).before a0 Z = true) (w3 : (Jvm.Cond.code ⟨"java/lang/Object", "<init>", "()V"⟩ object_method_1_code 1 none).before a0 Z = true) (eT : T.heap = h) {a : Addr} (W : Nat) (q : Nat) (hd : decode c.code pc = .ok (.invokespecial i, 3)) (hq : pc + 3 = q) (hsz : Ls.size = c.maxLocals) (hf : 1 ≤ R.frames) (hW : (st.map fun v => v.category).sum ≤ W) (hl : W + 12 ≤ R.locals) (K : ∀ T', Stand p l e R s m args below meth c T' locs cells slots → T'.heap = h → Go p e below Ev T' (mkF m q Ls st)) : Go p e below Ev T (mkF m pc Ls (.ref a :: st)) := by
  subst hq
  obtain ⟨T', X', e', st'⟩ := initO X hx hZ hown w1 w2 w3 eT (g := mkF m pc Ls (.ref a :: st)) rfl hsz rfl hd hf (W := W) (by show 2 * 0 + _ ≤ _; omega) hl
  exact (K T' X' e').on st'
theorem g_static (X : Stand p l e R s m args below meth c T locs cells slots) (hx : p.tables.exec = Jvm.exec) {pc : Nat} {Ls : Array Slot} {st : List Value} (hZ : Z.Warmed39 s.vm) {own : String} {i : Nat} {y : MethodName} {bytes : ByteArray} {maxL : Nat} {ret : Option FieldType} {rm : Room} {as' : Array Value} {Q : Option Value → Heap → List Loc → Prop} {argsL rest : List Value} (hown : s.vm.findClass own = some m.cls) (w1 : (Jvm.Cond.methodLink own i y).before a0 Z = true) (w2 : (Jvm.Cond.static y).before a0 Z = true) (w3 : (Jvm.Cond.initialized y.cls).before a0 Z = true) (w4 : (Jvm.Cond.code y bytes maxL ret).before a0 Z = true) (hy : y.cls ≠ "java/lang/invoke/MethodHandle" ∧ y.cls ≠ "java/lang/invoke/VarHandle") (hM : MetFree l y (head1 [Jvm.Cond.code y bytes maxL ret] rm) (fun a U => a = as' ∧ Z.Warmed39 U.vm ∧ U.heap = h) (fun _ _ _ _ _ => True) (fun _ U o U' => ∃ v L, o = .returned v ∧ Q v U'.heap L ∧ FrameEnd U o U' L rm.cells rm.slots)) (eT : T.heap = h) (hst : st = argsL.reverse ++ rest) (has : argsL.toArray = as') (W : Nat) (q : Nat) (hq : pc + 3 = q) (hsz : Ls.size = c.maxLocals) (hlen : ∀ sig, parseMethodDescriptor y.desc = some sig → argsL.length = sig.parameters.length) (hW : (rest.map fun v => v.category).sum ≤ W) (hf : rm.frames + 1 ≤ R.frames) (hl : W + (maxL + 11) + rm.locals ≤ R.locals) (hc : cells + rm.cells ≤ R.cells) (hs : slots + rm.slots ≤ R.slots) (hd : decode c.code pc = .ok (.invokestatic i, 3))
    (K : ∀ (v : Option Value) (T' : State) (L : List Loc), Stand p l e R s m args below meth c T' (locs ++ L) (cells + rm.cells) (slots + rm.slots) → Q v T'.heap L → Go p e below Ev T' (mkF m q Ls (v.toList ++ rest))) : Go p e below Ev T (mkF m pc Ls st) := by
  subst hq hst
  obtain ⟨v, vm1, ⟨T', L', k', n'⟩, -, X', ⟨L, hQ, l', y', z'⟩, st'⟩ := Jvm.LawKit.callS X hx hown (mvT hZ w1) (mvT hZ w2) (mvT hZ w3) (mvT hZ w4) hy (backOf (W := W) hM hZ w4 w3 hf hl) (g := mkF m pc Ls (argsL.reverse ++ rest)) rfl hsz (argsL := argsL) (rest := rest) hlen rfl (by show 2 * 0 + _ ≤ _; omega) hd (fun _ _ => ⟨has, eT, hc, hs⟩)
  dsimp only [Pt.U, Pt.locs, Pt.cells, Pt.slots] at X' l' y' z' st' hQ
  subst l' y' z'
  exact (K v T' L X' hQ).on fun t k => st' t k
theorem g_init (X : Stand p l e R s m args below meth c T locs cells slots) (hx : p.tables.exec = Jvm.exec) {pc : Nat} {Ls : Array Slot} {st : List Value} (hZ : Z.Warmed39 s.vm) {own : String} {i : Nat} {y : MethodName} {bytes : ByteArray} {maxL : Nat} {rm : Room} {as' : Array Value} {Q : Option Value → Heap → List Loc → Prop} {argsL rest : List Value} (hy1 : y.name = "<init>") (hown : s.vm.findClass own = some m.cls) (w1 : (Jvm.Cond.methodLink own i y).before a0 Z = true) (w2 : (Jvm.Cond.instanceMethod y).before a0 Z = true) (w3 : (Jvm.Cond.initialized y.cls).before a0 Z = true) (w4 : (Jvm.Cond.code y bytes maxL none).before a0 Z = true) (hy : y.cls ≠ "java/lang/invoke/MethodHandle" ∧ y.cls ≠ "java/lang/invoke/VarHandle") (hM : MetFree l y (head1 [Jvm.Cond.code y bytes maxL none] rm) (fun a U => a = as' ∧ Z.Warmed39 U.vm ∧ U.heap = h) (fun _ _ _ _ _ => True) (fun _ U o U' => ∃ v L, o = .returned v ∧ Q v U'.heap L ∧ FrameEnd U o U' L rm.cells rm.slots)) (eT : T.heap = h) {a : Addr} (hst : st = argsL.reverse ++ .ref a :: rest) (has : (.ref a :: argsL).toArray = as') (W : Nat) (q : Nat) (hq : pc + 3 = q) (hsz : Ls.size = c.maxLocals) (hlen : ∀ sig, parseMethodDescriptor y.desc = some sig → argsL.length = sig.parameters.length) (hW : (rest.map fun v => v.category).sum ≤ W) (hf : rm.frames + 1 ≤ R.frames) (hl : W + (maxL + 11) + rm.locals ≤ R.locals) (hc : cells + rm.cells ≤ R.cells) (hs : slots + rm.slots ≤ R.slots) (hd : decode c.code pc = .ok (.invokespecial i, 3))
    (K : ∀ (v : Option Value) (T' : State) (L : List Loc), Stand p l e R s m args below meth c T' (locs ++ L) (cells + rm.cells) (slots + rm.slots) → Q v T'.heap L → Go p e below Ev T' (mkF m q Ls (v.toList ++ rest))) : Go p e below Ev T (mkF m pc Ls st) := by
  subst hq hst
  obtain ⟨v, vm1, ⟨T', L', k', n'⟩, -, X', ⟨L, hQ, l', y', z'⟩, st'⟩ := X.specialBack hx hy1 hown (mvT hZ w1) (mvT hZ w2) (mvT hZ w4) hy (backOf (W := W) hM hZ w4 w3 hf hl) (g := mkF m pc Ls (argsL.reverse ++ .ref a :: rest)) rfl hsz (Steps.refl _) (a := a) (argsL := argsL) (rest := rest) hlen rfl (by show 2 * 0 + _ ≤ _; omega) hd (fun _ _ => ⟨has, eT, hc, hs⟩)
  dsimp only [Pt.U, Pt.locs, Pt.cells, Pt.slots] at X' l' y' z' st' hQ
  subst l' y' z'
  exact (K v T' L X' hQ).on fun t k => st'.trans k
theorem g_virt (X : Stand p l e R s m args below meth c T locs cells slots) (hx : p.tables.exec = Jvm.exec) {pc : Nat} {Ls : Array Slot} {st : List Value} (hZ : Z.Warmed39 s.vm) {own : String} {i : Nat} {y z : MethodName} {C : String} {bytes : ByteArray} {maxL : Nat} {ret : Option FieldType} {rm : Room} {as' : Array Value} {Q : Option Value → Heap → List Loc → Prop} {argsL rest : List Value} (hown : s.vm.findClass own = some m.cls) (w1 : (Jvm.Cond.methodLink own i y).before a0 Z = true) (w2 : (Jvm.Cond.declares y).before a0 Z = true) (w5 : (Jvm.Cond.selects y.cls y y).before a0 Z = true) (w6 : (Jvm.Cond.selects C y z).before a0 Z = true) (w7 : (Jvm.Cond.instanceMethod z).before a0 Z = true) (w3 : (Jvm.Cond.initialized z.cls).before a0 Z = true) (w4 : (Jvm.Cond.code z bytes maxL ret).before a0 Z = true) (hy : y.cls ≠ "java/lang/invoke/MethodHandle" ∧ y.cls ≠ "java/lang/invoke/VarHandle") (hM : MetFree l z (head1 [Jvm.Cond.code z bytes maxL ret] rm) (fun a U => a = as' ∧ Z.Warmed39 U.vm ∧ U.heap = h) (fun _ _ _ _ _ => True) (fun _ U o U' => ∃ v L, o = .returned v ∧ Q v U'.heap L ∧ FrameEnd U o U' L rm.cells rm.slots)) (eT : T.heap = h) {b : Addr} (E : Exa Z h b C) (hst : st = argsL.reverse ++ .ref b :: rest) (has : (.ref b :: argsL).toArray = as') (W : Nat) (q : Nat) (hq : pc + 3 = q) (hsz : Ls.size = c.maxLocals) (hlen : ∀ sig, parseMethodDescriptor y.desc = some sig → argsL.length = sig.parameters.length) (hW : (rest.map fun v => v.category).sum ≤ W) (hf : rm.frames + 1 ≤ R.frames) (hl : W + (maxL + 11) + rm.locals ≤ R.locals) (hc : cells + rm.cells ≤ R.cells) (hs : slots + rm.slots ≤ R.slots) (hd : decode c.code pc = .ok (.invokevirtual i, 3))
    (K : ∀ (v : Option Value) (T' : State) (L : List Loc), Stand p l e R s m args below meth c T' (locs ++ L) (cells + rm.cells) (slots + rm.slots) → Q v T'.heap L → Go p e below Ev T' (mkF m q Ls (v.toList ++ rest))) : Go p e below Ev T (mkF m pc Ls st) := by
  subst hq hst
  obtain ⟨cq, kq, qa, qb, qc⟩ := isOf hZ eT E
  obtain ⟨v, vm1, ⟨T', L', k', n'⟩, -, X', ⟨L, hQ, l', y', z'⟩, st'⟩ := X.virtualBack hx hown (mvT hZ w1) (mvT hZ w2) (notFace_of_selects (args := #[]) (mvT hZ w5)) (mvT hZ w6) (mvT hZ w7) hy (backOf (W := W) hM hZ w4 w3 hf hl) qa qc (g := mkF m pc Ls (argsL.reverse ++ .ref b :: rest)) rfl hsz (Steps.refl _) (argsL := argsL) (rest := rest) hlen rfl (by show 2 * 0 + _ ≤ _; omega) hd (fun _ _ => ⟨has, eT, hc, hs⟩)
  dsimp only [Pt.U, Pt.locs, Pt.cells, Pt.slots] at X' l' y' z' st' hQ
  subst l' y' z'
  exact (K v T' L X' hQ).on fun t k => st'.trans k
theorem own_at {n : Nat} (j : Int32) (h0 : 0 ≤ j.toInt) (z : Int32) (h1 : j.toInt < z.toInt) (S : n = z.toNatClampNeg) : ¬ (j < 0 ∨ n ≤ j.toNatClampNeg) := by
  subst S
  intro q
  rcases q with q | q
  · have := (own_i0 j).1.mp q; omega
  · simp only [Int32.toNatClampNeg] at q; omega
theorem own_ncl {j : Int32} {k : Nat} (h : j.toInt = (k : Int)) : j.toNatClampNeg = k := by simp only [Int32.toNatClampNeg]; omega
theorem g_newP (X : Stand p l e R s m args below meth c T locs cells slots) (hx : p.tables.exec = Jvm.exec) {pc : Nat} {Ls : Array Slot} {st : List Value} (hZ : Z.Warmed39 s.vm) {aty : ArrayType} (w : (Jvm.Cond.arrayClass (newarray.typeOf aty)).before a0 Z = true) (eT : T.heap = h) {n : Int32} (hn : 0 ≤ n.toInt) {cap : Nat} (hcap : n.toInt ≤ cap) (hb : cap * 8 ≤ 536870912) (q : Nat) (hd : decode c.code pc = .ok (.newarray aty, 2)) (hq : pc + 2 = q) (hc : cells + 1 ≤ R.cells) (hl : slots + cap ≤ R.slots) {ad : String} (had : "[" ++ (newarray.typeOf aty).toString = ad)
    (K : ∀ (T' : State) (h' : Heap) (k : ClassId) (a : Addr), a = h.size → Stand p l e R s m args below meth c T' locs (cells + 1) (slots + cap) → T'.heap = h' → Ext h h' → Arv Z h' a k (newarray.typeOf aty) n [] (defaultValue (newarray.typeOf aty)) → Exa Z h' a ad → Go p e below Ev T' (mkF m q Ls (.ref a :: st))) : Go p e below Ev T (mkF m pc Ls (.int n :: st)) := by
  subst hq
  have hn' : ¬ n < 0 := fun q => by have := (own_i0 n).1.mp q; omega
  obtain ⟨T', h', k, X', e', E', A', B', st'⟩ := newPE X hx hZ w eT (g := mkF m pc Ls (.int n :: st)) rfl hd rfl hn' (cap := cap) (by simp only [Int32.toNatClampNeg]; omega) hb hc hl had
  exact (K T' h' k _ rfl X' e' E' (Arv.new A' hn') B').on st'
theorem g_len (X : Stand p l e R s m args below meth c T locs cells slots) (hx : p.tables.exec = Jvm.exec) {pc : Nat} {Ls : Array Slot} {st : List Value} (hZ : Z.Warmed39 s.vm) (eT : T.heap = h) {a : Addr} {k : ClassId} {ty : FieldType} {z : Int32} {vs : List Value} {dv : Value} (V : Arv Z h a k ty z vs dv) (q : Nat) (hd : decode c.code pc = .ok (.arraylength, 1)) (hq : pc + 1 = q) (K : Go p e below Ev T (mkF m q Ls (.int z :: st))) : Go p e below Ev T (mkF m pc Ls (.ref a :: st)) := by
  subst hq
  obtain ⟨cl, A, q1, S, q3, H, G⟩ := V
  refine K.on fun t k => X.arraylength hx (by rw [eT]; exact A.1) (State.isArrayOf_alike hZ.alike A.2.1) (g := mkF m pc Ls (.ref a :: st)) rfl rfl hd t ?_
  rw [len_of S q3]
  exact k
theorem g_dastore (X : Stand p l e R s m args below meth c T locs cells slots) (hx : p.tables.exec = Jvm.exec) {pc : Nat} {Ls : Array Slot} {st : List Value} (hZ : Z.Warmed39 s.vm) (eT : T.heap = h) {a : Addr} {k : ClassId} {z j : Int32} {x : UInt64} {vs : List Value} {dv : Value} (V : Arv Z h a k .double z vs dv) (i : Nat) (hi : j.toInt = (i : Int)) (hz : j.toInt < z.toInt) (hv : i < vs.length) (q : Nat) (hd : decode c.code pc = .ok (.dastore, 1)) (hq : pc + 1 = q)
    (K : ∀ T' h', Stand p l e R s m args below meth c T' (locs ++ [⟨a, j.toNatClampNeg⟩]) cells slots → T'.heap = h' → Wr h h' a j.toNatClampNeg (.double x) → Arv Z h' a k .double z (vs.set i (.double x)) dv → Go p e below Ev T' (mkF m q Ls st)) : Go p e below Ev T (mkF m pc Ls (.double x :: .int j :: .ref a :: st)) := by
  subst hq
  obtain ⟨cl, A, q1, S, q3, H, G⟩ := V
  have hj := own_at j (by omega) z hz S
  obtain ⟨T', h', X', e', W', st'⟩ := stD X hx hZ eT A hj (g := mkF m pc Ls (.double x :: .int j :: .ref a :: st)) rfl rfl hd
  exact (K T' h' X' e' W' (Arv.set A q1 S q3 H G rfl W' i (own_ncl hi) hv)).on st'
theorem g_iastore (X : Stand p l e R s m args below meth c T locs cells slots) (hx : p.tables.exec = Jvm.exec) {pc : Nat} {Ls : Array Slot} {st : List Value} (hZ : Z.Warmed39 s.vm) (eT : T.heap = h) {a : Addr} {k : ClassId} {z j : Int32} {x : Int32} {vs : List Value} {dv : Value} (V : Arv Z h a k .int z vs dv) (i : Nat) (hi : j.toInt = (i : Int)) (hz : j.toInt < z.toInt) (hv : i < vs.length) (q : Nat) (hd : decode c.code pc = .ok (.iastore, 1)) (hq : pc + 1 = q)
    (K : ∀ T' h', Stand p l e R s m args below meth c T' (locs ++ [⟨a, j.toNatClampNeg⟩]) cells slots → T'.heap = h' → Wr h h' a j.toNatClampNeg (.int x) → Arv Z h' a k .int z (vs.set i (.int x)) dv → Go p e below Ev T' (mkF m q Ls st)) : Go p e below Ev T (mkF m pc Ls (.int x :: .int j :: .ref a :: st)) := by
  subst hq
  obtain ⟨cl, A, q1, S, q3, H, G⟩ := V
  have hj := own_at j (by omega) z hz S
  obtain ⟨T', h', X', e', W', st'⟩ := stI X hx hZ eT A hj (g := mkF m pc Ls (.int x :: .int j :: .ref a :: st)) rfl rfl hd
  exact (K T' h' X' e' W' (Arv.set A q1 S q3 H G rfl W' i (own_ncl hi) hv)).on st'
theorem g_lastore (X : Stand p l e R s m args below meth c T locs cells slots) (hx : p.tables.exec = Jvm.exec) {pc : Nat} {Ls : Array Slot} {st : List Value} (hZ : Z.Warmed39 s.vm) (eT : T.heap = h) {a : Addr} {k : ClassId} {z j : Int32} {x : Int64} {vs : List Value} {dv : Value} (V : Arv Z h a k .long z vs dv) (i : Nat) (hi : j.toInt = (i : Int)) (hz : j.toInt < z.toInt) (hv : i < vs.length) (q : Nat) (hd : decode c.code pc = .ok (.lastore, 1)) (hq : pc + 1 = q)
    (K : ∀ T' h', Stand p l e R s m args below meth c T' (locs ++ [⟨a, j.toNatClampNeg⟩]) cells slots → T'.heap = h' → Wr h h' a j.toNatClampNeg (.long x) → Arv Z h' a k .long z (vs.set i (.long x)) dv → Go p e below Ev T' (mkF m q Ls st)) : Go p e below Ev T (mkF m pc Ls (.long x :: .int j :: .ref a :: st)) := by
  subst hq
  obtain ⟨cl, A, q1, S, q3, H, G⟩ := V
  have hj := own_at j (by omega) z hz S
  obtain ⟨T', h', X', e', W', st'⟩ := stJ X hx hZ eT A hj (g := mkF m pc Ls (.long x :: .int j :: .ref a :: st)) rfl rfl hd
  exact (K T' h' X' e' W' (Arv.set A q1 S q3 H G rfl W' i (own_ncl hi) hv)).on st'
theorem g_daload (X : Stand p l e R s m args below meth c T locs cells slots) (hx : p.tables.exec = Jvm.exec) {pc : Nat} {Ls : Array Slot} {st : List Value} (hZ : Z.Warmed39 s.vm) (eT : T.heap = h) {a : Addr} {k : ClassId} {z j : Int32} {v : Value} {vs : List Value} {dv : Value} (V : Arv Z h a k .double z vs dv) (hi : 0 ≤ j.toInt) (hz : j.toInt < z.toInt) (hv : vs.getD j.toNatClampNeg dv = v) (q : Nat) (hd : decode c.code pc = .ok (.daload, 1)) (hq : pc + 1 = q) (K : Go p e below Ev T (mkF m q Ls (v :: st))) : Go p e below Ev T (mkF m pc Ls (.int j :: .ref a :: st)) := by
  subst hq
  obtain ⟨cl, A, q1, S, q3, H, G⟩ := V
  have hj := own_at j hi z hz S
  exact K.on fun t k => X.daload hx (by rw [eT]; exact A.1) (State.isArrayOf_alike hZ.alike A.2.1) A.2.2 hj (H.at hj hv) (g := mkF m pc Ls (.int j :: .ref a :: st)) rfl rfl hd t k
theorem g_iaload (X : Stand p l e R s m args below meth c T locs cells slots) (hx : p.tables.exec = Jvm.exec) {pc : Nat} {Ls : Array Slot} {st : List Value} (hZ : Z.Warmed39 s.vm) (eT : T.heap = h) {a : Addr} {k : ClassId} {z j : Int32} {v : Value} {vs : List Value} {dv : Value} (V : Arv Z h a k .int z vs dv) (hi : 0 ≤ j.toInt) (hz : j.toInt < z.toInt) (hv : vs.getD j.toNatClampNeg dv = v) (q : Nat) (hd : decode c.code pc = .ok (.iaload, 1)) (hq : pc + 1 = q) (K : Go p e below Ev T (mkF m q Ls (v :: st))) : Go p e below Ev T (mkF m pc Ls (.int j :: .ref a :: st)) := by
  subst hq
  obtain ⟨cl, A, q1, S, q3, H, G⟩ := V
  have hj := own_at j hi z hz S
  exact K.on fun t k => X.iaload hx (by rw [eT]; exact A.1) (State.isArrayOf_alike hZ.alike A.2.1) A.2.2 hj (H.at hj hv) (g := mkF m pc Ls (.int j :: .ref a :: st)) rfl rfl hd t k
theorem g_laload (X : Stand p l e R s m args below meth c T locs cells slots) (hx : p.tables.exec = Jvm.exec) {pc : Nat} {Ls : Array Slot} {st : List Value} (hZ : Z.Warmed39 s.vm) (eT : T.heap = h) {a : Addr} {k : ClassId} {z j : Int32} {v : Value} {vs : List Value} {dv : Value} (V : Arv Z h a k .long z vs dv) (hi : 0 ≤ j.toInt) (hz : j.toInt < z.toInt) (hv : vs.getD j.toNatClampNeg dv = v) (q : Nat) (hd : decode c.code pc = .ok (.laload, 1)) (hq : pc + 1 = q) (K : Go p e below Ev T (mkF m q Ls (v :: st))) : Go p e below Ev T (mkF m pc Ls (.int j :: .ref a :: st)) := by
  subst hq
  obtain ⟨cl, A, q1, S, q3, H, G⟩ := V
  have hj := own_at j hi z hz S
  exact K.on fun t k => X.laload hx (by rw [eT]; exact A.1) (State.isArrayOf_alike hZ.alike A.2.1) A.2.2 hj (H.at hj hv) (g := mkF m pc Ls (.int j :: .ref a :: st)) rfl rfl hd t k
theorem g_clone (X : Stand p l e R s m args below meth c T locs cells slots) (hx : p.tables.exec = Jvm.exec) {pc : Nat} {Ls : Array Slot} {st : List Value} (hZ : Z.Warmed39 s.vm) {own ad : String} {i : Nat} (hown : s.vm.findClass own = some m.cls) (w1 : (Jvm.Cond.methodLink own i ⟨ad, "clone", "()Ljava/lang/Object;"⟩).before a0 Z = true) (w2 : (Jvm.Cond.sameMethod ad "java/lang/Object" "clone" "()Ljava/lang/Object;").before a0 Z = true) (w3 : (Jvm.Cond.native ⟨"java/lang/Object", "clone", "()Ljava/lang/Object;"⟩).before a0 Z = true) (w4 : (Jvm.Cond.instanceMethod ⟨"java/lang/Object", "clone", "()Ljava/lang/Object;"⟩).before a0 Z = true) (w5 : (Jvm.Cond.selects ad ⟨ad, "clone", "()Ljava/lang/Object;"⟩ ⟨"java/lang/Object", "clone", "()Ljava/lang/Object;"⟩).before a0 Z = true) (w6 : (Jvm.Cond.castable ad "java/lang/Cloneable").before a0 Z = true) (eT : T.heap = h) {a : Addr} {k : ClassId} {ty : FieldType} {z : Int32} {vs : List Value} {dv : Value} (V : Arv Z h a k ty z vs dv) (E : Exa Z h a ad) (W cap : Nat) (q : Nat) (hd : decode c.code pc = .ok (.invokevirtual i, 3)) (hq : pc + 3 = q) (hsz : Ls.size = c.maxLocals) (hf : 1 ≤ R.frames) (hW : (st.map fun v => v.category).sum ≤ W) (hl : W + 14 ≤ R.locals) (hcap : z.toInt ≤ cap) (hc : cells + 1 ≤ R.cells) (hs : slots + cap ≤ R.slots)
    (K : ∀ (T' : State) (h' : Heap) (b : Addr), b = h.size → Stand p l e R s m args below meth c T' locs (cells + 1) (slots + cap) → T'.heap = h' → Ext h h' → Arv Z h' b k ty z vs dv → Exa Z h' b ad → Go p e below Ev T' (mkF m q Ls (.ref b :: st))) : Go p e below Ev T (mkF m pc Ls (.ref a :: st)) := by
  subst hq
  obtain ⟨T', h', X', e', E', V', B', st'⟩ := cloneH X hx hZ hown w1 w2 w3 w4 w5 w6 eT V.arh E (g := mkF m pc Ls (.ref a :: st)) rfl hsz rfl hd hf (W := W) (cap := cap) (by show 2 * 0 + _ ≤ _; omega) hl (by simp only [Int32.toNatClampNeg]; omega) hc hs
  exact (K T' h' _ rfl X' e' E' V' B').on st'
theorem g_cast (X : Stand p l e R s m args below meth c T locs cells slots) (hx : p.tables.exec = Jvm.exec) {pc : Nat} {Ls : Array Slot} {st : List Value} (hZ : Z.Warmed39 s.vm) {own C : String} {i : Nat} (hown : s.vm.findClass own = some m.cls) (w : (Jvm.Cond.classLink own i C).before a0 Z = true) (eT : T.heap = h) {a : Addr} (F : Ins Z h a C true) (q : Nat) (hd : decode c.code pc = .ok (.checkcast i, 3)) (hq : pc + 3 = q) (K : ∀ T', Stand p l e R s m args below meth c T' locs cells slots → T'.heap = h → Go p e below Ev T' (mkF m q Ls (.ref a :: st))) : Go p e below Ev T (mkF m pc Ls (.ref a :: st)) := by
  subst hq
  obtain ⟨T', X', e', st'⟩ := castY X hx hZ hown w eT F (g := mkF m pc Ls (.ref a :: st)) rfl rfl hd
  exact (K T' X' e').on st'
end OwnKit
theorem own_pd0 : parseMethodDescriptor "(ILjava/lang/String;ICJ)C" = some ⟨[.int, (.object "java/lang/String"), .int, .char, .long], some .char⟩ := by decide +kernel
theorem own_pd1 : parseMethodDescriptor "()I" = some ⟨[], some .int⟩ := by decide +kernel
theorem own_pd2 : parseMethodDescriptor "()B" = some ⟨[], some .byte⟩ := by decide +kernel
theorem own_pd3 : parseMethodDescriptor "(I)C" = some ⟨[.int], some .char⟩ := by decide +kernel
theorem own_pd4 : parseMethodDescriptor "()Z" = some ⟨[], some .boolean⟩ := by decide +kernel
theorem own_pd5 : parseMethodDescriptor "([BI)C" = some ⟨[(.array .byte), .int], some .char⟩ := by decide +kernel
theorem own_pd6 : parseMethodDescriptor "(II)V" = some ⟨[.int, .int], none⟩ := by decide +kernel
theorem own_pd7 : parseMethodDescriptor "(IILjava/util/function/BiFunction;)I" = some ⟨[.int, .int, (.object "java/util/function/BiFunction")], some .int⟩ := by decide +kernel
theorem own_pd8 : parseMethodDescriptor "(I[C)Ljava/lang/String;" = some ⟨[.int, (.array .char)], some (.object "java/lang/String")⟩ := by decide +kernel
theorem own_pd9 : parseMethodDescriptor "([C)V" = some ⟨[(.array .char)], none⟩ := by decide +kernel
theorem own_pd10 : parseMethodDescriptor "([CIILjava/lang/Void;)V" = some ⟨[(.array .char), .int, .int, (.object "java/lang/Void")], none⟩ := by decide +kernel
theorem own_pd11 : parseMethodDescriptor "()V" = some ⟨[], none⟩ := by decide +kernel
theorem own_pd12 : parseMethodDescriptor "([CII)[B" = some ⟨[(.array .char), .int, .int], some (.array .byte)⟩ := by decide +kernel
theorem own_pd13 : parseMethodDescriptor "([CI[BII)I" = some ⟨[(.array .char), .int, (.array .byte), .int, .int], some .int⟩ := by decide +kernel
theorem own_pd14 : parseMethodDescriptor "([BI)B" = some ⟨[(.array .byte), .int], some .byte⟩ := by decide +kernel
theorem own_pd15 : parseMethodDescriptor "(Ljava/lang/String;)Ljava/util/Optional;" = some ⟨[(.object "java/lang/String")], some (.object "java/util/Optional")⟩ := by decide +kernel
theorem own_pd16 : parseMethodDescriptor "()[Lcom/example/dispatchd/dispatchd/store/EventSchema;" = some ⟨[], some (.array (.object "com/example/dispatchd/dispatchd/store/EventSchema"))⟩ := by decide +kernel
theorem own_pd17 : parseMethodDescriptor "()Ljava/lang/Object;" = some ⟨[], some (.object "java/lang/Object")⟩ := by decide +kernel
theorem own_pd18 : parseMethodDescriptor "(Ljava/lang/Object;)Z" = some ⟨[(.object "java/lang/Object")], some .boolean⟩ := by decide +kernel
theorem own_pd19 : parseMethodDescriptor "([B[B)Z" = some ⟨[(.array .byte), (.array .byte)], some .boolean⟩ := by decide +kernel
theorem own_pd20 : parseMethodDescriptor "(Ljava/lang/Object;)Ljava/util/Optional;" = some ⟨[(.object "java/lang/Object")], some (.object "java/util/Optional")⟩ := by decide +kernel
theorem own_pd21 : parseMethodDescriptor "(Ljava/lang/Object;)Ljava/lang/Object;" = some ⟨[(.object "java/lang/Object")], some (.object "java/lang/Object")⟩ := by decide +kernel
theorem own_pd22 : parseMethodDescriptor "(Ljava/lang/Object;)V" = some ⟨[(.object "java/lang/Object")], none⟩ := by decide +kernel
theorem own_pd23 : parseMethodDescriptor "()Ljava/lang/String;" = some ⟨[], some (.object "java/lang/String")⟩ := by decide +kernel
theorem own_pd24 : parseMethodDescriptor "()Ljava/util/Optional;" = some ⟨[], some (.object "java/util/Optional")⟩ := by decide +kernel
theorem own_pd25 : parseMethodDescriptor "(C)Ljava/lang/String;" = some ⟨[.char], some (.object "java/lang/String")⟩ := by decide +kernel
theorem own_pd26 : parseMethodDescriptor "(C)Z" = some ⟨[.char], some .boolean⟩ := by decide +kernel
theorem own_pd27 : parseMethodDescriptor "(C)[B" = some ⟨[.char], some (.array .byte)⟩ := by decide +kernel
theorem own_pd28 : parseMethodDescriptor "([BB)V" = some ⟨[(.array .byte), .byte], none⟩ := by decide +kernel
def Q_rm0 (n0 : Nat) (v : Option Value) (h : Heap) (L : List Loc) : Prop := v = some (.int 1) ∧ Fr n0 L
theorem own_dlit {i : Int} {a : UInt64} (s : Bool) (c : Nat) (q : Int) (h : Jvm.FP.Core.val64 a = .fin s c q) (h2 : Jvm.FP.Core.signed s (c * 2 ^ q.toNat) = i * ((2 ^ (-q).toNat : Nat) : Int)) : Jvm.FP.Core.DInt i a := by
  show Jvm.FP.Core.Whole i _
  rw [h]
  exact h2
theorem own_dnn {i : Int} {a : UInt64} (h : Jvm.FP.Core.DInt i a) : Jvm.Free.Fl.NoNaN64 a := Jvm.Free.Fl.noNaN64_no.mpr ((Jvm.FP.Core.notNaN_iff a).mpr (Jvm.FP.Core.Whole.ne_nan h))
theorem own_dzero : Jvm.FP.Core.DInt 0 (0 : UInt64) := own_dlit false 0 (-1074) (by decide +kernel) (by decide +kernel)
theorem own_done : Jvm.FP.Core.DInt 1 (4607182418800017408 : UInt64) := own_dlit false (2 ^ 52) (-52) (by decide +kernel) (by decide +kernel)
section OwnKit2
variable {p : Program} {l : Launch} {e : Env} {R : Room} {s : State} {m : MethodId} {args : Array Value} {below : List Frame} {meth : Method} {c : Code} {T : State} {locs : List Loc} {cells slots : Nat} {Z : State} {a0 : Array Value} {h h' : Heap} {Ev : State → Outcome → Prop}
theorem g_iaddC (X : Stand p l e R s m args below meth c T locs cells slots) (hx : p.tables.exec = Jvm.exec) {pc : Nat} {Ls : Array Slot} {st : List Value} {x y : Int32} (r : Int32) (hr : x + y = r) (q : Nat) (hd : decode c.code pc = .ok (.iadd, 1)) (hq : pc + 1 = q) (K : Go p e below Ev T (mkF m q Ls (.int r :: st))) : Go p e below Ev T (mkF m pc Ls (.int y :: .int x :: st)) := by
  subst hr
  exact g_iadd X hx q hd hq K
theorem g_isubC (X : Stand p l e R s m args below meth c T locs cells slots) (hx : p.tables.exec = Jvm.exec) {pc : Nat} {Ls : Array Slot} {st : List Value} {x y : Int32} (r : Int32) (hr : x - y = r) (q : Nat) (hd : decode c.code pc = .ok (.isub, 1)) (hq : pc + 1 = q) (K : Go p e below Ev T (mkF m q Ls (.int r :: st))) : Go p e below Ev T (mkF m pc Ls (.int y :: .int x :: st)) := by
  subst hr
  exact g_isub X hx q hd hq K
theorem g_imulC (X : Stand p l e R s m args below meth c T locs cells slots) (hx : p.tables.exec = Jvm.exec) {pc : Nat} {Ls : Array Slot} {st : List Value} {x y : Int32} (r : Int32) (hr : x * y = r) (q : Nat) (hd : decode c.code pc = .ok (.imul, 1)) (hq : pc + 1 = q) (K : Go p e below Ev T (mkF m q Ls (.int r :: st))) : Go p e below Ev T (mkF m pc Ls (.int y :: .int x :: st)) := by
  subst hr
  exact g_imul X hx q hd hq K
theorem g_iincC (X : Stand p l e R s m args below meth c T locs cells slots) (hx : p.tables.exec = Jvm.exec) {pc : Nat} {Ls : Array Slot} {st : List Value} {k : Nat} {i : Int} {v w : Int32} (r : Int32) (hr : v + w = r) {l' : Array Slot} (q : Nat) (hd : decode c.code pc = .ok (.iinc k i, 3)) (hq : pc + 3 = q) (hl : Ls[k]? = some (.val (.int v))) (hv : Int32.ofInt i = w) (hl' : storeLocals Ls k (.int r) = some l') (K : Go p e below Ev T (mkF m q l' st)) : Go p e below Ev T (mkF m pc Ls st) := by
  subst hr
  exact g_iinc X hx q hd hq hl hv hl' K
theorem g_anewA (X : Stand p l e R s m args below meth c T locs cells slots) (hx : p.tables.exec = Jvm.exec) {pc : Nat} {Ls : Array Slot} {st : List Value} (hZ : Z.Warmed39 s.vm) {own C : String} {ty : FieldType} {i : Nat} (hown : s.vm.findClass own = some m.cls) (hC : (FieldType.array ty).toString = C) (w1 : (Jvm.Cond.classLink own i C).before a0 Z = true) (w2 : (Jvm.Cond.arrayOver (.array ty)).before a0 Z = true) (eT : T.heap = h) {n : Int32} (hn : 0 ≤ n.toInt) {cap : Nat} (hcap : n.toInt ≤ cap) (hb : cap * 8 ≤ 536870912) (q : Nat) (hd : decode c.code pc = .ok (.anewarray i, 3)) (hq : pc + 3 = q) (hc : cells + 1 ≤ R.cells) (hl : slots + cap ≤ R.slots) {ad : String} (had : "[" ++ C = ad)
    (K : ∀ (T' : State) (h' : Heap) (k : ClassId) (a : Addr), a = h.size → Stand p l e R s m args below meth c T' locs (cells + 1) (slots + cap) → T'.heap = h' → Ext h h' → Arv Z h' a k (.array ty) n [] .null → Exa Z h' a ad → OvrA Z k ty C → Go p e below Ev T' (mkF m q Ls (.ref a :: st))) : Go p e below Ev T (mkF m pc Ls (.int n :: st)) := by
  subst hq
  have hn' : ¬ n < 0 := fun q => by have := (own_i0 n).1.mp q; omega
  obtain ⟨T', h', k, X', e', E', A', B', O', st'⟩ := newRA X hx hZ hown hC w1 w2 eT (g := mkF m pc Ls (.int n :: st)) rfl hd rfl hn' (cap := cap) (by simp only [Int32.toNatClampNeg]; omega) hb hc hl had
  exact (K T' h' k _ rfl X' e' E' (Arv.new A' hn') B' O').on st'
theorem g_aastoreA (X : Stand p l e R s m args below meth c T locs cells slots) (hx : p.tables.exec = Jvm.exec) {pc : Nat} {Ls : Array Slot} {st : List Value} (hZ : Z.Warmed39 s.vm) (eT : T.heap = h) {a y : Addr} {k : ClassId} {ty : FieldType} {C : String} {z j : Int32} {vs : List Value} {dv : Value} (V : Arv Z h a k (.array ty) z vs dv) (O : OvrA Z k ty C) (I : Ins Z h y C true) (i : Nat) (hi : j.toInt = (i : Int)) (hz : j.toInt < z.toInt) (hv : i < vs.length) (q : Nat) (hd : decode c.code pc = .ok (.aastore, 1)) (hq : pc + 1 = q)
    (K : ∀ T' h', Stand p l e R s m args below meth c T' (locs ++ [⟨a, j.toNatClampNeg⟩]) cells slots → T'.heap = h' → Wr h h' a j.toNatClampNeg (.ref y) → Arv Z h' a k (.array ty) z (vs.set i (.ref y)) dv → Go p e below Ev T' (mkF m q Ls st)) : Go p e below Ev T (mkF m pc Ls (.ref y :: .int j :: .ref a :: st)) := by
  subst hq
  obtain ⟨cl, A, q1, S, q3, H, G⟩ := V
  have hj := own_at j (by omega) z hz S
  obtain ⟨T', h', X', e', W', st'⟩ := Jvm.RoadKit.stR X hx hZ eT A hj rfl (Sto.ofVA A q1 O I) (g := mkF m pc Ls (.ref y :: .int j :: .ref a :: st)) rfl rfl hd
  exact (K T' h' X' e' W' (Arv.set A q1 S q3 H G rfl W' i (own_ncl hi) hv)).on st'
theorem g_aaload (X : Stand p l e R s m args below meth c T locs cells slots) (hx : p.tables.exec = Jvm.exec) {pc : Nat} {Ls : Array Slot} {st : List Value} (hZ : Z.Warmed39 s.vm) (eT : T.heap = h) {a : Addr} {k : ClassId} {ty : FieldType} {z j : Int32} {v : Value} {vs : List Value} {dv : Value} (V : Arv Z h a k ty z vs dv) (hty : ty.isReference = true) (hi : 0 ≤ j.toInt) (hz : j.toInt < z.toInt) (hv : vs.getD j.toNatClampNeg dv = v) (q : Nat) (hd : decode c.code pc = .ok (.aaload, 1)) (hq : pc + 1 = q) (K : Go p e below Ev T (mkF m q Ls (v :: st))) : Go p e below Ev T (mkF m pc Ls (.int j :: .ref a :: st)) := by
  subst hq
  obtain ⟨cl, A, q1, S, q3, H, G⟩ := V
  have hj := own_at j hi z hz S
  exact K.on fun t k => X.aaload hx (by rw [eT]; exact A.1) (State.isArrayOf_alike hZ.alike A.2.1) hty A.2.2 hj (H.at hj hv) (g := mkF m pc Ls (.int j :: .ref a :: st)) rfl rfl hd t k
theorem g_priv (X : Stand p l e R s m args below meth c T locs cells slots) (hx : p.tables.exec = Jvm.exec) {pc : Nat} {Ls : Array Slot} {st : List Value} (hZ : Z.Warmed39 s.vm) {own : String} {i : Nat} {y z : MethodName} {C : String} {bytes : ByteArray} {maxL : Nat} {ret : Option FieldType} {rm : Room} {as' : Array Value} {Q : Option Value → Heap → List Loc → Prop} {argsL rest : List Value} (hown : s.vm.findClass own = some m.cls) (w1 : (Jvm.Cond.methodLink own i y).before a0 Z = true) (w2 : (Jvm.Cond.privateMethod y).before a0 Z = true) (w5 : (Jvm.Cond.selects z.cls z z).before a0 Z = true) (hyz : z.cls = y.cls) (w7 : (Jvm.Cond.instanceMethod y).before a0 Z = true) (w3 : (Jvm.Cond.initialized y.cls).before a0 Z = true) (w4 : (Jvm.Cond.code y bytes maxL ret).before a0 Z = true) (hy : y.cls ≠ "java/lang/invoke/MethodHandle" ∧ y.cls ≠ "java/lang/invoke/VarHandle") (hM : MetFree l y (head1 [Jvm.Cond.code y bytes maxL ret] rm) (fun a U => a = as' ∧ Z.Warmed39 U.vm ∧ U.heap = h) (fun _ _ _ _ _ => True) (fun _ U o U' => ∃ v L, o = .returned v ∧ Q v U'.heap L ∧ FrameEnd U o U' L rm.cells rm.slots)) (eT : T.heap = h) {b : Addr} (E : Exa Z h b C) (hst : st = argsL.reverse ++ .ref b :: rest) (has : (.ref b :: argsL).toArray = as') (W : Nat) (q : Nat) (hq : pc + 3 = q) (hsz : Ls.size = c.maxLocals) (hlen : ∀ sig, parseMethodDescriptor y.desc = some sig → argsL.length = sig.parameters.length) (hW : (rest.map fun v => v.category).sum ≤ W) (hf : rm.frames + 1 ≤ R.frames) (hl : W + (maxL + 11) + rm.locals ≤ R.locals) (hc : cells + rm.cells ≤ R.cells) (hs : slots + rm.slots ≤ R.slots) (hd : decode c.code pc = .ok (.invokevirtual i, 3))
    (K : ∀ (v : Option Value) (T' : State) (L : List Loc), Stand p l e R s m args below meth c T' (locs ++ L) (cells + rm.cells) (slots + rm.slots) → Q v T'.heap L → Go p e below Ev T' (mkF m q Ls (v.toList ++ rest))) : Go p e below Ev T (mkF m pc Ls st) := by
  subst hq hst
  obtain ⟨cell, k, g1, g2, g3, g4, -⟩ := E
  have pa : s.PrivateAt y := Cond.privateMethod_at (mvP hZ w2 (args := #[]))
  obtain ⟨cc, rr, mm, s1, -, s2, -, kP, s3, s4⟩ := Cond.selects_spec (mvT hZ w5 : (Jvm.Cond.selects z.cls z z).before args s = true)
  have fc := findClass_of_methodNamed s2
  rw [hyz] at fc
  have sl : (Jvm.Cond.selects y.cls y y).before args s = true := selects_self_of_private fc s3 s4 pa (mvT hZ w7) hy
  obtain ⟨v, vm1, ⟨T', L', k', n'⟩, -, X', ⟨L, hQ, l', y', z'⟩, st'⟩ := X.privateBack hx hown (mvT hZ w1) (mvT hZ w7) sl pa (mvT hZ w4) hy (backOf (W := W) hM hZ w4 w3 hf hl) (g := mkF m pc Ls (argsL.reverse ++ .ref b :: rest)) rfl hsz (Steps.refl _) (a := b) (by rw [eT]; exact g1) (fun q w => by rw [w] at g4; cases g4) (argsL := argsL) (rest := rest) hlen rfl (by show 2 * 0 + _ ≤ _; omega) hd (fun _ _ => ⟨has, eT, hc, hs⟩)
  dsimp only [Pt.U, Pt.locs, Pt.cells, Pt.slots] at X' l' y' z' st' hQ
  subst l' y' z'
  exact (K v T' L X' hQ).on fun t k => st'.trans k
end OwnKit2
section OwnKit3
variable {p : Program} {l : Launch} {e : Env} {R : Room} {s : State} {m : MethodId} {args : Array Value} {below : List Frame} {meth : Method} {c : Code} {T : State} {locs : List Loc} {cells slots : Nat} {Z : State} {a0 : Array Value} {h h' : Heap} {Ev : State → Outcome → Prop}
theorem own_nf {s : State} {args : Array Value} {C : String} {x y z : MethodName} (w : (Jvm.Cond.selects C x z).before args s = true) (hz : z.cls = y.cls) : NotFace s y := fun r0 h0 => by
  obtain ⟨cc, rr, mm, -, -, s2, -, kP, s3, s4⟩ := Cond.selects_spec w
  have f1 := findClass_of_methodNamed s2
  have f2 := findClass_of_methodNamed h0
  rw [hz] at f1
  have e := Option.some.inj (f1.symm.trans f2)
  rw [e] at s3
  exact ⟨kP, s3, s4⟩
theorem g_face (X : Stand p l e R s m args below meth c T locs cells slots) (hx : p.tables.exec = Jvm.exec) {pc : Nat} {Ls : Array Slot} {st : List Value} (hZ : Z.Warmed39 s.vm) {own : String} {i : Nat} {y z : MethodName} {C : String} {bytes : ByteArray} {maxL : Nat} {ret : Option FieldType} {rm : Room} {as' : Array Value} {Q : Option Value → Heap → List Loc → Prop} {argsL rest : List Value} {cn : Nat} (hown : s.vm.findClass own = some m.cls) (w1 : (Jvm.Cond.methodLink own i y).before a0 Z = true) (w2 : (Jvm.Cond.declares y).before a0 Z = true) (w5 : (Jvm.Cond.interfaceMethod y.cls y.cls y.name y.desc).before args s = true) (w6 : (Jvm.Cond.selects C y z).before a0 Z = true) (w7 : (Jvm.Cond.instanceMethod z).before a0 Z = true) (w8 : (Jvm.Cond.publicMethod z).before a0 Z = true) (w9 : (Jvm.Cond.unhidden C y.name y.desc).before a0 Z = true) (wc : (Jvm.Cond.castable C y.cls).before a0 Z = true) (w3 : (Jvm.Cond.initialized z.cls).before a0 Z = true) (w4 : (Jvm.Cond.code z bytes maxL ret).before a0 Z = true) (hy : y.cls ≠ "java/lang/invoke/MethodHandle" ∧ y.cls ≠ "java/lang/invoke/VarHandle") (hM : MetFree l z (head1 [Jvm.Cond.code z bytes maxL ret] rm) (fun a U => a = as' ∧ Z.Warmed39 U.vm ∧ U.heap = h) (fun _ _ _ _ _ => True) (fun _ U o U' => ∃ v L, o = .returned v ∧ Q v U'.heap L ∧ FrameEnd U o U' L rm.cells rm.slots)) (eT : T.heap = h) {b : Addr} (E : Exa Z h b C) (hst : st = argsL.reverse ++ .ref b :: rest) (has : (.ref b :: argsL).toArray = as') (W : Nat) (q : Nat) (hq : pc + 5 = q) (hsz : Ls.size = c.maxLocals) (hlen : ∀ sig, parseMethodDescriptor y.desc = some sig → argsL.length = sig.parameters.length) (hW : (rest.map fun v => v.category).sum ≤ W) (hf : rm.frames + 1 ≤ R.frames) (hl : W + (maxL + 11) + rm.locals ≤ R.locals) (hc : cells + rm.cells ≤ R.cells) (hs : slots + rm.slots ≤ R.slots) (hd : decode c.code pc = .ok (.invokeinterface i cn, 5))
    (K : ∀ (v : Option Value) (T' : State) (L : List Loc), Stand p l e R s m args below meth c T' (locs ++ L) (cells + rm.cells) (slots + rm.slots) → Q v T'.heap L → Go p e below Ev T' (mkF m q Ls (v.toList ++ rest))) : Go p e below Ev T (mkF m pc Ls st) := by
  subst hq hst
  obtain ⟨cq, kq, qa, qb, qc⟩ := isOf hZ eT E
  obtain ⟨v, vm1, ⟨T', L', k', n'⟩, -, X', ⟨L, hQ, l', y', z'⟩, st'⟩ := X.interfaceBack hx hown (mvT hZ w1) (mvT hZ w2) w5 (mvT hZ w6) (mvT hZ w7) (mvT hZ w8) (mvT hZ w9) (mvT hZ wc) hy (backOf (W := W) hM hZ w4 w3 hf hl) qa qb qc (g := mkF m pc Ls (argsL.reverse ++ .ref b :: rest)) rfl hsz (Steps.refl _) (argsL := argsL) (rest := rest) hlen rfl (by show 2 * 0 + _ ≤ _; omega) hd (fun _ _ => ⟨has, eT, hc, hs⟩)
  dsimp only [Pt.U, Pt.locs, Pt.cells, Pt.slots] at X' l' y' z' st' hQ
  subst l' y' z'
  exact (K v T' L X' hQ).on fun t k => st'.trans k
theorem g_virtN (X : Stand p l e R s m args below meth c T locs cells slots) (hx : p.tables.exec = Jvm.exec) {pc : Nat} {Ls : Array Slot} {st : List Value} (hZ : Z.Warmed39 s.vm) {own : String} {i : Nat} {y z : MethodName} {C : String} {bytes : ByteArray} {maxL : Nat} {ret : Option FieldType} {rm : Room} {as' : Array Value} {Q : Option Value → Heap → List Loc → Prop} {argsL rest : List Value} {C1 : String} {x1 z1 : MethodName} (hown : s.vm.findClass own = some m.cls) (w1 : (Jvm.Cond.methodLink own i y).before a0 Z = true) (w2 : (Jvm.Cond.declares y).before a0 Z = true) (w5 : (Jvm.Cond.selects C1 x1 z1).before a0 Z = true) (hz1 : z1.cls = y.cls) (w6 : (Jvm.Cond.selects C y z).before a0 Z = true) (w7 : (Jvm.Cond.instanceMethod z).before a0 Z = true) (w3 : (Jvm.Cond.initialized z.cls).before a0 Z = true) (w4 : (Jvm.Cond.code z bytes maxL ret).before a0 Z = true) (hy : y.cls ≠ "java/lang/invoke/MethodHandle" ∧ y.cls ≠ "java/lang/invoke/VarHandle") (hM : MetFree l z (head1 [Jvm.Cond.code z bytes maxL ret] rm) (fun a U => a = as' ∧ Z.Warmed39 U.vm ∧ U.heap = h) (fun _ _ _ _ _ => True) (fun _ U o U' => ∃ v L, o = .returned v ∧ Q v U'.heap L ∧ FrameEnd U o U' L rm.cells rm.slots)) (eT : T.heap = h) {b : Addr} (E : Exa Z h b C) (hst : st = argsL.reverse ++ .ref b :: rest) (has : (.ref b :: argsL).toArray = as') (W : Nat) (q : Nat) (hq : pc + 3 = q) (hsz : Ls.size = c.maxLocals) (hlen : ∀ sig, parseMethodDescriptor y.desc = some sig → argsL.length = sig.parameters.length) (hW : (rest.map fun v => v.category).sum ≤ W) (hf : rm.frames + 1 ≤ R.frames) (hl : W + (maxL + 11) + rm.locals ≤ R.locals) (hc : cells + rm.cells ≤ R.cells) (hs : slots + rm.slots ≤ R.slots) (hd : decode c.code pc = .ok (.invokevirtual i, 3))
    (K : ∀ (v : Option Value) (T' : State) (L : List Loc), Stand p l e R s m args below meth c T' (locs ++ L) (cells + rm.cells) (slots + rm.slots) → Q v T'.heap L → Go p e below Ev T' (mkF m q Ls (v.toList ++ rest))) : Go p e below Ev T (mkF m pc Ls st) := by
  subst hq hst
  obtain ⟨cq, kq, qa, qb, qc⟩ := isOf hZ eT E
  obtain ⟨v, vm1, ⟨T', L', k', n'⟩, -, X', ⟨L, hQ, l', y', z'⟩, st'⟩ := X.virtualBack hx hown (mvT hZ w1) (mvT hZ w2) (own_nf (args := #[]) (mvT hZ w5) hz1) (mvT hZ w6) (mvT hZ w7) hy (backOf (W := W) hM hZ w4 w3 hf hl) qa qc (g := mkF m pc Ls (argsL.reverse ++ .ref b :: rest)) rfl hsz (Steps.refl _) (argsL := argsL) (rest := rest) hlen rfl (by show 2 * 0 + _ ≤ _; omega) hd (fun _ _ => ⟨has, eT, hc, hs⟩)
  dsimp only [Pt.U, Pt.locs, Pt.cells, Pt.slots] at X' l' y' z' st' hQ
  subst l' y' z'
  exact (K v T' L X' hQ).on fun t k => st'.trans k
theorem g_virtUp (X : Stand p l e R s m args below meth c T locs cells slots) (hx : p.tables.exec = Jvm.exec) {pc : Nat} {Ls : Array Slot} {st : List Value} (hZ : Z.Warmed39 s.vm) {own : String} {i : Nat} {y z : MethodName} {C : String} {bytes : ByteArray} {maxL : Nat} {ret : Option FieldType} {rm : Room} {as' : Array Value} {Q : Option Value → Heap → List Loc → Prop} {argsL rest : List Value} {owner : String} (hown : s.vm.findClass own = some m.cls) (w1 : (Jvm.Cond.methodLink own i y).before a0 Z = true) (w2 : (Jvm.Cond.sameMethod y.cls owner y.name y.desc).before a0 Z = true) (w5 : (Jvm.Cond.declares ⟨owner, y.name, y.desc⟩).before a0 Z = true) (w6 : (Jvm.Cond.selects C y z).before a0 Z = true) (w7 : (Jvm.Cond.instanceMethod z).before a0 Z = true) (w3 : (Jvm.Cond.initialized z.cls).before a0 Z = true) (w4 : (Jvm.Cond.code z bytes maxL ret).before a0 Z = true) (hy : owner ≠ "java/lang/invoke/MethodHandle" ∧ owner ≠ "java/lang/invoke/VarHandle") (hM : MetFree l z (head1 [Jvm.Cond.code z bytes maxL ret] rm) (fun a U => a = as' ∧ Z.Warmed39 U.vm ∧ U.heap = h) (fun _ _ _ _ _ => True) (fun _ U o U' => ∃ v L, o = .returned v ∧ Q v U'.heap L ∧ FrameEnd U o U' L rm.cells rm.slots)) (eT : T.heap = h) {b : Addr} (E : Exa Z h b C) (hst : st = argsL.reverse ++ .ref b :: rest) (has : (.ref b :: argsL).toArray = as') (W : Nat) (q : Nat) (hq : pc + 3 = q) (hsz : Ls.size = c.maxLocals) (hlen : ∀ sig, parseMethodDescriptor y.desc = some sig → argsL.length = sig.parameters.length) (hW : (rest.map fun v => v.category).sum ≤ W) (hf : rm.frames + 1 ≤ R.frames) (hl : W + (maxL + 11) + rm.locals ≤ R.locals) (hc : cells + rm.cells ≤ R.cells) (hs : slots + rm.slots ≤ R.slots) (hd : decode c.code pc = .ok (.invokevirtual i, 3))
    (K : ∀ (v : Option Value) (T' : State) (L : List Loc), Stand p l e R s m args below meth c T' (locs ++ L) (cells + rm.cells) (slots + rm.slots) → Q v T'.heap L → Go p e below Ev T' (mkF m q Ls (v.toList ++ rest))) : Go p e below Ev T (mkF m pc Ls st) := by
  subst hq hst
  obtain ⟨cq, kq, qa, qb, qc⟩ := isOf hZ eT E
  obtain ⟨v, vm1, ⟨T', L', k', n'⟩, -, X', ⟨L, hQ, l', y', z'⟩, st'⟩ := X.virtualBackUp hx hown (mvT hZ w1) (mvT hZ w2) (mvT hZ w5) hy (mvT hZ w6) (mvT hZ w7) (backOf (W := W) hM hZ w4 w3 hf hl) qa qc (g := mkF m pc Ls (argsL.reverse ++ .ref b :: rest)) rfl hsz (Steps.refl _) (argsL := argsL) (rest := rest) hlen rfl (by show 2 * 0 + _ ≤ _; omega) hd (fun _ _ => ⟨has, eT, hc, hs⟩)
  dsimp only [Pt.U, Pt.locs, Pt.cells, Pt.slots] at X' l' y' z' st' hQ
  subst l' y' z'
  exact (K v T' L X' hQ).on fun t k => st'.trans k
theorem g_staticUp (X : Stand p l e R s m args below meth c T locs cells slots) (hx : p.tables.exec = Jvm.exec) {pc : Nat} {Ls : Array Slot} {st : List Value} (hZ : Z.Warmed39 s.vm) {own : String} {i : Nat} {y : MethodName} {owner : String} {bytes : ByteArray} {maxL : Nat} {ret : Option FieldType} {rm : Room} {as' : Array Value} {Q : Option Value → Heap → List Loc → Prop} {argsL rest : List Value} (hown : s.vm.findClass own = some m.cls) (w1 : (Jvm.Cond.methodLink own i y).before a0 Z = true) (w2 : (Jvm.Cond.sameMethod y.cls owner y.name y.desc).before a0 Z = true) (w5 : (Jvm.Cond.static ⟨owner, y.name, y.desc⟩).before a0 Z = true) (w3 : (Jvm.Cond.initialized owner).before a0 Z = true) (w4 : (Jvm.Cond.code ⟨owner, y.name, y.desc⟩ bytes maxL ret).before a0 Z = true) (hy : owner ≠ "java/lang/invoke/MethodHandle" ∧ owner ≠ "java/lang/invoke/VarHandle") (hM : MetFree l ⟨owner, y.name, y.desc⟩ (head1 [Jvm.Cond.code ⟨owner, y.name, y.desc⟩ bytes maxL ret] rm) (fun a U => a = as' ∧ Z.Warmed39 U.vm ∧ U.heap = h) (fun _ _ _ _ _ => True) (fun _ U o U' => ∃ v L, o = .returned v ∧ Q v U'.heap L ∧ FrameEnd U o U' L rm.cells rm.slots)) (eT : T.heap = h) (hst : st = argsL.reverse ++ rest) (has : argsL.toArray = as') (W : Nat) (q : Nat) (hq : pc + 3 = q) (hsz : Ls.size = c.maxLocals) (hlen : ∀ sig, parseMethodDescriptor y.desc = some sig → argsL.length = sig.parameters.length) (hW : (rest.map fun v => v.category).sum ≤ W) (hf : rm.frames + 1 ≤ R.frames) (hl : W + (maxL + 11) + rm.locals ≤ R.locals) (hc : cells + rm.cells ≤ R.cells) (hs : slots + rm.slots ≤ R.slots) (hd : decode c.code pc = .ok (.invokestatic i, 3))
    (K : ∀ (v : Option Value) (T' : State) (L : List Loc), Stand p l e R s m args below meth c T' (locs ++ L) (cells + rm.cells) (slots + rm.slots) → Q v T'.heap L → Go p e below Ev T' (mkF m q Ls (v.toList ++ rest))) : Go p e below Ev T (mkF m pc Ls st) := by
  subst hq hst
  obtain ⟨mk, hnamed⟩ := Cond.code_named (mvT hZ w4 : (Jvm.Cond.code ⟨owner, y.name, y.desc⟩ bytes maxL ret).before args s = true)
  obtain ⟨methM, cM, hmethM, -, -, -, -, -, -, hsigM⟩ := Cond.code_spec (args := args) hnamed (mvT hZ w4)
  obtain ⟨v, vm1, ⟨T', L', k', n'⟩, -, X', ⟨L, hQ, l', y', z'⟩, st'⟩ := X.staticBackUp hx hown (mvT hZ w1) (mvT hZ w2) (mvT hZ w5) (mvT hZ w3) hnamed hmethM hsigM hy (backOf (W := W) hM hZ w4 w3 hf hl) (g := mkF m pc Ls (argsL.reverse ++ rest)) rfl hsz (Steps.refl _) (argsL := argsL) (rest := rest) hlen rfl (by show 2 * 0 + _ ≤ _; omega) hd (fun _ _ => ⟨has, eT, hc, hs⟩)
  dsimp only [Pt.U, Pt.locs, Pt.cells, Pt.slots] at X' l' y' z' st' hQ
  subst l' y' z'
  exact (K v T' L X' hQ).on fun t k => st'.trans k
theorem g_getS (X : Stand p l e R s m args below meth c T locs cells slots) (hx : p.tables.exec = Jvm.exec) {pc : Nat} {Ls : Array Slot} {st : List Value} (hZ : Z.Warmed39 s.vm) {own R0 O n d : String} {i : Nat} (hown : s.vm.findClass own = some m.cls) (w : (Jvm.Cond.fieldLink own i R0 n d).before a0 Z = true) (via : Via Z R0 O n d) (eT : T.heap = h) {v : Value} (F : Sta Z h O n d v) (q : Nat) (hd : decode c.code pc = .ok (.getstatic i, 3)) (hq : pc + 3 = q) (K : ∀ T', Stand p l e R s m args below meth c T' locs cells slots → T'.heap = h → Go p e below Ev T' (mkF m q Ls (v :: st))) : Go p e below Ev T (mkF m pc Ls st) := by
  subst hq
  obtain ⟨T', X', e', st'⟩ := getS X hx hZ hown (host := "") w via eT F (g := mkF m pc Ls st) rfl hd
  exact (K T' X' e').on st'
theorem g_newR (X : Stand p l e R s m args below meth c T locs cells slots) (hx : p.tables.exec = Jvm.exec) {pc : Nat} {Ls : Array Slot} {st : List Value} (hZ : Z.Warmed39 s.vm) {own C : String} {i : Nat} (hown : s.vm.findClass own = some m.cls) (w1 : (Jvm.Cond.classLink own i C).before a0 Z = true) (w2 : (Jvm.Cond.arrayOver (.object C)).before a0 Z = true) (eT : T.heap = h) {n : Int32} (hn : 0 ≤ n.toInt) {cap : Nat} (hcap : n.toInt ≤ cap) (hb : cap * 8 ≤ 536870912) (q : Nat) (hd : decode c.code pc = .ok (.anewarray i, 3)) (hq : pc + 3 = q) (hc : cells + 1 ≤ R.cells) (hl : slots + cap ≤ R.slots)
    (K : ∀ (T' : State) (h' : Heap) (k : ClassId) (a : Addr), a = h.size → Stand p l e R s m args below meth c T' locs (cells + 1) (slots + cap) → T'.heap = h' → Ext h h' → Arv Z h' a k (.object C) n [] .null → Ovr Z k C → Go p e below Ev T' (mkF m q Ls (.ref a :: st))) : Go p e below Ev T (mkF m pc Ls (.int n :: st)) := by
  subst hq
  have hn' : ¬ n < 0 := fun q => by have := (own_i0 n).1.mp q; omega
  obtain ⟨T', h', k, X', e', E', A', O', st'⟩ := newR X hx hZ hown w1 w2 eT (g := mkF m pc Ls (.int n :: st)) rfl hd rfl hn' (cap := cap) (by simp only [Int32.toNatClampNeg]; omega) hb hc hl
  exact (K T' h' k _ rfl X' e' E' (Arv.new A' hn') O').on st'
theorem g_aastoreN (X : Stand p l e R s m args below meth c T locs cells slots) (hx : p.tables.exec = Jvm.exec) {pc : Nat} {Ls : Array Slot} {st : List Value} (hZ : Z.Warmed39 s.vm) (eT : T.heap = h) {a : Addr} {k : ClassId} {ty : FieldType} (hty : ty.isReference = true) {z j : Int32} {vs : List Value} {dv : Value} (V : Arv Z h a k ty z vs dv) (hf : fits ty .null = true) (i : Nat) (hi : j.toInt = (i : Int)) (hz : j.toInt < z.toInt) (hv : i < vs.length) (q : Nat) (hd : decode c.code pc = .ok (.aastore, 1)) (hq : pc + 1 = q)
    (K : ∀ T' h', Stand p l e R s m args below meth c T' (locs ++ [⟨a, j.toNatClampNeg⟩]) cells slots → T'.heap = h' → Wr h h' a j.toNatClampNeg .null → Arv Z h' a k ty z (vs.set i .null) dv → Go p e below Ev T' (mkF m q Ls st)) : Go p e below Ev T (mkF m pc Ls (.null :: .int j :: .ref a :: st)) := by
  subst hq
  obtain ⟨cl, A, q1, S, q3, H, G⟩ := V
  have hj := own_at j (by omega) z hz S
  obtain ⟨T', h', X', e', W', st'⟩ := Jvm.RoadKit.stR X hx hZ eT A hj hty (Or.inl rfl) (g := mkF m pc Ls (.null :: .int j :: .ref a :: st)) rfl rfl hd
  exact (K T' h' X' e' W' (Arv.set A q1 S q3 H G hf W' i (own_ncl hi) hv)).on st'
theorem g_acmp_eq (X : Stand p l e R s m args below meth c T locs cells slots) (hx : p.tables.exec = Jvm.exec) {pc : Nat} {Ls : Array Slot} {st : List Value} {x y : Addr} {o : Int} (q1 q2 : Nat) (hd : decode c.code pc = .ok (.if_acmp .eq o, 3)) (ho : 0 ≤ (pc : Int) + o) (h1 : ((pc : Int) + o).toNat = q1) (h2 : pc + 3 = q2) (Kt : x = y → Go p e below Ev T (mkF m q1 Ls st)) (Kf : x ≠ y → Go p e below Ev T (mkF m q2 Ls st)) : Go p e below Ev T (mkF m pc Ls (.ref y :: .ref x :: st)) := by
  by_cases hc : x = y
  · exact (Kt hc).on fun _ k => Jvm.RoadKit.acmp (g := mkF m pc Ls (.ref y :: .ref x :: st)) X hx rfl rfl rfl (pc0 := pc) (pc' := q1) (same := true) rfl hd rfl (by simp [hc]) ho (by simp [acV, h1]) k
  · exact (Kf hc).on fun _ k => Jvm.RoadKit.acmp (g := mkF m pc Ls (.ref y :: .ref x :: st)) X hx rfl rfl rfl (pc0 := pc) (pc' := q2) (same := false) rfl hd rfl (by simp [hc]) ho (by simp [acV, h2]) k
theorem g_copy0 (X : Stand p l e R s m args below meth c T locs cells slots) (hx : p.tables.exec = Jvm.exec) {pc : Nat} {Ls : Array Slot} {st : List Value} (hZ : Z.Warmed39 s.vm) {own : String} {i : Nat} (hown : s.vm.findClass own = some m.cls) (w1 : (Jvm.Cond.methodLink own i Jvm.Stand.acN).before a0 Z = true) (w2 : (Jvm.Cond.native Jvm.Stand.acN).before a0 Z = true) (w3 : (Jvm.Cond.static Jvm.Stand.acN).before a0 Z = true) (w4 : (Jvm.Cond.initialized "java/lang/System").before a0 Z = true) (eT : T.heap = h) {a : Addr} {k : ClassId} {C : String} {z sp dp : Int32} {vs : List Value} {dv : Value} (A : Arv Z h a k (.object C) z vs dv) (b1 : 0 ≤ sp.toInt ∧ sp.toInt ≤ z.toInt) (b2 : 0 ≤ dp.toInt ∧ dp.toInt ≤ z.toInt) (W : Nat) (q : Nat) (hd : decode c.code pc = .ok (.invokestatic i, 3)) (hq : pc + 3 = q) (hsz : Ls.size = c.maxLocals) (hf : 1 ≤ R.frames) (hW : (st.map fun v => v.category).sum ≤ W) (hl : W + (nativeFrameWords "java/lang/System" "arraycopy" 5 + 11) ≤ R.locals)
    (K : ∀ T', Stand p l e R s m args below meth c T' locs cells slots → T'.heap = h → Go p e below Ev T' (mkF m q Ls st)) : Go p e below Ev T (mkF m pc Ls (.int 0 :: .int dp :: .ref a :: .int sp :: .ref a :: st)) := by
  subst hq
  obtain ⟨cs, As, q1, S, q3, H, G⟩ := A
  obtain ⟨os, ks, hks, sc, hsk⟩ := State.isArrayOf_alike hZ.alike As.2.1
  have g1 : ¬ sp < 0 := fun q => by have := (own_i0 sp).1.mp q; omega
  have g2 : ¬ dp < 0 := fun q => by have := (own_i0 dp).1.mp q; omega
  have l0 : (0 : Int32).toInt = 0 := by decide
  have zz : (z.toNatClampNeg : Int) = z.toInt := by simp only [Int32.toNatClampNeg]; omega
  obtain ⟨vm₁, hW₁, X', st'⟩ := X.arraycopyK hx hown (mvT hZ w1) (mvT hZ w2) (mvT hZ w3) (mvT hZ w4) (n := 0) (srcPos := sp) (destPos := dp) (by rw [eT]; exact As.1) (by rw [eT]; exact As.1) os os As.2.2 As.2.2 hks hks hsk hsk (by simp [refKind]) g1 g2 (by decide) (by rw [l0, S]; omega) (by rw [l0, S]; omega) (fun vm₁ hw i hi => absurd hi (Nat.not_lt_zero _)) (g := mkF m pc Ls (.int 0 :: .int dp :: .ref a :: .int sp :: .ref a :: st)) rfl hsz rfl hd hf (by show 2 * 0 + _ + _ ≤ _; omega)
  have e1 : copied cs cs sp dp 0 = cs := rfl
  have e2 : copyLocs a dp.toNatClampNeg (0 : Int32).toNatClampNeg = [] := rfl
  rw [e1] at X' st'
  rw [e2, List.append_nil] at X'
  refine (K _ X' ?_).on st'
  show T.heap.setIfInBounds a cs = h
  rw [eT]
  refine Array.ext_getElem? fun i => ?_
  by_cases e : a = i
  · subst e
    rw [Array.getElem?_setIfInBounds_self_of_lt (Array.getElem?_eq_some_iff.mp As.1).1, As.1]
  · rw [Array.getElem?_setIfInBounds_ne e]
end OwnKit3
section OwnKitS
variable {p : Program} {l : Launch} {e : Env} {R : Room} {s : State} {m : MethodId} {args : Array Value} {below : List Frame} {meth : Method} {c : Code} {T : State} {locs : List Loc} {cells slots : Nat} {Z : State} {a0 : Array Value} {h h' : Heap} {Ev : State → Outcome → Prop} {vm0 : Vm} {k0 : Nat}
abbrev EndW (s : State) (Q : Option Value → Heap → List Loc → Prop) (K N : Nat) : State → Outcome → Prop := fun U o => ∃ (v : Option Value) (L : List Loc), o = .returned v ∧ Q v U.heap L ∧ ReturnedEndW s o U L K N
theorem own_metS {x : MethodName} {code : ByteArray} {ml : Nat} {ret : Option FieldType} {ws : List Jvm.Cond} {rm : Room} {as : Array Value} {h0 : Heap} {Q : Option Value → Heap → List Loc → Prop} {K N : Nat} {Ls : Array Slot} (hpn : plainFor x = true) (hef : ∀ m, entryFrame m as ml = mkF m 0 Ls [])
    (body : ∀ (p : Program) (e : Env) (s : State) (m : MethodId) (below : List Frame) (meth : Method) (c : Code) (T : State), Stand p l e rm (s.setVm s.vm) m as below meth c T [] 0 0 → p.tables.exec = Jvm.exec → c.code = code → c.maxLocals = ml → meth.sig.returnType = ret → meth.locks = false → meth.name = x.name → (s.setVm s.vm).vm.findClass x.cls = some m.cls → Z.Warmed39 (s.setVm s.vm).vm → T.heap = h0 → s.Since s.vm 0 → Go p e below (EndW s Q K N) T (mkF m 0 Ls [])) :
    MetFree l x (head1 (Jvm.Cond.code x code ml ret :: ws) rm) (fun a U => a = as ∧ Z.Warmed39 U.vm ∧ U.heap = h0) (fun _ _ _ _ _ => True) (fun _ U o U' => ∃ v L, o = .returned v ∧ Q v U'.heap L ∧ ReturnedEndW U o U' L K N) := by
  refine MetFree.of_bodySF hpn hisR ?_
  intro p e s m args below meth c s₁ Bd hml0 hP hK
  obtain ⟨rfl, hZ, hh⟩ := hP
  have e0 : s₁.heap = h0 := by rw [← hh, Bd.state]; rfl
  obtain ⟨U, o, h1, h2, h3, h4⟩ := body p e s m below meth c s₁ (Stand.of_body Bd) Bd.exec Bd.bytes hml0 Bd.returns (BodyLoose.notSynchronized Bd) (name_of_methodNamed Bd.named Bd.method).1 (findClass_of_methodNamed Bd.named) hZ e0 ⟨State.Warmed39.refl s, fun j q hj hq => absurd (Array.getElem?_eq_some_iff.mp hq).1 (Nat.not_lt.mpr hj)⟩
  rw [← hef m] at h1
  exact ⟨U, o, h1, h2, h3, h4⟩
theorem g_leaveW (X : Stand p l e R (s.setVm vm0) m args below meth c T locs cells slots) (hlk : meth.locks = false) {Q : Option Value → Heap → List Loc → Prop} {K N : Nat} {g : JFrame} {v : Option Value} (hv : meth.sig.returnType = none → v = none) (hK : cells ≤ K) (hN : slots ≤ N) (eT : T.heap = h) (hS : s.Since vm0 k0) (hk : k0 ≤ h.size) (hQ : Q v h locs)
    (hst : ∀ fs, (∀ (f : JFrame) (acts : List Action), f.method = m → f.locked = none → f.entered = [] → (doReturn e (T.setTop f) acts v).1 = T.setFrames fs) → Steps p.tables e below (T.setTop g) (T.setFrames fs)) : Go p e below (EndW s Q K N) T g := by
  obtain ⟨fs, hr, hrun, hended, hW, hsame⟩ := X.leave (v := v) hv hlk
  obtain ⟨q1, q2, q3⟩ := hS.ended (U := T.setFrames fs) hW (by show k0 ≤ T.heap.size; rw [eT]; exact hk) hsame
  exact ⟨_, _, hst fs hr, hrun, hended, _, _, rfl, by rw [show (T.setFrames fs).heap = T.heap from rfl, eT]; exact hQ, ⟨_, rfl⟩, q1, q2, q3.mono hK hN⟩
theorem g_retZW (X : Stand p l e R (s.setVm vm0) m args below meth c T locs cells slots) (hx : p.tables.exec = Jvm.exec) (hlk : meth.locks = false) {Q : Option Value → Heap → List Loc → Prop} {K N : Nat} {pc : Nat} {Ls : Array Slot} {z : Int32} {rest : List Value} (hret : meth.sig.returnType = some .boolean) (hd : decode c.code pc = .ok (.ireturn, 1)) (hK : cells ≤ K) (hN : slots ≤ N) (eT : T.heap = h) (hS : s.Since vm0 k0) (hk : k0 ≤ h.size) (hQ : Q (some (.int (nar .boolean z))) h locs) : Go p e below (EndW s Q K N) T (mkF m pc Ls (.int z :: rest)) :=
  g_leaveW X hlk (fun q => by rw [hret] at q; cases q) hK hN eT hS hk hQ (fun fs hr => retN X hx (t := .boolean) hret (by simp) hd hr)
theorem g_retVW (X : Stand p l e R (s.setVm vm0) m args below meth c T locs cells slots) (hx : p.tables.exec = Jvm.exec) (hlk : meth.locks = false) {Q : Option Value → Heap → List Loc → Prop} {K N : Nat} {pc : Nat} {Ls : Array Slot} (hret : meth.sig.returnType = none) (hd : decode c.code pc = .ok (.return_, 1)) (hK : cells ≤ K) (hN : slots ≤ N) (eT : T.heap = h) (hS : s.Since vm0 k0) (hk : k0 ≤ h.size) (hQ : Q none h locs) : Go p e below (EndW s Q K N) T (mkF m pc Ls []) :=
  g_leaveW X hlk (fun _ => rfl) hK hN eT hS hk hQ (fun fs hr => X.returnOut hx hret hd hr)
theorem g_ldcS (X : Stand p l e R (s.setVm vm0) m args below meth c T locs cells slots) (hx : p.tables.exec = Jvm.exec) {pc : Nat} {Ls : Array Slot} {st : List Value} (hZ : Z.Warmed39 (s.setVm vm0).vm) {own text : String} {i : Nat} (hown : (s.setVm vm0).vm.findClass own = some m.cls) (w : (Jvm.Cond.stringLink own i text).before a0 Z = true) (wS : ∀ a ∈ Bundle.stringAtoms, a.before a0 Z = true) (eT : T.heap = h) (hS : s.Since vm0 k0) (hk : k0 ≤ h.size) (n : Nat) (hn : 4 * text.toList.length ≤ n) (hbig : n ≤ 536870912) (q : Nat) (hd : decode c.code pc = .ok (.ldc i, 2)) (hq : pc + 2 = q) (hc : cells + 2 ≤ R.cells) (hl : slots + (n + 4) ≤ R.slots)
    (K : ∀ (a : Addr) (T' : State) (h' : Heap) (k1 : Nat), Stand p l e R (s.setVm T'.vm) m args below meth c T' locs (cells + 2) (slots + (n + 4)) → T'.heap = h' → Ext h h' → s.Since T'.vm k1 → k1 ≤ h'.size → Z.Warmed39 (s.setVm T'.vm).vm → (s.setVm T'.vm).vm.findClass own = some m.cls → Go p e below Ev T' (mkF m q Ls (.ref a :: st))) : Go p e below Ev T (mkF m pc Ls st) := by
  subst hq
  obtain ⟨a, T', h', k1, X', e', E', S', k', Z', o', st'⟩ := ldcS X hx hZ hown w wS eT hS hk (g := mkF m pc Ls st) rfl hd hn hbig hc hl
  exact (K a T' h' k1 X' e' E' S' k' Z' o').on st'
theorem g_initS (X : Stand p l e R (s.setVm vm0) m args below meth c T locs cells slots) (hx : p.tables.exec = Jvm.exec) {pc : Nat} {Ls : Array Slot} {st : List Value} (hZ : Z.Warmed39 (s.setVm vm0).vm) {own : String} {i : Nat} {y : MethodName} {bytes : ByteArray} {maxL : Nat} {rm : Room} {as' : Array Value} {Q : Option Value → Heap → List Loc → Prop} {argsL rest : List Value} (hy1 : y.name = "<init>") (hown : (s.setVm vm0).vm.findClass own = some m.cls) (w1 : (Jvm.Cond.methodLink own i y).before a0 Z = true) (w2 : (Jvm.Cond.instanceMethod y).before a0 Z = true) (w3 : (Jvm.Cond.initialized y.cls).before a0 Z = true) (w4 : (Jvm.Cond.code y bytes maxL none).before a0 Z = true) (hy : y.cls ≠ "java/lang/invoke/MethodHandle" ∧ y.cls ≠ "java/lang/invoke/VarHandle") (hM : MetFree l y (head1 [Jvm.Cond.code y bytes maxL none] rm) (fun a U => a = as' ∧ Z.Warmed39 U.vm ∧ U.heap = h) (fun _ _ _ _ _ => True) (fun _ U o U' => ∃ v L, o = .returned v ∧ Q v U'.heap L ∧ ReturnedEndW U o U' L rm.cells rm.slots)) (eT : T.heap = h) (hS : s.Since vm0 k0) (hk : k0 ≤ h.size) {a : Addr} (hst : st = argsL.reverse ++ .ref a :: rest) (has : (.ref a :: argsL).toArray = as') (W : Nat) (q : Nat) (hq : pc + 3 = q) (hsz : Ls.size = c.maxLocals) (hlen : ∀ sig, parseMethodDescriptor y.desc = some sig → argsL.length = sig.parameters.length) (hW : (rest.map fun v => v.category).sum ≤ W) (hf : rm.frames + 1 ≤ R.frames) (hl : W + (maxL + 11) + rm.locals ≤ R.locals) (hc : cells + rm.cells ≤ R.cells) (hs : slots + rm.slots ≤ R.slots) (hd : decode c.code pc = .ok (.invokespecial i, 3))
    (K : ∀ (v : Option Value) (T' : State) (L : List Loc), Stand p l e R (s.setVm T'.vm) m args below meth c T' (locs ++ L) (cells + rm.cells) (slots + rm.slots) → s.Since T'.vm T'.heap.size → Z.Warmed39 (s.setVm T'.vm).vm → (s.setVm T'.vm).vm.findClass own = some m.cls → Q v T'.heap L → Go p e below Ev T' (mkF m q Ls (v.toList ++ rest))) : Go p e below Ev T (mkF m pc Ls st) := by
  subst hq hst
  obtain ⟨v, vm1, ⟨T', L', k', n'⟩, -, X', S', g', ⟨L, hQ, l', y', z'⟩, st'⟩ := X.specialBackS hx hy1 hown (mvT hZ w1) (mvT hZ w2) (mvT hZ w4) hy (backOfS (W := W) hM hZ w4 w3 hf hl) (g := mkF m pc Ls (argsL.reverse ++ .ref a :: rest)) rfl hsz (Steps.refl _) (a := a) (argsL := argsL) (rest := rest) hlen rfl (by show 2 * 0 + _ ≤ _; omega) hd (fun _ _ => ⟨has, eT, hc, hs⟩)
  dsimp only [Pt.U, Pt.locs, Pt.cells, Pt.slots] at X' S' g' l' y' z' st' hQ
  subst l' y' z'
  obtain ⟨X2, S2, Z2, o2⟩ := rebS hS hk X' S' (by rw [← eT]; exact g') hZ hown
  exact (K v T' L X2 S2 Z2 o2 hQ).on fun t k => st'.trans k
end OwnKitS
section OwnKit4
variable {p : Program} {l : Launch} {e : Env} {R : Room} {s : State} {m : MethodId} {args : Array Value} {below : List Frame} {meth : Method} {c : Code} {T : State} {locs : List Loc} {cells slots : Nat} {Z : State} {a0 : Array Value} {h h' : Heap} {Ev : State → Outcome → Prop} {vm0 : Vm} {k0 : Nat} {EL : List (String × Nat)}
theorem g_retN (X : Stand p l e R s m args below meth c T locs cells slots) (hx : p.tables.exec = Jvm.exec) (hlk : meth.locks = false) {Q : Option Value → Heap → List Loc → Prop} {K N : Nat} {pc : Nat} {Ls : Array Slot} {z : Int32} {rest : List Value} {t : FieldType} (hret : meth.sig.returnType = some t) (ht : t = .char ∨ t = .byte) (hd : decode c.code pc = .ok (.ireturn, 1)) (hK : cells ≤ K) (hN : slots ≤ N) (eT : T.heap = h) (hQ : Q (some (.int (nar t z))) h locs) : Go p e below (EndQ s Q K N) T (mkF m pc Ls (.int z :: rest)) :=
  g_leave X hlk (fun q => by rw [hret] at q; cases q) hK hN eT hQ (fun fs hr => retN X hx hret (by rcases ht with rfl | rfl <;> simp) hd hr)
theorem g_caload (X : Stand p l e R s m args below meth c T locs cells slots) (hx : p.tables.exec = Jvm.exec) {pc : Nat} {Ls : Array Slot} {st : List Value} (hZ : Z.Warmed39 s.vm) (eT : T.heap = h) {a : Addr} {k : ClassId} {z j : Int32} {v : Value} {vs : List Value} {dv : Value} (V : Arv Z h a k .char z vs dv) (hi : 0 ≤ j.toInt) (hz : j.toInt < z.toInt) (hv : vs.getD j.toNatClampNeg dv = v) (q : Nat) (hd : decode c.code pc = .ok (.caload, 1)) (hq : pc + 1 = q) (K : Go p e below Ev T (mkF m q Ls (v :: st))) : Go p e below Ev T (mkF m pc Ls (.int j :: .ref a :: st)) := by
  subst hq
  obtain ⟨cl, A, q1, S, q3, H, G⟩ := V
  have hj := own_at j hi z hz S
  exact K.on fun t k => X.caload hx (by rw [eT]; exact A.1) (State.isArrayOf_alike hZ.alike A.2.1) A.2.2 hj (H.at hj hv) (g := mkF m pc Ls (.int j :: .ref a :: st)) rfl rfl hd t k
theorem g_baload (X : Stand p l e R s m args below meth c T locs cells slots) (hx : p.tables.exec = Jvm.exec) {pc : Nat} {Ls : Array Slot} {st : List Value} (hZ : Z.Warmed39 s.vm) (eT : T.heap = h) {a : Addr} {k : ClassId} {z j : Int32} {v : Value} {vs : List Value} {dv : Value} (V : Arv Z h a k .byte z vs dv) (hi : 0 ≤ j.toInt) (hz : j.toInt < z.toInt) (hv : vs.getD j.toNatClampNeg dv = v) (q : Nat) (hd : decode c.code pc = .ok (.baload, 1)) (hq : pc + 1 = q) (K : Go p e below Ev T (mkF m q Ls (v :: st))) : Go p e below Ev T (mkF m pc Ls (.int j :: .ref a :: st)) := by
  subst hq
  obtain ⟨cl, A, q1, S, q3, H, G⟩ := V
  have hj := own_at j hi z hz S
  exact K.on fun t k => X.baloadBytes hx (by rw [eT]; exact A.1) (State.isArrayOf_alike hZ.alike A.2.1) A.2.2 hj (H.at hj hv) (g := mkF m pc Ls (.int j :: .ref a :: st)) rfl rfl hd t k
theorem g_castore (X : Stand p l e R s m args below meth c T locs cells slots) (hx : p.tables.exec = Jvm.exec) {pc : Nat} {Ls : Array Slot} {st : List Value} (hZ : Z.Warmed39 s.vm) (eT : T.heap = h) {a : Addr} {k : ClassId} {z j x : Int32} {vs : List Value} {dv : Value} (V : Arv Z h a k .char z vs dv) (i : Nat) (hi : j.toInt = (i : Int)) (hz : j.toInt < z.toInt) (hv : i < vs.length) (y : Int32) (hy : nar .char x = y) (q : Nat) (hd : decode c.code pc = .ok (.castore, 1)) (hq : pc + 1 = q)
    (K : ∀ T' h', Stand p l e R s m args below meth c T' (locs ++ [⟨a, j.toNatClampNeg⟩]) cells slots → T'.heap = h' → Wr h h' a j.toNatClampNeg (.int y) → Arv Z h' a k .char z (vs.set i (.int y)) dv → Go p e below Ev T' (mkF m q Ls st)) : Go p e below Ev T (mkF m pc Ls (.int x :: .int j :: .ref a :: st)) := by
  subst hq hy
  obtain ⟨cl, A, q1, S, q3, H, G⟩ := V
  have hj := own_at j (by omega) z hz S
  obtain ⟨T', h', X', e', W', st'⟩ := stC X hx hZ eT A hj (g := mkF m pc Ls (.int x :: .int j :: .ref a :: st)) rfl rfl hd
  exact (K T' h' X' e' W' (Arv.set A q1 S q3 H G (fits_nar_char _) W' i (own_ncl hi) hv)).on st'
theorem g_bastore (X : Stand p l e R s m args below meth c T locs cells slots) (hx : p.tables.exec = Jvm.exec) {pc : Nat} {Ls : Array Slot} {st : List Value} (hZ : Z.Warmed39 s.vm) (eT : T.heap = h) {a : Addr} {k : ClassId} {z j x : Int32} {vs : List Value} {dv : Value} (V : Arv Z h a k .byte z vs dv) (i : Nat) (hi : j.toInt = (i : Int)) (hz : j.toInt < z.toInt) (hv : i < vs.length) (y : Int32) (hy : nar .byte x = y) (q : Nat) (hd : decode c.code pc = .ok (.bastore, 1)) (hq : pc + 1 = q)
    (K : ∀ T' h', Stand p l e R s m args below meth c T' (locs ++ [⟨a, j.toNatClampNeg⟩]) cells slots → T'.heap = h' → Wr h h' a j.toNatClampNeg (.int y) → Arv Z h' a k .byte z (vs.set i (.int y)) dv → Go p e below Ev T' (mkF m q Ls st)) : Go p e below Ev T (mkF m pc Ls (.int x :: .int j :: .ref a :: st)) := by
  subst hq hy
  obtain ⟨cl, A, q1, S, q3, H, G⟩ := V
  have hj := own_at j (by omega) z hz S
  obtain ⟨T', h', X', e', W', st'⟩ := stB X hx hZ eT A hj (g := mkF m pc Ls (.int x :: .int j :: .ref a :: st)) rfl rfl hd
  exact (K T' h' X' e' W' (Arv.set A q1 S q3 H G (fits_nar_byte _) W' i (own_ncl hi) hv)).on st'
theorem g_instY (X : Stand p l e R s m args below meth c T locs cells slots) (hx : p.tables.exec = Jvm.exec) {pc : Nat} {Ls : Array Slot} {st : List Value} (hZ : Z.Warmed39 s.vm) {own C : String} {i : Nat} (hown : s.vm.findClass own = some m.cls) (w : (Jvm.Cond.classLink own i C).before a0 Z = true) (eT : T.heap = h) {a : Addr} (F : Ins Z h a C true) (q : Nat) (hd : decode c.code pc = .ok (.instanceof i, 3)) (hq : pc + 3 = q) (K : ∀ T', Stand p l e R s m args below meth c T' locs cells slots → T'.heap = h → Go p e below Ev T' (mkF m q Ls (.int 1 :: st))) : Go p e below Ev T (mkF m pc Ls (.ref a :: st)) := by
  subst hq
  obtain ⟨T', X', e', st'⟩ := instY X hx hZ hown w eT F (g := mkF m pc Ls (.ref a :: st)) rfl rfl hd
  exact (K T' X' e').on st'
theorem g_instNull (X : Stand p l e R s m args below meth c T locs cells slots) (hx : p.tables.exec = Jvm.exec) {pc : Nat} {Ls : Array Slot} {st : List Value} {i : Nat} (q : Nat) (hd : decode c.code pc = .ok (.instanceof i, 3)) (hq : pc + 3 = q) (K : Go p e below Ev T (mkF m q Ls (.int 0 :: st))) : Go p e below Ev T (mkF m pc Ls (.null :: st)) := by
  subst hq
  exact K.on fun t k => X.instanceofNull hx (g := mkF m pc Ls (.null :: st)) rfl rfl hd t k
theorem g_acmp_ne (X : Stand p l e R s m args below meth c T locs cells slots) (hx : p.tables.exec = Jvm.exec) {pc : Nat} {Ls : Array Slot} {st : List Value} {x y : Value} (h1' : x.isRef = true) (h2' : y.isRef = true) {o : Int} (q1 q2 : Nat) (hd : decode c.code pc = .ok (.if_acmp .ne o, 3)) (ho : 0 ≤ (pc : Int) + o) (h1 : ((pc : Int) + o).toNat = q1) (h2 : pc + 3 = q2) (Kt : x ≠ y → Go p e below Ev T (mkF m q1 Ls st)) (Kf : x = y → Go p e below Ev T (mkF m q2 Ls st)) : Go p e below Ev T (mkF m pc Ls (y :: x :: st)) := by
  by_cases hc : x = y
  · exact (Kf hc).on fun _ k => Jvm.RoadKit.acmp (g := mkF m pc Ls (y :: x :: st)) X hx rfl h1' h2' (pc0 := pc) (pc' := q2) (same := true) rfl hd rfl (by simp [hc]) ho (by simp [acV, h2]) k
  · exact (Kt hc).on fun _ k => Jvm.RoadKit.acmp (g := mkF m pc Ls (y :: x :: st)) X hx rfl h1' h2' (pc0 := pc) (pc' := q1) (same := false) rfl hd rfl (by simp [hc]) ho (by simp [acV, h1]) k
theorem g_ldcH (X : Stand p l e R (s.setVm vm0) m args below meth c T locs cells slots) (hx : p.tables.exec = Jvm.exec) {pc : Nat} {Ls : Array Slot} {st : List Value} (hZ : Z.Warmed39 (s.setVm vm0).vm) {own text : String} {i : Nat} (hown : (s.setVm vm0).vm.findClass own = some m.cls) (w : (Jvm.Cond.stringLink own i text).before a0 Z = true) (wS : ∀ a ∈ Bundle.stringAtoms, a.before a0 Z = true) (eT : T.heap = h) (hS : s.Since vm0 k0) (hk : k0 ≤ h.size) (hEL : EW Z a0 EL) (hmem : (own, i) ∈ EL) (H : CHv Z EL vm0 h) {vs : List Value} {z : Int32} (ht : (∀ c ∈ text.toList, c.toNat < 256) ∧ text.toList.map (fun c => Value.int (Jvm.Lit.byteI c.toNat.toUInt16)) = vs) (hz : ¬ z < 0) (hlz : z.toNatClampNeg = vs.length) (n : Nat) (hn : 4 * text.toList.length ≤ n) (hbig : n ≤ 536870912) (q : Nat) (hd : decode c.code pc = .ok (.ldc i, 2)) (hq : pc + 2 = q) (hc : cells + 2 ≤ R.cells) (hl : slots + (n + 4) ≤ R.slots)
    (K : ∀ (a : Addr) (T' : State) (h' : Heap) (k1 : Nat) (b : Addr) (k : ClassId), Stand p l e R (s.setVm T'.vm) m args below meth c T' locs (cells + 2) (slots + (n + 4)) → T'.heap = h' → Ext h h' → s.Since T'.vm k1 → k1 ≤ h'.size → Z.Warmed39 (s.setVm T'.vm).vm → (s.setVm T'.vm).vm.findClass own = some m.cls → Exa Z h' a "java/lang/String" → Fld Z h' a "java/lang/String" "coder" "B" (.int 0) → Fld Z h' a "java/lang/String" "value" "[B" (.ref b) → Arv Z h' b k .byte z vs (.int 0) → CHv Z EL T'.vm h' → Lit (s.setVm T'.vm) own i a → Go p e below Ev T' (mkF m q Ls (.ref a :: st))) : Go p e below Ev T (mkF m pc Ls st) := by
  subst hq
  obtain ⟨a, T', h', k1, b, k, r1, r2, r3, r4, r5, r6, r7, r8, r9, r10, r11, r12, r13, r14, r15, r16, st'⟩ := ldcCH X hx hZ hown w wS eT hS hk hEL hmem H ht hz hlz (g := mkF m pc Ls st) rfl hd hn hbig hc hl
  exact (K a T' h' k1 b k r1 r2 r3 r4 r5 r6 r7 r8 r9 r10 r11 r14.1 r15).on st'
theorem g_ldcA (X : Stand p l e R (s.setVm vm0) m args below meth c T locs cells slots) (hx : p.tables.exec = Jvm.exec) {pc : Nat} {Ls : Array Slot} {st : List Value} (hZ : Z.Warmed39 (s.setVm vm0).vm) {own text : String} {i : Nat} (hown : (s.setVm vm0).vm.findClass own = some m.cls) (w : (Jvm.Cond.stringLink own i text).before a0 Z = true) {a : Addr} (L : Lit (s.setVm vm0) own i a) (q : Nat) (hd : decode c.code pc = .ok (.ldc i, 2)) (hq : pc + 2 = q) (K : Go p e below Ev T (mkF m q Ls (.ref a :: st))) : Go p e below Ev T (mkF m pc Ls st) := by
  subst hq
  exact K.on fun t k => ldcAgain X hx hZ hown w L (g := mkF m pc Ls st) rfl hd t k
theorem own_backH {y : MethodName} {bytes : ByteArray} {maxL : Nat} {ret : Option FieldType} {rm : Room} {len W : Nat} {as' : Array Value} {Q : Option Value → Heap → List Loc → Prop}
    (hM : MetFree l y (head1 [Jvm.Cond.code y bytes maxL ret] rm) (fun a U => a = as' ∧ Z.Warmed39 U.vm ∧ U.heap = h ∧ CHv Z EL U.vm h) (fun _ _ _ _ _ => True) (fun _ U o U' => ∃ v L, o = .returned v ∧ Q v U'.heap L ∧ ReturnedEndW U o U' L rm.cells rm.slots))
    (hZ : Z.Warmed39 vm0) (wc : (Jvm.Cond.code y bytes maxL ret).before a0 Z = true) (wz : (Jvm.Cond.initialized y.cls).before a0 Z = true) (hf : rm.frames + 1 ≤ R.frames) (hl : W + (maxL + 11) + rm.locals ≤ R.locals) (hEL : EW Z a0 EL) (H : CHv Z EL vm0 h) :
    BackS l R p e below (s.setVm vm0) args y len W (fun A a => a = as' ∧ A.U.heap = h ∧ A.cells + rm.cells ≤ R.cells ∧ A.slots + rm.slots ≤ R.slots) (fun A _ v B => ∃ L, Q v B.U.heap L ∧ B.locs = A.locs ++ L ∧ B.cells = A.cells + rm.cells ∧ B.slots = A.slots + rm.slots) := by
  refine BackS.of_freeW (bytes := bytes) (maxL := maxL) (ret := ret) (E := fun _ _ o t L k n => k = rm.cells ∧ n = rm.slots ∧ ∃ v, o = .returned v ∧ Q v t.heap L) hM hf hl ?_ ?_ ?_ ?_ ?_
  · intro m meth c A a Y hp
    have hU : Z.Warmed39 A.U.vm := wtrans (s := s.setVm vm0) hZ Y.warmed
    refine ⟨?_, mv hU wc, mv hU wz, hp.2.2.1, hp.2.2.2⟩
    show (Jvm.Cond.and _ .tt).before a A.U = true
    rw [Cond.before_and, mv hU wc]; rfl
  · intro m meth c A a g mk Y hp
    exact ⟨hp.1, wtrans (s := s.setVm vm0) hZ Y.warmed, hp.2.1, (CHv.at Y hZ hEL H).1⟩
  · intros; trivial
  · rintro _ _ _ _ ⟨v, L, h1, h2, h3⟩
    exact ⟨L, _, _, h3, rfl, rfl, v, h1, h2⟩
  · rintro m meth c A a g mk v t L k n Y hp - - ⟨e1, e2, v', e3, e4⟩
    cases e3; subst e1 e2
    exact ⟨L, e4, rfl, rfl, rfl⟩
theorem own_metH {x : MethodName} {code : ByteArray} {ml : Nat} {ret : Option FieldType} {ws : List Jvm.Cond} {rm : Room} {as : Array Value} {h0 : Heap} {Q : Option Value → Heap → List Loc → Prop} {K N : Nat} {Ls : Array Slot} (hpn : plainFor x = true) (hef : ∀ m, entryFrame m as ml = mkF m 0 Ls [])
    (body : ∀ (p : Program) (e : Env) (s : State) (m : MethodId) (below : List Frame) (meth : Method) (c : Code) (T : State), Stand p l e rm (s.setVm s.vm) m as below meth c T [] 0 0 → p.tables.exec = Jvm.exec → c.code = code → c.maxLocals = ml → meth.sig.returnType = ret → meth.locks = false → meth.name = x.name → (s.setVm s.vm).vm.findClass x.cls = some m.cls → Z.Warmed39 (s.setVm s.vm).vm → T.heap = h0 → s.Since s.vm 0 → CHv Z EL s.vm h0 → Go p e below (EndW s Q K N) T (mkF m 0 Ls [])) :
    MetFree l x (head1 (Jvm.Cond.code x code ml ret :: ws) rm) (fun a U => a = as ∧ Z.Warmed39 U.vm ∧ U.heap = h0 ∧ CHv Z EL U.vm h0) (fun _ _ _ _ _ => True) (fun _ U o U' => ∃ v L, o = .returned v ∧ Q v U'.heap L ∧ ReturnedEndW U o U' L K N) := by
  refine MetFree.of_bodySF hpn hisR ?_
  intro p e s m args below meth c s₁ Bd hml0 hP hK
  obtain ⟨rfl, hZ, hh, hC⟩ := hP
  have e0 : s₁.heap = h0 := by rw [← hh, Bd.state]; rfl
  obtain ⟨U, o, h1, h2, h3, h4⟩ := body p e s m below meth c s₁ (Stand.of_body Bd) Bd.exec Bd.bytes hml0 Bd.returns (BodyLoose.notSynchronized Bd) (name_of_methodNamed Bd.named Bd.method).1 (findClass_of_methodNamed Bd.named) hZ e0 ⟨State.Warmed39.refl s, fun j q hj hq => absurd (Array.getElem?_eq_some_iff.mp hq).1 (Nat.not_lt.mpr hj)⟩ hC
  rw [← hef m] at h1
  exact ⟨U, o, h1, h2, h3, h4⟩
theorem g_retAW (X : Stand p l e R (s.setVm vm0) m args below meth c T locs cells slots) (hx : p.tables.exec = Jvm.exec) (hlk : meth.locks = false) {Q : Option Value → Heap → List Loc → Prop} {K N : Nat} {pc : Nat} {Ls : Array Slot} {w : Value} {rest : List Value} {t : FieldType} (hret : meth.sig.returnType = some t) (ht : t.isReference = true) (hw : w.isRef = true) (hn : narrow t w = w) (hd : decode c.code pc = .ok (.areturn, 1)) (hK : cells ≤ K) (hN : slots ≤ N) (eT : T.heap = h) (hS : s.Since vm0 k0) (hk : k0 ≤ h.size) (hQ : Q (some w) h locs) : Go p e below (EndW s Q K N) T (mkF m pc Ls (w :: rest)) :=
  g_leaveW X hlk (fun q => by rw [hret] at q; cases q) hK hN eT hS hk hQ (fun fs hr => retOut X hx hret hn (Or.inr (Or.inr (Or.inr (Or.inr ⟨rfl, ht, hw⟩)))) hd hr)
theorem g_initH (X : Stand p l e R (s.setVm vm0) m args below meth c T locs cells slots) (hx : p.tables.exec = Jvm.exec) {pc : Nat} {Ls : Array Slot} {st : List Value} (hZ : Z.Warmed39 (s.setVm vm0).vm) {own : String} {i : Nat} {y : MethodName} {bytes : ByteArray} {maxL : Nat} {rm : Room} {as' : Array Value} {Q : Option Value → Heap → List Loc → Prop} {argsL rest : List Value} (hy1 : y.name = "<init>") (hown : (s.setVm vm0).vm.findClass own = some m.cls) (w1 : (Jvm.Cond.methodLink own i y).before a0 Z = true) (w2 : (Jvm.Cond.instanceMethod y).before a0 Z = true) (w3 : (Jvm.Cond.initialized y.cls).before a0 Z = true) (w4 : (Jvm.Cond.code y bytes maxL none).before a0 Z = true) (hy : y.cls ≠ "java/lang/invoke/MethodHandle" ∧ y.cls ≠ "java/lang/invoke/VarHandle") (hM : MetFree l y (head1 [Jvm.Cond.code y bytes maxL none] rm) (fun a U => a = as' ∧ Z.Warmed39 U.vm ∧ U.heap = h ∧ CHv Z EL U.vm h) (fun _ _ _ _ _ => True) (fun _ U o U' => ∃ v L, o = .returned v ∧ Q v U'.heap L ∧ ReturnedEndW U o U' L rm.cells rm.slots)) (eT : T.heap = h) (hS : s.Since vm0 k0) (hk : k0 ≤ h.size) (hEL : EW Z a0 EL) (H : CHv Z EL vm0 h) {a : Addr} (hst : st = argsL.reverse ++ .ref a :: rest) (has : (.ref a :: argsL).toArray = as') (W : Nat) (q : Nat) (hq : pc + 3 = q) (hsz : Ls.size = c.maxLocals) (hlen : ∀ sig, parseMethodDescriptor y.desc = some sig → argsL.length = sig.parameters.length) (hW : (rest.map fun v => v.category).sum ≤ W) (hf : rm.frames + 1 ≤ R.frames) (hl : W + (maxL + 11) + rm.locals ≤ R.locals) (hc : cells + rm.cells ≤ R.cells) (hs : slots + rm.slots ≤ R.slots) (hd : decode c.code pc = .ok (.invokespecial i, 3))
    (K : ∀ (v : Option Value) (T' : State) (L : List Loc), Stand p l e R (s.setVm T'.vm) m args below meth c T' (locs ++ L) (cells + rm.cells) (slots + rm.slots) → s.Since T'.vm T'.heap.size → Z.Warmed39 (s.setVm T'.vm).vm → (s.setVm T'.vm).vm.findClass own = some m.cls → Q v T'.heap L → Go p e below Ev T' (mkF m q Ls (v.toList ++ rest))) : Go p e below Ev T (mkF m pc Ls st) := by
  subst hq hst
  obtain ⟨v, vm1, ⟨T', L', k', n'⟩, -, X', S', g', ⟨L, hQ, l', y', z'⟩, st'⟩ := X.specialBackS hx hy1 hown (mvT hZ w1) (mvT hZ w2) (mvT hZ w4) hy (own_backH (W := W) hM hZ w4 w3 hf hl hEL H) (g := mkF m pc Ls (argsL.reverse ++ .ref a :: rest)) rfl hsz (Steps.refl _) (a := a) (argsL := argsL) (rest := rest) hlen rfl (by show 2 * 0 + _ ≤ _; omega) hd (fun _ _ => ⟨has, eT, hc, hs⟩)
  dsimp only [Pt.U, Pt.locs, Pt.cells, Pt.slots] at X' S' g' l' y' z' st' hQ
  subst l' y' z'
  obtain ⟨X2, S2, Z2, o2⟩ := rebS hS hk X' S' (by rw [← eT]; exact g') hZ hown
  exact (K v T' L X2 S2 Z2 o2 hQ).on fun t k => st'.trans k
theorem g_staticH (X : Stand p l e R (s.setVm vm0) m args below meth c T locs cells slots) (hx : p.tables.exec = Jvm.exec) {pc : Nat} {Ls : Array Slot} {st : List Value} (hZ : Z.Warmed39 (s.setVm vm0).vm) {own : String} {i : Nat} {y : MethodName} {bytes : ByteArray} {maxL : Nat} {ret : Option FieldType} {rm : Room} {as' : Array Value} {Q : Option Value → Heap → List Loc → Prop} {argsL rest : List Value} (hown : (s.setVm vm0).vm.findClass own = some m.cls) (w1 : (Jvm.Cond.methodLink own i y).before a0 Z = true) (w2 : (Jvm.Cond.static y).before a0 Z = true) (w3 : (Jvm.Cond.initialized y.cls).before a0 Z = true) (w4 : (Jvm.Cond.code y bytes maxL ret).before a0 Z = true) (hy : y.cls ≠ "java/lang/invoke/MethodHandle" ∧ y.cls ≠ "java/lang/invoke/VarHandle") (hM : MetFree l y (head1 [Jvm.Cond.code y bytes maxL ret] rm) (fun a U => a = as' ∧ Z.Warmed39 U.vm ∧ U.heap = h ∧ CHv Z EL U.vm h) (fun _ _ _ _ _ => True) (fun _ U o U' => ∃ v L, o = .returned v ∧ Q v U'.heap L ∧ ReturnedEndW U o U' L rm.cells rm.slots)) (eT : T.heap = h) (hS : s.Since vm0 k0) (hk : k0 ≤ h.size) (hEL : EW Z a0 EL) (H : CHv Z EL vm0 h) (hst : st = argsL.reverse ++ rest) (has : argsL.toArray = as') (W : Nat) (q : Nat) (hq : pc + 3 = q) (hsz : Ls.size = c.maxLocals) (hlen : ∀ sig, parseMethodDescriptor y.desc = some sig → argsL.length = sig.parameters.length) (hW : (rest.map fun v => v.category).sum ≤ W) (hf : rm.frames + 1 ≤ R.frames) (hl : W + (maxL + 11) + rm.locals ≤ R.locals) (hc : cells + rm.cells ≤ R.cells) (hs : slots + rm.slots ≤ R.slots) (hd : decode c.code pc = .ok (.invokestatic i, 3))
    (K : ∀ (v : Option Value) (T' : State) (L : List Loc), Stand p l e R (s.setVm T'.vm) m args below meth c T' (locs ++ L) (cells + rm.cells) (slots + rm.slots) → s.Since T'.vm T'.heap.size → Z.Warmed39 (s.setVm T'.vm).vm → (s.setVm T'.vm).vm.findClass own = some m.cls → Q v T'.heap L → Go p e below Ev T' (mkF m q Ls (v.toList ++ rest))) : Go p e below Ev T (mkF m pc Ls st) := by
  subst hq hst
  obtain ⟨v, vm1, ⟨T', L', k', n'⟩, -, X', S', g', ⟨L, hQ, l', y', z'⟩, st'⟩ := callSS X hx hown (mvT hZ w1) (mvT hZ w2) (mvT hZ w3) (mvT hZ w4) hy (own_backH (W := W) hM hZ w4 w3 hf hl hEL H) (g := mkF m pc Ls (argsL.reverse ++ rest)) rfl hsz (argsL := argsL) (rest := rest) hlen rfl (by show 2 * 0 + _ ≤ _; omega) hd (fun _ _ => ⟨has, eT, hc, hs⟩)
  dsimp only [Pt.U, Pt.locs, Pt.cells, Pt.slots] at X' S' g' l' y' z' st' hQ
  subst l' y' z'
  obtain ⟨X2, S2, Z2, o2⟩ := rebS hS hk X' S' (by rw [← eT]; exact g') hZ hown
  exact (K v T' L X2 S2 Z2 o2 hQ).on fun t k => st'.trans k
end OwnKit4
def own_rv : Option Addr → Value
  | none => .null
  | some a => .ref a
theorem own_t0 {x : Int32} (h : x.toInt = 0) : x = 0 := (own_i0 x).2.2.mpr h
theorem own_te {x y : Int32} (h : x.toInt = y.toInt) : x = y := Int32.toInt_inj.mp h
theorem own_shr0 (z : Int32) : z >>> ((0 : Int32) &&& 31) = z := by
  refine own_te ?_
  rw [c_ishr z 0 0 (by decide)]
  show z.toInt / 1 = _
  omega
theorem own_narc {x : Int32} (h : 0 ≤ x.toInt ∧ x.toInt ≤ 255) : nar .char x = x := by
  have := c_i2c x
  exact own_te (by show x.toUInt32.toUInt16.toUInt32.toInt32.toInt = _; omega)
theorem own_i2c {x : Int32} (h : 0 ≤ x.toInt ∧ x.toInt ≤ 255) : x.toUInt32.toUInt16.toUInt32.toInt32 = x := own_narc h
theorem own_255 (x : Int32) : 0 ≤ (x &&& (255 : Int32)).toInt ∧ (x &&& (255 : Int32)).toInt ≤ 255 := by
  have := c_mask x 255 8 (by decide) (by decide)
  have e : ((2 ^ 8 : Nat) : Int) = 256 := rfl
  rw [e] at this
  omega
theorem own_255L (x : Int64) : 0 ≤ ((x &&& (255 : Int64)).toInt32).toInt ∧ ((x &&& (255 : Int64)).toInt32).toInt ≤ 255 := by
  have := c_maskL x 255 8 (by decide) (by decide)
  have e : ((2 ^ 8 : Nat) : Int) = 256 := rfl
  rw [e] at this
  have h := c_l2i (x &&& 255)
  have r := rng32 ((x &&& 255).toInt32)
  omega
theorem own_mapget (K : List Int32) {j : Int32} {jn : Nat} (hj : j.toInt = jn) : (K.map Value.int).getD j.toNatClampNeg (.int 0) = .int (K.getD jn 0) := by
  rw [own_ncl hj]
  simp only [List.getD_eq_getElem?_getD, List.getElem?_map]
  cases K[jn]? <;> rfl
theorem d3_0 : decode jdk_42_method_152_code 0 = .ok (.getstatic 38, 3) := by decide +kernel
theorem d3_3 : decode jdk_42_method_152_code 3 = .ok (.ifCond .eq 10, 3) := by decide +kernel
theorem d3_6 : decode jdk_42_method_152_code 6 = .ok (.aload_n 0, 1) := by decide +kernel
theorem d3_7 : decode jdk_42_method_152_code 7 = .ok (.getfield 15, 3) := by decide +kernel
theorem d3_10 : decode jdk_42_method_152_code 10 = .ok (.goto 4, 3) := by decide +kernel
theorem d3_13 : decode jdk_42_method_152_code 13 = .ok (.iconst 1, 1) := by decide +kernel
theorem d3_14 : decode jdk_42_method_152_code 14 = .ok (.ireturn, 1) := by decide +kernel
theorem own_pf0 : plainFor (⟨"java/lang/String", "coder", "()B"⟩ : MethodName) = true := plainFor_of_name (by first | (simp [plainName, overriddenIn]; done) | decide +kernel)
def Q_rmCo (n0 : Nat) (h0 : Heap) (v : Option Value) (h : Heap) (L : List Loc) : Prop := v = some (.int 0) ∧ Fr n0 L ∧ h = h0
theorem ef_rmCo (a : Addr) (m : MethodId) : entryFrame m #[(.ref a)] 1 = mkF m 0 #[.val (.ref a)] [] := by first | (simp [entryFrame, mkF, argsToLocals, Value.category]; done) | rfl
theorem rmCo (l : Launch) (Z : State) (a0 : Array Value) (hw : ∀ d ∈ tables_1, d.before a0 Z = true) (a : Addr) (h0 : Heap) (n0 : Nat) (Z0 : n0 ≤ h0.size) (cst : Int32) (hc : cst ≠ 0) (O0 : Old Z n0 h0) (SC : Sta Z Z.heap "java/lang/String" "COMPACT_STRINGS" "Z" (.int cst)) (Fc : Fld Z h0 a "java/lang/String" "coder" "B" (.int 0)) :
    MetFree l (⟨"java/lang/String", "coder", "()B"⟩ : MethodName) (head1 [Jvm.Cond.code (⟨"java/lang/String", "coder", "()B"⟩ : MethodName) jdk_42_method_152_code 1 (some .byte)] ({ frames := 0, cells := 0, slots := 0, locals := 0 } : Room)) (fun as_ U => as_ = #[(.ref a)] ∧ Z.Warmed39 U.vm ∧ U.heap = h0) (fun _ _ _ _ _ => True) (fun _ U o U' => ∃ v L, o = .returned v ∧ Q_rmCo n0 h0 v U'.heap L ∧ FrameEnd U o U' L ({ frames := 0, cells := 0, slots := 0, locals := 0 } : Room).cells ({ frames := 0, cells := 0, slots := 0, locals := 0 } : Room).slots) := by
  refine own_met own_pf0 (ef_rmCo a) ?_
  intro p e s m below meth c T0 X0 hx hby hml hret hlk hnm hown hZ e0
  have N0 := Fr.nil n0
  refine g_getS X0 hx hZ hown (hw _ (List.mem_of_getElem? (i := 24) rfl)) Via.refl e0 (Sta.ext O0.2 SC) 3 (hb hby d3_0) rfl ?_
  intro T1 X1 e1
  refine g_if_eq X1 hx 13 6 (hb hby d3_3) (by decide) (by decide) rfl (fun c2 => ?_) (fun c2 => ?_)
  · skip
    exact absurd (own_t0 c2) hc
  · skip
    refine g_aloadN X1 hx 7 (hb hby d3_6) rfl rfl rfl ?_
    refine g_getF X1 hx hZ hown (hw _ (List.mem_of_getElem? (i := 25) rfl)) Via.refl e1 Fc 10 (hb hby d3_7) rfl ?_
    intro T3 X3 e3
    refine g_goto X3 hx 14 (hb hby d3_10) (by decide) (by decide) ?_
    exact g_retN X3 hx hlk hret (by simp) (hb hby d3_14) (by decide) (by decide) e3 ⟨rfl, N0, rfl⟩
theorem d5_0 : decode jdk_42_method_154_code 0 = .ok (.getstatic 38, 3) := by decide +kernel
theorem d5_3 : decode jdk_42_method_154_code 3 = .ok (.ifCond .eq 14, 3) := by decide +kernel
theorem d5_6 : decode jdk_42_method_154_code 6 = .ok (.aload_n 0, 1) := by decide +kernel
theorem d5_7 : decode jdk_42_method_154_code 7 = .ok (.getfield 15, 3) := by decide +kernel
theorem d5_10 : decode jdk_42_method_154_code 10 = .ok (.ifCond .ne 7, 3) := by decide +kernel
theorem d5_13 : decode jdk_42_method_154_code 13 = .ok (.iconst 1, 1) := by decide +kernel
theorem d5_14 : decode jdk_42_method_154_code 14 = .ok (.goto 4, 3) := by decide +kernel
theorem d5_17 : decode jdk_42_method_154_code 17 = .ok (.iconst 0, 1) := by decide +kernel
theorem d5_18 : decode jdk_42_method_154_code 18 = .ok (.ireturn, 1) := by decide +kernel
theorem own_pf1 : plainFor (⟨"java/lang/String", "isLatin1", "()Z"⟩ : MethodName) = true := plainFor_of_name (by first | (simp [plainName, overriddenIn]; done) | decide +kernel)
def Q_rmIL (n0 : Nat) (h0 : Heap) (v : Option Value) (h : Heap) (L : List Loc) : Prop := v = some (.int 1) ∧ Fr n0 L ∧ h = h0
theorem ef_rmIL (a : Addr) (m : MethodId) : entryFrame m #[(.ref a)] 1 = mkF m 0 #[.val (.ref a)] [] := by first | (simp [entryFrame, mkF, argsToLocals, Value.category]; done) | rfl
theorem rmIL (l : Launch) (Z : State) (a0 : Array Value) (hw : ∀ d ∈ tables_1, d.before a0 Z = true) (a : Addr) (h0 : Heap) (n0 : Nat) (Z0 : n0 ≤ h0.size) (cst : Int32) (hc : cst ≠ 0) (O0 : Old Z n0 h0) (SC : Sta Z Z.heap "java/lang/String" "COMPACT_STRINGS" "Z" (.int cst)) (Fc : Fld Z h0 a "java/lang/String" "coder" "B" (.int 0)) :
    MetFree l (⟨"java/lang/String", "isLatin1", "()Z"⟩ : MethodName) (head1 [Jvm.Cond.code (⟨"java/lang/String", "isLatin1", "()Z"⟩ : MethodName) jdk_42_method_154_code 1 (some .boolean)] ({ frames := 0, cells := 0, slots := 0, locals := 0 } : Room)) (fun as_ U => as_ = #[(.ref a)] ∧ Z.Warmed39 U.vm ∧ U.heap = h0) (fun _ _ _ _ _ => True) (fun _ U o U' => ∃ v L, o = .returned v ∧ Q_rmIL n0 h0 v U'.heap L ∧ FrameEnd U o U' L ({ frames := 0, cells := 0, slots := 0, locals := 0 } : Room).cells ({ frames := 0, cells := 0, slots := 0, locals := 0 } : Room).slots) := by
  refine own_met own_pf1 (ef_rmIL a) ?_
  intro p e s m below meth c T0 X0 hx hby hml hret hlk hnm hown hZ e0
  have N0 := Fr.nil n0
  refine g_getS X0 hx hZ hown (hw _ (List.mem_of_getElem? (i := 24) rfl)) Via.refl e0 (Sta.ext O0.2 SC) 3 (hb hby d5_0) rfl ?_
  intro T4 X4 e4
  refine g_if_eq X4 hx 17 6 (hb hby d5_3) (by decide) (by decide) rfl (fun c5 => ?_) (fun c5 => ?_)
  · skip
    exact absurd (own_t0 c5) hc
  · skip
    refine g_aloadN X4 hx 7 (hb hby d5_6) rfl rfl rfl ?_
    refine g_getF X4 hx hZ hown (hw _ (List.mem_of_getElem? (i := 25) rfl)) Via.refl e4 Fc 10 (hb hby d5_7) rfl ?_
    intro T6 X6 e6
    have ll8 : ((0 : Int32) : Int32).toInt = 0 := by decide
    refine g_if_ne X6 hx 17 13 (hb hby d5_10) (by decide) (by decide) rfl (fun c7 => ?_) (fun c7 => ?_)
    · skip
      exfalso; revert c7; decide
    · skip
      refine g_iconst X6 hx (1 : Int32) 14 (hb hby d5_13) rfl (by decide) ?_
      refine g_goto X6 hx 18 (hb hby d5_14) (by decide) (by decide) ?_
      exact g_retZ X6 hx hlk hret (hb hby d5_18) (by decide) (by decide) e6 ⟨rfl, N0, rfl⟩
theorem d2_0 : decode jdk_42_method_54_code 0 = .ok (.aload_n 0, 1) := by decide +kernel
theorem d2_1 : decode jdk_42_method_54_code 1 = .ok (.getfield 9, 3) := by decide +kernel
theorem d2_4 : decode jdk_42_method_54_code 4 = .ok (.arraylength, 1) := by decide +kernel
theorem d2_5 : decode jdk_42_method_54_code 5 = .ok (.aload_n 0, 1) := by decide +kernel
theorem d2_6 : decode jdk_42_method_54_code 6 = .ok (.invokevirtual 335, 3) := by decide +kernel
theorem d2_9 : decode jdk_42_method_54_code 9 = .ok (.ishr, 1) := by decide +kernel
theorem d2_10 : decode jdk_42_method_54_code 10 = .ok (.ireturn, 1) := by decide +kernel
theorem own_pf2 : plainFor (⟨"java/lang/String", "length", "()I"⟩ : MethodName) = true := plainFor_of_name (by first | (simp [plainName, overriddenIn]; done) | decide +kernel)
def Q_rmLen (z : Int32) (n0 : Nat) (h0 : Heap) (v : Option Value) (h : Heap) (L : List Loc) : Prop := v = some (.int z) ∧ Fr n0 L ∧ h = h0
theorem ef_rmLen (a : Addr) (m : MethodId) : entryFrame m #[(.ref a)] 1 = mkF m 0 #[.val (.ref a)] [] := by first | (simp [entryFrame, mkF, argsToLocals, Value.category]; done) | rfl
theorem rmLen (l : Launch) (Z : State) (a0 : Array Value) (hw : ∀ d ∈ tables_1, d.before a0 Z = true) (a : Addr) (h0 : Heap) (n0 : Nat) (Z0 : n0 ≤ h0.size) (cst : Int32) (hc : cst ≠ 0) (O0 : Old Z n0 h0) (SC : Sta Z Z.heap "java/lang/String" "COMPACT_STRINGS" "Z" (.int cst)) (vb : Addr) (kb : ClassId) (z : Int32) (xs : List Int32) (E : Exa Z h0 a "java/lang/String") (Fc : Fld Z h0 a "java/lang/String" "coder" "B" (.int 0)) (Fv : Fld Z h0 a "java/lang/String" "value" "[B" (.ref vb)) (V : Arv Z h0 vb kb .byte z (xs.map Value.int) (.int 0)) :
    MetFree l (⟨"java/lang/String", "length", "()I"⟩ : MethodName) (head1 [Jvm.Cond.code (⟨"java/lang/String", "length", "()I"⟩ : MethodName) jdk_42_method_54_code 1 (some .int)] ({ frames := 1, cells := 0, slots := 0, locals := 14 } : Room)) (fun as_ U => as_ = #[(.ref a)] ∧ Z.Warmed39 U.vm ∧ U.heap = h0) (fun _ _ _ _ _ => True) (fun _ U o U' => ∃ v L, o = .returned v ∧ Q_rmLen z n0 h0 v U'.heap L ∧ FrameEnd U o U' L ({ frames := 1, cells := 0, slots := 0, locals := 14 } : Room).cells ({ frames := 1, cells := 0, slots := 0, locals := 14 } : Room).slots) := by
  refine own_met own_pf2 (ef_rmLen a) ?_
  intro p e s m below meth c T0 X0 hx hby hml hret hlk hnm hown hZ e0
  have N0 := Fr.nil n0
  refine g_aloadN X0 hx 1 (hb hby d2_0) rfl rfl rfl ?_
  refine g_getF X0 hx hZ hown (hw _ (List.mem_of_getElem? (i := 18) rfl)) Via.refl e0 Fv 4 (hb hby d2_1) rfl ?_
  intro T9 X9 e9
  refine g_len X9 hx hZ e9 V 5 (hb hby d2_4) rfl ?_
  refine g_aloadN X9 hx 6 (hb hby d2_5) rfl rfl rfl ?_
  refine g_virt X9 hx hZ (C := "java/lang/String") hown (hw _ (List.mem_of_getElem? (i := 19) rfl)) (hw _ (List.mem_of_getElem? (i := 20) rfl)) (hw _ (List.mem_of_getElem? (i := 22) rfl)) (hw _ (List.mem_of_getElem? (i := 22) rfl)) (hw _ (List.mem_of_getElem? (i := 21) rfl)) (hw _ (List.mem_of_getElem? (i := 1) rfl)) (hw _ (List.mem_of_getElem? (i := 23) rfl)) (by decide) (rmCo l Z a0 hw a h0 n0 Z0 cst hc O0 SC Fc) e9 (b := a) E (argsL := []) (rest := [(.int z)]) rfl rfl 1 9 rfl (by rw [hml]; rfl) (lenOf own_pd2 rfl) (Nat.le_refl _) (by decide) (by decide) (by decide) (by decide) (hb hby d2_6) ?_
  intro v10 T10 L10 X10 hQ10
  obtain ⟨rfl, N10, q10⟩ := hQ10
  have N11 := Fr.app N0 N10
  show Go p e below _ T10 (mkF m 9 #[.val (.ref a)] [(.int (0 : Int32)), (.int z)])
  refine g_ishr X10 hx 10 (hb hby d2_9) rfl ?_
  exact g_retI X10 hx hlk hret (hb hby d2_10) (by decide) (by decide) q10 ⟨by rw [own_shr0], N11, rfl⟩
theorem d8_0 : decode jdk_41_method_11_code 0 = .ok (.iload_n 0, 1) := by decide +kernel
theorem d8_1 : decode jdk_41_method_11_code 1 = .ok (.ifCond .lt 8, 3) := by decide +kernel
theorem d8_4 : decode jdk_41_method_11_code 4 = .ok (.iload_n 0, 1) := by decide +kernel
theorem d8_5 : decode jdk_41_method_11_code 5 = .ok (.iload_n 1, 1) := by decide +kernel
theorem d8_6 : decode jdk_41_method_11_code 6 = .ok (.if_icmp .lt 10, 3) := by decide +kernel
theorem d8_9 : decode jdk_41_method_11_code 9 = .ok (.aload_n 2, 1) := by decide +kernel
theorem d8_10 : decode jdk_41_method_11_code 10 = .ok (.iload_n 0, 1) := by decide +kernel
theorem d8_11 : decode jdk_41_method_11_code 11 = .ok (.iload_n 1, 1) := by decide +kernel
theorem d8_12 : decode jdk_41_method_11_code 12 = .ok (.invokestatic 95, 3) := by decide +kernel
theorem d8_15 : decode jdk_41_method_11_code 15 = .ok (.athrow, 1) := by decide +kernel
theorem d8_16 : decode jdk_41_method_11_code 16 = .ok (.iload_n 0, 1) := by decide +kernel
theorem d8_17 : decode jdk_41_method_11_code 17 = .ok (.ireturn, 1) := by decide +kernel
theorem own_pf3 : plainFor (⟨"jdk/internal/util/Preconditions", "checkIndex", "(IILjava/util/function/BiFunction;)I"⟩ : MethodName) = true := plainFor_of_name (by first | (simp [plainName, overriddenIn]; done) | decide +kernel)
def Q_rmPI (i : Int32) (n0 : Nat) (h0 : Heap) (v : Option Value) (h : Heap) (L : List Loc) : Prop := v = some (.int i) ∧ Fr n0 L ∧ h = h0
theorem ef_rmPI (i k : Int32) (fm : Option Addr) (m : MethodId) : entryFrame m #[(.int i), (.int k), (own_rv fm)] 3 = mkF m 0 #[.val (.int i), .val (.int k), .val (own_rv fm)] [] := by first | (simp [entryFrame, mkF, argsToLocals, Value.category]; done) | (cases fm <;> rfl)
theorem rmPI (l : Launch) (Z : State) (a0 : Array Value) (hw : ∀ d ∈ tables_1, d.before a0 Z = true) (i k : Int32) (fm : Option Addr) (h0 : Heap) (n0 : Nat) (Z0 : n0 ≤ h0.size) (b1 : 0 ≤ i.toInt) (b2 : i.toInt < k.toInt) :
    MetFree l (⟨"jdk/internal/util/Preconditions", "checkIndex", "(IILjava/util/function/BiFunction;)I"⟩ : MethodName) (head1 [Jvm.Cond.code (⟨"jdk/internal/util/Preconditions", "checkIndex", "(IILjava/util/function/BiFunction;)I"⟩ : MethodName) jdk_41_method_11_code 3 (some .int)] ({ frames := 0, cells := 0, slots := 0, locals := 0 } : Room)) (fun as_ U => as_ = #[(.int i), (.int k), (own_rv fm)] ∧ Z.Warmed39 U.vm ∧ U.heap = h0) (fun _ _ _ _ _ => True) (fun _ U o U' => ∃ v L, o = .returned v ∧ Q_rmPI i n0 h0 v U'.heap L ∧ FrameEnd U o U' L ({ frames := 0, cells := 0, slots := 0, locals := 0 } : Room).cells ({ frames := 0, cells := 0, slots := 0, locals := 0 } : Room).slots) := by
  refine own_met own_pf3 (ef_rmPI i k fm) ?_
  intro p e s m below meth c T0 X0 hx hby hml hret hlk hnm hown hZ e0
  have N0 := Fr.nil n0
  refine g_iloadN X0 hx 1 (hb hby d8_0) rfl rfl ?_
  refine g_if_lt X0 hx 9 4 (hb hby d8_1) (by decide) (by decide) rfl (fun c12 => ?_) (fun c12 => ?_)
  · skip
    exfalso; omega
  · skip
    refine g_iloadN X0 hx 5 (hb hby d8_4) rfl rfl ?_
    refine g_iloadN X0 hx 6 (hb hby d8_5) rfl rfl ?_
    refine g_ic_lt X0 hx 16 9 (hb hby d8_6) (by decide) (by decide) rfl (fun c13 => ?_) (fun c13 => ?_)
    · skip
      refine g_iloadN X0 hx 17 (hb hby d8_16) rfl rfl ?_
      exact g_retI X0 hx hlk hret (hb hby d8_17) (by decide) (by decide) e0 ⟨rfl, N0, rfl⟩
    · skip
      exfalso; omega
theorem d7_0 : decode jdk_42_method_155_code 0 = .ok (.iload_n 0, 1) := by decide +kernel
theorem d7_1 : decode jdk_42_method_155_code 1 = .ok (.iload_n 1, 1) := by decide +kernel
theorem d7_2 : decode jdk_42_method_155_code 2 = .ok (.getstatic 1053, 3) := by decide +kernel
theorem d7_5 : decode jdk_42_method_155_code 5 = .ok (.invokestatic 1059, 3) := by decide +kernel
theorem d7_8 : decode jdk_42_method_155_code 8 = .ok (.pop, 1) := by decide +kernel
theorem d7_9 : decode jdk_42_method_155_code 9 = .ok (.return_, 1) := by decide +kernel
theorem own_pf4 : plainFor (⟨"java/lang/String", "checkIndex", "(II)V"⟩ : MethodName) = true := plainFor_of_name (by first | (simp [plainName, overriddenIn]; done) | decide +kernel)
def Q_rmCI (n0 : Nat) (h0 : Heap) (v : Option Value) (h : Heap) (L : List Loc) : Prop := v = none ∧ Fr n0 L ∧ h = h0
theorem ef_rmCI (i k : Int32) (m : MethodId) : entryFrame m #[(.int i), (.int k)] 2 = mkF m 0 #[.val (.int i), .val (.int k)] [] := by first | (simp [entryFrame, mkF, argsToLocals, Value.category]; done) | rfl
theorem rmCI (l : Launch) (Z : State) (a0 : Array Value) (hw : ∀ d ∈ tables_1, d.before a0 Z = true) (i k : Int32) (h0 : Heap) (n0 : Nat) (Z0 : n0 ≤ h0.size) (cst : Int32) (hc : cst ≠ 0) (O0 : Old Z n0 h0) (SC : Sta Z Z.heap "java/lang/String" "COMPACT_STRINGS" "Z" (.int cst)) (fm : Option Addr) (SF : Sta Z Z.heap "jdk/internal/util/Preconditions" "SIOOBE_FORMATTER" "Ljava/util/function/BiFunction;" (own_rv fm)) (b1 : 0 ≤ i.toInt) (b2 : i.toInt < k.toInt) :
    MetFree l (⟨"java/lang/String", "checkIndex", "(II)V"⟩ : MethodName) (head1 [Jvm.Cond.code (⟨"java/lang/String", "checkIndex", "(II)V"⟩ : MethodName) jdk_42_method_155_code 2 none] ({ frames := 1, cells := 0, slots := 0, locals := 14 } : Room)) (fun as_ U => as_ = #[(.int i), (.int k)] ∧ Z.Warmed39 U.vm ∧ U.heap = h0) (fun _ _ _ _ _ => True) (fun _ U o U' => ∃ v L, o = .returned v ∧ Q_rmCI n0 h0 v U'.heap L ∧ FrameEnd U o U' L ({ frames := 1, cells := 0, slots := 0, locals := 14 } : Room).cells ({ frames := 1, cells := 0, slots := 0, locals := 14 } : Room).slots) := by
  refine own_met own_pf4 (ef_rmCI i k) ?_
  intro p e s m below meth c T0 X0 hx hby hml hret hlk hnm hown hZ e0
  have N0 := Fr.nil n0
  refine g_iloadN X0 hx 1 (hb hby d7_0) rfl rfl ?_
  refine g_iloadN X0 hx 2 (hb hby d7_1) rfl rfl ?_
  refine g_getS X0 hx hZ hown (hw _ (List.mem_of_getElem? (i := 43) rfl)) Via.refl e0 (Sta.ext O0.2 SF) 5 (hb hby d7_2) rfl ?_
  intro T14 X14 e14
  refine g_static X14 hx hZ hown (hw _ (List.mem_of_getElem? (i := 45) rfl)) (hw _ (List.mem_of_getElem? (i := 46) rfl)) (hw _ (List.mem_of_getElem? (i := 44) rfl)) (hw _ (List.mem_of_getElem? (i := 47) rfl)) (by decide) (rmPI l Z a0 hw i k fm h0 n0 Z0 b1 b2) e14 (argsL := [(.int i), (.int k), (own_rv fm)]) (rest := []) rfl rfl 0 8 rfl (by rw [hml]; rfl) (lenOf own_pd7 rfl) (Nat.le_refl _) (by decide) (by decide) (by decide) (by decide) (hb hby d7_5) ?_
  intro v15 T15 L15 X15 hQ15
  obtain ⟨rfl, N15, q15⟩ := hQ15
  have N16 := Fr.app N0 N15
  show Go p e below _ T15 (mkF m 8 #[.val (.int i), .val (.int k)] [(.int i)])
  refine g_pop X15 hx 9 (hb hby d7_8) rfl rfl ?_
  exact g_retV X15 hx hlk hret (hb hby d7_9) (by decide) (by decide) q15 ⟨rfl, N16, rfl⟩
theorem d6_0 : decode jdk_43_method_2_code 0 = .ok (.iload_n 1, 1) := by decide +kernel
theorem d6_1 : decode jdk_43_method_2_code 1 = .ok (.aload_n 0, 1) := by decide +kernel
theorem d6_2 : decode jdk_43_method_2_code 2 = .ok (.arraylength, 1) := by decide +kernel
theorem d6_3 : decode jdk_43_method_2_code 3 = .ok (.invokestatic 9, 3) := by decide +kernel
theorem d6_6 : decode jdk_43_method_2_code 6 = .ok (.aload_n 0, 1) := by decide +kernel
theorem d6_7 : decode jdk_43_method_2_code 7 = .ok (.iload_n 1, 1) := by decide +kernel
theorem d6_8 : decode jdk_43_method_2_code 8 = .ok (.baload, 1) := by decide +kernel
theorem d6_9 : decode jdk_43_method_2_code 9 = .ok (.sipush 255, 3) := by decide +kernel
theorem d6_12 : decode jdk_43_method_2_code 12 = .ok (.iand, 1) := by decide +kernel
theorem d6_13 : decode jdk_43_method_2_code 13 = .ok (.i2c, 1) := by decide +kernel
theorem d6_14 : decode jdk_43_method_2_code 14 = .ok (.ireturn, 1) := by decide +kernel
theorem own_pf5 : plainFor (⟨"java/lang/StringLatin1", "charAt", "([BI)C"⟩ : MethodName) = true := plainFor_of_name (by first | (simp [plainName, overriddenIn]; done) | decide +kernel)
def Q_rmL1 (n0 : Nat) (h0 : Heap) (v : Option Value) (h : Heap) (L : List Loc) : Prop := ∃ r : Int32, v = some (.int r) ∧ (0 ≤ r.toInt ∧ r.toInt ≤ 255) ∧ Fr n0 L ∧ h = h0
theorem ef_rmL1 (vb : Addr) (i : Int32) (m : MethodId) : entryFrame m #[(.ref vb), (.int i)] 2 = mkF m 0 #[.val (.ref vb), .val (.int i)] [] := by first | (simp [entryFrame, mkF, argsToLocals, Value.category]; done) | rfl
theorem rmL1 (l : Launch) (Z : State) (a0 : Array Value) (hw : ∀ d ∈ tables_1, d.before a0 Z = true) (vb : Addr) (i : Int32) (h0 : Heap) (n0 : Nat) (Z0 : n0 ≤ h0.size) (cst : Int32) (hc : cst ≠ 0) (O0 : Old Z n0 h0) (SC : Sta Z Z.heap "java/lang/String" "COMPACT_STRINGS" "Z" (.int cst)) (fm : Option Addr) (SF : Sta Z Z.heap "jdk/internal/util/Preconditions" "SIOOBE_FORMATTER" "Ljava/util/function/BiFunction;" (own_rv fm)) (kb : ClassId) (z : Int32) (xs : List Int32) (V : Arv Z h0 vb kb .byte z (xs.map Value.int) (.int 0)) (b1 : 0 ≤ i.toInt) (b2 : i.toInt < z.toInt) :
    MetFree l (⟨"java/lang/StringLatin1", "charAt", "([BI)C"⟩ : MethodName) (head1 [Jvm.Cond.code (⟨"java/lang/StringLatin1", "charAt", "([BI)C"⟩ : MethodName) jdk_43_method_2_code 2 (some .char)] ({ frames := 2, cells := 0, slots := 0, locals := 27 } : Room)) (fun as_ U => as_ = #[(.ref vb), (.int i)] ∧ Z.Warmed39 U.vm ∧ U.heap = h0) (fun _ _ _ _ _ => True) (fun _ U o U' => ∃ v L, o = .returned v ∧ Q_rmL1 n0 h0 v U'.heap L ∧ FrameEnd U o U' L ({ frames := 2, cells := 0, slots := 0, locals := 27 } : Room).cells ({ frames := 2, cells := 0, slots := 0, locals := 27 } : Room).slots) := by
  refine own_met own_pf5 (ef_rmL1 vb i) ?_
  intro p e s m below meth c T0 X0 hx hby hml hret hlk hnm hown hZ e0
  have N0 := Fr.nil n0
  refine g_iloadN X0 hx 1 (hb hby d6_0) rfl rfl ?_
  refine g_aloadN X0 hx 2 (hb hby d6_1) rfl rfl rfl ?_
  refine g_len X0 hx hZ e0 V 3 (hb hby d6_2) rfl ?_
  refine g_static X0 hx hZ hown (hw _ (List.mem_of_getElem? (i := 40) rfl)) (hw _ (List.mem_of_getElem? (i := 41) rfl)) (hw _ (List.mem_of_getElem? (i := 1) rfl)) (hw _ (List.mem_of_getElem? (i := 42) rfl)) (by decide) (rmCI l Z a0 hw i z h0 n0 Z0 cst hc O0 SC fm SF b1 b2) e0 (argsL := [(.int i), (.int z)]) (rest := []) rfl rfl 0 6 rfl (by rw [hml]; rfl) (lenOf own_pd6 rfl) (Nat.le_refl _) (by decide) (by decide) (by decide) (by decide) (hb hby d6_3) ?_
  intro v17 T17 L17 X17 hQ17
  obtain ⟨rfl, N17, q17⟩ := hQ17
  have N18 := Fr.app N0 N17
  show Go p e below _ T17 (mkF m 6 #[.val (.ref vb), .val (.int i)] [])
  have b3 := own_255 (xs.getD i.toInt.toNat 0)
  refine g_aloadN X17 hx 7 (hb hby d6_6) rfl rfl rfl ?_
  refine g_iloadN X17 hx 8 (hb hby d6_7) rfl rfl ?_
  refine g_baload X17 hx hZ q17 V (by omega) (by omega) (own_mapget xs (jn := i.toInt.toNat) (by omega)) 9 (hb hby d6_8) rfl ?_
  refine g_sipush X17 hx (255 : Int32) 12 (hb hby d6_9) rfl (by decide) ?_
  refine g_iand X17 hx 13 (hb hby d6_12) rfl ?_
  refine g_i2c X17 hx 14 (hb hby d6_13) rfl ?_
  exact g_retN X17 hx hlk hret (by simp) (hb hby d6_14) (by decide) (by decide) q17 ⟨_, rfl, by rw [own_narc (by rw [own_i2c b3]; exact b3), own_i2c b3]; exact b3, N18, rfl⟩
theorem d4_0 : decode jdk_42_method_56_code 0 = .ok (.aload_n 0, 1) := by decide +kernel
theorem d4_1 : decode jdk_42_method_56_code 1 = .ok (.invokevirtual 492, 3) := by decide +kernel
theorem d4_4 : decode jdk_42_method_56_code 4 = .ok (.ifCond .eq 12, 3) := by decide +kernel
theorem d4_7 : decode jdk_42_method_56_code 7 = .ok (.aload_n 0, 1) := by decide +kernel
theorem d4_8 : decode jdk_42_method_56_code 8 = .ok (.getfield 9, 3) := by decide +kernel
theorem d4_11 : decode jdk_42_method_56_code 11 = .ok (.iload_n 1, 1) := by decide +kernel
theorem d4_12 : decode jdk_42_method_56_code 12 = .ok (.invokestatic 495, 3) := by decide +kernel
theorem d4_15 : decode jdk_42_method_56_code 15 = .ok (.ireturn, 1) := by decide +kernel
theorem d4_16 : decode jdk_42_method_56_code 16 = .ok (.aload_n 0, 1) := by decide +kernel
theorem d4_17 : decode jdk_42_method_56_code 17 = .ok (.getfield 9, 3) := by decide +kernel
theorem d4_20 : decode jdk_42_method_56_code 20 = .ok (.iload_n 1, 1) := by decide +kernel
theorem d4_21 : decode jdk_42_method_56_code 21 = .ok (.invokestatic 498, 3) := by decide +kernel
theorem d4_24 : decode jdk_42_method_56_code 24 = .ok (.ireturn, 1) := by decide +kernel
theorem own_pf6 : plainFor (⟨"java/lang/String", "charAt", "(I)C"⟩ : MethodName) = true := plainFor_of_name (by first | (simp [plainName, overriddenIn]; done) | decide +kernel)
def Q_rmCA (n0 : Nat) (h0 : Heap) (v : Option Value) (h : Heap) (L : List Loc) : Prop := ∃ r : Int32, v = some (.int r) ∧ (0 ≤ r.toInt ∧ r.toInt ≤ 255) ∧ Fr n0 L ∧ h = h0
theorem ef_rmCA (a : Addr) (i : Int32) (m : MethodId) : entryFrame m #[(.ref a), (.int i)] 2 = mkF m 0 #[.val (.ref a), .val (.int i)] [] := by first | (simp [entryFrame, mkF, argsToLocals, Value.category]; done) | rfl
theorem rmCA (l : Launch) (Z : State) (a0 : Array Value) (hw : ∀ d ∈ tables_1, d.before a0 Z = true) (a : Addr) (i : Int32) (h0 : Heap) (n0 : Nat) (Z0 : n0 ≤ h0.size) (cst : Int32) (hc : cst ≠ 0) (O0 : Old Z n0 h0) (SC : Sta Z Z.heap "java/lang/String" "COMPACT_STRINGS" "Z" (.int cst)) (fm : Option Addr) (SF : Sta Z Z.heap "jdk/internal/util/Preconditions" "SIOOBE_FORMATTER" "Ljava/util/function/BiFunction;" (own_rv fm)) (vb : Addr) (kb : ClassId) (z : Int32) (xs : List Int32) (E : Exa Z h0 a "java/lang/String") (Fc : Fld Z h0 a "java/lang/String" "coder" "B" (.int 0)) (Fv : Fld Z h0 a "java/lang/String" "value" "[B" (.ref vb)) (V : Arv Z h0 vb kb .byte z (xs.map Value.int) (.int 0)) (b1 : 0 ≤ i.toInt) (b2 : i.toInt < z.toInt) :
    MetFree l (⟨"java/lang/String", "charAt", "(I)C"⟩ : MethodName) (head1 [Jvm.Cond.code (⟨"java/lang/String", "charAt", "(I)C"⟩ : MethodName) jdk_42_method_56_code 2 (some .char)] ({ frames := 3, cells := 0, slots := 0, locals := 42 } : Room)) (fun as_ U => as_ = #[(.ref a), (.int i)] ∧ Z.Warmed39 U.vm ∧ U.heap = h0) (fun _ _ _ _ _ => True) (fun _ U o U' => ∃ v L, o = .returned v ∧ Q_rmCA n0 h0 v U'.heap L ∧ FrameEnd U o U' L ({ frames := 3, cells := 0, slots := 0, locals := 42 } : Room).cells ({ frames := 3, cells := 0, slots := 0, locals := 42 } : Room).slots) := by
  refine own_met own_pf6 (ef_rmCA a i) ?_
  intro p e s m below meth c T0 X0 hx hby hml hret hlk hnm hown hZ e0
  have N0 := Fr.nil n0
  refine g_aloadN X0 hx 1 (hb hby d4_0) rfl rfl rfl ?_
  refine g_virt X0 hx hZ (C := "java/lang/String") hown (hw _ (List.mem_of_getElem? (i := 31) rfl)) (hw _ (List.mem_of_getElem? (i := 32) rfl)) (hw _ (List.mem_of_getElem? (i := 34) rfl)) (hw _ (List.mem_of_getElem? (i := 34) rfl)) (hw _ (List.mem_of_getElem? (i := 33) rfl)) (hw _ (List.mem_of_getElem? (i := 1) rfl)) (hw _ (List.mem_of_getElem? (i := 35) rfl)) (by decide) (rmIL l Z a0 hw a h0 n0 Z0 cst hc O0 SC Fc) e0 (b := a) E (argsL := []) (rest := []) rfl rfl 0 4 rfl (by rw [hml]; rfl) (lenOf own_pd4 rfl) (Nat.le_refl _) (by decide) (by decide) (by decide) (by decide) (hb hby d4_1) ?_
  intro v19 T19 L19 X19 hQ19
  obtain ⟨rfl, N19, q19⟩ := hQ19
  have N20 := Fr.app N0 N19
  show Go p e below _ T19 (mkF m 4 #[.val (.ref a), .val (.int i)] [(.int (1 : Int32))])
  have ll22 : ((1 : Int32) : Int32).toInt = 1 := by decide
  refine g_if_eq X19 hx 16 7 (hb hby d4_4) (by decide) (by decide) rfl (fun c21 => ?_) (fun c21 => ?_)
  · skip
    exfalso; revert c21; decide
  · skip
    refine g_aloadN X19 hx 8 (hb hby d4_7) rfl rfl rfl ?_
    refine g_getF X19 hx hZ hown (hw _ (List.mem_of_getElem? (i := 18) rfl)) Via.refl q19 Fv 11 (hb hby d4_8) rfl ?_
    intro T23 X23 e23
    refine g_iloadN X23 hx 12 (hb hby d4_11) rfl rfl ?_
    refine g_static X23 hx hZ hown (hw _ (List.mem_of_getElem? (i := 36) rfl)) (hw _ (List.mem_of_getElem? (i := 37) rfl)) (hw _ (List.mem_of_getElem? (i := 38) rfl)) (hw _ (List.mem_of_getElem? (i := 39) rfl)) (by decide) (rmL1 l Z a0 hw vb i h0 n0 Z0 cst hc O0 SC fm SF kb z xs V b1 b2) e23 (argsL := [(.ref vb), (.int i)]) (rest := []) rfl rfl 0 15 rfl (by rw [hml]; rfl) (lenOf own_pd5 rfl) (Nat.le_refl _) (by decide) (by decide) (by decide) (by decide) (hb hby d4_12) ?_
    intro v24 T24 L24 X24 hQ24
    obtain ⟨r, rfl, b3, N24, q24⟩ := hQ24
    have N25 := Fr.app N20 N24
    show Go p e below _ T24 (mkF m 15 #[.val (.ref a), .val (.int i)] [(.int r)])
    exact g_retN X24 hx hlk hret (by simp) (hb hby d4_15) (by decide) (by decide) q24 ⟨_, rfl, by rw [own_narc b3]; exact b3, N25, rfl⟩
theorem d14_0 : decode jdk_52_method_21_code 0 = .ok (.iconst 0, 1) := by decide +kernel
theorem d14_1 : decode jdk_52_method_21_code 1 = .ok (.istore 5, 2) := by decide +kernel
theorem d14_3 : decode jdk_52_method_21_code 3 = .ok (.iload 5, 2) := by decide +kernel
theorem d14_5 : decode jdk_52_method_21_code 5 = .ok (.iload 4, 2) := by decide +kernel
theorem d14_7 : decode jdk_52_method_21_code 7 = .ok (.if_icmp .ge 37, 3) := by decide +kernel
theorem d14_10 : decode jdk_52_method_21_code 10 = .ok (.aload_n 0, 1) := by decide +kernel
theorem d14_11 : decode jdk_52_method_21_code 11 = .ok (.iload_n 1, 1) := by decide +kernel
theorem d14_12 : decode jdk_52_method_21_code 12 = .ok (.caload, 1) := by decide +kernel
theorem d14_13 : decode jdk_52_method_21_code 13 = .ok (.istore 6, 2) := by decide +kernel
theorem d14_15 : decode jdk_52_method_21_code 15 = .ok (.iload 6, 2) := by decide +kernel
theorem d14_17 : decode jdk_52_method_21_code 17 = .ok (.sipush 255, 3) := by decide +kernel
theorem d14_20 : decode jdk_52_method_21_code 20 = .ok (.if_icmp .le 6, 3) := by decide +kernel
theorem d14_23 : decode jdk_52_method_21_code 23 = .ok (.iload 5, 2) := by decide +kernel
theorem d14_25 : decode jdk_52_method_21_code 25 = .ok (.ireturn, 1) := by decide +kernel
theorem d14_26 : decode jdk_52_method_21_code 26 = .ok (.aload_n 2, 1) := by decide +kernel
theorem d14_27 : decode jdk_52_method_21_code 27 = .ok (.iload_n 3, 1) := by decide +kernel
theorem d14_28 : decode jdk_52_method_21_code 28 = .ok (.iload 6, 2) := by decide +kernel
theorem d14_30 : decode jdk_52_method_21_code 30 = .ok (.i2b, 1) := by decide +kernel
theorem d14_31 : decode jdk_52_method_21_code 31 = .ok (.bastore, 1) := by decide +kernel
theorem d14_32 : decode jdk_52_method_21_code 32 = .ok (.iinc 1 1, 3) := by decide +kernel
theorem d14_35 : decode jdk_52_method_21_code 35 = .ok (.iinc 3 1, 3) := by decide +kernel
theorem d14_38 : decode jdk_52_method_21_code 38 = .ok (.iinc 5 1, 3) := by decide +kernel
theorem d14_41 : decode jdk_52_method_21_code 41 = .ok (.goto (-38), 3) := by decide +kernel
theorem d14_44 : decode jdk_52_method_21_code 44 = .ok (.iload 4, 2) := by decide +kernel
theorem d14_46 : decode jdk_52_method_21_code 46 = .ok (.ireturn, 1) := by decide +kernel
theorem own_pf7 : plainFor (⟨"java/lang/StringUTF16", "compress", "([CI[BII)I"⟩ : MethodName) = true := plainFor_of_name (by first | (simp [plainName, overriddenIn]; done) | decide +kernel)
def Q_rmCp_4 (Z : State) (ba : Addr) (kb : ClassId) (c0 c1 c2 c3 : Int32) (n0 : Nat) (h0 : Heap) (v : Option Value) (h : Heap) (L : List Loc) : Prop := v = some (.int 4) ∧ Fr n0 L ∧ Keep h0 h [ba] ∧ Arv Z h ba kb .byte 4 [(.int (c0.toInt8.toInt32.toInt8.toInt32)), (.int (c1.toInt8.toInt32.toInt8.toInt32)), (.int (c2.toInt8.toInt32.toInt8.toInt32)), (.int (c3.toInt8.toInt32.toInt8.toInt32))] (.int 0)
theorem ef_rmCp_4 (ca ba : Addr) (m : MethodId) : entryFrame m #[(.ref ca), (.int 0), (.ref ba), (.int 0), (.int 4)] 7 = mkF m 0 #[.val (.ref ca), .val (.int 0), .val (.ref ba), .val (.int 0), .val (.int 4), .unset, .unset] [] := by first | (simp [entryFrame, mkF, argsToLocals, Value.category]; done) | rfl
theorem rmCp_4 (l : Launch) (Z : State) (a0 : Array Value) (hw : ∀ d ∈ tables_1, d.before a0 Z = true) (ca ba : Addr) (h0 : Heap) (n0 : Nat) (Z0 : n0 ≤ h0.size) (kc kb : ClassId) (c0 c1 c2 c3 : Int32) (bc0 : 0 ≤ c0.toInt ∧ c0.toInt ≤ 255) (bc1 : 0 ≤ c1.toInt ∧ c1.toInt ≤ 255) (bc2 : 0 ≤ c2.toInt ∧ c2.toInt ≤ 255) (bc3 : 0 ≤ c3.toInt ∧ c3.toInt ≤ 255) (ncb : ca ≠ ba) (gb : n0 ≤ ba) (Vc : Arv Z h0 ca kc .char 4 [(.int c0), (.int c1), (.int c2), (.int c3)] (.int 0)) (Vb : Arv Z h0 ba kb .byte 4 [(.int 0), (.int 0), (.int 0), (.int 0)] (.int 0)) :
    MetFree l (⟨"java/lang/StringUTF16", "compress", "([CI[BII)I"⟩ : MethodName) (head1 [Jvm.Cond.code (⟨"java/lang/StringUTF16", "compress", "([CI[BII)I"⟩ : MethodName) jdk_52_method_21_code 7 (some .int)] ({ frames := 0, cells := 0, slots := 0, locals := 0 } : Room)) (fun as_ U => as_ = #[(.ref ca), (.int 0), (.ref ba), (.int 0), (.int 4)] ∧ Z.Warmed39 U.vm ∧ U.heap = h0) (fun _ _ _ _ _ => True) (fun _ U o U' => ∃ v L, o = .returned v ∧ Q_rmCp_4 Z ba kb c0 c1 c2 c3 n0 h0 v U'.heap L ∧ FrameEnd U o U' L ({ frames := 0, cells := 0, slots := 0, locals := 0 } : Room).cells ({ frames := 0, cells := 0, slots := 0, locals := 0 } : Room).slots) := by
  refine own_met own_pf7 (ef_rmCp_4 ca ba) ?_
  intro p e s m below meth c T0 X0 hx hby hml hret hlk hnm hown hZ e0
  have N0 := Fr.nil n0
  refine g_iconst X0 hx (0 : Int32) 1 (hb hby d14_0) rfl (by decide) ?_
  refine g_istore (l' := #[.val (.ref ca), .val (.int (0 : Int32)), .val (.ref ba), .val (.int (0 : Int32)), .val (.int (4 : Int32)), .val (.int (0 : Int32)), .unset]) X0 hx 3 (hb hby d14_1) rfl rfl ?_
  refine g_iload X0 hx 5 (hb hby d14_3) rfl rfl ?_
  refine g_iload X0 hx 7 (hb hby d14_5) rfl rfl ?_
  have ll27 : ((4 : Int32) : Int32).toInt = 4 := by decide
  have ll28 : ((0 : Int32) : Int32).toInt = 0 := by decide
  refine g_ic_ge X0 hx 44 10 (hb hby d14_7) (by decide) (by decide) rfl (fun c26 => ?_) (fun c26 => ?_)
  · skip
    exfalso; revert c26; decide
  · skip
    refine g_aloadN X0 hx 11 (hb hby d14_10) rfl rfl rfl ?_
    refine g_iloadN X0 hx 12 (hb hby d14_11) rfl rfl ?_
    refine g_caload X0 hx hZ e0 Vc (by decide) (by decide) (by rw [show ((0 : Int32) : Int32).toNatClampNeg = 0 by decide] <;> rfl) 13 (hb hby d14_12) rfl ?_
    refine g_istore (l' := #[.val (.ref ca), .val (.int (0 : Int32)), .val (.ref ba), .val (.int (0 : Int32)), .val (.int (4 : Int32)), .val (.int (0 : Int32)), .val (.int c0)]) X0 hx 15 (hb hby d14_13) rfl rfl ?_
    refine g_iload X0 hx 17 (hb hby d14_15) rfl rfl ?_
    refine g_sipush X0 hx (255 : Int32) 20 (hb hby d14_17) rfl (by decide) ?_
    have ll30 : ((255 : Int32) : Int32).toInt = 255 := by decide
    refine g_ic_le X0 hx 26 23 (hb hby d14_20) (by decide) (by decide) rfl (fun c29 => ?_) (fun c29 => ?_)
    · skip
      refine g_aloadN X0 hx 27 (hb hby d14_26) rfl rfl rfl ?_
      refine g_iloadN X0 hx 28 (hb hby d14_27) rfl rfl ?_
      refine g_iload X0 hx 30 (hb hby d14_28) rfl rfl ?_
      refine g_i2b X0 hx 31 (hb hby d14_30) rfl ?_
      refine g_bastore X0 hx hZ e0 Vb 0 (by decide) (by decide) (by show 0 < 4; decide) (c0.toInt8.toInt32.toInt8.toInt32) rfl 32 (hb hby d14_31) rfl ?_
      intro T31 h31 X31 e31 W31 V31
      have F32 := Vc.other W31 ncb
      have K34 := (Keep.refl h0 [ba]).wr W31 (Or.inl (List.mem_of_getElem? (i := 0) rfl))
      have N35 := Fr.snoc X31 N0 gb
      have Z36 : n0 ≤ h31.size := by rw [W31.size]; exact Z0
      have V31' : Arv Z h31 ba kb .byte (4 : Int32) [(.int (c0.toInt8.toInt32.toInt8.toInt32)), (.int (0 : Int32)), (.int (0 : Int32)), (.int (0 : Int32))] (.int 0) := V31
      refine g_iincC X31 hx (w := (1 : Int32)) (1 : Int32) (by decide) (l' := #[.val (.ref ca), .val (.int (1 : Int32)), .val (.ref ba), .val (.int (0 : Int32)), .val (.int (4 : Int32)), .val (.int (0 : Int32)), .val (.int c0)]) 35 (hb hby d14_32) rfl rfl (by decide) rfl ?_
      refine g_iincC X31 hx (w := (1 : Int32)) (1 : Int32) (by decide) (l' := #[.val (.ref ca), .val (.int (1 : Int32)), .val (.ref ba), .val (.int (1 : Int32)), .val (.int (4 : Int32)), .val (.int (0 : Int32)), .val (.int c0)]) 38 (hb hby d14_35) rfl rfl (by decide) rfl ?_
      refine g_iincC X31 hx (w := (1 : Int32)) (1 : Int32) (by decide) (l' := #[.val (.ref ca), .val (.int (1 : Int32)), .val (.ref ba), .val (.int (1 : Int32)), .val (.int (4 : Int32)), .val (.int (1 : Int32)), .val (.int c0)]) 41 (hb hby d14_38) rfl rfl (by decide) rfl ?_
      refine g_goto X31 hx 3 (hb hby d14_41) (by decide) (by decide) ?_
      refine g_iload X31 hx 5 (hb hby d14_3) rfl rfl ?_
      refine g_iload X31 hx 7 (hb hby d14_5) rfl rfl ?_
      have ll38 : ((4 : Int32) : Int32).toInt = 4 := by decide
      have ll39 : ((1 : Int32) : Int32).toInt = 1 := by decide
      refine g_ic_ge X31 hx 44 10 (hb hby d14_7) (by decide) (by decide) rfl (fun c37 => ?_) (fun c37 => ?_)
      · skip
        exfalso; revert c37; decide
      · skip
        refine g_aloadN X31 hx 11 (hb hby d14_10) rfl rfl rfl ?_
        refine g_iloadN X31 hx 12 (hb hby d14_11) rfl rfl ?_
        refine g_caload X31 hx hZ e31 F32 (by decide) (by decide) (by rw [show ((1 : Int32) : Int32).toNatClampNeg = 1 by decide] <;> rfl) 13 (hb hby d14_12) rfl ?_
        refine g_istore (l' := #[.val (.ref ca), .val (.int (1 : Int32)), .val (.ref ba), .val (.int (1 : Int32)), .val (.int (4 : Int32)), .val (.int (1 : Int32)), .val (.int c1)]) X31 hx 15 (hb hby d14_13) rfl rfl ?_
        refine g_iload X31 hx 17 (hb hby d14_15) rfl rfl ?_
        refine g_sipush X31 hx (255 : Int32) 20 (hb hby d14_17) rfl (by decide) ?_
        have ll41 : ((255 : Int32) : Int32).toInt = 255 := by decide
        refine g_ic_le X31 hx 26 23 (hb hby d14_20) (by decide) (by decide) rfl (fun c40 => ?_) (fun c40 => ?_)
        · skip
          refine g_aloadN X31 hx 27 (hb hby d14_26) rfl rfl rfl ?_
          refine g_iloadN X31 hx 28 (hb hby d14_27) rfl rfl ?_
          refine g_iload X31 hx 30 (hb hby d14_28) rfl rfl ?_
          refine g_i2b X31 hx 31 (hb hby d14_30) rfl ?_
          refine g_bastore X31 hx hZ e31 V31' 1 (by decide) (by decide) (by show 1 < 4; decide) (c1.toInt8.toInt32.toInt8.toInt32) rfl 32 (hb hby d14_31) rfl ?_
          intro T42 h42 X42 e42 W42 V42
          have F43 := F32.other W42 ncb
          have K45 := K34.wr W42 (Or.inl (List.mem_of_getElem? (i := 0) rfl))
          have N46 := Fr.snoc X42 N35 gb
          have Z47 : n0 ≤ h42.size := by rw [W42.size]; exact Z36
          have V42' : Arv Z h42 ba kb .byte (4 : Int32) [(.int (c0.toInt8.toInt32.toInt8.toInt32)), (.int (c1.toInt8.toInt32.toInt8.toInt32)), (.int (0 : Int32)), (.int (0 : Int32))] (.int 0) := V42
          refine g_iincC X42 hx (w := (1 : Int32)) (2 : Int32) (by decide) (l' := #[.val (.ref ca), .val (.int (2 : Int32)), .val (.ref ba), .val (.int (1 : Int32)), .val (.int (4 : Int32)), .val (.int (1 : Int32)), .val (.int c1)]) 35 (hb hby d14_32) rfl rfl (by decide) rfl ?_
          refine g_iincC X42 hx (w := (1 : Int32)) (2 : Int32) (by decide) (l' := #[.val (.ref ca), .val (.int (2 : Int32)), .val (.ref ba), .val (.int (2 : Int32)), .val (.int (4 : Int32)), .val (.int (1 : Int32)), .val (.int c1)]) 38 (hb hby d14_35) rfl rfl (by decide) rfl ?_
          refine g_iincC X42 hx (w := (1 : Int32)) (2 : Int32) (by decide) (l' := #[.val (.ref ca), .val (.int (2 : Int32)), .val (.ref ba), .val (.int (2 : Int32)), .val (.int (4 : Int32)), .val (.int (2 : Int32)), .val (.int c1)]) 41 (hb hby d14_38) rfl rfl (by decide) rfl ?_
          refine g_goto X42 hx 3 (hb hby d14_41) (by decide) (by decide) ?_
          refine g_iload X42 hx 5 (hb hby d14_3) rfl rfl ?_
          refine g_iload X42 hx 7 (hb hby d14_5) rfl rfl ?_
          have ll49 : ((4 : Int32) : Int32).toInt = 4 := by decide
          have ll50 : ((2 : Int32) : Int32).toInt = 2 := by decide
          refine g_ic_ge X42 hx 44 10 (hb hby d14_7) (by decide) (by decide) rfl (fun c48 => ?_) (fun c48 => ?_)
          · skip
            exfalso; revert c48; decide
          · skip
            refine g_aloadN X42 hx 11 (hb hby d14_10) rfl rfl rfl ?_
            refine g_iloadN X42 hx 12 (hb hby d14_11) rfl rfl ?_
            refine g_caload X42 hx hZ e42 F43 (by decide) (by decide) (by rw [show ((2 : Int32) : Int32).toNatClampNeg = 2 by decide] <;> rfl) 13 (hb hby d14_12) rfl ?_
            refine g_istore (l' := #[.val (.ref ca), .val (.int (2 : Int32)), .val (.ref ba), .val (.int (2 : Int32)), .val (.int (4 : Int32)), .val (.int (2 : Int32)), .val (.int c2)]) X42 hx 15 (hb hby d14_13) rfl rfl ?_
            refine g_iload X42 hx 17 (hb hby d14_15) rfl rfl ?_
            refine g_sipush X42 hx (255 : Int32) 20 (hb hby d14_17) rfl (by decide) ?_
            have ll52 : ((255 : Int32) : Int32).toInt = 255 := by decide
            refine g_ic_le X42 hx 26 23 (hb hby d14_20) (by decide) (by decide) rfl (fun c51 => ?_) (fun c51 => ?_)
            · skip
              refine g_aloadN X42 hx 27 (hb hby d14_26) rfl rfl rfl ?_
              refine g_iloadN X42 hx 28 (hb hby d14_27) rfl rfl ?_
              refine g_iload X42 hx 30 (hb hby d14_28) rfl rfl ?_
              refine g_i2b X42 hx 31 (hb hby d14_30) rfl ?_
              refine g_bastore X42 hx hZ e42 V42' 2 (by decide) (by decide) (by show 2 < 4; decide) (c2.toInt8.toInt32.toInt8.toInt32) rfl 32 (hb hby d14_31) rfl ?_
              intro T53 h53 X53 e53 W53 V53
              have F54 := F43.other W53 ncb
              have K56 := K45.wr W53 (Or.inl (List.mem_of_getElem? (i := 0) rfl))
              have N57 := Fr.snoc X53 N46 gb
              have Z58 : n0 ≤ h53.size := by rw [W53.size]; exact Z47
              have V53' : Arv Z h53 ba kb .byte (4 : Int32) [(.int (c0.toInt8.toInt32.toInt8.toInt32)), (.int (c1.toInt8.toInt32.toInt8.toInt32)), (.int (c2.toInt8.toInt32.toInt8.toInt32)), (.int (0 : Int32))] (.int 0) := V53
              refine g_iincC X53 hx (w := (1 : Int32)) (3 : Int32) (by decide) (l' := #[.val (.ref ca), .val (.int (3 : Int32)), .val (.ref ba), .val (.int (2 : Int32)), .val (.int (4 : Int32)), .val (.int (2 : Int32)), .val (.int c2)]) 35 (hb hby d14_32) rfl rfl (by decide) rfl ?_
              refine g_iincC X53 hx (w := (1 : Int32)) (3 : Int32) (by decide) (l' := #[.val (.ref ca), .val (.int (3 : Int32)), .val (.ref ba), .val (.int (3 : Int32)), .val (.int (4 : Int32)), .val (.int (2 : Int32)), .val (.int c2)]) 38 (hb hby d14_35) rfl rfl (by decide) rfl ?_
              refine g_iincC X53 hx (w := (1 : Int32)) (3 : Int32) (by decide) (l' := #[.val (.ref ca), .val (.int (3 : Int32)), .val (.ref ba), .val (.int (3 : Int32)), .val (.int (4 : Int32)), .val (.int (3 : Int32)), .val (.int c2)]) 41 (hb hby d14_38) rfl rfl (by decide) rfl ?_
              refine g_goto X53 hx 3 (hb hby d14_41) (by decide) (by decide) ?_
              refine g_iload X53 hx 5 (hb hby d14_3) rfl rfl ?_
              refine g_iload X53 hx 7 (hb hby d14_5) rfl rfl ?_
              have ll60 : ((4 : Int32) : Int32).toInt = 4 := by decide
              have ll61 : ((3 : Int32) : Int32).toInt = 3 := by decide
              refine g_ic_ge X53 hx 44 10 (hb hby d14_7) (by decide) (by decide) rfl (fun c59 => ?_) (fun c59 => ?_)
              · skip
                exfalso; revert c59; decide
              · skip
                refine g_aloadN X53 hx 11 (hb hby d14_10) rfl rfl rfl ?_
                refine g_iloadN X53 hx 12 (hb hby d14_11) rfl rfl ?_
                refine g_caload X53 hx hZ e53 F54 (by decide) (by decide) (by rw [show ((3 : Int32) : Int32).toNatClampNeg = 3 by decide] <;> rfl) 13 (hb hby d14_12) rfl ?_
                refine g_istore (l' := #[.val (.ref ca), .val (.int (3 : Int32)), .val (.ref ba), .val (.int (3 : Int32)), .val (.int (4 : Int32)), .val (.int (3 : Int32)), .val (.int c3)]) X53 hx 15 (hb hby d14_13) rfl rfl ?_
                refine g_iload X53 hx 17 (hb hby d14_15) rfl rfl ?_
                refine g_sipush X53 hx (255 : Int32) 20 (hb hby d14_17) rfl (by decide) ?_
                have ll63 : ((255 : Int32) : Int32).toInt = 255 := by decide
                refine g_ic_le X53 hx 26 23 (hb hby d14_20) (by decide) (by decide) rfl (fun c62 => ?_) (fun c62 => ?_)
                · skip
                  refine g_aloadN X53 hx 27 (hb hby d14_26) rfl rfl rfl ?_
                  refine g_iloadN X53 hx 28 (hb hby d14_27) rfl rfl ?_
                  refine g_iload X53 hx 30 (hb hby d14_28) rfl rfl ?_
                  refine g_i2b X53 hx 31 (hb hby d14_30) rfl ?_
                  refine g_bastore X53 hx hZ e53 V53' 3 (by decide) (by decide) (by show 3 < 4; decide) (c3.toInt8.toInt32.toInt8.toInt32) rfl 32 (hb hby d14_31) rfl ?_
                  intro T64 h64 X64 e64 W64 V64
                  have F65 := F54.other W64 ncb
                  have K67 := K56.wr W64 (Or.inl (List.mem_of_getElem? (i := 0) rfl))
                  have N68 := Fr.snoc X64 N57 gb
                  have Z69 : n0 ≤ h64.size := by rw [W64.size]; exact Z58
                  have V64' : Arv Z h64 ba kb .byte (4 : Int32) [(.int (c0.toInt8.toInt32.toInt8.toInt32)), (.int (c1.toInt8.toInt32.toInt8.toInt32)), (.int (c2.toInt8.toInt32.toInt8.toInt32)), (.int (c3.toInt8.toInt32.toInt8.toInt32))] (.int 0) := V64
                  refine g_iincC X64 hx (w := (1 : Int32)) (4 : Int32) (by decide) (l' := #[.val (.ref ca), .val (.int (4 : Int32)), .val (.ref ba), .val (.int (3 : Int32)), .val (.int (4 : Int32)), .val (.int (3 : Int32)), .val (.int c3)]) 35 (hb hby d14_32) rfl rfl (by decide) rfl ?_
                  refine g_iincC X64 hx (w := (1 : Int32)) (4 : Int32) (by decide) (l' := #[.val (.ref ca), .val (.int (4 : Int32)), .val (.ref ba), .val (.int (4 : Int32)), .val (.int (4 : Int32)), .val (.int (3 : Int32)), .val (.int c3)]) 38 (hb hby d14_35) rfl rfl (by decide) rfl ?_
                  refine g_iincC X64 hx (w := (1 : Int32)) (4 : Int32) (by decide) (l' := #[.val (.ref ca), .val (.int (4 : Int32)), .val (.ref ba), .val (.int (4 : Int32)), .val (.int (4 : Int32)), .val (.int (4 : Int32)), .val (.int c3)]) 41 (hb hby d14_38) rfl rfl (by decide) rfl ?_
                  refine g_goto X64 hx 3 (hb hby d14_41) (by decide) (by decide) ?_
                  refine g_iload X64 hx 5 (hb hby d14_3) rfl rfl ?_
                  refine g_iload X64 hx 7 (hb hby d14_5) rfl rfl ?_
                  have ll71 : ((4 : Int32) : Int32).toInt = 4 := by decide
                  have ll72 : ((4 : Int32) : Int32).toInt = 4 := by decide
                  refine g_ic_ge X64 hx 44 10 (hb hby d14_7) (by decide) (by decide) rfl (fun c70 => ?_) (fun c70 => ?_)
                  · skip
                    refine g_iload X64 hx 46 (hb hby d14_44) rfl rfl ?_
                    exact g_retI X64 hx hlk hret (hb hby d14_46) (by decide) (by decide) e64 ⟨rfl, N68, K67, V64'⟩
                  · skip
                    exfalso; revert c70; decide
                · skip
                  exfalso; omega
            · skip
              exfalso; omega
        · skip
          exfalso; omega
    · skip
      exfalso; omega
theorem d13_0 : decode jdk_52_method_16_code 0 = .ok (.iload_n 2, 1) := by decide +kernel
theorem d13_1 : decode jdk_52_method_16_code 1 = .ok (.newarray .byte, 2) := by decide +kernel
theorem d13_3 : decode jdk_52_method_16_code 3 = .ok (.astore_n 3, 1) := by decide +kernel
theorem d13_4 : decode jdk_52_method_16_code 4 = .ok (.aload_n 0, 1) := by decide +kernel
theorem d13_5 : decode jdk_52_method_16_code 5 = .ok (.iload_n 1, 1) := by decide +kernel
theorem d13_6 : decode jdk_52_method_16_code 6 = .ok (.aload_n 3, 1) := by decide +kernel
theorem d13_7 : decode jdk_52_method_16_code 7 = .ok (.iconst 0, 1) := by decide +kernel
theorem d13_8 : decode jdk_52_method_16_code 8 = .ok (.iload_n 2, 1) := by decide +kernel
theorem d13_9 : decode jdk_52_method_16_code 9 = .ok (.invokestatic 115, 3) := by decide +kernel
theorem d13_12 : decode jdk_52_method_16_code 12 = .ok (.istore 4, 2) := by decide +kernel
theorem d13_14 : decode jdk_52_method_16_code 14 = .ok (.iload 4, 2) := by decide +kernel
theorem d13_16 : decode jdk_52_method_16_code 16 = .ok (.iload_n 2, 1) := by decide +kernel
theorem d13_17 : decode jdk_52_method_16_code 17 = .ok (.if_icmp .eq 40, 3) := by decide +kernel
theorem d13_20 : decode jdk_52_method_16_code 20 = .ok (.aload_n 0, 1) := by decide +kernel
theorem d13_21 : decode jdk_52_method_16_code 21 = .ok (.iload_n 1, 1) := by decide +kernel
theorem d13_22 : decode jdk_52_method_16_code 22 = .ok (.iload_n 2, 1) := by decide +kernel
theorem d13_23 : decode jdk_52_method_16_code 23 = .ok (.invokestatic 119, 3) := by decide +kernel
theorem d13_26 : decode jdk_52_method_16_code 26 = .ok (.astore 5, 2) := by decide +kernel
theorem d13_28 : decode jdk_52_method_16_code 28 = .ok (.aload 5, 2) := by decide +kernel
theorem d13_30 : decode jdk_52_method_16_code 30 = .ok (.iload 4, 2) := by decide +kernel
theorem d13_32 : decode jdk_52_method_16_code 32 = .ok (.invokestatic 71, 3) := by decide +kernel
theorem d13_35 : decode jdk_52_method_16_code 35 = .ok (.sipush 255, 3) := by decide +kernel
theorem d13_38 : decode jdk_52_method_16_code 38 = .ok (.if_icmp .gt 16, 3) := by decide +kernel
theorem d13_41 : decode jdk_52_method_16_code 41 = .ok (.aload 5, 2) := by decide +kernel
theorem d13_43 : decode jdk_52_method_16_code 43 = .ok (.iconst 0, 1) := by decide +kernel
theorem d13_44 : decode jdk_52_method_16_code 44 = .ok (.aload_n 3, 1) := by decide +kernel
theorem d13_45 : decode jdk_52_method_16_code 45 = .ok (.iconst 0, 1) := by decide +kernel
theorem d13_46 : decode jdk_52_method_16_code 46 = .ok (.iload_n 2, 1) := by decide +kernel
theorem d13_47 : decode jdk_52_method_16_code 47 = .ok (.invokestatic 123, 3) := by decide +kernel
theorem d13_50 : decode jdk_52_method_16_code 50 = .ok (.iload_n 2, 1) := by decide +kernel
theorem d13_51 : decode jdk_52_method_16_code 51 = .ok (.if_icmp .eq 6, 3) := by decide +kernel
theorem d13_54 : decode jdk_52_method_16_code 54 = .ok (.aload 5, 2) := by decide +kernel
theorem d13_56 : decode jdk_52_method_16_code 56 = .ok (.areturn, 1) := by decide +kernel
theorem d13_57 : decode jdk_52_method_16_code 57 = .ok (.aload_n 3, 1) := by decide +kernel
theorem d13_58 : decode jdk_52_method_16_code 58 = .ok (.areturn, 1) := by decide +kernel
theorem own_pf8 : plainFor (⟨"java/lang/StringUTF16", "compress", "([CII)[B"⟩ : MethodName) = true := plainFor_of_name (by first | (simp [plainName, overriddenIn]; done) | decide +kernel)
def Q_rmC3_4 (Z : State) (c0 c1 c2 c3 : Int32) (n0 : Nat) (h0 : Heap) (v : Option Value) (h : Heap) (L : List Loc) : Prop := ∃ (b : Addr) (kb : ClassId), v = some (.ref b) ∧ Fr n0 L ∧ Keep h0 h [] ∧ n0 ≤ b ∧ h0.size ≤ b ∧ Arv Z h b kb .byte 4 [(.int (c0.toInt8.toInt32.toInt8.toInt32)), (.int (c1.toInt8.toInt32.toInt8.toInt32)), (.int (c2.toInt8.toInt32.toInt8.toInt32)), (.int (c3.toInt8.toInt32.toInt8.toInt32))] (.int 0)
theorem ef_rmC3_4 (ca : Addr) (m : MethodId) : entryFrame m #[(.ref ca), (.int 0), (.int 4)] 6 = mkF m 0 #[.val (.ref ca), .val (.int 0), .val (.int 4), .unset, .unset, .unset] [] := by first | (simp [entryFrame, mkF, argsToLocals, Value.category]; done) | rfl
theorem rmC3_4 (l : Launch) (Z : State) (a0 : Array Value) (hw : ∀ d ∈ tables_1, d.before a0 Z = true) (ca : Addr) (h0 : Heap) (n0 : Nat) (Z0 : n0 ≤ h0.size) (kc : ClassId) (c0 c1 c2 c3 : Int32) (bc0 : 0 ≤ c0.toInt ∧ c0.toInt ≤ 255) (bc1 : 0 ≤ c1.toInt ∧ c1.toInt ≤ 255) (bc2 : 0 ≤ c2.toInt ∧ c2.toInt ≤ 255) (bc3 : 0 ≤ c3.toInt ∧ c3.toInt ≤ 255) (Vc : Arv Z h0 ca kc .char 4 [(.int c0), (.int c1), (.int c2), (.int c3)] (.int 0)) :
    MetFree l (⟨"java/lang/StringUTF16", "compress", "([CII)[B"⟩ : MethodName) (head1 [Jvm.Cond.code (⟨"java/lang/StringUTF16", "compress", "([CII)[B"⟩ : MethodName) jdk_52_method_16_code 6 (some (.array .byte))] ({ frames := 1, cells := 1, slots := 4, locals := 20 } : Room)) (fun as_ U => as_ = #[(.ref ca), (.int 0), (.int 4)] ∧ Z.Warmed39 U.vm ∧ U.heap = h0) (fun _ _ _ _ _ => True) (fun _ U o U' => ∃ v L, o = .returned v ∧ Q_rmC3_4 Z c0 c1 c2 c3 n0 h0 v U'.heap L ∧ FrameEnd U o U' L ({ frames := 1, cells := 1, slots := 4, locals := 20 } : Room).cells ({ frames := 1, cells := 1, slots := 4, locals := 20 } : Room).slots) := by
  refine own_met own_pf8 (ef_rmC3_4 ca) ?_
  intro p e s m below meth c T0 X0 hx hby hml hret hlk hnm hown hZ e0
  have N0 := Fr.nil n0
  refine g_iloadN X0 hx 1 (hb hby d13_0) rfl rfl ?_
  refine g_newP X0 hx hZ (aty := .byte) (hw _ (List.mem_of_getElem? (i := 3) rfl)) e0 (by decide) (cap := 4) (by decide) (by decide) 3 (hb hby d13_1) rfl (by decide) (by decide) (ad := "[B") (by decide) ?_
  intro T73 h73 k73 a73 g73 X73 e73 E73 V73 A73
  have ne74 : ca ≠ a73 := Nat.ne_of_lt (by rw [g73]; exact Vc.lt)
  have ge75 : n0 ≤ a73 := by rw [g73]; exact Z0
  have sz76 : h0.size ≤ a73 := by rw [g73]; exact (Keep.refl h0 []).1
  have F77 := Vc.ext E73
  have K78 := (Keep.refl h0 []).ext E73
  have Z79 : n0 ≤ h73.size := Nat.le_trans Z0 E73.1
  have V73' : Arv Z h73 a73 k73 .byte (4 : Int32) [(.int (0 : Int32)), (.int (0 : Int32)), (.int (0 : Int32)), (.int (0 : Int32))] (.int (0 : Int32)) := V73.pad (pad_rep [] (.int (0 : Int32)) 4)
  refine g_astoreN (l' := #[.val (.ref ca), .val (.int (0 : Int32)), .val (.int (4 : Int32)), .val (.ref a73), .unset, .unset]) X73 hx 4 (hb hby d13_3) rfl rfl rfl ?_
  refine g_aloadN X73 hx 5 (hb hby d13_4) rfl rfl rfl ?_
  refine g_iloadN X73 hx 6 (hb hby d13_5) rfl rfl ?_
  refine g_aloadN X73 hx 7 (hb hby d13_6) rfl rfl rfl ?_
  refine g_iconst X73 hx (0 : Int32) 8 (hb hby d13_7) rfl (by decide) ?_
  refine g_iloadN X73 hx 9 (hb hby d13_8) rfl rfl ?_
  refine g_static X73 hx hZ hown (hw _ (List.mem_of_getElem? (i := 67) rfl)) (hw _ (List.mem_of_getElem? (i := 68) rfl)) (hw _ (List.mem_of_getElem? (i := 65) rfl)) (hw _ (List.mem_of_getElem? (i := 69) rfl)) (by decide) (rmCp_4 l Z a0 hw ca a73 h73 n0 Z79 kc k73 c0 c1 c2 c3 bc0 bc1 bc2 bc3 ne74 ge75 F77 V73') e73 (argsL := [(.ref ca), (.int (0 : Int32)), (.ref a73), (.int (0 : Int32)), (.int (4 : Int32))]) (rest := []) rfl rfl 0 12 rfl (by rw [hml]; rfl) (lenOf own_pd13 rfl) (Nat.le_refl _) (by decide) (by decide) (by decide) (by decide) (hb hby d13_9) ?_
  intro v80 T80 L80 X80 hQ80
  obtain ⟨rfl, N80, K80, V80⟩ := hQ80
  have N81 := Fr.app N0 N80
  have F82 := F77.keep K80 (ninS ne74 nin0)
  have F83 := A73.keep K80
  have Z85 : n0 ≤ T80.heap.size := Nat.le_trans Z79 K80.1
  have K86 := K78.trans K80 (allS (Or.inr sz76) all0)
  show Go p e below _ T80 (mkF m 12 #[.val (.ref ca), .val (.int (0 : Int32)), .val (.int (4 : Int32)), .val (.ref a73), .unset, .unset] [(.int (4 : Int32))])
  refine g_istore (l' := #[.val (.ref ca), .val (.int (0 : Int32)), .val (.int (4 : Int32)), .val (.ref a73), .val (.int (4 : Int32)), .unset]) X80 hx 14 (hb hby d13_12) rfl rfl ?_
  refine g_iload X80 hx 16 (hb hby d13_14) rfl rfl ?_
  refine g_iloadN X80 hx 17 (hb hby d13_16) rfl rfl ?_
  have ll88 : ((4 : Int32) : Int32).toInt = 4 := by decide
  have ll89 : ((4 : Int32) : Int32).toInt = 4 := by decide
  refine g_ic_eq X80 hx 57 20 (hb hby d13_17) (by decide) (by decide) rfl (fun c87 => ?_) (fun c87 => ?_)
  · skip
    refine g_aloadN X80 hx 58 (hb hby d13_57) rfl rfl rfl ?_
    exact g_retA X80 hx hlk hret rfl rfl rfl (hb hby d13_58) (by decide) (by decide) rfl ⟨a73, k73, rfl, N81, K86, ge75, sz76, V80⟩
  · skip
    exfalso; revert c87; decide
theorem d15_0 : decode jdk_52_method_15_code 0 = .ok (.iload_n 1, 1) := by decide +kernel
theorem d15_1 : decode jdk_52_method_15_code 1 = .ok (.aload_n 0, 1) := by decide +kernel
theorem d15_2 : decode jdk_52_method_15_code 2 = .ok (.arraylength, 1) := by decide +kernel
theorem d15_3 : decode jdk_52_method_15_code 3 = .ok (.isub, 1) := by decide +kernel
theorem d15_4 : decode jdk_52_method_15_code 4 = .ok (.bipush 31, 2) := by decide +kernel
theorem d15_6 : decode jdk_52_method_15_code 6 = .ok (.iushr, 1) := by decide +kernel
theorem d15_7 : decode jdk_52_method_15_code 7 = .ok (.i2b, 1) := by decide +kernel
theorem d15_8 : decode jdk_52_method_15_code 8 = .ok (.ireturn, 1) := by decide +kernel
theorem own_pf9 : plainFor (⟨"java/lang/StringUTF16", "coderFromArrayLen", "([BI)B"⟩ : MethodName) = true := plainFor_of_name (by first | (simp [plainName, overriddenIn]; done) | decide +kernel)
def Q_rmCF_4 (n0 : Nat) (h0 : Heap) (v : Option Value) (h : Heap) (L : List Loc) : Prop := v = some (.int 0) ∧ Fr n0 L ∧ h = h0
theorem ef_rmCF_4 (b : Addr) (m : MethodId) : entryFrame m #[(.ref b), (.int 4)] 2 = mkF m 0 #[.val (.ref b), .val (.int 4)] [] := by first | (simp [entryFrame, mkF, argsToLocals, Value.category]; done) | rfl
theorem rmCF_4 (l : Launch) (Z : State) (a0 : Array Value) (hw : ∀ d ∈ tables_1, d.before a0 Z = true) (b : Addr) (h0 : Heap) (n0 : Nat) (Z0 : n0 ≤ h0.size) (kb : ClassId) (vs : List Value) (V : Arv Z h0 b kb .byte 4 vs (.int 0)) :
    MetFree l (⟨"java/lang/StringUTF16", "coderFromArrayLen", "([BI)B"⟩ : MethodName) (head1 [Jvm.Cond.code (⟨"java/lang/StringUTF16", "coderFromArrayLen", "([BI)B"⟩ : MethodName) jdk_52_method_15_code 2 (some .byte)] ({ frames := 0, cells := 0, slots := 0, locals := 0 } : Room)) (fun as_ U => as_ = #[(.ref b), (.int 4)] ∧ Z.Warmed39 U.vm ∧ U.heap = h0) (fun _ _ _ _ _ => True) (fun _ U o U' => ∃ v L, o = .returned v ∧ Q_rmCF_4 n0 h0 v U'.heap L ∧ FrameEnd U o U' L ({ frames := 0, cells := 0, slots := 0, locals := 0 } : Room).cells ({ frames := 0, cells := 0, slots := 0, locals := 0 } : Room).slots) := by
  refine own_met own_pf9 (ef_rmCF_4 b) ?_
  intro p e s m below meth c T0 X0 hx hby hml hret hlk hnm hown hZ e0
  have N0 := Fr.nil n0
  refine g_iloadN X0 hx 1 (hb hby d15_0) rfl rfl ?_
  refine g_aloadN X0 hx 2 (hb hby d15_1) rfl rfl rfl ?_
  refine g_len X0 hx hZ e0 V 3 (hb hby d15_2) rfl ?_
  refine g_isubC X0 hx (0 : Int32) (by decide) 4 (hb hby d15_3) rfl ?_
  refine g_bipush X0 hx (31 : Int32) 6 (hb hby d15_4) rfl (by decide) ?_
  refine g_iushr X0 hx 7 (hb hby d15_6) rfl ?_
  refine g_i2b X0 hx 8 (hb hby d15_7) rfl ?_
  exact g_retN X0 hx hlk hret (by simp) (hb hby d15_8) (by decide) (by decide) e0 ⟨by decide, N0, rfl⟩
theorem d11_0 : decode jdk_42_method_149_code 0 = .ok (.aload_n 0, 1) := by decide +kernel
theorem d11_1 : decode jdk_42_method_149_code 1 = .ok (.invokespecial 1, 3) := by decide +kernel
theorem d11_4 : decode jdk_42_method_149_code 4 = .ok (.iload_n 3, 1) := by decide +kernel
theorem d11_5 : decode jdk_42_method_149_code 5 = .ok (.ifCond .ne 22, 3) := by decide +kernel
theorem d11_8 : decode jdk_42_method_149_code 8 = .ok (.aload_n 0, 1) := by decide +kernel
theorem d11_9 : decode jdk_42_method_149_code 9 = .ok (.ldc 7, 2) := by decide +kernel
theorem d11_11 : decode jdk_42_method_149_code 11 = .ok (.getfield 9, 3) := by decide +kernel
theorem d11_14 : decode jdk_42_method_149_code 14 = .ok (.putfield 9, 3) := by decide +kernel
theorem d11_17 : decode jdk_42_method_149_code 17 = .ok (.aload_n 0, 1) := by decide +kernel
theorem d11_18 : decode jdk_42_method_149_code 18 = .ok (.ldc 7, 2) := by decide +kernel
theorem d11_20 : decode jdk_42_method_149_code 20 = .ok (.getfield 15, 3) := by decide +kernel
theorem d11_23 : decode jdk_42_method_149_code 23 = .ok (.putfield 15, 3) := by decide +kernel
theorem d11_26 : decode jdk_42_method_149_code 26 = .ok (.return_, 1) := by decide +kernel
theorem d11_27 : decode jdk_42_method_149_code 27 = .ok (.getstatic 38, 3) := by decide +kernel
theorem d11_30 : decode jdk_42_method_149_code 30 = .ok (.ifCond .eq 28, 3) := by decide +kernel
theorem d11_33 : decode jdk_42_method_149_code 33 = .ok (.aload_n 1, 1) := by decide +kernel
theorem d11_34 : decode jdk_42_method_149_code 34 = .ok (.iload_n 2, 1) := by decide +kernel
theorem d11_35 : decode jdk_42_method_149_code 35 = .ok (.iload_n 3, 1) := by decide +kernel
theorem d11_36 : decode jdk_42_method_149_code 36 = .ok (.invokestatic 177, 3) := by decide +kernel
theorem d11_39 : decode jdk_42_method_149_code 39 = .ok (.astore 5, 2) := by decide +kernel
theorem d11_41 : decode jdk_42_method_149_code 41 = .ok (.aload_n 0, 1) := by decide +kernel
theorem d11_42 : decode jdk_42_method_149_code 42 = .ok (.aload 5, 2) := by decide +kernel
theorem d11_44 : decode jdk_42_method_149_code 44 = .ok (.iload_n 3, 1) := by decide +kernel
theorem d11_45 : decode jdk_42_method_149_code 45 = .ok (.invokestatic 47, 3) := by decide +kernel
theorem d11_48 : decode jdk_42_method_149_code 48 = .ok (.putfield 15, 3) := by decide +kernel
theorem d11_51 : decode jdk_42_method_149_code 51 = .ok (.aload_n 0, 1) := by decide +kernel
theorem d11_52 : decode jdk_42_method_149_code 52 = .ok (.aload 5, 2) := by decide +kernel
theorem d11_54 : decode jdk_42_method_149_code 54 = .ok (.putfield 9, 3) := by decide +kernel
theorem d11_57 : decode jdk_42_method_149_code 57 = .ok (.return_, 1) := by decide +kernel
theorem d11_58 : decode jdk_42_method_149_code 58 = .ok (.aload_n 0, 1) := by decide +kernel
theorem d11_59 : decode jdk_42_method_149_code 59 = .ok (.iconst 1, 1) := by decide +kernel
theorem d11_60 : decode jdk_42_method_149_code 60 = .ok (.putfield 15, 3) := by decide +kernel
theorem d11_63 : decode jdk_42_method_149_code 63 = .ok (.aload_n 0, 1) := by decide +kernel
theorem d11_64 : decode jdk_42_method_149_code 64 = .ok (.aload_n 1, 1) := by decide +kernel
theorem d11_65 : decode jdk_42_method_149_code 65 = .ok (.iload_n 2, 1) := by decide +kernel
theorem d11_66 : decode jdk_42_method_149_code 66 = .ok (.iload_n 3, 1) := by decide +kernel
theorem d11_67 : decode jdk_42_method_149_code 67 = .ok (.invokestatic 180, 3) := by decide +kernel
theorem d11_70 : decode jdk_42_method_149_code 70 = .ok (.putfield 9, 3) := by decide +kernel
theorem d11_73 : decode jdk_42_method_149_code 73 = .ok (.return_, 1) := by decide +kernel
theorem own_pf10 : plainFor (⟨"java/lang/String", "<init>", "([CIILjava/lang/Void;)V"⟩ : MethodName) = true := plainFor_of_name (by first | (simp [plainName, overriddenIn]; done) | decide +kernel)
def Q_rmI4_4 (Z : State) (a : Addr) (c0 c1 c2 c3 : Int32) (n0 : Nat) (h0 : Heap) (v : Option Value) (h : Heap) (L : List Loc) : Prop := v = none ∧ Fr n0 L ∧ Keep h0 h [a] ∧ ∃ (b : Addr) (kb : ClassId), n0 ≤ b ∧ h0.size ≤ b ∧ Fld Z h a "java/lang/String" "coder" "B" (.int 0) ∧ Fld Z h a "java/lang/String" "value" "[B" (.ref b) ∧ Arv Z h b kb .byte 4 [(.int (c0.toInt8.toInt32.toInt8.toInt32)), (.int (c1.toInt8.toInt32.toInt8.toInt32)), (.int (c2.toInt8.toInt32.toInt8.toInt32)), (.int (c3.toInt8.toInt32.toInt8.toInt32))] (.int 0)
theorem ef_rmI4_4 (a ca : Addr) (m : MethodId) : entryFrame m #[(.ref a), (.ref ca), (.int 0), (.int 4), .null] 6 = mkF m 0 #[.val (.ref a), .val (.ref ca), .val (.int 0), .val (.int 4), .val .null, .unset] [] := by first | (simp [entryFrame, mkF, argsToLocals, Value.category]; done) | rfl
theorem rmI4_4 (l : Launch) (Z : State) (a0 : Array Value) (hw : ∀ d ∈ tables_1, d.before a0 Z = true) (a ca : Addr) (h0 : Heap) (n0 : Nat) (Z0 : n0 ≤ h0.size) (cst : Int32) (hc : cst ≠ 0) (O0 : Old Z n0 h0) (SC : Sta Z Z.heap "java/lang/String" "COMPACT_STRINGS" "Z" (.int cst)) (kc : ClassId) (c0 c1 c2 c3 : Int32) (bc0 : 0 ≤ c0.toInt ∧ c0.toInt ≤ 255) (bc1 : 0 ≤ c1.toInt ∧ c1.toInt ≤ 255) (bc2 : 0 ≤ c2.toInt ∧ c2.toInt ≤ 255) (bc3 : 0 ≤ c3.toInt ∧ c3.toInt ≤ 255) (E : Exa Z h0 a "java/lang/String") (ga : n0 ≤ a) (nac : a ≠ ca) (Fc : Fld Z h0 a "java/lang/String" "coder" "B" (.int 0)) (Fv : Fld Z h0 a "java/lang/String" "value" "[B" .null) (Vc : Arv Z h0 ca kc .char 4 [(.int c0), (.int c1), (.int c2), (.int c3)] (.int 0)) :
    MetFree l (⟨"java/lang/String", "<init>", "([CIILjava/lang/Void;)V"⟩ : MethodName) (head1 [Jvm.Cond.code (⟨"java/lang/String", "<init>", "([CIILjava/lang/Void;)V"⟩ : MethodName) jdk_42_method_149_code 6 none] ({ frames := 2, cells := 1, slots := 4, locals := 44 } : Room)) (fun as_ U => as_ = #[(.ref a), (.ref ca), (.int 0), (.int 4), .null] ∧ Z.Warmed39 U.vm ∧ U.heap = h0) (fun _ _ _ _ _ => True) (fun _ U o U' => ∃ v L, o = .returned v ∧ Q_rmI4_4 Z a c0 c1 c2 c3 n0 h0 v U'.heap L ∧ FrameEnd U o U' L ({ frames := 2, cells := 1, slots := 4, locals := 44 } : Room).cells ({ frames := 2, cells := 1, slots := 4, locals := 44 } : Room).slots) := by
  refine own_met own_pf10 (ef_rmI4_4 a ca) ?_
  intro p e s m below meth c T0 X0 hx hby hml hret hlk hnm hown hZ e0
  have N0 := Fr.nil n0
  refine g_aloadN X0 hx 1 (hb hby d11_0) rfl rfl rfl ?_
  refine g_objinit X0 hx hZ hown (hw _ (List.mem_of_getElem? (i := 60) rfl)) (hw _ (List.mem_of_getElem? (i := 61) rfl)) (hw _ (List.mem_of_getElem? (i := 62) rfl)) e0 0 4 (hb hby d11_1) rfl (by rw [hml]; rfl) (by decide) (Nat.le_refl _) (by decide) ?_
  intro T90 X90 e90
  refine g_iloadN X90 hx 5 (hb hby d11_4) rfl rfl ?_
  have ll92 : ((4 : Int32) : Int32).toInt = 4 := by decide
  refine g_if_ne X90 hx 27 8 (hb hby d11_5) (by decide) (by decide) rfl (fun c91 => ?_) (fun c91 => ?_)
  · skip
    refine g_getS X90 hx hZ hown (hw _ (List.mem_of_getElem? (i := 24) rfl)) Via.refl e90 (Sta.ext O0.2 SC) 30 (hb hby d11_27) rfl ?_
    intro T93 X93 e93
    refine g_if_eq X93 hx 58 33 (hb hby d11_30) (by decide) (by decide) rfl (fun c94 => ?_) (fun c94 => ?_)
    · skip
      exact absurd (own_t0 c94) hc
    · skip
      refine g_aloadN X93 hx 34 (hb hby d11_33) rfl rfl rfl ?_
      refine g_iloadN X93 hx 35 (hb hby d11_34) rfl rfl ?_
      refine g_iloadN X93 hx 36 (hb hby d11_35) rfl rfl ?_
      refine g_static X93 hx hZ hown (hw _ (List.mem_of_getElem? (i := 63) rfl)) (hw _ (List.mem_of_getElem? (i := 64) rfl)) (hw _ (List.mem_of_getElem? (i := 65) rfl)) (hw _ (List.mem_of_getElem? (i := 66) rfl)) (by decide) (rmC3_4 l Z a0 hw ca h0 n0 Z0 kc c0 c1 c2 c3 bc0 bc1 bc2 bc3 Vc) e93 (argsL := [(.ref ca), (.int (0 : Int32)), (.int (4 : Int32))]) (rest := []) rfl rfl 0 39 rfl (by rw [hml]; rfl) (lenOf own_pd12 rfl) (Nat.le_refl _) (by decide) (by decide) (by decide) (by decide) (hb hby d11_36) ?_
      intro v95 T95 L95 X95 hQ95
      obtain ⟨b, kb, rfl, N95, K95, gb, sb, Vb⟩ := hQ95
      have N96 := Fr.app N0 N95
      have F97 := O0.keep K95 all0
      have F98 := E.keep K95
      have F99 := Fc.keep K95 nin0
      have F100 := Fv.keep K95 nin0
      have F101 := Vc.keep K95 nin0
      have Z102 : n0 ≤ T95.heap.size := Nat.le_trans Z0 K95.1
      have K103 := (Keep.refl h0 [a]).trans K95 all0
      have nab : a ≠ b := Nat.ne_of_lt (Nat.lt_of_lt_of_le E.lt sb)
      have sb := Nat.le_trans ((Keep.refl h0 [a])).1 sb
      show Go p e below _ T95 (mkF m 39 #[.val (.ref a), .val (.ref ca), .val (.int (0 : Int32)), .val (.int (4 : Int32)), .val .null, .unset] [(.ref b)])
      refine g_astore (l' := #[.val (.ref a), .val (.ref ca), .val (.int (0 : Int32)), .val (.int (4 : Int32)), .val .null, .val (.ref b)]) X95 hx 41 (hb hby d11_39) rfl rfl rfl ?_
      refine g_aloadN X95 hx 42 (hb hby d11_41) rfl rfl rfl ?_
      refine g_aload X95 hx 44 (hb hby d11_42) rfl rfl rfl ?_
      refine g_iloadN X95 hx 45 (hb hby d11_44) rfl rfl ?_
      refine g_static X95 hx hZ hown (hw _ (List.mem_of_getElem? (i := 70) rfl)) (hw _ (List.mem_of_getElem? (i := 71) rfl)) (hw _ (List.mem_of_getElem? (i := 65) rfl)) (hw _ (List.mem_of_getElem? (i := 72) rfl)) (by decide) (rmCF_4 l Z a0 hw b T95.heap n0 Z102 kb _ Vb) rfl (argsL := [(.ref b), (.int (4 : Int32))]) (rest := [(.ref a)]) rfl rfl 1 48 rfl (by rw [hml]; rfl) (lenOf own_pd14 rfl) (Nat.le_refl _) (by decide) (by decide) (by decide) (by decide) (hb hby d11_45) ?_
      intro v104 T104 L104 X104 hQ104
      obtain ⟨rfl, N104, q104⟩ := hQ104
      have N105 := Fr.app N96 N104
      show Go p e below _ T104 (mkF m 48 #[.val (.ref a), .val (.ref ca), .val (.int (0 : Int32)), .val (.int (4 : Int32)), .val .null, .val (.ref b)] [(.int (0 : Int32)), (.ref a)])
      refine g_putF X104 hx hZ hown (hw _ (List.mem_of_getElem? (i := 25) rfl)) Via.refl q104 F99 F98 (Or.inr ⟨(hw _ (List.mem_of_getElem? (i := 5) rfl)), rfl, hnm⟩) (hw _ (List.mem_of_getElem? (i := 2) rfl)) (ty := .byte) (by decide) rfl rfl 51 (hb hby d11_48) rfl ?_
      intro T106 h106 X106 e106 W106
      have F107 : Fld Z h106 a "java/lang/String" "coder" "B" (.int (0 : Int32)) := F99.same W106
      have F108 := F97.wr W106 ga
      have F109 := F98.wr W106
      have F110 := F100.other W106 (Or.inr (slot_ne (Or.inr (hw _ (List.mem_of_getElem? (i := 4) rfl))) (Or.inr (hw _ (List.mem_of_getElem? (i := 5) rfl))) (by decide) (t := (.array .byte)) (t' := .byte) (by decide) (by decide)))
      have F111 := F101.other W106 (Ne.symm nac)
      have F112 := Vb.other W106 (Ne.symm nab)
      have K113 := K103.wr W106 (Or.inl (List.mem_of_getElem? (i := 0) rfl))
      have N114 := Fr.snoc X106 N105 ga
      have Z115 : n0 ≤ h106.size := by rw [W106.size]; exact Z102
      refine g_aloadN X106 hx 52 (hb hby d11_51) rfl rfl rfl ?_
      refine g_aload X106 hx 54 (hb hby d11_52) rfl rfl rfl ?_
      refine g_putF X106 hx hZ hown (hw _ (List.mem_of_getElem? (i := 18) rfl)) Via.refl e106 F110 F109 (Or.inr ⟨(hw _ (List.mem_of_getElem? (i := 4) rfl)), rfl, hnm⟩) (hw _ (List.mem_of_getElem? (i := 2) rfl)) (ty := (.array .byte)) (by decide) rfl rfl 57 (hb hby d11_54) rfl ?_
      intro T116 h116 X116 e116 W116
      have F117 : Fld Z h116 a "java/lang/String" "value" "[B" (.ref b) := F110.same W116
      have F118 := F108.wr W116 ga
      have F119 := F109.wr W116
      have F120 := F111.other W116 (Ne.symm nac)
      have F121 := F112.other W116 (Ne.symm nab)
      have F122 := F107.other W116 (Or.inr (slot_ne (Or.inr (hw _ (List.mem_of_getElem? (i := 5) rfl))) (Or.inr (hw _ (List.mem_of_getElem? (i := 4) rfl))) (by decide) (t := .byte) (t' := (.array .byte)) (by decide) (by decide)))
      have K123 := K113.wr W116 (Or.inl (List.mem_of_getElem? (i := 0) rfl))
      have N124 := Fr.snoc X116 N114 ga
      have Z125 : n0 ≤ h116.size := by rw [W116.size]; exact Z115
      exact g_retV X116 hx hlk hret (hb hby d11_57) (by decide) (by decide) e116 ⟨rfl, N124, K123, b, kb, gb, sb, F122, F117, F121⟩
  · skip
    exfalso; revert c91; decide
theorem d10_0 : decode jdk_42_method_3_code 0 = .ok (.aload_n 0, 1) := by decide +kernel
theorem d10_1 : decode jdk_42_method_3_code 1 = .ok (.aload_n 1, 1) := by decide +kernel
theorem d10_2 : decode jdk_42_method_3_code 2 = .ok (.iconst 0, 1) := by decide +kernel
theorem d10_3 : decode jdk_42_method_3_code 3 = .ok (.aload_n 1, 1) := by decide +kernel
theorem d10_4 : decode jdk_42_method_3_code 4 = .ok (.arraylength, 1) := by decide +kernel
theorem d10_5 : decode jdk_42_method_3_code 5 = .ok (.aconst_null, 1) := by decide +kernel
theorem d10_6 : decode jdk_42_method_3_code 6 = .ok (.invokespecial 27, 3) := by decide +kernel
theorem d10_9 : decode jdk_42_method_3_code 9 = .ok (.return_, 1) := by decide +kernel
theorem own_pf11 : plainFor (⟨"java/lang/String", "<init>", "([C)V"⟩ : MethodName) = true := plainFor_of_name (by first | (simp [plainName, overriddenIn]; done) | decide +kernel)
def Q_rmI1_4 (Z : State) (a : Addr) (c0 c1 c2 c3 : Int32) (n0 : Nat) (h0 : Heap) (v : Option Value) (h : Heap) (L : List Loc) : Prop := v = none ∧ Fr n0 L ∧ Keep h0 h [a] ∧ ∃ (b : Addr) (kb : ClassId), n0 ≤ b ∧ h0.size ≤ b ∧ Fld Z h a "java/lang/String" "coder" "B" (.int 0) ∧ Fld Z h a "java/lang/String" "value" "[B" (.ref b) ∧ Arv Z h b kb .byte 4 [(.int (c0.toInt8.toInt32.toInt8.toInt32)), (.int (c1.toInt8.toInt32.toInt8.toInt32)), (.int (c2.toInt8.toInt32.toInt8.toInt32)), (.int (c3.toInt8.toInt32.toInt8.toInt32))] (.int 0)
theorem ef_rmI1_4 (a ca : Addr) (m : MethodId) : entryFrame m #[(.ref a), (.ref ca)] 2 = mkF m 0 #[.val (.ref a), .val (.ref ca)] [] := by first | (simp [entryFrame, mkF, argsToLocals, Value.category]; done) | rfl
theorem rmI1_4 (l : Launch) (Z : State) (a0 : Array Value) (hw : ∀ d ∈ tables_1, d.before a0 Z = true) (a ca : Addr) (h0 : Heap) (n0 : Nat) (Z0 : n0 ≤ h0.size) (cst : Int32) (hc : cst ≠ 0) (O0 : Old Z n0 h0) (SC : Sta Z Z.heap "java/lang/String" "COMPACT_STRINGS" "Z" (.int cst)) (kc : ClassId) (c0 c1 c2 c3 : Int32) (bc0 : 0 ≤ c0.toInt ∧ c0.toInt ≤ 255) (bc1 : 0 ≤ c1.toInt ∧ c1.toInt ≤ 255) (bc2 : 0 ≤ c2.toInt ∧ c2.toInt ≤ 255) (bc3 : 0 ≤ c3.toInt ∧ c3.toInt ≤ 255) (E : Exa Z h0 a "java/lang/String") (ga : n0 ≤ a) (nac : a ≠ ca) (Fc : Fld Z h0 a "java/lang/String" "coder" "B" (.int 0)) (Fv : Fld Z h0 a "java/lang/String" "value" "[B" .null) (Vc : Arv Z h0 ca kc .char 4 [(.int c0), (.int c1), (.int c2), (.int c3)] (.int 0)) :
    MetFree l (⟨"java/lang/String", "<init>", "([C)V"⟩ : MethodName) (head1 [Jvm.Cond.code (⟨"java/lang/String", "<init>", "([C)V"⟩ : MethodName) jdk_42_method_3_code 2 none] ({ frames := 3, cells := 1, slots := 4, locals := 64 } : Room)) (fun as_ U => as_ = #[(.ref a), (.ref ca)] ∧ Z.Warmed39 U.vm ∧ U.heap = h0) (fun _ _ _ _ _ => True) (fun _ U o U' => ∃ v L, o = .returned v ∧ Q_rmI1_4 Z a c0 c1 c2 c3 n0 h0 v U'.heap L ∧ FrameEnd U o U' L ({ frames := 3, cells := 1, slots := 4, locals := 64 } : Room).cells ({ frames := 3, cells := 1, slots := 4, locals := 64 } : Room).slots) := by
  refine own_met own_pf11 (ef_rmI1_4 a ca) ?_
  intro p e s m below meth c T0 X0 hx hby hml hret hlk hnm hown hZ e0
  have N0 := Fr.nil n0
  refine g_aloadN X0 hx 1 (hb hby d10_0) rfl rfl rfl ?_
  refine g_aloadN X0 hx 2 (hb hby d10_1) rfl rfl rfl ?_
  refine g_iconst X0 hx (0 : Int32) 3 (hb hby d10_2) rfl (by decide) ?_
  refine g_aloadN X0 hx 4 (hb hby d10_3) rfl rfl rfl ?_
  refine g_len X0 hx hZ e0 Vc 5 (hb hby d10_4) rfl ?_
  refine g_null X0 hx 6 (hb hby d10_5) rfl ?_
  refine g_init X0 hx hZ rfl hown (hw _ (List.mem_of_getElem? (i := 56) rfl)) (hw _ (List.mem_of_getElem? (i := 57) rfl)) (hw _ (List.mem_of_getElem? (i := 1) rfl)) (hw _ (List.mem_of_getElem? (i := 59) rfl)) (by decide) (rmI4_4 l Z a0 hw a ca h0 n0 Z0 cst hc O0 SC kc c0 c1 c2 c3 bc0 bc1 bc2 bc3 E ga nac Fc Fv Vc) e0 (a := a) (argsL := [(.ref ca), (.int (0 : Int32)), (.int (4 : Int32)), .null]) (rest := []) rfl rfl 0 9 rfl (by rw [hml]; rfl) (lenOf own_pd10 rfl) (Nat.le_refl _) (by decide) (by decide) (by decide) (by decide) (hb hby d10_6) ?_
  intro v126 T126 L126 X126 hQ126
  obtain ⟨rfl, N126, K126, b, kb, gb, sb, c_, v_, Vb⟩ := hQ126
  have N127 := Fr.app N0 N126
  have F128 := O0.keep K126 (allS ga all0)
  have F129 := E.keep K126
  have F132 := Vc.keep K126 (ninS (Ne.symm nac) nin0)
  have Z133 : n0 ≤ T126.heap.size := Nat.le_trans Z0 K126.1
  have K134 := (Keep.refl h0 [a]).trans K126 (allS (Or.inl (List.mem_of_getElem? (i := 0) rfl)) all0)
  show Go p e below _ T126 (mkF m 9 #[.val (.ref a), .val (.ref ca)] [])
  exact g_retV X126 hx hlk hret (hb hby d10_9) (by decide) (by decide) rfl ⟨rfl, N127, K134, b, kb, gb, sb, c_, v_, Vb⟩
def Q_rmCp_5 (Z : State) (ba : Addr) (kb : ClassId) (c0 c1 c2 c3 c4 : Int32) (n0 : Nat) (h0 : Heap) (v : Option Value) (h : Heap) (L : List Loc) : Prop := v = some (.int 5) ∧ Fr n0 L ∧ Keep h0 h [ba] ∧ Arv Z h ba kb .byte 5 [(.int (c0.toInt8.toInt32.toInt8.toInt32)), (.int (c1.toInt8.toInt32.toInt8.toInt32)), (.int (c2.toInt8.toInt32.toInt8.toInt32)), (.int (c3.toInt8.toInt32.toInt8.toInt32)), (.int (c4.toInt8.toInt32.toInt8.toInt32))] (.int 0)
theorem ef_rmCp_5 (ca ba : Addr) (m : MethodId) : entryFrame m #[(.ref ca), (.int 0), (.ref ba), (.int 0), (.int 5)] 7 = mkF m 0 #[.val (.ref ca), .val (.int 0), .val (.ref ba), .val (.int 0), .val (.int 5), .unset, .unset] [] := by first | (simp [entryFrame, mkF, argsToLocals, Value.category]; done) | rfl
theorem rmCp_5 (l : Launch) (Z : State) (a0 : Array Value) (hw : ∀ d ∈ tables_1, d.before a0 Z = true) (ca ba : Addr) (h0 : Heap) (n0 : Nat) (Z0 : n0 ≤ h0.size) (kc kb : ClassId) (c0 c1 c2 c3 c4 : Int32) (bc0 : 0 ≤ c0.toInt ∧ c0.toInt ≤ 255) (bc1 : 0 ≤ c1.toInt ∧ c1.toInt ≤ 255) (bc2 : 0 ≤ c2.toInt ∧ c2.toInt ≤ 255) (bc3 : 0 ≤ c3.toInt ∧ c3.toInt ≤ 255) (bc4 : 0 ≤ c4.toInt ∧ c4.toInt ≤ 255) (ncb : ca ≠ ba) (gb : n0 ≤ ba) (Vc : Arv Z h0 ca kc .char 5 [(.int c0), (.int c1), (.int c2), (.int c3), (.int c4)] (.int 0)) (Vb : Arv Z h0 ba kb .byte 5 [(.int 0), (.int 0), (.int 0), (.int 0), (.int 0)] (.int 0)) :
    MetFree l (⟨"java/lang/StringUTF16", "compress", "([CI[BII)I"⟩ : MethodName) (head1 [Jvm.Cond.code (⟨"java/lang/StringUTF16", "compress", "([CI[BII)I"⟩ : MethodName) jdk_52_method_21_code 7 (some .int)] ({ frames := 0, cells := 0, slots := 0, locals := 0 } : Room)) (fun as_ U => as_ = #[(.ref ca), (.int 0), (.ref ba), (.int 0), (.int 5)] ∧ Z.Warmed39 U.vm ∧ U.heap = h0) (fun _ _ _ _ _ => True) (fun _ U o U' => ∃ v L, o = .returned v ∧ Q_rmCp_5 Z ba kb c0 c1 c2 c3 c4 n0 h0 v U'.heap L ∧ FrameEnd U o U' L ({ frames := 0, cells := 0, slots := 0, locals := 0 } : Room).cells ({ frames := 0, cells := 0, slots := 0, locals := 0 } : Room).slots) := by
  refine own_met own_pf7 (ef_rmCp_5 ca ba) ?_
  intro p e s m below meth c T0 X0 hx hby hml hret hlk hnm hown hZ e0
  have N0 := Fr.nil n0
  refine g_iconst X0 hx (0 : Int32) 1 (hb hby d14_0) rfl (by decide) ?_
  refine g_istore (l' := #[.val (.ref ca), .val (.int (0 : Int32)), .val (.ref ba), .val (.int (0 : Int32)), .val (.int (5 : Int32)), .val (.int (0 : Int32)), .unset]) X0 hx 3 (hb hby d14_1) rfl rfl ?_
  refine g_iload X0 hx 5 (hb hby d14_3) rfl rfl ?_
  refine g_iload X0 hx 7 (hb hby d14_5) rfl rfl ?_
  have ll136 : ((5 : Int32) : Int32).toInt = 5 := by decide
  have ll137 : ((0 : Int32) : Int32).toInt = 0 := by decide
  refine g_ic_ge X0 hx 44 10 (hb hby d14_7) (by decide) (by decide) rfl (fun c135 => ?_) (fun c135 => ?_)
  · skip
    exfalso; revert c135; decide
  · skip
    refine g_aloadN X0 hx 11 (hb hby d14_10) rfl rfl rfl ?_
    refine g_iloadN X0 hx 12 (hb hby d14_11) rfl rfl ?_
    refine g_caload X0 hx hZ e0 Vc (by decide) (by decide) (by rw [show ((0 : Int32) : Int32).toNatClampNeg = 0 by decide] <;> rfl) 13 (hb hby d14_12) rfl ?_
    refine g_istore (l' := #[.val (.ref ca), .val (.int (0 : Int32)), .val (.ref ba), .val (.int (0 : Int32)), .val (.int (5 : Int32)), .val (.int (0 : Int32)), .val (.int c0)]) X0 hx 15 (hb hby d14_13) rfl rfl ?_
    refine g_iload X0 hx 17 (hb hby d14_15) rfl rfl ?_
    refine g_sipush X0 hx (255 : Int32) 20 (hb hby d14_17) rfl (by decide) ?_
    have ll139 : ((255 : Int32) : Int32).toInt = 255 := by decide
    refine g_ic_le X0 hx 26 23 (hb hby d14_20) (by decide) (by decide) rfl (fun c138 => ?_) (fun c138 => ?_)
    · skip
      refine g_aloadN X0 hx 27 (hb hby d14_26) rfl rfl rfl ?_
      refine g_iloadN X0 hx 28 (hb hby d14_27) rfl rfl ?_
      refine g_iload X0 hx 30 (hb hby d14_28) rfl rfl ?_
      refine g_i2b X0 hx 31 (hb hby d14_30) rfl ?_
      refine g_bastore X0 hx hZ e0 Vb 0 (by decide) (by decide) (by show 0 < 5; decide) (c0.toInt8.toInt32.toInt8.toInt32) rfl 32 (hb hby d14_31) rfl ?_
      intro T140 h140 X140 e140 W140 V140
      have F141 := Vc.other W140 ncb
      have K143 := (Keep.refl h0 [ba]).wr W140 (Or.inl (List.mem_of_getElem? (i := 0) rfl))
      have N144 := Fr.snoc X140 N0 gb
      have Z145 : n0 ≤ h140.size := by rw [W140.size]; exact Z0
      have V140' : Arv Z h140 ba kb .byte (5 : Int32) [(.int (c0.toInt8.toInt32.toInt8.toInt32)), (.int (0 : Int32)), (.int (0 : Int32)), (.int (0 : Int32)), (.int (0 : Int32))] (.int 0) := V140
      refine g_iincC X140 hx (w := (1 : Int32)) (1 : Int32) (by decide) (l' := #[.val (.ref ca), .val (.int (1 : Int32)), .val (.ref ba), .val (.int (0 : Int32)), .val (.int (5 : Int32)), .val (.int (0 : Int32)), .val (.int c0)]) 35 (hb hby d14_32) rfl rfl (by decide) rfl ?_
      refine g_iincC X140 hx (w := (1 : Int32)) (1 : Int32) (by decide) (l' := #[.val (.ref ca), .val (.int (1 : Int32)), .val (.ref ba), .val (.int (1 : Int32)), .val (.int (5 : Int32)), .val (.int (0 : Int32)), .val (.int c0)]) 38 (hb hby d14_35) rfl rfl (by decide) rfl ?_
      refine g_iincC X140 hx (w := (1 : Int32)) (1 : Int32) (by decide) (l' := #[.val (.ref ca), .val (.int (1 : Int32)), .val (.ref ba), .val (.int (1 : Int32)), .val (.int (5 : Int32)), .val (.int (1 : Int32)), .val (.int c0)]) 41 (hb hby d14_38) rfl rfl (by decide) rfl ?_
      refine g_goto X140 hx 3 (hb hby d14_41) (by decide) (by decide) ?_
      refine g_iload X140 hx 5 (hb hby d14_3) rfl rfl ?_
      refine g_iload X140 hx 7 (hb hby d14_5) rfl rfl ?_
      have ll147 : ((5 : Int32) : Int32).toInt = 5 := by decide
      have ll148 : ((1 : Int32) : Int32).toInt = 1 := by decide
      refine g_ic_ge X140 hx 44 10 (hb hby d14_7) (by decide) (by decide) rfl (fun c146 => ?_) (fun c146 => ?_)
      · skip
        exfalso; revert c146; decide
      · skip
        refine g_aloadN X140 hx 11 (hb hby d14_10) rfl rfl rfl ?_
        refine g_iloadN X140 hx 12 (hb hby d14_11) rfl rfl ?_
        refine g_caload X140 hx hZ e140 F141 (by decide) (by decide) (by rw [show ((1 : Int32) : Int32).toNatClampNeg = 1 by decide] <;> rfl) 13 (hb hby d14_12) rfl ?_
        refine g_istore (l' := #[.val (.ref ca), .val (.int (1 : Int32)), .val (.ref ba), .val (.int (1 : Int32)), .val (.int (5 : Int32)), .val (.int (1 : Int32)), .val (.int c1)]) X140 hx 15 (hb hby d14_13) rfl rfl ?_
        refine g_iload X140 hx 17 (hb hby d14_15) rfl rfl ?_
        refine g_sipush X140 hx (255 : Int32) 20 (hb hby d14_17) rfl (by decide) ?_
        have ll150 : ((255 : Int32) : Int32).toInt = 255 := by decide
        refine g_ic_le X140 hx 26 23 (hb hby d14_20) (by decide) (by decide) rfl (fun c149 => ?_) (fun c149 => ?_)
        · skip
          refine g_aloadN X140 hx 27 (hb hby d14_26) rfl rfl rfl ?_
          refine g_iloadN X140 hx 28 (hb hby d14_27) rfl rfl ?_
          refine g_iload X140 hx 30 (hb hby d14_28) rfl rfl ?_
          refine g_i2b X140 hx 31 (hb hby d14_30) rfl ?_
          refine g_bastore X140 hx hZ e140 V140' 1 (by decide) (by decide) (by show 1 < 5; decide) (c1.toInt8.toInt32.toInt8.toInt32) rfl 32 (hb hby d14_31) rfl ?_
          intro T151 h151 X151 e151 W151 V151
          have F152 := F141.other W151 ncb
          have K154 := K143.wr W151 (Or.inl (List.mem_of_getElem? (i := 0) rfl))
          have N155 := Fr.snoc X151 N144 gb
          have Z156 : n0 ≤ h151.size := by rw [W151.size]; exact Z145
          have V151' : Arv Z h151 ba kb .byte (5 : Int32) [(.int (c0.toInt8.toInt32.toInt8.toInt32)), (.int (c1.toInt8.toInt32.toInt8.toInt32)), (.int (0 : Int32)), (.int (0 : Int32)), (.int (0 : Int32))] (.int 0) := V151
          refine g_iincC X151 hx (w := (1 : Int32)) (2 : Int32) (by decide) (l' := #[.val (.ref ca), .val (.int (2 : Int32)), .val (.ref ba), .val (.int (1 : Int32)), .val (.int (5 : Int32)), .val (.int (1 : Int32)), .val (.int c1)]) 35 (hb hby d14_32) rfl rfl (by decide) rfl ?_
          refine g_iincC X151 hx (w := (1 : Int32)) (2 : Int32) (by decide) (l' := #[.val (.ref ca), .val (.int (2 : Int32)), .val (.ref ba), .val (.int (2 : Int32)), .val (.int (5 : Int32)), .val (.int (1 : Int32)), .val (.int c1)]) 38 (hb hby d14_35) rfl rfl (by decide) rfl ?_
          refine g_iincC X151 hx (w := (1 : Int32)) (2 : Int32) (by decide) (l' := #[.val (.ref ca), .val (.int (2 : Int32)), .val (.ref ba), .val (.int (2 : Int32)), .val (.int (5 : Int32)), .val (.int (2 : Int32)), .val (.int c1)]) 41 (hb hby d14_38) rfl rfl (by decide) rfl ?_
          refine g_goto X151 hx 3 (hb hby d14_41) (by decide) (by decide) ?_
          refine g_iload X151 hx 5 (hb hby d14_3) rfl rfl ?_
          refine g_iload X151 hx 7 (hb hby d14_5) rfl rfl ?_
          have ll158 : ((5 : Int32) : Int32).toInt = 5 := by decide
          have ll159 : ((2 : Int32) : Int32).toInt = 2 := by decide
          refine g_ic_ge X151 hx 44 10 (hb hby d14_7) (by decide) (by decide) rfl (fun c157 => ?_) (fun c157 => ?_)
          · skip
            exfalso; revert c157; decide
          · skip
            refine g_aloadN X151 hx 11 (hb hby d14_10) rfl rfl rfl ?_
            refine g_iloadN X151 hx 12 (hb hby d14_11) rfl rfl ?_
            refine g_caload X151 hx hZ e151 F152 (by decide) (by decide) (by rw [show ((2 : Int32) : Int32).toNatClampNeg = 2 by decide] <;> rfl) 13 (hb hby d14_12) rfl ?_
            refine g_istore (l' := #[.val (.ref ca), .val (.int (2 : Int32)), .val (.ref ba), .val (.int (2 : Int32)), .val (.int (5 : Int32)), .val (.int (2 : Int32)), .val (.int c2)]) X151 hx 15 (hb hby d14_13) rfl rfl ?_
            refine g_iload X151 hx 17 (hb hby d14_15) rfl rfl ?_
            refine g_sipush X151 hx (255 : Int32) 20 (hb hby d14_17) rfl (by decide) ?_
            have ll161 : ((255 : Int32) : Int32).toInt = 255 := by decide
            refine g_ic_le X151 hx 26 23 (hb hby d14_20) (by decide) (by decide) rfl (fun c160 => ?_) (fun c160 => ?_)
            · skip
              refine g_aloadN X151 hx 27 (hb hby d14_26) rfl rfl rfl ?_
              refine g_iloadN X151 hx 28 (hb hby d14_27) rfl rfl ?_
              refine g_iload X151 hx 30 (hb hby d14_28) rfl rfl ?_
              refine g_i2b X151 hx 31 (hb hby d14_30) rfl ?_
              refine g_bastore X151 hx hZ e151 V151' 2 (by decide) (by decide) (by show 2 < 5; decide) (c2.toInt8.toInt32.toInt8.toInt32) rfl 32 (hb hby d14_31) rfl ?_
              intro T162 h162 X162 e162 W162 V162
              have F163 := F152.other W162 ncb
              have K165 := K154.wr W162 (Or.inl (List.mem_of_getElem? (i := 0) rfl))
              have N166 := Fr.snoc X162 N155 gb
              have Z167 : n0 ≤ h162.size := by rw [W162.size]; exact Z156
              have V162' : Arv Z h162 ba kb .byte (5 : Int32) [(.int (c0.toInt8.toInt32.toInt8.toInt32)), (.int (c1.toInt8.toInt32.toInt8.toInt32)), (.int (c2.toInt8.toInt32.toInt8.toInt32)), (.int (0 : Int32)), (.int (0 : Int32))] (.int 0) := V162
              refine g_iincC X162 hx (w := (1 : Int32)) (3 : Int32) (by decide) (l' := #[.val (.ref ca), .val (.int (3 : Int32)), .val (.ref ba), .val (.int (2 : Int32)), .val (.int (5 : Int32)), .val (.int (2 : Int32)), .val (.int c2)]) 35 (hb hby d14_32) rfl rfl (by decide) rfl ?_
              refine g_iincC X162 hx (w := (1 : Int32)) (3 : Int32) (by decide) (l' := #[.val (.ref ca), .val (.int (3 : Int32)), .val (.ref ba), .val (.int (3 : Int32)), .val (.int (5 : Int32)), .val (.int (2 : Int32)), .val (.int c2)]) 38 (hb hby d14_35) rfl rfl (by decide) rfl ?_
              refine g_iincC X162 hx (w := (1 : Int32)) (3 : Int32) (by decide) (l' := #[.val (.ref ca), .val (.int (3 : Int32)), .val (.ref ba), .val (.int (3 : Int32)), .val (.int (5 : Int32)), .val (.int (3 : Int32)), .val (.int c2)]) 41 (hb hby d14_38) rfl rfl (by decide) rfl ?_
              refine g_goto X162 hx 3 (hb hby d14_41) (by decide) (by decide) ?_
              refine g_iload X162 hx 5 (hb hby d14_3) rfl rfl ?_
              refine g_iload X162 hx 7 (hb hby d14_5) rfl rfl ?_
              have ll169 : ((5 : Int32) : Int32).toInt = 5 := by decide
              have ll170 : ((3 : Int32) : Int32).toInt = 3 := by decide
              refine g_ic_ge X162 hx 44 10 (hb hby d14_7) (by decide) (by decide) rfl (fun c168 => ?_) (fun c168 => ?_)
              · skip
                exfalso; revert c168; decide
              · skip
                refine g_aloadN X162 hx 11 (hb hby d14_10) rfl rfl rfl ?_
                refine g_iloadN X162 hx 12 (hb hby d14_11) rfl rfl ?_
                refine g_caload X162 hx hZ e162 F163 (by decide) (by decide) (by rw [show ((3 : Int32) : Int32).toNatClampNeg = 3 by decide] <;> rfl) 13 (hb hby d14_12) rfl ?_
                refine g_istore (l' := #[.val (.ref ca), .val (.int (3 : Int32)), .val (.ref ba), .val (.int (3 : Int32)), .val (.int (5 : Int32)), .val (.int (3 : Int32)), .val (.int c3)]) X162 hx 15 (hb hby d14_13) rfl rfl ?_
                refine g_iload X162 hx 17 (hb hby d14_15) rfl rfl ?_
                refine g_sipush X162 hx (255 : Int32) 20 (hb hby d14_17) rfl (by decide) ?_
                have ll172 : ((255 : Int32) : Int32).toInt = 255 := by decide
                refine g_ic_le X162 hx 26 23 (hb hby d14_20) (by decide) (by decide) rfl (fun c171 => ?_) (fun c171 => ?_)
                · skip
                  refine g_aloadN X162 hx 27 (hb hby d14_26) rfl rfl rfl ?_
                  refine g_iloadN X162 hx 28 (hb hby d14_27) rfl rfl ?_
                  refine g_iload X162 hx 30 (hb hby d14_28) rfl rfl ?_
                  refine g_i2b X162 hx 31 (hb hby d14_30) rfl ?_
                  refine g_bastore X162 hx hZ e162 V162' 3 (by decide) (by decide) (by show 3 < 5; decide) (c3.toInt8.toInt32.toInt8.toInt32) rfl 32 (hb hby d14_31) rfl ?_
                  intro T173 h173 X173 e173 W173 V173
                  have F174 := F163.other W173 ncb
                  have K176 := K165.wr W173 (Or.inl (List.mem_of_getElem? (i := 0) rfl))
                  have N177 := Fr.snoc X173 N166 gb
                  have Z178 : n0 ≤ h173.size := by rw [W173.size]; exact Z167
                  have V173' : Arv Z h173 ba kb .byte (5 : Int32) [(.int (c0.toInt8.toInt32.toInt8.toInt32)), (.int (c1.toInt8.toInt32.toInt8.toInt32)), (.int (c2.toInt8.toInt32.toInt8.toInt32)), (.int (c3.toInt8.toInt32.toInt8.toInt32)), (.int (0 : Int32))] (.int 0) := V173
                  refine g_iincC X173 hx (w := (1 : Int32)) (4 : Int32) (by decide) (l' := #[.val (.ref ca), .val (.int (4 : Int32)), .val (.ref ba), .val (.int (3 : Int32)), .val (.int (5 : Int32)), .val (.int (3 : Int32)), .val (.int c3)]) 35 (hb hby d14_32) rfl rfl (by decide) rfl ?_
                  refine g_iincC X173 hx (w := (1 : Int32)) (4 : Int32) (by decide) (l' := #[.val (.ref ca), .val (.int (4 : Int32)), .val (.ref ba), .val (.int (4 : Int32)), .val (.int (5 : Int32)), .val (.int (3 : Int32)), .val (.int c3)]) 38 (hb hby d14_35) rfl rfl (by decide) rfl ?_
                  refine g_iincC X173 hx (w := (1 : Int32)) (4 : Int32) (by decide) (l' := #[.val (.ref ca), .val (.int (4 : Int32)), .val (.ref ba), .val (.int (4 : Int32)), .val (.int (5 : Int32)), .val (.int (4 : Int32)), .val (.int c3)]) 41 (hb hby d14_38) rfl rfl (by decide) rfl ?_
                  refine g_goto X173 hx 3 (hb hby d14_41) (by decide) (by decide) ?_
                  refine g_iload X173 hx 5 (hb hby d14_3) rfl rfl ?_
                  refine g_iload X173 hx 7 (hb hby d14_5) rfl rfl ?_
                  have ll180 : ((5 : Int32) : Int32).toInt = 5 := by decide
                  have ll181 : ((4 : Int32) : Int32).toInt = 4 := by decide
                  refine g_ic_ge X173 hx 44 10 (hb hby d14_7) (by decide) (by decide) rfl (fun c179 => ?_) (fun c179 => ?_)
                  · skip
                    exfalso; revert c179; decide
                  · skip
                    refine g_aloadN X173 hx 11 (hb hby d14_10) rfl rfl rfl ?_
                    refine g_iloadN X173 hx 12 (hb hby d14_11) rfl rfl ?_
                    refine g_caload X173 hx hZ e173 F174 (by decide) (by decide) (by rw [show ((4 : Int32) : Int32).toNatClampNeg = 4 by decide] <;> rfl) 13 (hb hby d14_12) rfl ?_
                    refine g_istore (l' := #[.val (.ref ca), .val (.int (4 : Int32)), .val (.ref ba), .val (.int (4 : Int32)), .val (.int (5 : Int32)), .val (.int (4 : Int32)), .val (.int c4)]) X173 hx 15 (hb hby d14_13) rfl rfl ?_
                    refine g_iload X173 hx 17 (hb hby d14_15) rfl rfl ?_
                    refine g_sipush X173 hx (255 : Int32) 20 (hb hby d14_17) rfl (by decide) ?_
                    have ll183 : ((255 : Int32) : Int32).toInt = 255 := by decide
                    refine g_ic_le X173 hx 26 23 (hb hby d14_20) (by decide) (by decide) rfl (fun c182 => ?_) (fun c182 => ?_)
                    · skip
                      refine g_aloadN X173 hx 27 (hb hby d14_26) rfl rfl rfl ?_
                      refine g_iloadN X173 hx 28 (hb hby d14_27) rfl rfl ?_
                      refine g_iload X173 hx 30 (hb hby d14_28) rfl rfl ?_
                      refine g_i2b X173 hx 31 (hb hby d14_30) rfl ?_
                      refine g_bastore X173 hx hZ e173 V173' 4 (by decide) (by decide) (by show 4 < 5; decide) (c4.toInt8.toInt32.toInt8.toInt32) rfl 32 (hb hby d14_31) rfl ?_
                      intro T184 h184 X184 e184 W184 V184
                      have F185 := F174.other W184 ncb
                      have K187 := K176.wr W184 (Or.inl (List.mem_of_getElem? (i := 0) rfl))
                      have N188 := Fr.snoc X184 N177 gb
                      have Z189 : n0 ≤ h184.size := by rw [W184.size]; exact Z178
                      have V184' : Arv Z h184 ba kb .byte (5 : Int32) [(.int (c0.toInt8.toInt32.toInt8.toInt32)), (.int (c1.toInt8.toInt32.toInt8.toInt32)), (.int (c2.toInt8.toInt32.toInt8.toInt32)), (.int (c3.toInt8.toInt32.toInt8.toInt32)), (.int (c4.toInt8.toInt32.toInt8.toInt32))] (.int 0) := V184
                      refine g_iincC X184 hx (w := (1 : Int32)) (5 : Int32) (by decide) (l' := #[.val (.ref ca), .val (.int (5 : Int32)), .val (.ref ba), .val (.int (4 : Int32)), .val (.int (5 : Int32)), .val (.int (4 : Int32)), .val (.int c4)]) 35 (hb hby d14_32) rfl rfl (by decide) rfl ?_
                      refine g_iincC X184 hx (w := (1 : Int32)) (5 : Int32) (by decide) (l' := #[.val (.ref ca), .val (.int (5 : Int32)), .val (.ref ba), .val (.int (5 : Int32)), .val (.int (5 : Int32)), .val (.int (4 : Int32)), .val (.int c4)]) 38 (hb hby d14_35) rfl rfl (by decide) rfl ?_
                      refine g_iincC X184 hx (w := (1 : Int32)) (5 : Int32) (by decide) (l' := #[.val (.ref ca), .val (.int (5 : Int32)), .val (.ref ba), .val (.int (5 : Int32)), .val (.int (5 : Int32)), .val (.int (5 : Int32)), .val (.int c4)]) 41 (hb hby d14_38) rfl rfl (by decide) rfl ?_
                      refine g_goto X184 hx 3 (hb hby d14_41) (by decide) (by decide) ?_
                      refine g_iload X184 hx 5 (hb hby d14_3) rfl rfl ?_
                      refine g_iload X184 hx 7 (hb hby d14_5) rfl rfl ?_
                      have ll191 : ((5 : Int32) : Int32).toInt = 5 := by decide
                      have ll192 : ((5 : Int32) : Int32).toInt = 5 := by decide
                      refine g_ic_ge X184 hx 44 10 (hb hby d14_7) (by decide) (by decide) rfl (fun c190 => ?_) (fun c190 => ?_)
                      · skip
                        refine g_iload X184 hx 46 (hb hby d14_44) rfl rfl ?_
                        exact g_retI X184 hx hlk hret (hb hby d14_46) (by decide) (by decide) e184 ⟨rfl, N188, K187, V184'⟩
                      · skip
                        exfalso; revert c190; decide
                    · skip
                      exfalso; omega
                · skip
                  exfalso; omega
            · skip
              exfalso; omega
        · skip
          exfalso; omega
    · skip
      exfalso; omega
def Q_rmC3_5 (Z : State) (c0 c1 c2 c3 c4 : Int32) (n0 : Nat) (h0 : Heap) (v : Option Value) (h : Heap) (L : List Loc) : Prop := ∃ (b : Addr) (kb : ClassId), v = some (.ref b) ∧ Fr n0 L ∧ Keep h0 h [] ∧ n0 ≤ b ∧ h0.size ≤ b ∧ Arv Z h b kb .byte 5 [(.int (c0.toInt8.toInt32.toInt8.toInt32)), (.int (c1.toInt8.toInt32.toInt8.toInt32)), (.int (c2.toInt8.toInt32.toInt8.toInt32)), (.int (c3.toInt8.toInt32.toInt8.toInt32)), (.int (c4.toInt8.toInt32.toInt8.toInt32))] (.int 0)
theorem ef_rmC3_5 (ca : Addr) (m : MethodId) : entryFrame m #[(.ref ca), (.int 0), (.int 5)] 6 = mkF m 0 #[.val (.ref ca), .val (.int 0), .val (.int 5), .unset, .unset, .unset] [] := by first | (simp [entryFrame, mkF, argsToLocals, Value.category]; done) | rfl
theorem rmC3_5 (l : Launch) (Z : State) (a0 : Array Value) (hw : ∀ d ∈ tables_1, d.before a0 Z = true) (ca : Addr) (h0 : Heap) (n0 : Nat) (Z0 : n0 ≤ h0.size) (kc : ClassId) (c0 c1 c2 c3 c4 : Int32) (bc0 : 0 ≤ c0.toInt ∧ c0.toInt ≤ 255) (bc1 : 0 ≤ c1.toInt ∧ c1.toInt ≤ 255) (bc2 : 0 ≤ c2.toInt ∧ c2.toInt ≤ 255) (bc3 : 0 ≤ c3.toInt ∧ c3.toInt ≤ 255) (bc4 : 0 ≤ c4.toInt ∧ c4.toInt ≤ 255) (Vc : Arv Z h0 ca kc .char 5 [(.int c0), (.int c1), (.int c2), (.int c3), (.int c4)] (.int 0)) :
    MetFree l (⟨"java/lang/StringUTF16", "compress", "([CII)[B"⟩ : MethodName) (head1 [Jvm.Cond.code (⟨"java/lang/StringUTF16", "compress", "([CII)[B"⟩ : MethodName) jdk_52_method_16_code 6 (some (.array .byte))] ({ frames := 1, cells := 1, slots := 5, locals := 20 } : Room)) (fun as_ U => as_ = #[(.ref ca), (.int 0), (.int 5)] ∧ Z.Warmed39 U.vm ∧ U.heap = h0) (fun _ _ _ _ _ => True) (fun _ U o U' => ∃ v L, o = .returned v ∧ Q_rmC3_5 Z c0 c1 c2 c3 c4 n0 h0 v U'.heap L ∧ FrameEnd U o U' L ({ frames := 1, cells := 1, slots := 5, locals := 20 } : Room).cells ({ frames := 1, cells := 1, slots := 5, locals := 20 } : Room).slots) := by
  refine own_met own_pf8 (ef_rmC3_5 ca) ?_
  intro p e s m below meth c T0 X0 hx hby hml hret hlk hnm hown hZ e0
  have N0 := Fr.nil n0
  refine g_iloadN X0 hx 1 (hb hby d13_0) rfl rfl ?_
  refine g_newP X0 hx hZ (aty := .byte) (hw _ (List.mem_of_getElem? (i := 3) rfl)) e0 (by decide) (cap := 5) (by decide) (by decide) 3 (hb hby d13_1) rfl (by decide) (by decide) (ad := "[B") (by decide) ?_
  intro T193 h193 k193 a193 g193 X193 e193 E193 V193 A193
  have ne194 : ca ≠ a193 := Nat.ne_of_lt (by rw [g193]; exact Vc.lt)
  have ge195 : n0 ≤ a193 := by rw [g193]; exact Z0
  have sz196 : h0.size ≤ a193 := by rw [g193]; exact (Keep.refl h0 []).1
  have F197 := Vc.ext E193
  have K198 := (Keep.refl h0 []).ext E193
  have Z199 : n0 ≤ h193.size := Nat.le_trans Z0 E193.1
  have V193' : Arv Z h193 a193 k193 .byte (5 : Int32) [(.int (0 : Int32)), (.int (0 : Int32)), (.int (0 : Int32)), (.int (0 : Int32)), (.int (0 : Int32))] (.int (0 : Int32)) := V193.pad (pad_rep [] (.int (0 : Int32)) 5)
  refine g_astoreN (l' := #[.val (.ref ca), .val (.int (0 : Int32)), .val (.int (5 : Int32)), .val (.ref a193), .unset, .unset]) X193 hx 4 (hb hby d13_3) rfl rfl rfl ?_
  refine g_aloadN X193 hx 5 (hb hby d13_4) rfl rfl rfl ?_
  refine g_iloadN X193 hx 6 (hb hby d13_5) rfl rfl ?_
  refine g_aloadN X193 hx 7 (hb hby d13_6) rfl rfl rfl ?_
  refine g_iconst X193 hx (0 : Int32) 8 (hb hby d13_7) rfl (by decide) ?_
  refine g_iloadN X193 hx 9 (hb hby d13_8) rfl rfl ?_
  refine g_static X193 hx hZ hown (hw _ (List.mem_of_getElem? (i := 67) rfl)) (hw _ (List.mem_of_getElem? (i := 68) rfl)) (hw _ (List.mem_of_getElem? (i := 65) rfl)) (hw _ (List.mem_of_getElem? (i := 69) rfl)) (by decide) (rmCp_5 l Z a0 hw ca a193 h193 n0 Z199 kc k193 c0 c1 c2 c3 c4 bc0 bc1 bc2 bc3 bc4 ne194 ge195 F197 V193') e193 (argsL := [(.ref ca), (.int (0 : Int32)), (.ref a193), (.int (0 : Int32)), (.int (5 : Int32))]) (rest := []) rfl rfl 0 12 rfl (by rw [hml]; rfl) (lenOf own_pd13 rfl) (Nat.le_refl _) (by decide) (by decide) (by decide) (by decide) (hb hby d13_9) ?_
  intro v200 T200 L200 X200 hQ200
  obtain ⟨rfl, N200, K200, V200⟩ := hQ200
  have N201 := Fr.app N0 N200
  have F202 := F197.keep K200 (ninS ne194 nin0)
  have F203 := A193.keep K200
  have Z205 : n0 ≤ T200.heap.size := Nat.le_trans Z199 K200.1
  have K206 := K198.trans K200 (allS (Or.inr sz196) all0)
  show Go p e below _ T200 (mkF m 12 #[.val (.ref ca), .val (.int (0 : Int32)), .val (.int (5 : Int32)), .val (.ref a193), .unset, .unset] [(.int (5 : Int32))])
  refine g_istore (l' := #[.val (.ref ca), .val (.int (0 : Int32)), .val (.int (5 : Int32)), .val (.ref a193), .val (.int (5 : Int32)), .unset]) X200 hx 14 (hb hby d13_12) rfl rfl ?_
  refine g_iload X200 hx 16 (hb hby d13_14) rfl rfl ?_
  refine g_iloadN X200 hx 17 (hb hby d13_16) rfl rfl ?_
  have ll208 : ((5 : Int32) : Int32).toInt = 5 := by decide
  have ll209 : ((5 : Int32) : Int32).toInt = 5 := by decide
  refine g_ic_eq X200 hx 57 20 (hb hby d13_17) (by decide) (by decide) rfl (fun c207 => ?_) (fun c207 => ?_)
  · skip
    refine g_aloadN X200 hx 58 (hb hby d13_57) rfl rfl rfl ?_
    exact g_retA X200 hx hlk hret rfl rfl rfl (hb hby d13_58) (by decide) (by decide) rfl ⟨a193, k193, rfl, N201, K206, ge195, sz196, V200⟩
  · skip
    exfalso; revert c207; decide
def Q_rmCF_5 (n0 : Nat) (h0 : Heap) (v : Option Value) (h : Heap) (L : List Loc) : Prop := v = some (.int 0) ∧ Fr n0 L ∧ h = h0
theorem ef_rmCF_5 (b : Addr) (m : MethodId) : entryFrame m #[(.ref b), (.int 5)] 2 = mkF m 0 #[.val (.ref b), .val (.int 5)] [] := by first | (simp [entryFrame, mkF, argsToLocals, Value.category]; done) | rfl
theorem rmCF_5 (l : Launch) (Z : State) (a0 : Array Value) (hw : ∀ d ∈ tables_1, d.before a0 Z = true) (b : Addr) (h0 : Heap) (n0 : Nat) (Z0 : n0 ≤ h0.size) (kb : ClassId) (vs : List Value) (V : Arv Z h0 b kb .byte 5 vs (.int 0)) :
    MetFree l (⟨"java/lang/StringUTF16", "coderFromArrayLen", "([BI)B"⟩ : MethodName) (head1 [Jvm.Cond.code (⟨"java/lang/StringUTF16", "coderFromArrayLen", "([BI)B"⟩ : MethodName) jdk_52_method_15_code 2 (some .byte)] ({ frames := 0, cells := 0, slots := 0, locals := 0 } : Room)) (fun as_ U => as_ = #[(.ref b), (.int 5)] ∧ Z.Warmed39 U.vm ∧ U.heap = h0) (fun _ _ _ _ _ => True) (fun _ U o U' => ∃ v L, o = .returned v ∧ Q_rmCF_5 n0 h0 v U'.heap L ∧ FrameEnd U o U' L ({ frames := 0, cells := 0, slots := 0, locals := 0 } : Room).cells ({ frames := 0, cells := 0, slots := 0, locals := 0 } : Room).slots) := by
  refine own_met own_pf9 (ef_rmCF_5 b) ?_
  intro p e s m below meth c T0 X0 hx hby hml hret hlk hnm hown hZ e0
  have N0 := Fr.nil n0
  refine g_iloadN X0 hx 1 (hb hby d15_0) rfl rfl ?_
  refine g_aloadN X0 hx 2 (hb hby d15_1) rfl rfl rfl ?_
  refine g_len X0 hx hZ e0 V 3 (hb hby d15_2) rfl ?_
  refine g_isubC X0 hx (0 : Int32) (by decide) 4 (hb hby d15_3) rfl ?_
  refine g_bipush X0 hx (31 : Int32) 6 (hb hby d15_4) rfl (by decide) ?_
  refine g_iushr X0 hx 7 (hb hby d15_6) rfl ?_
  refine g_i2b X0 hx 8 (hb hby d15_7) rfl ?_
  exact g_retN X0 hx hlk hret (by simp) (hb hby d15_8) (by decide) (by decide) e0 ⟨by decide, N0, rfl⟩
def Q_rmI4_5 (Z : State) (a : Addr) (c0 c1 c2 c3 c4 : Int32) (n0 : Nat) (h0 : Heap) (v : Option Value) (h : Heap) (L : List Loc) : Prop := v = none ∧ Fr n0 L ∧ Keep h0 h [a] ∧ ∃ (b : Addr) (kb : ClassId), n0 ≤ b ∧ h0.size ≤ b ∧ Fld Z h a "java/lang/String" "coder" "B" (.int 0) ∧ Fld Z h a "java/lang/String" "value" "[B" (.ref b) ∧ Arv Z h b kb .byte 5 [(.int (c0.toInt8.toInt32.toInt8.toInt32)), (.int (c1.toInt8.toInt32.toInt8.toInt32)), (.int (c2.toInt8.toInt32.toInt8.toInt32)), (.int (c3.toInt8.toInt32.toInt8.toInt32)), (.int (c4.toInt8.toInt32.toInt8.toInt32))] (.int 0)
theorem ef_rmI4_5 (a ca : Addr) (m : MethodId) : entryFrame m #[(.ref a), (.ref ca), (.int 0), (.int 5), .null] 6 = mkF m 0 #[.val (.ref a), .val (.ref ca), .val (.int 0), .val (.int 5), .val .null, .unset] [] := by first | (simp [entryFrame, mkF, argsToLocals, Value.category]; done) | rfl
theorem rmI4_5 (l : Launch) (Z : State) (a0 : Array Value) (hw : ∀ d ∈ tables_1, d.before a0 Z = true) (a ca : Addr) (h0 : Heap) (n0 : Nat) (Z0 : n0 ≤ h0.size) (cst : Int32) (hc : cst ≠ 0) (O0 : Old Z n0 h0) (SC : Sta Z Z.heap "java/lang/String" "COMPACT_STRINGS" "Z" (.int cst)) (kc : ClassId) (c0 c1 c2 c3 c4 : Int32) (bc0 : 0 ≤ c0.toInt ∧ c0.toInt ≤ 255) (bc1 : 0 ≤ c1.toInt ∧ c1.toInt ≤ 255) (bc2 : 0 ≤ c2.toInt ∧ c2.toInt ≤ 255) (bc3 : 0 ≤ c3.toInt ∧ c3.toInt ≤ 255) (bc4 : 0 ≤ c4.toInt ∧ c4.toInt ≤ 255) (E : Exa Z h0 a "java/lang/String") (ga : n0 ≤ a) (nac : a ≠ ca) (Fc : Fld Z h0 a "java/lang/String" "coder" "B" (.int 0)) (Fv : Fld Z h0 a "java/lang/String" "value" "[B" .null) (Vc : Arv Z h0 ca kc .char 5 [(.int c0), (.int c1), (.int c2), (.int c3), (.int c4)] (.int 0)) :
    MetFree l (⟨"java/lang/String", "<init>", "([CIILjava/lang/Void;)V"⟩ : MethodName) (head1 [Jvm.Cond.code (⟨"java/lang/String", "<init>", "([CIILjava/lang/Void;)V"⟩ : MethodName) jdk_42_method_149_code 6 none] ({ frames := 2, cells := 1, slots := 5, locals := 44 } : Room)) (fun as_ U => as_ = #[(.ref a), (.ref ca), (.int 0), (.int 5), .null] ∧ Z.Warmed39 U.vm ∧ U.heap = h0) (fun _ _ _ _ _ => True) (fun _ U o U' => ∃ v L, o = .returned v ∧ Q_rmI4_5 Z a c0 c1 c2 c3 c4 n0 h0 v U'.heap L ∧ FrameEnd U o U' L ({ frames := 2, cells := 1, slots := 5, locals := 44 } : Room).cells ({ frames := 2, cells := 1, slots := 5, locals := 44 } : Room).slots) := by
  refine own_met own_pf10 (ef_rmI4_5 a ca) ?_
  intro p e s m below meth c T0 X0 hx hby hml hret hlk hnm hown hZ e0
  have N0 := Fr.nil n0
  refine g_aloadN X0 hx 1 (hb hby d11_0) rfl rfl rfl ?_
  refine g_objinit X0 hx hZ hown (hw _ (List.mem_of_getElem? (i := 60) rfl)) (hw _ (List.mem_of_getElem? (i := 61) rfl)) (hw _ (List.mem_of_getElem? (i := 62) rfl)) e0 0 4 (hb hby d11_1) rfl (by rw [hml]; rfl) (by decide) (Nat.le_refl _) (by decide) ?_
  intro T210 X210 e210
  refine g_iloadN X210 hx 5 (hb hby d11_4) rfl rfl ?_
  have ll212 : ((5 : Int32) : Int32).toInt = 5 := by decide
  refine g_if_ne X210 hx 27 8 (hb hby d11_5) (by decide) (by decide) rfl (fun c211 => ?_) (fun c211 => ?_)
  · skip
    refine g_getS X210 hx hZ hown (hw _ (List.mem_of_getElem? (i := 24) rfl)) Via.refl e210 (Sta.ext O0.2 SC) 30 (hb hby d11_27) rfl ?_
    intro T213 X213 e213
    refine g_if_eq X213 hx 58 33 (hb hby d11_30) (by decide) (by decide) rfl (fun c214 => ?_) (fun c214 => ?_)
    · skip
      exact absurd (own_t0 c214) hc
    · skip
      refine g_aloadN X213 hx 34 (hb hby d11_33) rfl rfl rfl ?_
      refine g_iloadN X213 hx 35 (hb hby d11_34) rfl rfl ?_
      refine g_iloadN X213 hx 36 (hb hby d11_35) rfl rfl ?_
      refine g_static X213 hx hZ hown (hw _ (List.mem_of_getElem? (i := 63) rfl)) (hw _ (List.mem_of_getElem? (i := 64) rfl)) (hw _ (List.mem_of_getElem? (i := 65) rfl)) (hw _ (List.mem_of_getElem? (i := 66) rfl)) (by decide) (rmC3_5 l Z a0 hw ca h0 n0 Z0 kc c0 c1 c2 c3 c4 bc0 bc1 bc2 bc3 bc4 Vc) e213 (argsL := [(.ref ca), (.int (0 : Int32)), (.int (5 : Int32))]) (rest := []) rfl rfl 0 39 rfl (by rw [hml]; rfl) (lenOf own_pd12 rfl) (Nat.le_refl _) (by decide) (by decide) (by decide) (by decide) (hb hby d11_36) ?_
      intro v215 T215 L215 X215 hQ215
      obtain ⟨b, kb, rfl, N215, K215, gb, sb, Vb⟩ := hQ215
      have N216 := Fr.app N0 N215
      have F217 := O0.keep K215 all0
      have F218 := E.keep K215
      have F219 := Fc.keep K215 nin0
      have F220 := Fv.keep K215 nin0
      have F221 := Vc.keep K215 nin0
      have Z222 : n0 ≤ T215.heap.size := Nat.le_trans Z0 K215.1
      have K223 := (Keep.refl h0 [a]).trans K215 all0
      have nab : a ≠ b := Nat.ne_of_lt (Nat.lt_of_lt_of_le E.lt sb)
      have sb := Nat.le_trans ((Keep.refl h0 [a])).1 sb
      show Go p e below _ T215 (mkF m 39 #[.val (.ref a), .val (.ref ca), .val (.int (0 : Int32)), .val (.int (5 : Int32)), .val .null, .unset] [(.ref b)])
      refine g_astore (l' := #[.val (.ref a), .val (.ref ca), .val (.int (0 : Int32)), .val (.int (5 : Int32)), .val .null, .val (.ref b)]) X215 hx 41 (hb hby d11_39) rfl rfl rfl ?_
      refine g_aloadN X215 hx 42 (hb hby d11_41) rfl rfl rfl ?_
      refine g_aload X215 hx 44 (hb hby d11_42) rfl rfl rfl ?_
      refine g_iloadN X215 hx 45 (hb hby d11_44) rfl rfl ?_
      refine g_static X215 hx hZ hown (hw _ (List.mem_of_getElem? (i := 70) rfl)) (hw _ (List.mem_of_getElem? (i := 71) rfl)) (hw _ (List.mem_of_getElem? (i := 65) rfl)) (hw _ (List.mem_of_getElem? (i := 72) rfl)) (by decide) (rmCF_5 l Z a0 hw b T215.heap n0 Z222 kb _ Vb) rfl (argsL := [(.ref b), (.int (5 : Int32))]) (rest := [(.ref a)]) rfl rfl 1 48 rfl (by rw [hml]; rfl) (lenOf own_pd14 rfl) (Nat.le_refl _) (by decide) (by decide) (by decide) (by decide) (hb hby d11_45) ?_
      intro v224 T224 L224 X224 hQ224
      obtain ⟨rfl, N224, q224⟩ := hQ224
      have N225 := Fr.app N216 N224
      show Go p e below _ T224 (mkF m 48 #[.val (.ref a), .val (.ref ca), .val (.int (0 : Int32)), .val (.int (5 : Int32)), .val .null, .val (.ref b)] [(.int (0 : Int32)), (.ref a)])
      refine g_putF X224 hx hZ hown (hw _ (List.mem_of_getElem? (i := 25) rfl)) Via.refl q224 F219 F218 (Or.inr ⟨(hw _ (List.mem_of_getElem? (i := 5) rfl)), rfl, hnm⟩) (hw _ (List.mem_of_getElem? (i := 2) rfl)) (ty := .byte) (by decide) rfl rfl 51 (hb hby d11_48) rfl ?_
      intro T226 h226 X226 e226 W226
      have F227 : Fld Z h226 a "java/lang/String" "coder" "B" (.int (0 : Int32)) := F219.same W226
      have F228 := F217.wr W226 ga
      have F229 := F218.wr W226
      have F230 := F220.other W226 (Or.inr (slot_ne (Or.inr (hw _ (List.mem_of_getElem? (i := 4) rfl))) (Or.inr (hw _ (List.mem_of_getElem? (i := 5) rfl))) (by decide) (t := (.array .byte)) (t' := .byte) (by decide) (by decide)))
      have F231 := F221.other W226 (Ne.symm nac)
      have F232 := Vb.other W226 (Ne.symm nab)
      have K233 := K223.wr W226 (Or.inl (List.mem_of_getElem? (i := 0) rfl))
      have N234 := Fr.snoc X226 N225 ga
      have Z235 : n0 ≤ h226.size := by rw [W226.size]; exact Z222
      refine g_aloadN X226 hx 52 (hb hby d11_51) rfl rfl rfl ?_
      refine g_aload X226 hx 54 (hb hby d11_52) rfl rfl rfl ?_
      refine g_putF X226 hx hZ hown (hw _ (List.mem_of_getElem? (i := 18) rfl)) Via.refl e226 F230 F229 (Or.inr ⟨(hw _ (List.mem_of_getElem? (i := 4) rfl)), rfl, hnm⟩) (hw _ (List.mem_of_getElem? (i := 2) rfl)) (ty := (.array .byte)) (by decide) rfl rfl 57 (hb hby d11_54) rfl ?_
      intro T236 h236 X236 e236 W236
      have F237 : Fld Z h236 a "java/lang/String" "value" "[B" (.ref b) := F230.same W236
      have F238 := F228.wr W236 ga
      have F239 := F229.wr W236
      have F240 := F231.other W236 (Ne.symm nac)
      have F241 := F232.other W236 (Ne.symm nab)
      have F242 := F227.other W236 (Or.inr (slot_ne (Or.inr (hw _ (List.mem_of_getElem? (i := 5) rfl))) (Or.inr (hw _ (List.mem_of_getElem? (i := 4) rfl))) (by decide) (t := .byte) (t' := (.array .byte)) (by decide) (by decide)))
      have K243 := K233.wr W236 (Or.inl (List.mem_of_getElem? (i := 0) rfl))
      have N244 := Fr.snoc X236 N234 ga
      have Z245 : n0 ≤ h236.size := by rw [W236.size]; exact Z235
      exact g_retV X236 hx hlk hret (hb hby d11_57) (by decide) (by decide) e236 ⟨rfl, N244, K243, b, kb, gb, sb, F242, F237, F241⟩
  · skip
    exfalso; revert c211; decide
def Q_rmI1_5 (Z : State) (a : Addr) (c0 c1 c2 c3 c4 : Int32) (n0 : Nat) (h0 : Heap) (v : Option Value) (h : Heap) (L : List Loc) : Prop := v = none ∧ Fr n0 L ∧ Keep h0 h [a] ∧ ∃ (b : Addr) (kb : ClassId), n0 ≤ b ∧ h0.size ≤ b ∧ Fld Z h a "java/lang/String" "coder" "B" (.int 0) ∧ Fld Z h a "java/lang/String" "value" "[B" (.ref b) ∧ Arv Z h b kb .byte 5 [(.int (c0.toInt8.toInt32.toInt8.toInt32)), (.int (c1.toInt8.toInt32.toInt8.toInt32)), (.int (c2.toInt8.toInt32.toInt8.toInt32)), (.int (c3.toInt8.toInt32.toInt8.toInt32)), (.int (c4.toInt8.toInt32.toInt8.toInt32))] (.int 0)
theorem ef_rmI1_5 (a ca : Addr) (m : MethodId) : entryFrame m #[(.ref a), (.ref ca)] 2 = mkF m 0 #[.val (.ref a), .val (.ref ca)] [] := by first | (simp [entryFrame, mkF, argsToLocals, Value.category]; done) | rfl
theorem rmI1_5 (l : Launch) (Z : State) (a0 : Array Value) (hw : ∀ d ∈ tables_1, d.before a0 Z = true) (a ca : Addr) (h0 : Heap) (n0 : Nat) (Z0 : n0 ≤ h0.size) (cst : Int32) (hc : cst ≠ 0) (O0 : Old Z n0 h0) (SC : Sta Z Z.heap "java/lang/String" "COMPACT_STRINGS" "Z" (.int cst)) (kc : ClassId) (c0 c1 c2 c3 c4 : Int32) (bc0 : 0 ≤ c0.toInt ∧ c0.toInt ≤ 255) (bc1 : 0 ≤ c1.toInt ∧ c1.toInt ≤ 255) (bc2 : 0 ≤ c2.toInt ∧ c2.toInt ≤ 255) (bc3 : 0 ≤ c3.toInt ∧ c3.toInt ≤ 255) (bc4 : 0 ≤ c4.toInt ∧ c4.toInt ≤ 255) (E : Exa Z h0 a "java/lang/String") (ga : n0 ≤ a) (nac : a ≠ ca) (Fc : Fld Z h0 a "java/lang/String" "coder" "B" (.int 0)) (Fv : Fld Z h0 a "java/lang/String" "value" "[B" .null) (Vc : Arv Z h0 ca kc .char 5 [(.int c0), (.int c1), (.int c2), (.int c3), (.int c4)] (.int 0)) :
    MetFree l (⟨"java/lang/String", "<init>", "([C)V"⟩ : MethodName) (head1 [Jvm.Cond.code (⟨"java/lang/String", "<init>", "([C)V"⟩ : MethodName) jdk_42_method_3_code 2 none] ({ frames := 3, cells := 1, slots := 5, locals := 64 } : Room)) (fun as_ U => as_ = #[(.ref a), (.ref ca)] ∧ Z.Warmed39 U.vm ∧ U.heap = h0) (fun _ _ _ _ _ => True) (fun _ U o U' => ∃ v L, o = .returned v ∧ Q_rmI1_5 Z a c0 c1 c2 c3 c4 n0 h0 v U'.heap L ∧ FrameEnd U o U' L ({ frames := 3, cells := 1, slots := 5, locals := 64 } : Room).cells ({ frames := 3, cells := 1, slots := 5, locals := 64 } : Room).slots) := by
  refine own_met own_pf11 (ef_rmI1_5 a ca) ?_
  intro p e s m below meth c T0 X0 hx hby hml hret hlk hnm hown hZ e0
  have N0 := Fr.nil n0
  refine g_aloadN X0 hx 1 (hb hby d10_0) rfl rfl rfl ?_
  refine g_aloadN X0 hx 2 (hb hby d10_1) rfl rfl rfl ?_
  refine g_iconst X0 hx (0 : Int32) 3 (hb hby d10_2) rfl (by decide) ?_
  refine g_aloadN X0 hx 4 (hb hby d10_3) rfl rfl rfl ?_
  refine g_len X0 hx hZ e0 Vc 5 (hb hby d10_4) rfl ?_
  refine g_null X0 hx 6 (hb hby d10_5) rfl ?_
  refine g_init X0 hx hZ rfl hown (hw _ (List.mem_of_getElem? (i := 56) rfl)) (hw _ (List.mem_of_getElem? (i := 57) rfl)) (hw _ (List.mem_of_getElem? (i := 1) rfl)) (hw _ (List.mem_of_getElem? (i := 59) rfl)) (by decide) (rmI4_5 l Z a0 hw a ca h0 n0 Z0 cst hc O0 SC kc c0 c1 c2 c3 c4 bc0 bc1 bc2 bc3 bc4 E ga nac Fc Fv Vc) e0 (a := a) (argsL := [(.ref ca), (.int (0 : Int32)), (.int (5 : Int32)), .null]) (rest := []) rfl rfl 0 9 rfl (by rw [hml]; rfl) (lenOf own_pd10 rfl) (Nat.le_refl _) (by decide) (by decide) (by decide) (by decide) (hb hby d10_6) ?_
  intro v246 T246 L246 X246 hQ246
  obtain ⟨rfl, N246, K246, b, kb, gb, sb, c_, v_, Vb⟩ := hQ246
  have N247 := Fr.app N0 N246
  have F248 := O0.keep K246 (allS ga all0)
  have F249 := E.keep K246
  have F252 := Vc.keep K246 (ninS (Ne.symm nac) nin0)
  have Z253 : n0 ≤ T246.heap.size := Nat.le_trans Z0 K246.1
  have K254 := (Keep.refl h0 [a]).trans K246 (allS (Or.inl (List.mem_of_getElem? (i := 0) rfl)) all0)
  show Go p e below _ T246 (mkF m 9 #[.val (.ref a), .val (.ref ca)] [])
  exact g_retV X246 hx hlk hret (hb hby d10_9) (by decide) (by decide) rfl ⟨rfl, N247, K254, b, kb, gb, sb, c_, v_, Vb⟩
def Q_rmCp_6 (Z : State) (ba : Addr) (kb : ClassId) (c0 c1 c2 c3 c4 c5 : Int32) (n0 : Nat) (h0 : Heap) (v : Option Value) (h : Heap) (L : List Loc) : Prop := v = some (.int 6) ∧ Fr n0 L ∧ Keep h0 h [ba] ∧ Arv Z h ba kb .byte 6 [(.int (c0.toInt8.toInt32.toInt8.toInt32)), (.int (c1.toInt8.toInt32.toInt8.toInt32)), (.int (c2.toInt8.toInt32.toInt8.toInt32)), (.int (c3.toInt8.toInt32.toInt8.toInt32)), (.int (c4.toInt8.toInt32.toInt8.toInt32)), (.int (c5.toInt8.toInt32.toInt8.toInt32))] (.int 0)
theorem ef_rmCp_6 (ca ba : Addr) (m : MethodId) : entryFrame m #[(.ref ca), (.int 0), (.ref ba), (.int 0), (.int 6)] 7 = mkF m 0 #[.val (.ref ca), .val (.int 0), .val (.ref ba), .val (.int 0), .val (.int 6), .unset, .unset] [] := by first | (simp [entryFrame, mkF, argsToLocals, Value.category]; done) | rfl
theorem rmCp_6 (l : Launch) (Z : State) (a0 : Array Value) (hw : ∀ d ∈ tables_1, d.before a0 Z = true) (ca ba : Addr) (h0 : Heap) (n0 : Nat) (Z0 : n0 ≤ h0.size) (kc kb : ClassId) (c0 c1 c2 c3 c4 c5 : Int32) (bc0 : 0 ≤ c0.toInt ∧ c0.toInt ≤ 255) (bc1 : 0 ≤ c1.toInt ∧ c1.toInt ≤ 255) (bc2 : 0 ≤ c2.toInt ∧ c2.toInt ≤ 255) (bc3 : 0 ≤ c3.toInt ∧ c3.toInt ≤ 255) (bc4 : 0 ≤ c4.toInt ∧ c4.toInt ≤ 255) (bc5 : 0 ≤ c5.toInt ∧ c5.toInt ≤ 255) (ncb : ca ≠ ba) (gb : n0 ≤ ba) (Vc : Arv Z h0 ca kc .char 6 [(.int c0), (.int c1), (.int c2), (.int c3), (.int c4), (.int c5)] (.int 0)) (Vb : Arv Z h0 ba kb .byte 6 [(.int 0), (.int 0), (.int 0), (.int 0), (.int 0), (.int 0)] (.int 0)) :
    MetFree l (⟨"java/lang/StringUTF16", "compress", "([CI[BII)I"⟩ : MethodName) (head1 [Jvm.Cond.code (⟨"java/lang/StringUTF16", "compress", "([CI[BII)I"⟩ : MethodName) jdk_52_method_21_code 7 (some .int)] ({ frames := 0, cells := 0, slots := 0, locals := 0 } : Room)) (fun as_ U => as_ = #[(.ref ca), (.int 0), (.ref ba), (.int 0), (.int 6)] ∧ Z.Warmed39 U.vm ∧ U.heap = h0) (fun _ _ _ _ _ => True) (fun _ U o U' => ∃ v L, o = .returned v ∧ Q_rmCp_6 Z ba kb c0 c1 c2 c3 c4 c5 n0 h0 v U'.heap L ∧ FrameEnd U o U' L ({ frames := 0, cells := 0, slots := 0, locals := 0 } : Room).cells ({ frames := 0, cells := 0, slots := 0, locals := 0 } : Room).slots) := by
  refine own_met own_pf7 (ef_rmCp_6 ca ba) ?_
  intro p e s m below meth c T0 X0 hx hby hml hret hlk hnm hown hZ e0
  have N0 := Fr.nil n0
  refine g_iconst X0 hx (0 : Int32) 1 (hb hby d14_0) rfl (by decide) ?_
  refine g_istore (l' := #[.val (.ref ca), .val (.int (0 : Int32)), .val (.ref ba), .val (.int (0 : Int32)), .val (.int (6 : Int32)), .val (.int (0 : Int32)), .unset]) X0 hx 3 (hb hby d14_1) rfl rfl ?_
  refine g_iload X0 hx 5 (hb hby d14_3) rfl rfl ?_
  refine g_iload X0 hx 7 (hb hby d14_5) rfl rfl ?_
  have ll256 : ((6 : Int32) : Int32).toInt = 6 := by decide
  have ll257 : ((0 : Int32) : Int32).toInt = 0 := by decide
  refine g_ic_ge X0 hx 44 10 (hb hby d14_7) (by decide) (by decide) rfl (fun c255 => ?_) (fun c255 => ?_)
  · skip
    exfalso; revert c255; decide
  · skip
    refine g_aloadN X0 hx 11 (hb hby d14_10) rfl rfl rfl ?_
    refine g_iloadN X0 hx 12 (hb hby d14_11) rfl rfl ?_
    refine g_caload X0 hx hZ e0 Vc (by decide) (by decide) (by rw [show ((0 : Int32) : Int32).toNatClampNeg = 0 by decide] <;> rfl) 13 (hb hby d14_12) rfl ?_
    refine g_istore (l' := #[.val (.ref ca), .val (.int (0 : Int32)), .val (.ref ba), .val (.int (0 : Int32)), .val (.int (6 : Int32)), .val (.int (0 : Int32)), .val (.int c0)]) X0 hx 15 (hb hby d14_13) rfl rfl ?_
    refine g_iload X0 hx 17 (hb hby d14_15) rfl rfl ?_
    refine g_sipush X0 hx (255 : Int32) 20 (hb hby d14_17) rfl (by decide) ?_
    have ll259 : ((255 : Int32) : Int32).toInt = 255 := by decide
    refine g_ic_le X0 hx 26 23 (hb hby d14_20) (by decide) (by decide) rfl (fun c258 => ?_) (fun c258 => ?_)
    · skip
      refine g_aloadN X0 hx 27 (hb hby d14_26) rfl rfl rfl ?_
      refine g_iloadN X0 hx 28 (hb hby d14_27) rfl rfl ?_
      refine g_iload X0 hx 30 (hb hby d14_28) rfl rfl ?_
      refine g_i2b X0 hx 31 (hb hby d14_30) rfl ?_
      refine g_bastore X0 hx hZ e0 Vb 0 (by decide) (by decide) (by show 0 < 6; decide) (c0.toInt8.toInt32.toInt8.toInt32) rfl 32 (hb hby d14_31) rfl ?_
      intro T260 h260 X260 e260 W260 V260
      have F261 := Vc.other W260 ncb
      have K263 := (Keep.refl h0 [ba]).wr W260 (Or.inl (List.mem_of_getElem? (i := 0) rfl))
      have N264 := Fr.snoc X260 N0 gb
      have Z265 : n0 ≤ h260.size := by rw [W260.size]; exact Z0
      have V260' : Arv Z h260 ba kb .byte (6 : Int32) [(.int (c0.toInt8.toInt32.toInt8.toInt32)), (.int (0 : Int32)), (.int (0 : Int32)), (.int (0 : Int32)), (.int (0 : Int32)), (.int (0 : Int32))] (.int 0) := V260
      refine g_iincC X260 hx (w := (1 : Int32)) (1 : Int32) (by decide) (l' := #[.val (.ref ca), .val (.int (1 : Int32)), .val (.ref ba), .val (.int (0 : Int32)), .val (.int (6 : Int32)), .val (.int (0 : Int32)), .val (.int c0)]) 35 (hb hby d14_32) rfl rfl (by decide) rfl ?_
      refine g_iincC X260 hx (w := (1 : Int32)) (1 : Int32) (by decide) (l' := #[.val (.ref ca), .val (.int (1 : Int32)), .val (.ref ba), .val (.int (1 : Int32)), .val (.int (6 : Int32)), .val (.int (0 : Int32)), .val (.int c0)]) 38 (hb hby d14_35) rfl rfl (by decide) rfl ?_
      refine g_iincC X260 hx (w := (1 : Int32)) (1 : Int32) (by decide) (l' := #[.val (.ref ca), .val (.int (1 : Int32)), .val (.ref ba), .val (.int (1 : Int32)), .val (.int (6 : Int32)), .val (.int (1 : Int32)), .val (.int c0)]) 41 (hb hby d14_38) rfl rfl (by decide) rfl ?_
      refine g_goto X260 hx 3 (hb hby d14_41) (by decide) (by decide) ?_
      refine g_iload X260 hx 5 (hb hby d14_3) rfl rfl ?_
      refine g_iload X260 hx 7 (hb hby d14_5) rfl rfl ?_
      have ll267 : ((6 : Int32) : Int32).toInt = 6 := by decide
      have ll268 : ((1 : Int32) : Int32).toInt = 1 := by decide
      refine g_ic_ge X260 hx 44 10 (hb hby d14_7) (by decide) (by decide) rfl (fun c266 => ?_) (fun c266 => ?_)
      · skip
        exfalso; revert c266; decide
      · skip
        refine g_aloadN X260 hx 11 (hb hby d14_10) rfl rfl rfl ?_
        refine g_iloadN X260 hx 12 (hb hby d14_11) rfl rfl ?_
        refine g_caload X260 hx hZ e260 F261 (by decide) (by decide) (by rw [show ((1 : Int32) : Int32).toNatClampNeg = 1 by decide] <;> rfl) 13 (hb hby d14_12) rfl ?_
        refine g_istore (l' := #[.val (.ref ca), .val (.int (1 : Int32)), .val (.ref ba), .val (.int (1 : Int32)), .val (.int (6 : Int32)), .val (.int (1 : Int32)), .val (.int c1)]) X260 hx 15 (hb hby d14_13) rfl rfl ?_
        refine g_iload X260 hx 17 (hb hby d14_15) rfl rfl ?_
        refine g_sipush X260 hx (255 : Int32) 20 (hb hby d14_17) rfl (by decide) ?_
        have ll270 : ((255 : Int32) : Int32).toInt = 255 := by decide
        refine g_ic_le X260 hx 26 23 (hb hby d14_20) (by decide) (by decide) rfl (fun c269 => ?_) (fun c269 => ?_)
        · skip
          refine g_aloadN X260 hx 27 (hb hby d14_26) rfl rfl rfl ?_
          refine g_iloadN X260 hx 28 (hb hby d14_27) rfl rfl ?_
          refine g_iload X260 hx 30 (hb hby d14_28) rfl rfl ?_
          refine g_i2b X260 hx 31 (hb hby d14_30) rfl ?_
          refine g_bastore X260 hx hZ e260 V260' 1 (by decide) (by decide) (by show 1 < 6; decide) (c1.toInt8.toInt32.toInt8.toInt32) rfl 32 (hb hby d14_31) rfl ?_
          intro T271 h271 X271 e271 W271 V271
          have F272 := F261.other W271 ncb
          have K274 := K263.wr W271 (Or.inl (List.mem_of_getElem? (i := 0) rfl))
          have N275 := Fr.snoc X271 N264 gb
          have Z276 : n0 ≤ h271.size := by rw [W271.size]; exact Z265
          have V271' : Arv Z h271 ba kb .byte (6 : Int32) [(.int (c0.toInt8.toInt32.toInt8.toInt32)), (.int (c1.toInt8.toInt32.toInt8.toInt32)), (.int (0 : Int32)), (.int (0 : Int32)), (.int (0 : Int32)), (.int (0 : Int32))] (.int 0) := V271
          refine g_iincC X271 hx (w := (1 : Int32)) (2 : Int32) (by decide) (l' := #[.val (.ref ca), .val (.int (2 : Int32)), .val (.ref ba), .val (.int (1 : Int32)), .val (.int (6 : Int32)), .val (.int (1 : Int32)), .val (.int c1)]) 35 (hb hby d14_32) rfl rfl (by decide) rfl ?_
          refine g_iincC X271 hx (w := (1 : Int32)) (2 : Int32) (by decide) (l' := #[.val (.ref ca), .val (.int (2 : Int32)), .val (.ref ba), .val (.int (2 : Int32)), .val (.int (6 : Int32)), .val (.int (1 : Int32)), .val (.int c1)]) 38 (hb hby d14_35) rfl rfl (by decide) rfl ?_
          refine g_iincC X271 hx (w := (1 : Int32)) (2 : Int32) (by decide) (l' := #[.val (.ref ca), .val (.int (2 : Int32)), .val (.ref ba), .val (.int (2 : Int32)), .val (.int (6 : Int32)), .val (.int (2 : Int32)), .val (.int c1)]) 41 (hb hby d14_38) rfl rfl (by decide) rfl ?_
          refine g_goto X271 hx 3 (hb hby d14_41) (by decide) (by decide) ?_
          refine g_iload X271 hx 5 (hb hby d14_3) rfl rfl ?_
          refine g_iload X271 hx 7 (hb hby d14_5) rfl rfl ?_
          have ll278 : ((6 : Int32) : Int32).toInt = 6 := by decide
          have ll279 : ((2 : Int32) : Int32).toInt = 2 := by decide
          refine g_ic_ge X271 hx 44 10 (hb hby d14_7) (by decide) (by decide) rfl (fun c277 => ?_) (fun c277 => ?_)
          · skip
            exfalso; revert c277; decide
          · skip
            refine g_aloadN X271 hx 11 (hb hby d14_10) rfl rfl rfl ?_
            refine g_iloadN X271 hx 12 (hb hby d14_11) rfl rfl ?_
            refine g_caload X271 hx hZ e271 F272 (by decide) (by decide) (by rw [show ((2 : Int32) : Int32).toNatClampNeg = 2 by decide] <;> rfl) 13 (hb hby d14_12) rfl ?_
            refine g_istore (l' := #[.val (.ref ca), .val (.int (2 : Int32)), .val (.ref ba), .val (.int (2 : Int32)), .val (.int (6 : Int32)), .val (.int (2 : Int32)), .val (.int c2)]) X271 hx 15 (hb hby d14_13) rfl rfl ?_
            refine g_iload X271 hx 17 (hb hby d14_15) rfl rfl ?_
            refine g_sipush X271 hx (255 : Int32) 20 (hb hby d14_17) rfl (by decide) ?_
            have ll281 : ((255 : Int32) : Int32).toInt = 255 := by decide
            refine g_ic_le X271 hx 26 23 (hb hby d14_20) (by decide) (by decide) rfl (fun c280 => ?_) (fun c280 => ?_)
            · skip
              refine g_aloadN X271 hx 27 (hb hby d14_26) rfl rfl rfl ?_
              refine g_iloadN X271 hx 28 (hb hby d14_27) rfl rfl ?_
              refine g_iload X271 hx 30 (hb hby d14_28) rfl rfl ?_
              refine g_i2b X271 hx 31 (hb hby d14_30) rfl ?_
              refine g_bastore X271 hx hZ e271 V271' 2 (by decide) (by decide) (by show 2 < 6; decide) (c2.toInt8.toInt32.toInt8.toInt32) rfl 32 (hb hby d14_31) rfl ?_
              intro T282 h282 X282 e282 W282 V282
              have F283 := F272.other W282 ncb
              have K285 := K274.wr W282 (Or.inl (List.mem_of_getElem? (i := 0) rfl))
              have N286 := Fr.snoc X282 N275 gb
              have Z287 : n0 ≤ h282.size := by rw [W282.size]; exact Z276
              have V282' : Arv Z h282 ba kb .byte (6 : Int32) [(.int (c0.toInt8.toInt32.toInt8.toInt32)), (.int (c1.toInt8.toInt32.toInt8.toInt32)), (.int (c2.toInt8.toInt32.toInt8.toInt32)), (.int (0 : Int32)), (.int (0 : Int32)), (.int (0 : Int32))] (.int 0) := V282
              refine g_iincC X282 hx (w := (1 : Int32)) (3 : Int32) (by decide) (l' := #[.val (.ref ca), .val (.int (3 : Int32)), .val (.ref ba), .val (.int (2 : Int32)), .val (.int (6 : Int32)), .val (.int (2 : Int32)), .val (.int c2)]) 35 (hb hby d14_32) rfl rfl (by decide) rfl ?_
              refine g_iincC X282 hx (w := (1 : Int32)) (3 : Int32) (by decide) (l' := #[.val (.ref ca), .val (.int (3 : Int32)), .val (.ref ba), .val (.int (3 : Int32)), .val (.int (6 : Int32)), .val (.int (2 : Int32)), .val (.int c2)]) 38 (hb hby d14_35) rfl rfl (by decide) rfl ?_
              refine g_iincC X282 hx (w := (1 : Int32)) (3 : Int32) (by decide) (l' := #[.val (.ref ca), .val (.int (3 : Int32)), .val (.ref ba), .val (.int (3 : Int32)), .val (.int (6 : Int32)), .val (.int (3 : Int32)), .val (.int c2)]) 41 (hb hby d14_38) rfl rfl (by decide) rfl ?_
              refine g_goto X282 hx 3 (hb hby d14_41) (by decide) (by decide) ?_
              refine g_iload X282 hx 5 (hb hby d14_3) rfl rfl ?_
              refine g_iload X282 hx 7 (hb hby d14_5) rfl rfl ?_
              have ll289 : ((6 : Int32) : Int32).toInt = 6 := by decide
              have ll290 : ((3 : Int32) : Int32).toInt = 3 := by decide
              refine g_ic_ge X282 hx 44 10 (hb hby d14_7) (by decide) (by decide) rfl (fun c288 => ?_) (fun c288 => ?_)
              · skip
                exfalso; revert c288; decide
              · skip
                refine g_aloadN X282 hx 11 (hb hby d14_10) rfl rfl rfl ?_
                refine g_iloadN X282 hx 12 (hb hby d14_11) rfl rfl ?_
                refine g_caload X282 hx hZ e282 F283 (by decide) (by decide) (by rw [show ((3 : Int32) : Int32).toNatClampNeg = 3 by decide] <;> rfl) 13 (hb hby d14_12) rfl ?_
                refine g_istore (l' := #[.val (.ref ca), .val (.int (3 : Int32)), .val (.ref ba), .val (.int (3 : Int32)), .val (.int (6 : Int32)), .val (.int (3 : Int32)), .val (.int c3)]) X282 hx 15 (hb hby d14_13) rfl rfl ?_
                refine g_iload X282 hx 17 (hb hby d14_15) rfl rfl ?_
                refine g_sipush X282 hx (255 : Int32) 20 (hb hby d14_17) rfl (by decide) ?_
                have ll292 : ((255 : Int32) : Int32).toInt = 255 := by decide
                refine g_ic_le X282 hx 26 23 (hb hby d14_20) (by decide) (by decide) rfl (fun c291 => ?_) (fun c291 => ?_)
                · skip
                  refine g_aloadN X282 hx 27 (hb hby d14_26) rfl rfl rfl ?_
                  refine g_iloadN X282 hx 28 (hb hby d14_27) rfl rfl ?_
                  refine g_iload X282 hx 30 (hb hby d14_28) rfl rfl ?_
                  refine g_i2b X282 hx 31 (hb hby d14_30) rfl ?_
                  refine g_bastore X282 hx hZ e282 V282' 3 (by decide) (by decide) (by show 3 < 6; decide) (c3.toInt8.toInt32.toInt8.toInt32) rfl 32 (hb hby d14_31) rfl ?_
                  intro T293 h293 X293 e293 W293 V293
                  have F294 := F283.other W293 ncb
                  have K296 := K285.wr W293 (Or.inl (List.mem_of_getElem? (i := 0) rfl))
                  have N297 := Fr.snoc X293 N286 gb
                  have Z298 : n0 ≤ h293.size := by rw [W293.size]; exact Z287
                  have V293' : Arv Z h293 ba kb .byte (6 : Int32) [(.int (c0.toInt8.toInt32.toInt8.toInt32)), (.int (c1.toInt8.toInt32.toInt8.toInt32)), (.int (c2.toInt8.toInt32.toInt8.toInt32)), (.int (c3.toInt8.toInt32.toInt8.toInt32)), (.int (0 : Int32)), (.int (0 : Int32))] (.int 0) := V293
                  refine g_iincC X293 hx (w := (1 : Int32)) (4 : Int32) (by decide) (l' := #[.val (.ref ca), .val (.int (4 : Int32)), .val (.ref ba), .val (.int (3 : Int32)), .val (.int (6 : Int32)), .val (.int (3 : Int32)), .val (.int c3)]) 35 (hb hby d14_32) rfl rfl (by decide) rfl ?_
                  refine g_iincC X293 hx (w := (1 : Int32)) (4 : Int32) (by decide) (l' := #[.val (.ref ca), .val (.int (4 : Int32)), .val (.ref ba), .val (.int (4 : Int32)), .val (.int (6 : Int32)), .val (.int (3 : Int32)), .val (.int c3)]) 38 (hb hby d14_35) rfl rfl (by decide) rfl ?_
                  refine g_iincC X293 hx (w := (1 : Int32)) (4 : Int32) (by decide) (l' := #[.val (.ref ca), .val (.int (4 : Int32)), .val (.ref ba), .val (.int (4 : Int32)), .val (.int (6 : Int32)), .val (.int (4 : Int32)), .val (.int c3)]) 41 (hb hby d14_38) rfl rfl (by decide) rfl ?_
                  refine g_goto X293 hx 3 (hb hby d14_41) (by decide) (by decide) ?_
                  refine g_iload X293 hx 5 (hb hby d14_3) rfl rfl ?_
                  refine g_iload X293 hx 7 (hb hby d14_5) rfl rfl ?_
                  have ll300 : ((6 : Int32) : Int32).toInt = 6 := by decide
                  have ll301 : ((4 : Int32) : Int32).toInt = 4 := by decide
                  refine g_ic_ge X293 hx 44 10 (hb hby d14_7) (by decide) (by decide) rfl (fun c299 => ?_) (fun c299 => ?_)
                  · skip
                    exfalso; revert c299; decide
                  · skip
                    refine g_aloadN X293 hx 11 (hb hby d14_10) rfl rfl rfl ?_
                    refine g_iloadN X293 hx 12 (hb hby d14_11) rfl rfl ?_
                    refine g_caload X293 hx hZ e293 F294 (by decide) (by decide) (by rw [show ((4 : Int32) : Int32).toNatClampNeg = 4 by decide] <;> rfl) 13 (hb hby d14_12) rfl ?_
                    refine g_istore (l' := #[.val (.ref ca), .val (.int (4 : Int32)), .val (.ref ba), .val (.int (4 : Int32)), .val (.int (6 : Int32)), .val (.int (4 : Int32)), .val (.int c4)]) X293 hx 15 (hb hby d14_13) rfl rfl ?_
                    refine g_iload X293 hx 17 (hb hby d14_15) rfl rfl ?_
                    refine g_sipush X293 hx (255 : Int32) 20 (hb hby d14_17) rfl (by decide) ?_
                    have ll303 : ((255 : Int32) : Int32).toInt = 255 := by decide
                    refine g_ic_le X293 hx 26 23 (hb hby d14_20) (by decide) (by decide) rfl (fun c302 => ?_) (fun c302 => ?_)
                    · skip
                      refine g_aloadN X293 hx 27 (hb hby d14_26) rfl rfl rfl ?_
                      refine g_iloadN X293 hx 28 (hb hby d14_27) rfl rfl ?_
                      refine g_iload X293 hx 30 (hb hby d14_28) rfl rfl ?_
                      refine g_i2b X293 hx 31 (hb hby d14_30) rfl ?_
                      refine g_bastore X293 hx hZ e293 V293' 4 (by decide) (by decide) (by show 4 < 6; decide) (c4.toInt8.toInt32.toInt8.toInt32) rfl 32 (hb hby d14_31) rfl ?_
                      intro T304 h304 X304 e304 W304 V304
                      have F305 := F294.other W304 ncb
                      have K307 := K296.wr W304 (Or.inl (List.mem_of_getElem? (i := 0) rfl))
                      have N308 := Fr.snoc X304 N297 gb
                      have Z309 : n0 ≤ h304.size := by rw [W304.size]; exact Z298
                      have V304' : Arv Z h304 ba kb .byte (6 : Int32) [(.int (c0.toInt8.toInt32.toInt8.toInt32)), (.int (c1.toInt8.toInt32.toInt8.toInt32)), (.int (c2.toInt8.toInt32.toInt8.toInt32)), (.int (c3.toInt8.toInt32.toInt8.toInt32)), (.int (c4.toInt8.toInt32.toInt8.toInt32)), (.int (0 : Int32))] (.int 0) := V304
                      refine g_iincC X304 hx (w := (1 : Int32)) (5 : Int32) (by decide) (l' := #[.val (.ref ca), .val (.int (5 : Int32)), .val (.ref ba), .val (.int (4 : Int32)), .val (.int (6 : Int32)), .val (.int (4 : Int32)), .val (.int c4)]) 35 (hb hby d14_32) rfl rfl (by decide) rfl ?_
                      refine g_iincC X304 hx (w := (1 : Int32)) (5 : Int32) (by decide) (l' := #[.val (.ref ca), .val (.int (5 : Int32)), .val (.ref ba), .val (.int (5 : Int32)), .val (.int (6 : Int32)), .val (.int (4 : Int32)), .val (.int c4)]) 38 (hb hby d14_35) rfl rfl (by decide) rfl ?_
                      refine g_iincC X304 hx (w := (1 : Int32)) (5 : Int32) (by decide) (l' := #[.val (.ref ca), .val (.int (5 : Int32)), .val (.ref ba), .val (.int (5 : Int32)), .val (.int (6 : Int32)), .val (.int (5 : Int32)), .val (.int c4)]) 41 (hb hby d14_38) rfl rfl (by decide) rfl ?_
                      refine g_goto X304 hx 3 (hb hby d14_41) (by decide) (by decide) ?_
                      refine g_iload X304 hx 5 (hb hby d14_3) rfl rfl ?_
                      refine g_iload X304 hx 7 (hb hby d14_5) rfl rfl ?_
                      have ll311 : ((6 : Int32) : Int32).toInt = 6 := by decide
                      have ll312 : ((5 : Int32) : Int32).toInt = 5 := by decide
                      refine g_ic_ge X304 hx 44 10 (hb hby d14_7) (by decide) (by decide) rfl (fun c310 => ?_) (fun c310 => ?_)
                      · skip
                        exfalso; revert c310; decide
                      · skip
                        refine g_aloadN X304 hx 11 (hb hby d14_10) rfl rfl rfl ?_
                        refine g_iloadN X304 hx 12 (hb hby d14_11) rfl rfl ?_
                        refine g_caload X304 hx hZ e304 F305 (by decide) (by decide) (by rw [show ((5 : Int32) : Int32).toNatClampNeg = 5 by decide] <;> rfl) 13 (hb hby d14_12) rfl ?_
                        refine g_istore (l' := #[.val (.ref ca), .val (.int (5 : Int32)), .val (.ref ba), .val (.int (5 : Int32)), .val (.int (6 : Int32)), .val (.int (5 : Int32)), .val (.int c5)]) X304 hx 15 (hb hby d14_13) rfl rfl ?_
                        refine g_iload X304 hx 17 (hb hby d14_15) rfl rfl ?_
                        refine g_sipush X304 hx (255 : Int32) 20 (hb hby d14_17) rfl (by decide) ?_
                        have ll314 : ((255 : Int32) : Int32).toInt = 255 := by decide
                        refine g_ic_le X304 hx 26 23 (hb hby d14_20) (by decide) (by decide) rfl (fun c313 => ?_) (fun c313 => ?_)
                        · skip
                          refine g_aloadN X304 hx 27 (hb hby d14_26) rfl rfl rfl ?_
                          refine g_iloadN X304 hx 28 (hb hby d14_27) rfl rfl ?_
                          refine g_iload X304 hx 30 (hb hby d14_28) rfl rfl ?_
                          refine g_i2b X304 hx 31 (hb hby d14_30) rfl ?_
                          refine g_bastore X304 hx hZ e304 V304' 5 (by decide) (by decide) (by show 5 < 6; decide) (c5.toInt8.toInt32.toInt8.toInt32) rfl 32 (hb hby d14_31) rfl ?_
                          intro T315 h315 X315 e315 W315 V315
                          have F316 := F305.other W315 ncb
                          have K318 := K307.wr W315 (Or.inl (List.mem_of_getElem? (i := 0) rfl))
                          have N319 := Fr.snoc X315 N308 gb
                          have Z320 : n0 ≤ h315.size := by rw [W315.size]; exact Z309
                          have V315' : Arv Z h315 ba kb .byte (6 : Int32) [(.int (c0.toInt8.toInt32.toInt8.toInt32)), (.int (c1.toInt8.toInt32.toInt8.toInt32)), (.int (c2.toInt8.toInt32.toInt8.toInt32)), (.int (c3.toInt8.toInt32.toInt8.toInt32)), (.int (c4.toInt8.toInt32.toInt8.toInt32)), (.int (c5.toInt8.toInt32.toInt8.toInt32))] (.int 0) := V315
                          refine g_iincC X315 hx (w := (1 : Int32)) (6 : Int32) (by decide) (l' := #[.val (.ref ca), .val (.int (6 : Int32)), .val (.ref ba), .val (.int (5 : Int32)), .val (.int (6 : Int32)), .val (.int (5 : Int32)), .val (.int c5)]) 35 (hb hby d14_32) rfl rfl (by decide) rfl ?_
                          refine g_iincC X315 hx (w := (1 : Int32)) (6 : Int32) (by decide) (l' := #[.val (.ref ca), .val (.int (6 : Int32)), .val (.ref ba), .val (.int (6 : Int32)), .val (.int (6 : Int32)), .val (.int (5 : Int32)), .val (.int c5)]) 38 (hb hby d14_35) rfl rfl (by decide) rfl ?_
                          refine g_iincC X315 hx (w := (1 : Int32)) (6 : Int32) (by decide) (l' := #[.val (.ref ca), .val (.int (6 : Int32)), .val (.ref ba), .val (.int (6 : Int32)), .val (.int (6 : Int32)), .val (.int (6 : Int32)), .val (.int c5)]) 41 (hb hby d14_38) rfl rfl (by decide) rfl ?_
                          refine g_goto X315 hx 3 (hb hby d14_41) (by decide) (by decide) ?_
                          refine g_iload X315 hx 5 (hb hby d14_3) rfl rfl ?_
                          refine g_iload X315 hx 7 (hb hby d14_5) rfl rfl ?_
                          have ll322 : ((6 : Int32) : Int32).toInt = 6 := by decide
                          have ll323 : ((6 : Int32) : Int32).toInt = 6 := by decide
                          refine g_ic_ge X315 hx 44 10 (hb hby d14_7) (by decide) (by decide) rfl (fun c321 => ?_) (fun c321 => ?_)
                          · skip
                            refine g_iload X315 hx 46 (hb hby d14_44) rfl rfl ?_
                            exact g_retI X315 hx hlk hret (hb hby d14_46) (by decide) (by decide) e315 ⟨rfl, N319, K318, V315'⟩
                          · skip
                            exfalso; revert c321; decide
                        · skip
                          exfalso; omega
                    · skip
                      exfalso; omega
                · skip
                  exfalso; omega
            · skip
              exfalso; omega
        · skip
          exfalso; omega
    · skip
      exfalso; omega
def Q_rmC3_6 (Z : State) (c0 c1 c2 c3 c4 c5 : Int32) (n0 : Nat) (h0 : Heap) (v : Option Value) (h : Heap) (L : List Loc) : Prop := ∃ (b : Addr) (kb : ClassId), v = some (.ref b) ∧ Fr n0 L ∧ Keep h0 h [] ∧ n0 ≤ b ∧ h0.size ≤ b ∧ Arv Z h b kb .byte 6 [(.int (c0.toInt8.toInt32.toInt8.toInt32)), (.int (c1.toInt8.toInt32.toInt8.toInt32)), (.int (c2.toInt8.toInt32.toInt8.toInt32)), (.int (c3.toInt8.toInt32.toInt8.toInt32)), (.int (c4.toInt8.toInt32.toInt8.toInt32)), (.int (c5.toInt8.toInt32.toInt8.toInt32))] (.int 0)
theorem ef_rmC3_6 (ca : Addr) (m : MethodId) : entryFrame m #[(.ref ca), (.int 0), (.int 6)] 6 = mkF m 0 #[.val (.ref ca), .val (.int 0), .val (.int 6), .unset, .unset, .unset] [] := by first | (simp [entryFrame, mkF, argsToLocals, Value.category]; done) | rfl
theorem rmC3_6 (l : Launch) (Z : State) (a0 : Array Value) (hw : ∀ d ∈ tables_1, d.before a0 Z = true) (ca : Addr) (h0 : Heap) (n0 : Nat) (Z0 : n0 ≤ h0.size) (kc : ClassId) (c0 c1 c2 c3 c4 c5 : Int32) (bc0 : 0 ≤ c0.toInt ∧ c0.toInt ≤ 255) (bc1 : 0 ≤ c1.toInt ∧ c1.toInt ≤ 255) (bc2 : 0 ≤ c2.toInt ∧ c2.toInt ≤ 255) (bc3 : 0 ≤ c3.toInt ∧ c3.toInt ≤ 255) (bc4 : 0 ≤ c4.toInt ∧ c4.toInt ≤ 255) (bc5 : 0 ≤ c5.toInt ∧ c5.toInt ≤ 255) (Vc : Arv Z h0 ca kc .char 6 [(.int c0), (.int c1), (.int c2), (.int c3), (.int c4), (.int c5)] (.int 0)) :
    MetFree l (⟨"java/lang/StringUTF16", "compress", "([CII)[B"⟩ : MethodName) (head1 [Jvm.Cond.code (⟨"java/lang/StringUTF16", "compress", "([CII)[B"⟩ : MethodName) jdk_52_method_16_code 6 (some (.array .byte))] ({ frames := 1, cells := 1, slots := 6, locals := 20 } : Room)) (fun as_ U => as_ = #[(.ref ca), (.int 0), (.int 6)] ∧ Z.Warmed39 U.vm ∧ U.heap = h0) (fun _ _ _ _ _ => True) (fun _ U o U' => ∃ v L, o = .returned v ∧ Q_rmC3_6 Z c0 c1 c2 c3 c4 c5 n0 h0 v U'.heap L ∧ FrameEnd U o U' L ({ frames := 1, cells := 1, slots := 6, locals := 20 } : Room).cells ({ frames := 1, cells := 1, slots := 6, locals := 20 } : Room).slots) := by
  refine own_met own_pf8 (ef_rmC3_6 ca) ?_
  intro p e s m below meth c T0 X0 hx hby hml hret hlk hnm hown hZ e0
  have N0 := Fr.nil n0
  refine g_iloadN X0 hx 1 (hb hby d13_0) rfl rfl ?_
  refine g_newP X0 hx hZ (aty := .byte) (hw _ (List.mem_of_getElem? (i := 3) rfl)) e0 (by decide) (cap := 6) (by decide) (by decide) 3 (hb hby d13_1) rfl (by decide) (by decide) (ad := "[B") (by decide) ?_
  intro T324 h324 k324 a324 g324 X324 e324 E324 V324 A324
  have ne325 : ca ≠ a324 := Nat.ne_of_lt (by rw [g324]; exact Vc.lt)
  have ge326 : n0 ≤ a324 := by rw [g324]; exact Z0
  have sz327 : h0.size ≤ a324 := by rw [g324]; exact (Keep.refl h0 []).1
  have F328 := Vc.ext E324
  have K329 := (Keep.refl h0 []).ext E324
  have Z330 : n0 ≤ h324.size := Nat.le_trans Z0 E324.1
  have V324' : Arv Z h324 a324 k324 .byte (6 : Int32) [(.int (0 : Int32)), (.int (0 : Int32)), (.int (0 : Int32)), (.int (0 : Int32)), (.int (0 : Int32)), (.int (0 : Int32))] (.int (0 : Int32)) := V324.pad (pad_rep [] (.int (0 : Int32)) 6)
  refine g_astoreN (l' := #[.val (.ref ca), .val (.int (0 : Int32)), .val (.int (6 : Int32)), .val (.ref a324), .unset, .unset]) X324 hx 4 (hb hby d13_3) rfl rfl rfl ?_
  refine g_aloadN X324 hx 5 (hb hby d13_4) rfl rfl rfl ?_
  refine g_iloadN X324 hx 6 (hb hby d13_5) rfl rfl ?_
  refine g_aloadN X324 hx 7 (hb hby d13_6) rfl rfl rfl ?_
  refine g_iconst X324 hx (0 : Int32) 8 (hb hby d13_7) rfl (by decide) ?_
  refine g_iloadN X324 hx 9 (hb hby d13_8) rfl rfl ?_
  refine g_static X324 hx hZ hown (hw _ (List.mem_of_getElem? (i := 67) rfl)) (hw _ (List.mem_of_getElem? (i := 68) rfl)) (hw _ (List.mem_of_getElem? (i := 65) rfl)) (hw _ (List.mem_of_getElem? (i := 69) rfl)) (by decide) (rmCp_6 l Z a0 hw ca a324 h324 n0 Z330 kc k324 c0 c1 c2 c3 c4 c5 bc0 bc1 bc2 bc3 bc4 bc5 ne325 ge326 F328 V324') e324 (argsL := [(.ref ca), (.int (0 : Int32)), (.ref a324), (.int (0 : Int32)), (.int (6 : Int32))]) (rest := []) rfl rfl 0 12 rfl (by rw [hml]; rfl) (lenOf own_pd13 rfl) (Nat.le_refl _) (by decide) (by decide) (by decide) (by decide) (hb hby d13_9) ?_
  intro v331 T331 L331 X331 hQ331
  obtain ⟨rfl, N331, K331, V331⟩ := hQ331
  have N332 := Fr.app N0 N331
  have F333 := F328.keep K331 (ninS ne325 nin0)
  have F334 := A324.keep K331
  have Z336 : n0 ≤ T331.heap.size := Nat.le_trans Z330 K331.1
  have K337 := K329.trans K331 (allS (Or.inr sz327) all0)
  show Go p e below _ T331 (mkF m 12 #[.val (.ref ca), .val (.int (0 : Int32)), .val (.int (6 : Int32)), .val (.ref a324), .unset, .unset] [(.int (6 : Int32))])
  refine g_istore (l' := #[.val (.ref ca), .val (.int (0 : Int32)), .val (.int (6 : Int32)), .val (.ref a324), .val (.int (6 : Int32)), .unset]) X331 hx 14 (hb hby d13_12) rfl rfl ?_
  refine g_iload X331 hx 16 (hb hby d13_14) rfl rfl ?_
  refine g_iloadN X331 hx 17 (hb hby d13_16) rfl rfl ?_
  have ll339 : ((6 : Int32) : Int32).toInt = 6 := by decide
  have ll340 : ((6 : Int32) : Int32).toInt = 6 := by decide
  refine g_ic_eq X331 hx 57 20 (hb hby d13_17) (by decide) (by decide) rfl (fun c338 => ?_) (fun c338 => ?_)
  · skip
    refine g_aloadN X331 hx 58 (hb hby d13_57) rfl rfl rfl ?_
    exact g_retA X331 hx hlk hret rfl rfl rfl (hb hby d13_58) (by decide) (by decide) rfl ⟨a324, k324, rfl, N332, K337, ge326, sz327, V331⟩
  · skip
    exfalso; revert c338; decide
def Q_rmCF_6 (n0 : Nat) (h0 : Heap) (v : Option Value) (h : Heap) (L : List Loc) : Prop := v = some (.int 0) ∧ Fr n0 L ∧ h = h0
theorem ef_rmCF_6 (b : Addr) (m : MethodId) : entryFrame m #[(.ref b), (.int 6)] 2 = mkF m 0 #[.val (.ref b), .val (.int 6)] [] := by first | (simp [entryFrame, mkF, argsToLocals, Value.category]; done) | rfl
theorem rmCF_6 (l : Launch) (Z : State) (a0 : Array Value) (hw : ∀ d ∈ tables_1, d.before a0 Z = true) (b : Addr) (h0 : Heap) (n0 : Nat) (Z0 : n0 ≤ h0.size) (kb : ClassId) (vs : List Value) (V : Arv Z h0 b kb .byte 6 vs (.int 0)) :
    MetFree l (⟨"java/lang/StringUTF16", "coderFromArrayLen", "([BI)B"⟩ : MethodName) (head1 [Jvm.Cond.code (⟨"java/lang/StringUTF16", "coderFromArrayLen", "([BI)B"⟩ : MethodName) jdk_52_method_15_code 2 (some .byte)] ({ frames := 0, cells := 0, slots := 0, locals := 0 } : Room)) (fun as_ U => as_ = #[(.ref b), (.int 6)] ∧ Z.Warmed39 U.vm ∧ U.heap = h0) (fun _ _ _ _ _ => True) (fun _ U o U' => ∃ v L, o = .returned v ∧ Q_rmCF_6 n0 h0 v U'.heap L ∧ FrameEnd U o U' L ({ frames := 0, cells := 0, slots := 0, locals := 0 } : Room).cells ({ frames := 0, cells := 0, slots := 0, locals := 0 } : Room).slots) := by
  refine own_met own_pf9 (ef_rmCF_6 b) ?_
  intro p e s m below meth c T0 X0 hx hby hml hret hlk hnm hown hZ e0
  have N0 := Fr.nil n0
  refine g_iloadN X0 hx 1 (hb hby d15_0) rfl rfl ?_
  refine g_aloadN X0 hx 2 (hb hby d15_1) rfl rfl rfl ?_
  refine g_len X0 hx hZ e0 V 3 (hb hby d15_2) rfl ?_
  refine g_isubC X0 hx (0 : Int32) (by decide) 4 (hb hby d15_3) rfl ?_
  refine g_bipush X0 hx (31 : Int32) 6 (hb hby d15_4) rfl (by decide) ?_
  refine g_iushr X0 hx 7 (hb hby d15_6) rfl ?_
  refine g_i2b X0 hx 8 (hb hby d15_7) rfl ?_
  exact g_retN X0 hx hlk hret (by simp) (hb hby d15_8) (by decide) (by decide) e0 ⟨by decide, N0, rfl⟩
def Q_rmI4_6 (Z : State) (a : Addr) (c0 c1 c2 c3 c4 c5 : Int32) (n0 : Nat) (h0 : Heap) (v : Option Value) (h : Heap) (L : List Loc) : Prop := v = none ∧ Fr n0 L ∧ Keep h0 h [a] ∧ ∃ (b : Addr) (kb : ClassId), n0 ≤ b ∧ h0.size ≤ b ∧ Fld Z h a "java/lang/String" "coder" "B" (.int 0) ∧ Fld Z h a "java/lang/String" "value" "[B" (.ref b) ∧ Arv Z h b kb .byte 6 [(.int (c0.toInt8.toInt32.toInt8.toInt32)), (.int (c1.toInt8.toInt32.toInt8.toInt32)), (.int (c2.toInt8.toInt32.toInt8.toInt32)), (.int (c3.toInt8.toInt32.toInt8.toInt32)), (.int (c4.toInt8.toInt32.toInt8.toInt32)), (.int (c5.toInt8.toInt32.toInt8.toInt32))] (.int 0)
theorem ef_rmI4_6 (a ca : Addr) (m : MethodId) : entryFrame m #[(.ref a), (.ref ca), (.int 0), (.int 6), .null] 6 = mkF m 0 #[.val (.ref a), .val (.ref ca), .val (.int 0), .val (.int 6), .val .null, .unset] [] := by first | (simp [entryFrame, mkF, argsToLocals, Value.category]; done) | rfl
theorem rmI4_6 (l : Launch) (Z : State) (a0 : Array Value) (hw : ∀ d ∈ tables_1, d.before a0 Z = true) (a ca : Addr) (h0 : Heap) (n0 : Nat) (Z0 : n0 ≤ h0.size) (cst : Int32) (hc : cst ≠ 0) (O0 : Old Z n0 h0) (SC : Sta Z Z.heap "java/lang/String" "COMPACT_STRINGS" "Z" (.int cst)) (kc : ClassId) (c0 c1 c2 c3 c4 c5 : Int32) (bc0 : 0 ≤ c0.toInt ∧ c0.toInt ≤ 255) (bc1 : 0 ≤ c1.toInt ∧ c1.toInt ≤ 255) (bc2 : 0 ≤ c2.toInt ∧ c2.toInt ≤ 255) (bc3 : 0 ≤ c3.toInt ∧ c3.toInt ≤ 255) (bc4 : 0 ≤ c4.toInt ∧ c4.toInt ≤ 255) (bc5 : 0 ≤ c5.toInt ∧ c5.toInt ≤ 255) (E : Exa Z h0 a "java/lang/String") (ga : n0 ≤ a) (nac : a ≠ ca) (Fc : Fld Z h0 a "java/lang/String" "coder" "B" (.int 0)) (Fv : Fld Z h0 a "java/lang/String" "value" "[B" .null) (Vc : Arv Z h0 ca kc .char 6 [(.int c0), (.int c1), (.int c2), (.int c3), (.int c4), (.int c5)] (.int 0)) :
    MetFree l (⟨"java/lang/String", "<init>", "([CIILjava/lang/Void;)V"⟩ : MethodName) (head1 [Jvm.Cond.code (⟨"java/lang/String", "<init>", "([CIILjava/lang/Void;)V"⟩ : MethodName) jdk_42_method_149_code 6 none] ({ frames := 2, cells := 1, slots := 6, locals := 44 } : Room)) (fun as_ U => as_ = #[(.ref a), (.ref ca), (.int 0), (.int 6), .null] ∧ Z.Warmed39 U.vm ∧ U.heap = h0) (fun _ _ _ _ _ => True) (fun _ U o U' => ∃ v L, o = .returned v ∧ Q_rmI4_6 Z a c0 c1 c2 c3 c4 c5 n0 h0 v U'.heap L ∧ FrameEnd U o U' L ({ frames := 2, cells := 1, slots := 6, locals := 44 } : Room).cells ({ frames := 2, cells := 1, slots := 6, locals := 44 } : Room).slots) := by
  refine own_met own_pf10 (ef_rmI4_6 a ca) ?_
  intro p e s m below meth c T0 X0 hx hby hml hret hlk hnm hown hZ e0
  have N0 := Fr.nil n0
  refine g_aloadN X0 hx 1 (hb hby d11_0) rfl rfl rfl ?_
  refine g_objinit X0 hx hZ hown (hw _ (List.mem_of_getElem? (i := 60) rfl)) (hw _ (List.mem_of_getElem? (i := 61) rfl)) (hw _ (List.mem_of_getElem? (i := 62) rfl)) e0 0 4 (hb hby d11_1) rfl (by rw [hml]; rfl) (by decide) (Nat.le_refl _) (by decide) ?_
  intro T341 X341 e341
  refine g_iloadN X341 hx 5 (hb hby d11_4) rfl rfl ?_
  have ll343 : ((6 : Int32) : Int32).toInt = 6 := by decide
  refine g_if_ne X341 hx 27 8 (hb hby d11_5) (by decide) (by decide) rfl (fun c342 => ?_) (fun c342 => ?_)
  · skip
    refine g_getS X341 hx hZ hown (hw _ (List.mem_of_getElem? (i := 24) rfl)) Via.refl e341 (Sta.ext O0.2 SC) 30 (hb hby d11_27) rfl ?_
    intro T344 X344 e344
    refine g_if_eq X344 hx 58 33 (hb hby d11_30) (by decide) (by decide) rfl (fun c345 => ?_) (fun c345 => ?_)
    · skip
      exact absurd (own_t0 c345) hc
    · skip
      refine g_aloadN X344 hx 34 (hb hby d11_33) rfl rfl rfl ?_
      refine g_iloadN X344 hx 35 (hb hby d11_34) rfl rfl ?_
      refine g_iloadN X344 hx 36 (hb hby d11_35) rfl rfl ?_
      refine g_static X344 hx hZ hown (hw _ (List.mem_of_getElem? (i := 63) rfl)) (hw _ (List.mem_of_getElem? (i := 64) rfl)) (hw _ (List.mem_of_getElem? (i := 65) rfl)) (hw _ (List.mem_of_getElem? (i := 66) rfl)) (by decide) (rmC3_6 l Z a0 hw ca h0 n0 Z0 kc c0 c1 c2 c3 c4 c5 bc0 bc1 bc2 bc3 bc4 bc5 Vc) e344 (argsL := [(.ref ca), (.int (0 : Int32)), (.int (6 : Int32))]) (rest := []) rfl rfl 0 39 rfl (by rw [hml]; rfl) (lenOf own_pd12 rfl) (Nat.le_refl _) (by decide) (by decide) (by decide) (by decide) (hb hby d11_36) ?_
      intro v346 T346 L346 X346 hQ346
      obtain ⟨b, kb, rfl, N346, K346, gb, sb, Vb⟩ := hQ346
      have N347 := Fr.app N0 N346
      have F348 := O0.keep K346 all0
      have F349 := E.keep K346
      have F350 := Fc.keep K346 nin0
      have F351 := Fv.keep K346 nin0
      have F352 := Vc.keep K346 nin0
      have Z353 : n0 ≤ T346.heap.size := Nat.le_trans Z0 K346.1
      have K354 := (Keep.refl h0 [a]).trans K346 all0
      have nab : a ≠ b := Nat.ne_of_lt (Nat.lt_of_lt_of_le E.lt sb)
      have sb := Nat.le_trans ((Keep.refl h0 [a])).1 sb
      show Go p e below _ T346 (mkF m 39 #[.val (.ref a), .val (.ref ca), .val (.int (0 : Int32)), .val (.int (6 : Int32)), .val .null, .unset] [(.ref b)])
      refine g_astore (l' := #[.val (.ref a), .val (.ref ca), .val (.int (0 : Int32)), .val (.int (6 : Int32)), .val .null, .val (.ref b)]) X346 hx 41 (hb hby d11_39) rfl rfl rfl ?_
      refine g_aloadN X346 hx 42 (hb hby d11_41) rfl rfl rfl ?_
      refine g_aload X346 hx 44 (hb hby d11_42) rfl rfl rfl ?_
      refine g_iloadN X346 hx 45 (hb hby d11_44) rfl rfl ?_
      refine g_static X346 hx hZ hown (hw _ (List.mem_of_getElem? (i := 70) rfl)) (hw _ (List.mem_of_getElem? (i := 71) rfl)) (hw _ (List.mem_of_getElem? (i := 65) rfl)) (hw _ (List.mem_of_getElem? (i := 72) rfl)) (by decide) (rmCF_6 l Z a0 hw b T346.heap n0 Z353 kb _ Vb) rfl (argsL := [(.ref b), (.int (6 : Int32))]) (rest := [(.ref a)]) rfl rfl 1 48 rfl (by rw [hml]; rfl) (lenOf own_pd14 rfl) (Nat.le_refl _) (by decide) (by decide) (by decide) (by decide) (hb hby d11_45) ?_
      intro v355 T355 L355 X355 hQ355
      obtain ⟨rfl, N355, q355⟩ := hQ355
      have N356 := Fr.app N347 N355
      show Go p e below _ T355 (mkF m 48 #[.val (.ref a), .val (.ref ca), .val (.int (0 : Int32)), .val (.int (6 : Int32)), .val .null, .val (.ref b)] [(.int (0 : Int32)), (.ref a)])
      refine g_putF X355 hx hZ hown (hw _ (List.mem_of_getElem? (i := 25) rfl)) Via.refl q355 F350 F349 (Or.inr ⟨(hw _ (List.mem_of_getElem? (i := 5) rfl)), rfl, hnm⟩) (hw _ (List.mem_of_getElem? (i := 2) rfl)) (ty := .byte) (by decide) rfl rfl 51 (hb hby d11_48) rfl ?_
      intro T357 h357 X357 e357 W357
      have F358 : Fld Z h357 a "java/lang/String" "coder" "B" (.int (0 : Int32)) := F350.same W357
      have F359 := F348.wr W357 ga
      have F360 := F349.wr W357
      have F361 := F351.other W357 (Or.inr (slot_ne (Or.inr (hw _ (List.mem_of_getElem? (i := 4) rfl))) (Or.inr (hw _ (List.mem_of_getElem? (i := 5) rfl))) (by decide) (t := (.array .byte)) (t' := .byte) (by decide) (by decide)))
      have F362 := F352.other W357 (Ne.symm nac)
      have F363 := Vb.other W357 (Ne.symm nab)
      have K364 := K354.wr W357 (Or.inl (List.mem_of_getElem? (i := 0) rfl))
      have N365 := Fr.snoc X357 N356 ga
      have Z366 : n0 ≤ h357.size := by rw [W357.size]; exact Z353
      refine g_aloadN X357 hx 52 (hb hby d11_51) rfl rfl rfl ?_
      refine g_aload X357 hx 54 (hb hby d11_52) rfl rfl rfl ?_
      refine g_putF X357 hx hZ hown (hw _ (List.mem_of_getElem? (i := 18) rfl)) Via.refl e357 F361 F360 (Or.inr ⟨(hw _ (List.mem_of_getElem? (i := 4) rfl)), rfl, hnm⟩) (hw _ (List.mem_of_getElem? (i := 2) rfl)) (ty := (.array .byte)) (by decide) rfl rfl 57 (hb hby d11_54) rfl ?_
      intro T367 h367 X367 e367 W367
      have F368 : Fld Z h367 a "java/lang/String" "value" "[B" (.ref b) := F361.same W367
      have F369 := F359.wr W367 ga
      have F370 := F360.wr W367
      have F371 := F362.other W367 (Ne.symm nac)
      have F372 := F363.other W367 (Ne.symm nab)
      have F373 := F358.other W367 (Or.inr (slot_ne (Or.inr (hw _ (List.mem_of_getElem? (i := 5) rfl))) (Or.inr (hw _ (List.mem_of_getElem? (i := 4) rfl))) (by decide) (t := .byte) (t' := (.array .byte)) (by decide) (by decide)))
      have K374 := K364.wr W367 (Or.inl (List.mem_of_getElem? (i := 0) rfl))
      have N375 := Fr.snoc X367 N365 ga
      have Z376 : n0 ≤ h367.size := by rw [W367.size]; exact Z366
      exact g_retV X367 hx hlk hret (hb hby d11_57) (by decide) (by decide) e367 ⟨rfl, N375, K374, b, kb, gb, sb, F373, F368, F372⟩
  · skip
    exfalso; revert c342; decide
def Q_rmI1_6 (Z : State) (a : Addr) (c0 c1 c2 c3 c4 c5 : Int32) (n0 : Nat) (h0 : Heap) (v : Option Value) (h : Heap) (L : List Loc) : Prop := v = none ∧ Fr n0 L ∧ Keep h0 h [a] ∧ ∃ (b : Addr) (kb : ClassId), n0 ≤ b ∧ h0.size ≤ b ∧ Fld Z h a "java/lang/String" "coder" "B" (.int 0) ∧ Fld Z h a "java/lang/String" "value" "[B" (.ref b) ∧ Arv Z h b kb .byte 6 [(.int (c0.toInt8.toInt32.toInt8.toInt32)), (.int (c1.toInt8.toInt32.toInt8.toInt32)), (.int (c2.toInt8.toInt32.toInt8.toInt32)), (.int (c3.toInt8.toInt32.toInt8.toInt32)), (.int (c4.toInt8.toInt32.toInt8.toInt32)), (.int (c5.toInt8.toInt32.toInt8.toInt32))] (.int 0)
theorem ef_rmI1_6 (a ca : Addr) (m : MethodId) : entryFrame m #[(.ref a), (.ref ca)] 2 = mkF m 0 #[.val (.ref a), .val (.ref ca)] [] := by first | (simp [entryFrame, mkF, argsToLocals, Value.category]; done) | rfl
theorem rmI1_6 (l : Launch) (Z : State) (a0 : Array Value) (hw : ∀ d ∈ tables_1, d.before a0 Z = true) (a ca : Addr) (h0 : Heap) (n0 : Nat) (Z0 : n0 ≤ h0.size) (cst : Int32) (hc : cst ≠ 0) (O0 : Old Z n0 h0) (SC : Sta Z Z.heap "java/lang/String" "COMPACT_STRINGS" "Z" (.int cst)) (kc : ClassId) (c0 c1 c2 c3 c4 c5 : Int32) (bc0 : 0 ≤ c0.toInt ∧ c0.toInt ≤ 255) (bc1 : 0 ≤ c1.toInt ∧ c1.toInt ≤ 255) (bc2 : 0 ≤ c2.toInt ∧ c2.toInt ≤ 255) (bc3 : 0 ≤ c3.toInt ∧ c3.toInt ≤ 255) (bc4 : 0 ≤ c4.toInt ∧ c4.toInt ≤ 255) (bc5 : 0 ≤ c5.toInt ∧ c5.toInt ≤ 255) (E : Exa Z h0 a "java/lang/String") (ga : n0 ≤ a) (nac : a ≠ ca) (Fc : Fld Z h0 a "java/lang/String" "coder" "B" (.int 0)) (Fv : Fld Z h0 a "java/lang/String" "value" "[B" .null) (Vc : Arv Z h0 ca kc .char 6 [(.int c0), (.int c1), (.int c2), (.int c3), (.int c4), (.int c5)] (.int 0)) :
    MetFree l (⟨"java/lang/String", "<init>", "([C)V"⟩ : MethodName) (head1 [Jvm.Cond.code (⟨"java/lang/String", "<init>", "([C)V"⟩ : MethodName) jdk_42_method_3_code 2 none] ({ frames := 3, cells := 1, slots := 6, locals := 64 } : Room)) (fun as_ U => as_ = #[(.ref a), (.ref ca)] ∧ Z.Warmed39 U.vm ∧ U.heap = h0) (fun _ _ _ _ _ => True) (fun _ U o U' => ∃ v L, o = .returned v ∧ Q_rmI1_6 Z a c0 c1 c2 c3 c4 c5 n0 h0 v U'.heap L ∧ FrameEnd U o U' L ({ frames := 3, cells := 1, slots := 6, locals := 64 } : Room).cells ({ frames := 3, cells := 1, slots := 6, locals := 64 } : Room).slots) := by
  refine own_met own_pf11 (ef_rmI1_6 a ca) ?_
  intro p e s m below meth c T0 X0 hx hby hml hret hlk hnm hown hZ e0
  have N0 := Fr.nil n0
  refine g_aloadN X0 hx 1 (hb hby d10_0) rfl rfl rfl ?_
  refine g_aloadN X0 hx 2 (hb hby d10_1) rfl rfl rfl ?_
  refine g_iconst X0 hx (0 : Int32) 3 (hb hby d10_2) rfl (by decide) ?_
  refine g_aloadN X0 hx 4 (hb hby d10_3) rfl rfl rfl ?_
  refine g_len X0 hx hZ e0 Vc 5 (hb hby d10_4) rfl ?_
  refine g_null X0 hx 6 (hb hby d10_5) rfl ?_
  refine g_init X0 hx hZ rfl hown (hw _ (List.mem_of_getElem? (i := 56) rfl)) (hw _ (List.mem_of_getElem? (i := 57) rfl)) (hw _ (List.mem_of_getElem? (i := 1) rfl)) (hw _ (List.mem_of_getElem? (i := 59) rfl)) (by decide) (rmI4_6 l Z a0 hw a ca h0 n0 Z0 cst hc O0 SC kc c0 c1 c2 c3 c4 c5 bc0 bc1 bc2 bc3 bc4 bc5 E ga nac Fc Fv Vc) e0 (a := a) (argsL := [(.ref ca), (.int (0 : Int32)), (.int (6 : Int32)), .null]) (rest := []) rfl rfl 0 9 rfl (by rw [hml]; rfl) (lenOf own_pd10 rfl) (Nat.le_refl _) (by decide) (by decide) (by decide) (by decide) (hb hby d10_6) ?_
  intro v377 T377 L377 X377 hQ377
  obtain ⟨rfl, N377, K377, b, kb, gb, sb, c_, v_, Vb⟩ := hQ377
  have N378 := Fr.app N0 N377
  have F379 := O0.keep K377 (allS ga all0)
  have F380 := E.keep K377
  have F383 := Vc.keep K377 (ninS (Ne.symm nac) nin0)
  have Z384 : n0 ≤ T377.heap.size := Nat.le_trans Z0 K377.1
  have K385 := (Keep.refl h0 [a]).trans K377 (allS (Or.inl (List.mem_of_getElem? (i := 0) rfl)) all0)
  show Go p e below _ T377 (mkF m 9 #[.val (.ref a), .val (.ref ca)] [])
  exact g_retV X377 hx hlk hret (hb hby d10_9) (by decide) (by decide) rfl ⟨rfl, N378, K385, b, kb, gb, sb, c_, v_, Vb⟩
def Q_rmCp_8 (Z : State) (ba : Addr) (kb : ClassId) (c0 c1 c2 c3 c4 c5 c6 c7 : Int32) (n0 : Nat) (h0 : Heap) (v : Option Value) (h : Heap) (L : List Loc) : Prop := v = some (.int 8) ∧ Fr n0 L ∧ Keep h0 h [ba] ∧ Arv Z h ba kb .byte 8 [(.int (c0.toInt8.toInt32.toInt8.toInt32)), (.int (c1.toInt8.toInt32.toInt8.toInt32)), (.int (c2.toInt8.toInt32.toInt8.toInt32)), (.int (c3.toInt8.toInt32.toInt8.toInt32)), (.int (c4.toInt8.toInt32.toInt8.toInt32)), (.int (c5.toInt8.toInt32.toInt8.toInt32)), (.int (c6.toInt8.toInt32.toInt8.toInt32)), (.int (c7.toInt8.toInt32.toInt8.toInt32))] (.int 0)
theorem ef_rmCp_8 (ca ba : Addr) (m : MethodId) : entryFrame m #[(.ref ca), (.int 0), (.ref ba), (.int 0), (.int 8)] 7 = mkF m 0 #[.val (.ref ca), .val (.int 0), .val (.ref ba), .val (.int 0), .val (.int 8), .unset, .unset] [] := by first | (simp [entryFrame, mkF, argsToLocals, Value.category]; done) | rfl
theorem rmCp_8 (l : Launch) (Z : State) (a0 : Array Value) (hw : ∀ d ∈ tables_1, d.before a0 Z = true) (ca ba : Addr) (h0 : Heap) (n0 : Nat) (Z0 : n0 ≤ h0.size) (kc kb : ClassId) (c0 c1 c2 c3 c4 c5 c6 c7 : Int32) (bc0 : 0 ≤ c0.toInt ∧ c0.toInt ≤ 255) (bc1 : 0 ≤ c1.toInt ∧ c1.toInt ≤ 255) (bc2 : 0 ≤ c2.toInt ∧ c2.toInt ≤ 255) (bc3 : 0 ≤ c3.toInt ∧ c3.toInt ≤ 255) (bc4 : 0 ≤ c4.toInt ∧ c4.toInt ≤ 255) (bc5 : 0 ≤ c5.toInt ∧ c5.toInt ≤ 255) (bc6 : 0 ≤ c6.toInt ∧ c6.toInt ≤ 255) (bc7 : 0 ≤ c7.toInt ∧ c7.toInt ≤ 255) (ncb : ca ≠ ba) (gb : n0 ≤ ba) (Vc : Arv Z h0 ca kc .char 8 [(.int c0), (.int c1), (.int c2), (.int c3), (.int c4), (.int c5), (.int c6), (.int c7)] (.int 0)) (Vb : Arv Z h0 ba kb .byte 8 [(.int 0), (.int 0), (.int 0), (.int 0), (.int 0), (.int 0), (.int 0), (.int 0)] (.int 0)) :
    MetFree l (⟨"java/lang/StringUTF16", "compress", "([CI[BII)I"⟩ : MethodName) (head1 [Jvm.Cond.code (⟨"java/lang/StringUTF16", "compress", "([CI[BII)I"⟩ : MethodName) jdk_52_method_21_code 7 (some .int)] ({ frames := 0, cells := 0, slots := 0, locals := 0 } : Room)) (fun as_ U => as_ = #[(.ref ca), (.int 0), (.ref ba), (.int 0), (.int 8)] ∧ Z.Warmed39 U.vm ∧ U.heap = h0) (fun _ _ _ _ _ => True) (fun _ U o U' => ∃ v L, o = .returned v ∧ Q_rmCp_8 Z ba kb c0 c1 c2 c3 c4 c5 c6 c7 n0 h0 v U'.heap L ∧ FrameEnd U o U' L ({ frames := 0, cells := 0, slots := 0, locals := 0 } : Room).cells ({ frames := 0, cells := 0, slots := 0, locals := 0 } : Room).slots) := by
  refine own_met own_pf7 (ef_rmCp_8 ca ba) ?_
  intro p e s m below meth c T0 X0 hx hby hml hret hlk hnm hown hZ e0
  have N0 := Fr.nil n0
  refine g_iconst X0 hx (0 : Int32) 1 (hb hby d14_0) rfl (by decide) ?_
  refine g_istore (l' := #[.val (.ref ca), .val (.int (0 : Int32)), .val (.ref ba), .val (.int (0 : Int32)), .val (.int (8 : Int32)), .val (.int (0 : Int32)), .unset]) X0 hx 3 (hb hby d14_1) rfl rfl ?_
  refine g_iload X0 hx 5 (hb hby d14_3) rfl rfl ?_
  refine g_iload X0 hx 7 (hb hby d14_5) rfl rfl ?_
  have ll387 : ((8 : Int32) : Int32).toInt = 8 := by decide
  have ll388 : ((0 : Int32) : Int32).toInt = 0 := by decide
  refine g_ic_ge X0 hx 44 10 (hb hby d14_7) (by decide) (by decide) rfl (fun c386 => ?_) (fun c386 => ?_)
  · skip
    exfalso; revert c386; decide
  · skip
    refine g_aloadN X0 hx 11 (hb hby d14_10) rfl rfl rfl ?_
    refine g_iloadN X0 hx 12 (hb hby d14_11) rfl rfl ?_
    refine g_caload X0 hx hZ e0 Vc (by decide) (by decide) (by rw [show ((0 : Int32) : Int32).toNatClampNeg = 0 by decide] <;> rfl) 13 (hb hby d14_12) rfl ?_
    refine g_istore (l' := #[.val (.ref ca), .val (.int (0 : Int32)), .val (.ref ba), .val (.int (0 : Int32)), .val (.int (8 : Int32)), .val (.int (0 : Int32)), .val (.int c0)]) X0 hx 15 (hb hby d14_13) rfl rfl ?_
    refine g_iload X0 hx 17 (hb hby d14_15) rfl rfl ?_
    refine g_sipush X0 hx (255 : Int32) 20 (hb hby d14_17) rfl (by decide) ?_
    have ll390 : ((255 : Int32) : Int32).toInt = 255 := by decide
    refine g_ic_le X0 hx 26 23 (hb hby d14_20) (by decide) (by decide) rfl (fun c389 => ?_) (fun c389 => ?_)
    · skip
      refine g_aloadN X0 hx 27 (hb hby d14_26) rfl rfl rfl ?_
      refine g_iloadN X0 hx 28 (hb hby d14_27) rfl rfl ?_
      refine g_iload X0 hx 30 (hb hby d14_28) rfl rfl ?_
      refine g_i2b X0 hx 31 (hb hby d14_30) rfl ?_
      refine g_bastore X0 hx hZ e0 Vb 0 (by decide) (by decide) (by show 0 < 8; decide) (c0.toInt8.toInt32.toInt8.toInt32) rfl 32 (hb hby d14_31) rfl ?_
      intro T391 h391 X391 e391 W391 V391
      have F392 := Vc.other W391 ncb
      have K394 := (Keep.refl h0 [ba]).wr W391 (Or.inl (List.mem_of_getElem? (i := 0) rfl))
      have N395 := Fr.snoc X391 N0 gb
      have Z396 : n0 ≤ h391.size := by rw [W391.size]; exact Z0
      have V391' : Arv Z h391 ba kb .byte (8 : Int32) [(.int (c0.toInt8.toInt32.toInt8.toInt32)), (.int (0 : Int32)), (.int (0 : Int32)), (.int (0 : Int32)), (.int (0 : Int32)), (.int (0 : Int32)), (.int (0 : Int32)), (.int (0 : Int32))] (.int 0) := V391
      refine g_iincC X391 hx (w := (1 : Int32)) (1 : Int32) (by decide) (l' := #[.val (.ref ca), .val (.int (1 : Int32)), .val (.ref ba), .val (.int (0 : Int32)), .val (.int (8 : Int32)), .val (.int (0 : Int32)), .val (.int c0)]) 35 (hb hby d14_32) rfl rfl (by decide) rfl ?_
      refine g_iincC X391 hx (w := (1 : Int32)) (1 : Int32) (by decide) (l' := #[.val (.ref ca), .val (.int (1 : Int32)), .val (.ref ba), .val (.int (1 : Int32)), .val (.int (8 : Int32)), .val (.int (0 : Int32)), .val (.int c0)]) 38 (hb hby d14_35) rfl rfl (by decide) rfl ?_
      refine g_iincC X391 hx (w := (1 : Int32)) (1 : Int32) (by decide) (l' := #[.val (.ref ca), .val (.int (1 : Int32)), .val (.ref ba), .val (.int (1 : Int32)), .val (.int (8 : Int32)), .val (.int (1 : Int32)), .val (.int c0)]) 41 (hb hby d14_38) rfl rfl (by decide) rfl ?_
      refine g_goto X391 hx 3 (hb hby d14_41) (by decide) (by decide) ?_
      refine g_iload X391 hx 5 (hb hby d14_3) rfl rfl ?_
      refine g_iload X391 hx 7 (hb hby d14_5) rfl rfl ?_
      have ll398 : ((8 : Int32) : Int32).toInt = 8 := by decide
      have ll399 : ((1 : Int32) : Int32).toInt = 1 := by decide
      refine g_ic_ge X391 hx 44 10 (hb hby d14_7) (by decide) (by decide) rfl (fun c397 => ?_) (fun c397 => ?_)
      · skip
        exfalso; revert c397; decide
      · skip
        refine g_aloadN X391 hx 11 (hb hby d14_10) rfl rfl rfl ?_
        refine g_iloadN X391 hx 12 (hb hby d14_11) rfl rfl ?_
        refine g_caload X391 hx hZ e391 F392 (by decide) (by decide) (by rw [show ((1 : Int32) : Int32).toNatClampNeg = 1 by decide] <;> rfl) 13 (hb hby d14_12) rfl ?_
        refine g_istore (l' := #[.val (.ref ca), .val (.int (1 : Int32)), .val (.ref ba), .val (.int (1 : Int32)), .val (.int (8 : Int32)), .val (.int (1 : Int32)), .val (.int c1)]) X391 hx 15 (hb hby d14_13) rfl rfl ?_
        refine g_iload X391 hx 17 (hb hby d14_15) rfl rfl ?_
        refine g_sipush X391 hx (255 : Int32) 20 (hb hby d14_17) rfl (by decide) ?_
        have ll401 : ((255 : Int32) : Int32).toInt = 255 := by decide
        refine g_ic_le X391 hx 26 23 (hb hby d14_20) (by decide) (by decide) rfl (fun c400 => ?_) (fun c400 => ?_)
        · skip
          refine g_aloadN X391 hx 27 (hb hby d14_26) rfl rfl rfl ?_
          refine g_iloadN X391 hx 28 (hb hby d14_27) rfl rfl ?_
          refine g_iload X391 hx 30 (hb hby d14_28) rfl rfl ?_
          refine g_i2b X391 hx 31 (hb hby d14_30) rfl ?_
          refine g_bastore X391 hx hZ e391 V391' 1 (by decide) (by decide) (by show 1 < 8; decide) (c1.toInt8.toInt32.toInt8.toInt32) rfl 32 (hb hby d14_31) rfl ?_
          intro T402 h402 X402 e402 W402 V402
          have F403 := F392.other W402 ncb
          have K405 := K394.wr W402 (Or.inl (List.mem_of_getElem? (i := 0) rfl))
          have N406 := Fr.snoc X402 N395 gb
          have Z407 : n0 ≤ h402.size := by rw [W402.size]; exact Z396
          have V402' : Arv Z h402 ba kb .byte (8 : Int32) [(.int (c0.toInt8.toInt32.toInt8.toInt32)), (.int (c1.toInt8.toInt32.toInt8.toInt32)), (.int (0 : Int32)), (.int (0 : Int32)), (.int (0 : Int32)), (.int (0 : Int32)), (.int (0 : Int32)), (.int (0 : Int32))] (.int 0) := V402
          refine g_iincC X402 hx (w := (1 : Int32)) (2 : Int32) (by decide) (l' := #[.val (.ref ca), .val (.int (2 : Int32)), .val (.ref ba), .val (.int (1 : Int32)), .val (.int (8 : Int32)), .val (.int (1 : Int32)), .val (.int c1)]) 35 (hb hby d14_32) rfl rfl (by decide) rfl ?_
          refine g_iincC X402 hx (w := (1 : Int32)) (2 : Int32) (by decide) (l' := #[.val (.ref ca), .val (.int (2 : Int32)), .val (.ref ba), .val (.int (2 : Int32)), .val (.int (8 : Int32)), .val (.int (1 : Int32)), .val (.int c1)]) 38 (hb hby d14_35) rfl rfl (by decide) rfl ?_
          refine g_iincC X402 hx (w := (1 : Int32)) (2 : Int32) (by decide) (l' := #[.val (.ref ca), .val (.int (2 : Int32)), .val (.ref ba), .val (.int (2 : Int32)), .val (.int (8 : Int32)), .val (.int (2 : Int32)), .val (.int c1)]) 41 (hb hby d14_38) rfl rfl (by decide) rfl ?_
          refine g_goto X402 hx 3 (hb hby d14_41) (by decide) (by decide) ?_
          refine g_iload X402 hx 5 (hb hby d14_3) rfl rfl ?_
          refine g_iload X402 hx 7 (hb hby d14_5) rfl rfl ?_
          have ll409 : ((8 : Int32) : Int32).toInt = 8 := by decide
          have ll410 : ((2 : Int32) : Int32).toInt = 2 := by decide
          refine g_ic_ge X402 hx 44 10 (hb hby d14_7) (by decide) (by decide) rfl (fun c408 => ?_) (fun c408 => ?_)
          · skip
            exfalso; revert c408; decide
          · skip
            refine g_aloadN X402 hx 11 (hb hby d14_10) rfl rfl rfl ?_
            refine g_iloadN X402 hx 12 (hb hby d14_11) rfl rfl ?_
            refine g_caload X402 hx hZ e402 F403 (by decide) (by decide) (by rw [show ((2 : Int32) : Int32).toNatClampNeg = 2 by decide] <;> rfl) 13 (hb hby d14_12) rfl ?_
            refine g_istore (l' := #[.val (.ref ca), .val (.int (2 : Int32)), .val (.ref ba), .val (.int (2 : Int32)), .val (.int (8 : Int32)), .val (.int (2 : Int32)), .val (.int c2)]) X402 hx 15 (hb hby d14_13) rfl rfl ?_
            refine g_iload X402 hx 17 (hb hby d14_15) rfl rfl ?_
            refine g_sipush X402 hx (255 : Int32) 20 (hb hby d14_17) rfl (by decide) ?_
            have ll412 : ((255 : Int32) : Int32).toInt = 255 := by decide
            refine g_ic_le X402 hx 26 23 (hb hby d14_20) (by decide) (by decide) rfl (fun c411 => ?_) (fun c411 => ?_)
            · skip
              refine g_aloadN X402 hx 27 (hb hby d14_26) rfl rfl rfl ?_
              refine g_iloadN X402 hx 28 (hb hby d14_27) rfl rfl ?_
              refine g_iload X402 hx 30 (hb hby d14_28) rfl rfl ?_
              refine g_i2b X402 hx 31 (hb hby d14_30) rfl ?_
              refine g_bastore X402 hx hZ e402 V402' 2 (by decide) (by decide) (by show 2 < 8; decide) (c2.toInt8.toInt32.toInt8.toInt32) rfl 32 (hb hby d14_31) rfl ?_
              intro T413 h413 X413 e413 W413 V413
              have F414 := F403.other W413 ncb
              have K416 := K405.wr W413 (Or.inl (List.mem_of_getElem? (i := 0) rfl))
              have N417 := Fr.snoc X413 N406 gb
              have Z418 : n0 ≤ h413.size := by rw [W413.size]; exact Z407
              have V413' : Arv Z h413 ba kb .byte (8 : Int32) [(.int (c0.toInt8.toInt32.toInt8.toInt32)), (.int (c1.toInt8.toInt32.toInt8.toInt32)), (.int (c2.toInt8.toInt32.toInt8.toInt32)), (.int (0 : Int32)), (.int (0 : Int32)), (.int (0 : Int32)), (.int (0 : Int32)), (.int (0 : Int32))] (.int 0) := V413
              refine g_iincC X413 hx (w := (1 : Int32)) (3 : Int32) (by decide) (l' := #[.val (.ref ca), .val (.int (3 : Int32)), .val (.ref ba), .val (.int (2 : Int32)), .val (.int (8 : Int32)), .val (.int (2 : Int32)), .val (.int c2)]) 35 (hb hby d14_32) rfl rfl (by decide) rfl ?_
              refine g_iincC X413 hx (w := (1 : Int32)) (3 : Int32) (by decide) (l' := #[.val (.ref ca), .val (.int (3 : Int32)), .val (.ref ba), .val (.int (3 : Int32)), .val (.int (8 : Int32)), .val (.int (2 : Int32)), .val (.int c2)]) 38 (hb hby d14_35) rfl rfl (by decide) rfl ?_
              refine g_iincC X413 hx (w := (1 : Int32)) (3 : Int32) (by decide) (l' := #[.val (.ref ca), .val (.int (3 : Int32)), .val (.ref ba), .val (.int (3 : Int32)), .val (.int (8 : Int32)), .val (.int (3 : Int32)), .val (.int c2)]) 41 (hb hby d14_38) rfl rfl (by decide) rfl ?_
              refine g_goto X413 hx 3 (hb hby d14_41) (by decide) (by decide) ?_
              refine g_iload X413 hx 5 (hb hby d14_3) rfl rfl ?_
              refine g_iload X413 hx 7 (hb hby d14_5) rfl rfl ?_
              have ll420 : ((8 : Int32) : Int32).toInt = 8 := by decide
              have ll421 : ((3 : Int32) : Int32).toInt = 3 := by decide
              refine g_ic_ge X413 hx 44 10 (hb hby d14_7) (by decide) (by decide) rfl (fun c419 => ?_) (fun c419 => ?_)
              · skip
                exfalso; revert c419; decide
              · skip
                refine g_aloadN X413 hx 11 (hb hby d14_10) rfl rfl rfl ?_
                refine g_iloadN X413 hx 12 (hb hby d14_11) rfl rfl ?_
                refine g_caload X413 hx hZ e413 F414 (by decide) (by decide) (by rw [show ((3 : Int32) : Int32).toNatClampNeg = 3 by decide] <;> rfl) 13 (hb hby d14_12) rfl ?_
                refine g_istore (l' := #[.val (.ref ca), .val (.int (3 : Int32)), .val (.ref ba), .val (.int (3 : Int32)), .val (.int (8 : Int32)), .val (.int (3 : Int32)), .val (.int c3)]) X413 hx 15 (hb hby d14_13) rfl rfl ?_
                refine g_iload X413 hx 17 (hb hby d14_15) rfl rfl ?_
                refine g_sipush X413 hx (255 : Int32) 20 (hb hby d14_17) rfl (by decide) ?_
                have ll423 : ((255 : Int32) : Int32).toInt = 255 := by decide
                refine g_ic_le X413 hx 26 23 (hb hby d14_20) (by decide) (by decide) rfl (fun c422 => ?_) (fun c422 => ?_)
                · skip
                  refine g_aloadN X413 hx 27 (hb hby d14_26) rfl rfl rfl ?_
                  refine g_iloadN X413 hx 28 (hb hby d14_27) rfl rfl ?_
                  refine g_iload X413 hx 30 (hb hby d14_28) rfl rfl ?_
                  refine g_i2b X413 hx 31 (hb hby d14_30) rfl ?_
                  refine g_bastore X413 hx hZ e413 V413' 3 (by decide) (by decide) (by show 3 < 8; decide) (c3.toInt8.toInt32.toInt8.toInt32) rfl 32 (hb hby d14_31) rfl ?_
                  intro T424 h424 X424 e424 W424 V424
                  have F425 := F414.other W424 ncb
                  have K427 := K416.wr W424 (Or.inl (List.mem_of_getElem? (i := 0) rfl))
                  have N428 := Fr.snoc X424 N417 gb
                  have Z429 : n0 ≤ h424.size := by rw [W424.size]; exact Z418
                  have V424' : Arv Z h424 ba kb .byte (8 : Int32) [(.int (c0.toInt8.toInt32.toInt8.toInt32)), (.int (c1.toInt8.toInt32.toInt8.toInt32)), (.int (c2.toInt8.toInt32.toInt8.toInt32)), (.int (c3.toInt8.toInt32.toInt8.toInt32)), (.int (0 : Int32)), (.int (0 : Int32)), (.int (0 : Int32)), (.int (0 : Int32))] (.int 0) := V424
                  refine g_iincC X424 hx (w := (1 : Int32)) (4 : Int32) (by decide) (l' := #[.val (.ref ca), .val (.int (4 : Int32)), .val (.ref ba), .val (.int (3 : Int32)), .val (.int (8 : Int32)), .val (.int (3 : Int32)), .val (.int c3)]) 35 (hb hby d14_32) rfl rfl (by decide) rfl ?_
                  refine g_iincC X424 hx (w := (1 : Int32)) (4 : Int32) (by decide) (l' := #[.val (.ref ca), .val (.int (4 : Int32)), .val (.ref ba), .val (.int (4 : Int32)), .val (.int (8 : Int32)), .val (.int (3 : Int32)), .val (.int c3)]) 38 (hb hby d14_35) rfl rfl (by decide) rfl ?_
                  refine g_iincC X424 hx (w := (1 : Int32)) (4 : Int32) (by decide) (l' := #[.val (.ref ca), .val (.int (4 : Int32)), .val (.ref ba), .val (.int (4 : Int32)), .val (.int (8 : Int32)), .val (.int (4 : Int32)), .val (.int c3)]) 41 (hb hby d14_38) rfl rfl (by decide) rfl ?_
                  refine g_goto X424 hx 3 (hb hby d14_41) (by decide) (by decide) ?_
                  refine g_iload X424 hx 5 (hb hby d14_3) rfl rfl ?_
                  refine g_iload X424 hx 7 (hb hby d14_5) rfl rfl ?_
                  have ll431 : ((8 : Int32) : Int32).toInt = 8 := by decide
                  have ll432 : ((4 : Int32) : Int32).toInt = 4 := by decide
                  refine g_ic_ge X424 hx 44 10 (hb hby d14_7) (by decide) (by decide) rfl (fun c430 => ?_) (fun c430 => ?_)
                  · skip
                    exfalso; revert c430; decide
                  · skip
                    refine g_aloadN X424 hx 11 (hb hby d14_10) rfl rfl rfl ?_
                    refine g_iloadN X424 hx 12 (hb hby d14_11) rfl rfl ?_
                    refine g_caload X424 hx hZ e424 F425 (by decide) (by decide) (by rw [show ((4 : Int32) : Int32).toNatClampNeg = 4 by decide] <;> rfl) 13 (hb hby d14_12) rfl ?_
                    refine g_istore (l' := #[.val (.ref ca), .val (.int (4 : Int32)), .val (.ref ba), .val (.int (4 : Int32)), .val (.int (8 : Int32)), .val (.int (4 : Int32)), .val (.int c4)]) X424 hx 15 (hb hby d14_13) rfl rfl ?_
                    refine g_iload X424 hx 17 (hb hby d14_15) rfl rfl ?_
                    refine g_sipush X424 hx (255 : Int32) 20 (hb hby d14_17) rfl (by decide) ?_
                    have ll434 : ((255 : Int32) : Int32).toInt = 255 := by decide
                    refine g_ic_le X424 hx 26 23 (hb hby d14_20) (by decide) (by decide) rfl (fun c433 => ?_) (fun c433 => ?_)
                    · skip
                      refine g_aloadN X424 hx 27 (hb hby d14_26) rfl rfl rfl ?_
                      refine g_iloadN X424 hx 28 (hb hby d14_27) rfl rfl ?_
                      refine g_iload X424 hx 30 (hb hby d14_28) rfl rfl ?_
                      refine g_i2b X424 hx 31 (hb hby d14_30) rfl ?_
                      refine g_bastore X424 hx hZ e424 V424' 4 (by decide) (by decide) (by show 4 < 8; decide) (c4.toInt8.toInt32.toInt8.toInt32) rfl 32 (hb hby d14_31) rfl ?_
                      intro T435 h435 X435 e435 W435 V435
                      have F436 := F425.other W435 ncb
                      have K438 := K427.wr W435 (Or.inl (List.mem_of_getElem? (i := 0) rfl))
                      have N439 := Fr.snoc X435 N428 gb
                      have Z440 : n0 ≤ h435.size := by rw [W435.size]; exact Z429
                      have V435' : Arv Z h435 ba kb .byte (8 : Int32) [(.int (c0.toInt8.toInt32.toInt8.toInt32)), (.int (c1.toInt8.toInt32.toInt8.toInt32)), (.int (c2.toInt8.toInt32.toInt8.toInt32)), (.int (c3.toInt8.toInt32.toInt8.toInt32)), (.int (c4.toInt8.toInt32.toInt8.toInt32)), (.int (0 : Int32)), (.int (0 : Int32)), (.int (0 : Int32))] (.int 0) := V435
                      refine g_iincC X435 hx (w := (1 : Int32)) (5 : Int32) (by decide) (l' := #[.val (.ref ca), .val (.int (5 : Int32)), .val (.ref ba), .val (.int (4 : Int32)), .val (.int (8 : Int32)), .val (.int (4 : Int32)), .val (.int c4)]) 35 (hb hby d14_32) rfl rfl (by decide) rfl ?_
                      refine g_iincC X435 hx (w := (1 : Int32)) (5 : Int32) (by decide) (l' := #[.val (.ref ca), .val (.int (5 : Int32)), .val (.ref ba), .val (.int (5 : Int32)), .val (.int (8 : Int32)), .val (.int (4 : Int32)), .val (.int c4)]) 38 (hb hby d14_35) rfl rfl (by decide) rfl ?_
                      refine g_iincC X435 hx (w := (1 : Int32)) (5 : Int32) (by decide) (l' := #[.val (.ref ca), .val (.int (5 : Int32)), .val (.ref ba), .val (.int (5 : Int32)), .val (.int (8 : Int32)), .val (.int (5 : Int32)), .val (.int c4)]) 41 (hb hby d14_38) rfl rfl (by decide) rfl ?_
                      refine g_goto X435 hx 3 (hb hby d14_41) (by decide) (by decide) ?_
                      refine g_iload X435 hx 5 (hb hby d14_3) rfl rfl ?_
                      refine g_iload X435 hx 7 (hb hby d14_5) rfl rfl ?_
                      have ll442 : ((8 : Int32) : Int32).toInt = 8 := by decide
                      have ll443 : ((5 : Int32) : Int32).toInt = 5 := by decide
                      refine g_ic_ge X435 hx 44 10 (hb hby d14_7) (by decide) (by decide) rfl (fun c441 => ?_) (fun c441 => ?_)
                      · skip
                        exfalso; revert c441; decide
                      · skip
                        refine g_aloadN X435 hx 11 (hb hby d14_10) rfl rfl rfl ?_
                        refine g_iloadN X435 hx 12 (hb hby d14_11) rfl rfl ?_
                        refine g_caload X435 hx hZ e435 F436 (by decide) (by decide) (by rw [show ((5 : Int32) : Int32).toNatClampNeg = 5 by decide] <;> rfl) 13 (hb hby d14_12) rfl ?_
                        refine g_istore (l' := #[.val (.ref ca), .val (.int (5 : Int32)), .val (.ref ba), .val (.int (5 : Int32)), .val (.int (8 : Int32)), .val (.int (5 : Int32)), .val (.int c5)]) X435 hx 15 (hb hby d14_13) rfl rfl ?_
                        refine g_iload X435 hx 17 (hb hby d14_15) rfl rfl ?_
                        refine g_sipush X435 hx (255 : Int32) 20 (hb hby d14_17) rfl (by decide) ?_
                        have ll445 : ((255 : Int32) : Int32).toInt = 255 := by decide
                        refine g_ic_le X435 hx 26 23 (hb hby d14_20) (by decide) (by decide) rfl (fun c444 => ?_) (fun c444 => ?_)
                        · skip
                          refine g_aloadN X435 hx 27 (hb hby d14_26) rfl rfl rfl ?_
                          refine g_iloadN X435 hx 28 (hb hby d14_27) rfl rfl ?_
                          refine g_iload X435 hx 30 (hb hby d14_28) rfl rfl ?_
                          refine g_i2b X435 hx 31 (hb hby d14_30) rfl ?_
                          refine g_bastore X435 hx hZ e435 V435' 5 (by decide) (by decide) (by show 5 < 8; decide) (c5.toInt8.toInt32.toInt8.toInt32) rfl 32 (hb hby d14_31) rfl ?_
                          intro T446 h446 X446 e446 W446 V446
                          have F447 := F436.other W446 ncb
                          have K449 := K438.wr W446 (Or.inl (List.mem_of_getElem? (i := 0) rfl))
                          have N450 := Fr.snoc X446 N439 gb
                          have Z451 : n0 ≤ h446.size := by rw [W446.size]; exact Z440
                          have V446' : Arv Z h446 ba kb .byte (8 : Int32) [(.int (c0.toInt8.toInt32.toInt8.toInt32)), (.int (c1.toInt8.toInt32.toInt8.toInt32)), (.int (c2.toInt8.toInt32.toInt8.toInt32)), (.int (c3.toInt8.toInt32.toInt8.toInt32)), (.int (c4.toInt8.toInt32.toInt8.toInt32)), (.int (c5.toInt8.toInt32.toInt8.toInt32)), (.int (0 : Int32)), (.int (0 : Int32))] (.int 0) := V446
                          refine g_iincC X446 hx (w := (1 : Int32)) (6 : Int32) (by decide) (l' := #[.val (.ref ca), .val (.int (6 : Int32)), .val (.ref ba), .val (.int (5 : Int32)), .val (.int (8 : Int32)), .val (.int (5 : Int32)), .val (.int c5)]) 35 (hb hby d14_32) rfl rfl (by decide) rfl ?_
                          refine g_iincC X446 hx (w := (1 : Int32)) (6 : Int32) (by decide) (l' := #[.val (.ref ca), .val (.int (6 : Int32)), .val (.ref ba), .val (.int (6 : Int32)), .val (.int (8 : Int32)), .val (.int (5 : Int32)), .val (.int c5)]) 38 (hb hby d14_35) rfl rfl (by decide) rfl ?_
                          refine g_iincC X446 hx (w := (1 : Int32)) (6 : Int32) (by decide) (l' := #[.val (.ref ca), .val (.int (6 : Int32)), .val (.ref ba), .val (.int (6 : Int32)), .val (.int (8 : Int32)), .val (.int (6 : Int32)), .val (.int c5)]) 41 (hb hby d14_38) rfl rfl (by decide) rfl ?_
                          refine g_goto X446 hx 3 (hb hby d14_41) (by decide) (by decide) ?_
                          refine g_iload X446 hx 5 (hb hby d14_3) rfl rfl ?_
                          refine g_iload X446 hx 7 (hb hby d14_5) rfl rfl ?_
                          have ll453 : ((8 : Int32) : Int32).toInt = 8 := by decide
                          have ll454 : ((6 : Int32) : Int32).toInt = 6 := by decide
                          refine g_ic_ge X446 hx 44 10 (hb hby d14_7) (by decide) (by decide) rfl (fun c452 => ?_) (fun c452 => ?_)
                          · skip
                            exfalso; revert c452; decide
                          · skip
                            refine g_aloadN X446 hx 11 (hb hby d14_10) rfl rfl rfl ?_
                            refine g_iloadN X446 hx 12 (hb hby d14_11) rfl rfl ?_
                            refine g_caload X446 hx hZ e446 F447 (by decide) (by decide) (by rw [show ((6 : Int32) : Int32).toNatClampNeg = 6 by decide] <;> rfl) 13 (hb hby d14_12) rfl ?_
                            refine g_istore (l' := #[.val (.ref ca), .val (.int (6 : Int32)), .val (.ref ba), .val (.int (6 : Int32)), .val (.int (8 : Int32)), .val (.int (6 : Int32)), .val (.int c6)]) X446 hx 15 (hb hby d14_13) rfl rfl ?_
                            refine g_iload X446 hx 17 (hb hby d14_15) rfl rfl ?_
                            refine g_sipush X446 hx (255 : Int32) 20 (hb hby d14_17) rfl (by decide) ?_
                            have ll456 : ((255 : Int32) : Int32).toInt = 255 := by decide
                            refine g_ic_le X446 hx 26 23 (hb hby d14_20) (by decide) (by decide) rfl (fun c455 => ?_) (fun c455 => ?_)
                            · skip
                              refine g_aloadN X446 hx 27 (hb hby d14_26) rfl rfl rfl ?_
                              refine g_iloadN X446 hx 28 (hb hby d14_27) rfl rfl ?_
                              refine g_iload X446 hx 30 (hb hby d14_28) rfl rfl ?_
                              refine g_i2b X446 hx 31 (hb hby d14_30) rfl ?_
                              refine g_bastore X446 hx hZ e446 V446' 6 (by decide) (by decide) (by show 6 < 8; decide) (c6.toInt8.toInt32.toInt8.toInt32) rfl 32 (hb hby d14_31) rfl ?_
                              intro T457 h457 X457 e457 W457 V457
                              have F458 := F447.other W457 ncb
                              have K460 := K449.wr W457 (Or.inl (List.mem_of_getElem? (i := 0) rfl))
                              have N461 := Fr.snoc X457 N450 gb
                              have Z462 : n0 ≤ h457.size := by rw [W457.size]; exact Z451
                              have V457' : Arv Z h457 ba kb .byte (8 : Int32) [(.int (c0.toInt8.toInt32.toInt8.toInt32)), (.int (c1.toInt8.toInt32.toInt8.toInt32)), (.int (c2.toInt8.toInt32.toInt8.toInt32)), (.int (c3.toInt8.toInt32.toInt8.toInt32)), (.int (c4.toInt8.toInt32.toInt8.toInt32)), (.int (c5.toInt8.toInt32.toInt8.toInt32)), (.int (c6.toInt8.toInt32.toInt8.toInt32)), (.int (0 : Int32))] (.int 0) := V457
                              refine g_iincC X457 hx (w := (1 : Int32)) (7 : Int32) (by decide) (l' := #[.val (.ref ca), .val (.int (7 : Int32)), .val (.ref ba), .val (.int (6 : Int32)), .val (.int (8 : Int32)), .val (.int (6 : Int32)), .val (.int c6)]) 35 (hb hby d14_32) rfl rfl (by decide) rfl ?_
                              refine g_iincC X457 hx (w := (1 : Int32)) (7 : Int32) (by decide) (l' := #[.val (.ref ca), .val (.int (7 : Int32)), .val (.ref ba), .val (.int (7 : Int32)), .val (.int (8 : Int32)), .val (.int (6 : Int32)), .val (.int c6)]) 38 (hb hby d14_35) rfl rfl (by decide) rfl ?_
                              refine g_iincC X457 hx (w := (1 : Int32)) (7 : Int32) (by decide) (l' := #[.val (.ref ca), .val (.int (7 : Int32)), .val (.ref ba), .val (.int (7 : Int32)), .val (.int (8 : Int32)), .val (.int (7 : Int32)), .val (.int c6)]) 41 (hb hby d14_38) rfl rfl (by decide) rfl ?_
                              refine g_goto X457 hx 3 (hb hby d14_41) (by decide) (by decide) ?_
                              refine g_iload X457 hx 5 (hb hby d14_3) rfl rfl ?_
                              refine g_iload X457 hx 7 (hb hby d14_5) rfl rfl ?_
                              have ll464 : ((8 : Int32) : Int32).toInt = 8 := by decide
                              have ll465 : ((7 : Int32) : Int32).toInt = 7 := by decide
                              refine g_ic_ge X457 hx 44 10 (hb hby d14_7) (by decide) (by decide) rfl (fun c463 => ?_) (fun c463 => ?_)
                              · skip
                                exfalso; revert c463; decide
                              · skip
                                refine g_aloadN X457 hx 11 (hb hby d14_10) rfl rfl rfl ?_
                                refine g_iloadN X457 hx 12 (hb hby d14_11) rfl rfl ?_
                                refine g_caload X457 hx hZ e457 F458 (by decide) (by decide) (by rw [show ((7 : Int32) : Int32).toNatClampNeg = 7 by decide] <;> rfl) 13 (hb hby d14_12) rfl ?_
                                refine g_istore (l' := #[.val (.ref ca), .val (.int (7 : Int32)), .val (.ref ba), .val (.int (7 : Int32)), .val (.int (8 : Int32)), .val (.int (7 : Int32)), .val (.int c7)]) X457 hx 15 (hb hby d14_13) rfl rfl ?_
                                refine g_iload X457 hx 17 (hb hby d14_15) rfl rfl ?_
                                refine g_sipush X457 hx (255 : Int32) 20 (hb hby d14_17) rfl (by decide) ?_
                                have ll467 : ((255 : Int32) : Int32).toInt = 255 := by decide
                                refine g_ic_le X457 hx 26 23 (hb hby d14_20) (by decide) (by decide) rfl (fun c466 => ?_) (fun c466 => ?_)
                                · skip
                                  refine g_aloadN X457 hx 27 (hb hby d14_26) rfl rfl rfl ?_
                                  refine g_iloadN X457 hx 28 (hb hby d14_27) rfl rfl ?_
                                  refine g_iload X457 hx 30 (hb hby d14_28) rfl rfl ?_
                                  refine g_i2b X457 hx 31 (hb hby d14_30) rfl ?_
                                  refine g_bastore X457 hx hZ e457 V457' 7 (by decide) (by decide) (by show 7 < 8; decide) (c7.toInt8.toInt32.toInt8.toInt32) rfl 32 (hb hby d14_31) rfl ?_
                                  intro T468 h468 X468 e468 W468 V468
                                  have F469 := F458.other W468 ncb
                                  have K471 := K460.wr W468 (Or.inl (List.mem_of_getElem? (i := 0) rfl))
                                  have N472 := Fr.snoc X468 N461 gb
                                  have Z473 : n0 ≤ h468.size := by rw [W468.size]; exact Z462
                                  have V468' : Arv Z h468 ba kb .byte (8 : Int32) [(.int (c0.toInt8.toInt32.toInt8.toInt32)), (.int (c1.toInt8.toInt32.toInt8.toInt32)), (.int (c2.toInt8.toInt32.toInt8.toInt32)), (.int (c3.toInt8.toInt32.toInt8.toInt32)), (.int (c4.toInt8.toInt32.toInt8.toInt32)), (.int (c5.toInt8.toInt32.toInt8.toInt32)), (.int (c6.toInt8.toInt32.toInt8.toInt32)), (.int (c7.toInt8.toInt32.toInt8.toInt32))] (.int 0) := V468
                                  refine g_iincC X468 hx (w := (1 : Int32)) (8 : Int32) (by decide) (l' := #[.val (.ref ca), .val (.int (8 : Int32)), .val (.ref ba), .val (.int (7 : Int32)), .val (.int (8 : Int32)), .val (.int (7 : Int32)), .val (.int c7)]) 35 (hb hby d14_32) rfl rfl (by decide) rfl ?_
                                  refine g_iincC X468 hx (w := (1 : Int32)) (8 : Int32) (by decide) (l' := #[.val (.ref ca), .val (.int (8 : Int32)), .val (.ref ba), .val (.int (8 : Int32)), .val (.int (8 : Int32)), .val (.int (7 : Int32)), .val (.int c7)]) 38 (hb hby d14_35) rfl rfl (by decide) rfl ?_
                                  refine g_iincC X468 hx (w := (1 : Int32)) (8 : Int32) (by decide) (l' := #[.val (.ref ca), .val (.int (8 : Int32)), .val (.ref ba), .val (.int (8 : Int32)), .val (.int (8 : Int32)), .val (.int (8 : Int32)), .val (.int c7)]) 41 (hb hby d14_38) rfl rfl (by decide) rfl ?_
                                  refine g_goto X468 hx 3 (hb hby d14_41) (by decide) (by decide) ?_
                                  refine g_iload X468 hx 5 (hb hby d14_3) rfl rfl ?_
                                  refine g_iload X468 hx 7 (hb hby d14_5) rfl rfl ?_
                                  have ll475 : ((8 : Int32) : Int32).toInt = 8 := by decide
                                  have ll476 : ((8 : Int32) : Int32).toInt = 8 := by decide
                                  refine g_ic_ge X468 hx 44 10 (hb hby d14_7) (by decide) (by decide) rfl (fun c474 => ?_) (fun c474 => ?_)
                                  · skip
                                    refine g_iload X468 hx 46 (hb hby d14_44) rfl rfl ?_
                                    exact g_retI X468 hx hlk hret (hb hby d14_46) (by decide) (by decide) e468 ⟨rfl, N472, K471, V468'⟩
                                  · skip
                                    exfalso; revert c474; decide
                                · skip
                                  exfalso; omega
                            · skip
                              exfalso; omega
                        · skip
                          exfalso; omega
                    · skip
                      exfalso; omega
                · skip
                  exfalso; omega
            · skip
              exfalso; omega
        · skip
          exfalso; omega
    · skip
      exfalso; omega
def Q_rmC3_8 (Z : State) (c0 c1 c2 c3 c4 c5 c6 c7 : Int32) (n0 : Nat) (h0 : Heap) (v : Option Value) (h : Heap) (L : List Loc) : Prop := ∃ (b : Addr) (kb : ClassId), v = some (.ref b) ∧ Fr n0 L ∧ Keep h0 h [] ∧ n0 ≤ b ∧ h0.size ≤ b ∧ Arv Z h b kb .byte 8 [(.int (c0.toInt8.toInt32.toInt8.toInt32)), (.int (c1.toInt8.toInt32.toInt8.toInt32)), (.int (c2.toInt8.toInt32.toInt8.toInt32)), (.int (c3.toInt8.toInt32.toInt8.toInt32)), (.int (c4.toInt8.toInt32.toInt8.toInt32)), (.int (c5.toInt8.toInt32.toInt8.toInt32)), (.int (c6.toInt8.toInt32.toInt8.toInt32)), (.int (c7.toInt8.toInt32.toInt8.toInt32))] (.int 0)
theorem ef_rmC3_8 (ca : Addr) (m : MethodId) : entryFrame m #[(.ref ca), (.int 0), (.int 8)] 6 = mkF m 0 #[.val (.ref ca), .val (.int 0), .val (.int 8), .unset, .unset, .unset] [] := by first | (simp [entryFrame, mkF, argsToLocals, Value.category]; done) | rfl
theorem rmC3_8 (l : Launch) (Z : State) (a0 : Array Value) (hw : ∀ d ∈ tables_1, d.before a0 Z = true) (ca : Addr) (h0 : Heap) (n0 : Nat) (Z0 : n0 ≤ h0.size) (kc : ClassId) (c0 c1 c2 c3 c4 c5 c6 c7 : Int32) (bc0 : 0 ≤ c0.toInt ∧ c0.toInt ≤ 255) (bc1 : 0 ≤ c1.toInt ∧ c1.toInt ≤ 255) (bc2 : 0 ≤ c2.toInt ∧ c2.toInt ≤ 255) (bc3 : 0 ≤ c3.toInt ∧ c3.toInt ≤ 255) (bc4 : 0 ≤ c4.toInt ∧ c4.toInt ≤ 255) (bc5 : 0 ≤ c5.toInt ∧ c5.toInt ≤ 255) (bc6 : 0 ≤ c6.toInt ∧ c6.toInt ≤ 255) (bc7 : 0 ≤ c7.toInt ∧ c7.toInt ≤ 255) (Vc : Arv Z h0 ca kc .char 8 [(.int c0), (.int c1), (.int c2), (.int c3), (.int c4), (.int c5), (.int c6), (.int c7)] (.int 0)) :
    MetFree l (⟨"java/lang/StringUTF16", "compress", "([CII)[B"⟩ : MethodName) (head1 [Jvm.Cond.code (⟨"java/lang/StringUTF16", "compress", "([CII)[B"⟩ : MethodName) jdk_52_method_16_code 6 (some (.array .byte))] ({ frames := 1, cells := 1, slots := 8, locals := 20 } : Room)) (fun as_ U => as_ = #[(.ref ca), (.int 0), (.int 8)] ∧ Z.Warmed39 U.vm ∧ U.heap = h0) (fun _ _ _ _ _ => True) (fun _ U o U' => ∃ v L, o = .returned v ∧ Q_rmC3_8 Z c0 c1 c2 c3 c4 c5 c6 c7 n0 h0 v U'.heap L ∧ FrameEnd U o U' L ({ frames := 1, cells := 1, slots := 8, locals := 20 } : Room).cells ({ frames := 1, cells := 1, slots := 8, locals := 20 } : Room).slots) := by
  refine own_met own_pf8 (ef_rmC3_8 ca) ?_
  intro p e s m below meth c T0 X0 hx hby hml hret hlk hnm hown hZ e0
  have N0 := Fr.nil n0
  refine g_iloadN X0 hx 1 (hb hby d13_0) rfl rfl ?_
  refine g_newP X0 hx hZ (aty := .byte) (hw _ (List.mem_of_getElem? (i := 3) rfl)) e0 (by decide) (cap := 8) (by decide) (by decide) 3 (hb hby d13_1) rfl (by decide) (by decide) (ad := "[B") (by decide) ?_
  intro T477 h477 k477 a477 g477 X477 e477 E477 V477 A477
  have ne478 : ca ≠ a477 := Nat.ne_of_lt (by rw [g477]; exact Vc.lt)
  have ge479 : n0 ≤ a477 := by rw [g477]; exact Z0
  have sz480 : h0.size ≤ a477 := by rw [g477]; exact (Keep.refl h0 []).1
  have F481 := Vc.ext E477
  have K482 := (Keep.refl h0 []).ext E477
  have Z483 : n0 ≤ h477.size := Nat.le_trans Z0 E477.1
  have V477' : Arv Z h477 a477 k477 .byte (8 : Int32) [(.int (0 : Int32)), (.int (0 : Int32)), (.int (0 : Int32)), (.int (0 : Int32)), (.int (0 : Int32)), (.int (0 : Int32)), (.int (0 : Int32)), (.int (0 : Int32))] (.int (0 : Int32)) := V477.pad (pad_rep [] (.int (0 : Int32)) 8)
  refine g_astoreN (l' := #[.val (.ref ca), .val (.int (0 : Int32)), .val (.int (8 : Int32)), .val (.ref a477), .unset, .unset]) X477 hx 4 (hb hby d13_3) rfl rfl rfl ?_
  refine g_aloadN X477 hx 5 (hb hby d13_4) rfl rfl rfl ?_
  refine g_iloadN X477 hx 6 (hb hby d13_5) rfl rfl ?_
  refine g_aloadN X477 hx 7 (hb hby d13_6) rfl rfl rfl ?_
  refine g_iconst X477 hx (0 : Int32) 8 (hb hby d13_7) rfl (by decide) ?_
  refine g_iloadN X477 hx 9 (hb hby d13_8) rfl rfl ?_
  refine g_static X477 hx hZ hown (hw _ (List.mem_of_getElem? (i := 67) rfl)) (hw _ (List.mem_of_getElem? (i := 68) rfl)) (hw _ (List.mem_of_getElem? (i := 65) rfl)) (hw _ (List.mem_of_getElem? (i := 69) rfl)) (by decide) (rmCp_8 l Z a0 hw ca a477 h477 n0 Z483 kc k477 c0 c1 c2 c3 c4 c5 c6 c7 bc0 bc1 bc2 bc3 bc4 bc5 bc6 bc7 ne478 ge479 F481 V477') e477 (argsL := [(.ref ca), (.int (0 : Int32)), (.ref a477), (.int (0 : Int32)), (.int (8 : Int32))]) (rest := []) rfl rfl 0 12 rfl (by rw [hml]; rfl) (lenOf own_pd13 rfl) (Nat.le_refl _) (by decide) (by decide) (by decide) (by decide) (hb hby d13_9) ?_
  intro v484 T484 L484 X484 hQ484
  obtain ⟨rfl, N484, K484, V484⟩ := hQ484
  have N485 := Fr.app N0 N484
  have F486 := F481.keep K484 (ninS ne478 nin0)
  have F487 := A477.keep K484
  have Z489 : n0 ≤ T484.heap.size := Nat.le_trans Z483 K484.1
  have K490 := K482.trans K484 (allS (Or.inr sz480) all0)
  show Go p e below _ T484 (mkF m 12 #[.val (.ref ca), .val (.int (0 : Int32)), .val (.int (8 : Int32)), .val (.ref a477), .unset, .unset] [(.int (8 : Int32))])
  refine g_istore (l' := #[.val (.ref ca), .val (.int (0 : Int32)), .val (.int (8 : Int32)), .val (.ref a477), .val (.int (8 : Int32)), .unset]) X484 hx 14 (hb hby d13_12) rfl rfl ?_
  refine g_iload X484 hx 16 (hb hby d13_14) rfl rfl ?_
  refine g_iloadN X484 hx 17 (hb hby d13_16) rfl rfl ?_
  have ll492 : ((8 : Int32) : Int32).toInt = 8 := by decide
  have ll493 : ((8 : Int32) : Int32).toInt = 8 := by decide
  refine g_ic_eq X484 hx 57 20 (hb hby d13_17) (by decide) (by decide) rfl (fun c491 => ?_) (fun c491 => ?_)
  · skip
    refine g_aloadN X484 hx 58 (hb hby d13_57) rfl rfl rfl ?_
    exact g_retA X484 hx hlk hret rfl rfl rfl (hb hby d13_58) (by decide) (by decide) rfl ⟨a477, k477, rfl, N485, K490, ge479, sz480, V484⟩
  · skip
    exfalso; revert c491; decide
def Q_rmCF_8 (n0 : Nat) (h0 : Heap) (v : Option Value) (h : Heap) (L : List Loc) : Prop := v = some (.int 0) ∧ Fr n0 L ∧ h = h0
theorem ef_rmCF_8 (b : Addr) (m : MethodId) : entryFrame m #[(.ref b), (.int 8)] 2 = mkF m 0 #[.val (.ref b), .val (.int 8)] [] := by first | (simp [entryFrame, mkF, argsToLocals, Value.category]; done) | rfl
theorem rmCF_8 (l : Launch) (Z : State) (a0 : Array Value) (hw : ∀ d ∈ tables_1, d.before a0 Z = true) (b : Addr) (h0 : Heap) (n0 : Nat) (Z0 : n0 ≤ h0.size) (kb : ClassId) (vs : List Value) (V : Arv Z h0 b kb .byte 8 vs (.int 0)) :
    MetFree l (⟨"java/lang/StringUTF16", "coderFromArrayLen", "([BI)B"⟩ : MethodName) (head1 [Jvm.Cond.code (⟨"java/lang/StringUTF16", "coderFromArrayLen", "([BI)B"⟩ : MethodName) jdk_52_method_15_code 2 (some .byte)] ({ frames := 0, cells := 0, slots := 0, locals := 0 } : Room)) (fun as_ U => as_ = #[(.ref b), (.int 8)] ∧ Z.Warmed39 U.vm ∧ U.heap = h0) (fun _ _ _ _ _ => True) (fun _ U o U' => ∃ v L, o = .returned v ∧ Q_rmCF_8 n0 h0 v U'.heap L ∧ FrameEnd U o U' L ({ frames := 0, cells := 0, slots := 0, locals := 0 } : Room).cells ({ frames := 0, cells := 0, slots := 0, locals := 0 } : Room).slots) := by
  refine own_met own_pf9 (ef_rmCF_8 b) ?_
  intro p e s m below meth c T0 X0 hx hby hml hret hlk hnm hown hZ e0
  have N0 := Fr.nil n0
  refine g_iloadN X0 hx 1 (hb hby d15_0) rfl rfl ?_
  refine g_aloadN X0 hx 2 (hb hby d15_1) rfl rfl rfl ?_
  refine g_len X0 hx hZ e0 V 3 (hb hby d15_2) rfl ?_
  refine g_isubC X0 hx (0 : Int32) (by decide) 4 (hb hby d15_3) rfl ?_
  refine g_bipush X0 hx (31 : Int32) 6 (hb hby d15_4) rfl (by decide) ?_
  refine g_iushr X0 hx 7 (hb hby d15_6) rfl ?_
  refine g_i2b X0 hx 8 (hb hby d15_7) rfl ?_
  exact g_retN X0 hx hlk hret (by simp) (hb hby d15_8) (by decide) (by decide) e0 ⟨by decide, N0, rfl⟩
def Q_rmI4_8 (Z : State) (a : Addr) (c0 c1 c2 c3 c4 c5 c6 c7 : Int32) (n0 : Nat) (h0 : Heap) (v : Option Value) (h : Heap) (L : List Loc) : Prop := v = none ∧ Fr n0 L ∧ Keep h0 h [a] ∧ ∃ (b : Addr) (kb : ClassId), n0 ≤ b ∧ h0.size ≤ b ∧ Fld Z h a "java/lang/String" "coder" "B" (.int 0) ∧ Fld Z h a "java/lang/String" "value" "[B" (.ref b) ∧ Arv Z h b kb .byte 8 [(.int (c0.toInt8.toInt32.toInt8.toInt32)), (.int (c1.toInt8.toInt32.toInt8.toInt32)), (.int (c2.toInt8.toInt32.toInt8.toInt32)), (.int (c3.toInt8.toInt32.toInt8.toInt32)), (.int (c4.toInt8.toInt32.toInt8.toInt32)), (.int (c5.toInt8.toInt32.toInt8.toInt32)), (.int (c6.toInt8.toInt32.toInt8.toInt32)), (.int (c7.toInt8.toInt32.toInt8.toInt32))] (.int 0)
theorem ef_rmI4_8 (a ca : Addr) (m : MethodId) : entryFrame m #[(.ref a), (.ref ca), (.int 0), (.int 8), .null] 6 = mkF m 0 #[.val (.ref a), .val (.ref ca), .val (.int 0), .val (.int 8), .val .null, .unset] [] := by first | (simp [entryFrame, mkF, argsToLocals, Value.category]; done) | rfl
theorem rmI4_8 (l : Launch) (Z : State) (a0 : Array Value) (hw : ∀ d ∈ tables_1, d.before a0 Z = true) (a ca : Addr) (h0 : Heap) (n0 : Nat) (Z0 : n0 ≤ h0.size) (cst : Int32) (hc : cst ≠ 0) (O0 : Old Z n0 h0) (SC : Sta Z Z.heap "java/lang/String" "COMPACT_STRINGS" "Z" (.int cst)) (kc : ClassId) (c0 c1 c2 c3 c4 c5 c6 c7 : Int32) (bc0 : 0 ≤ c0.toInt ∧ c0.toInt ≤ 255) (bc1 : 0 ≤ c1.toInt ∧ c1.toInt ≤ 255) (bc2 : 0 ≤ c2.toInt ∧ c2.toInt ≤ 255) (bc3 : 0 ≤ c3.toInt ∧ c3.toInt ≤ 255) (bc4 : 0 ≤ c4.toInt ∧ c4.toInt ≤ 255) (bc5 : 0 ≤ c5.toInt ∧ c5.toInt ≤ 255) (bc6 : 0 ≤ c6.toInt ∧ c6.toInt ≤ 255) (bc7 : 0 ≤ c7.toInt ∧ c7.toInt ≤ 255) (E : Exa Z h0 a "java/lang/String") (ga : n0 ≤ a) (nac : a ≠ ca) (Fc : Fld Z h0 a "java/lang/String" "coder" "B" (.int 0)) (Fv : Fld Z h0 a "java/lang/String" "value" "[B" .null) (Vc : Arv Z h0 ca kc .char 8 [(.int c0), (.int c1), (.int c2), (.int c3), (.int c4), (.int c5), (.int c6), (.int c7)] (.int 0)) :
    MetFree l (⟨"java/lang/String", "<init>", "([CIILjava/lang/Void;)V"⟩ : MethodName) (head1 [Jvm.Cond.code (⟨"java/lang/String", "<init>", "([CIILjava/lang/Void;)V"⟩ : MethodName) jdk_42_method_149_code 6 none] ({ frames := 2, cells := 1, slots := 8, locals := 44 } : Room)) (fun as_ U => as_ = #[(.ref a), (.ref ca), (.int 0), (.int 8), .null] ∧ Z.Warmed39 U.vm ∧ U.heap = h0) (fun _ _ _ _ _ => True) (fun _ U o U' => ∃ v L, o = .returned v ∧ Q_rmI4_8 Z a c0 c1 c2 c3 c4 c5 c6 c7 n0 h0 v U'.heap L ∧ FrameEnd U o U' L ({ frames := 2, cells := 1, slots := 8, locals := 44 } : Room).cells ({ frames := 2, cells := 1, slots := 8, locals := 44 } : Room).slots) := by
  refine own_met own_pf10 (ef_rmI4_8 a ca) ?_
  intro p e s m below meth c T0 X0 hx hby hml hret hlk hnm hown hZ e0
  have N0 := Fr.nil n0
  refine g_aloadN X0 hx 1 (hb hby d11_0) rfl rfl rfl ?_
  refine g_objinit X0 hx hZ hown (hw _ (List.mem_of_getElem? (i := 60) rfl)) (hw _ (List.mem_of_getElem? (i := 61) rfl)) (hw _ (List.mem_of_getElem? (i := 62) rfl)) e0 0 4 (hb hby d11_1) rfl (by rw [hml]; rfl) (by decide) (Nat.le_refl _) (by decide) ?_
  intro T494 X494 e494
  refine g_iloadN X494 hx 5 (hb hby d11_4) rfl rfl ?_
  have ll496 : ((8 : Int32) : Int32).toInt = 8 := by decide
  refine g_if_ne X494 hx 27 8 (hb hby d11_5) (by decide) (by decide) rfl (fun c495 => ?_) (fun c495 => ?_)
  · skip
    refine g_getS X494 hx hZ hown (hw _ (List.mem_of_getElem? (i := 24) rfl)) Via.refl e494 (Sta.ext O0.2 SC) 30 (hb hby d11_27) rfl ?_
    intro T497 X497 e497
    refine g_if_eq X497 hx 58 33 (hb hby d11_30) (by decide) (by decide) rfl (fun c498 => ?_) (fun c498 => ?_)
    · skip
      exact absurd (own_t0 c498) hc
    · skip
      refine g_aloadN X497 hx 34 (hb hby d11_33) rfl rfl rfl ?_
      refine g_iloadN X497 hx 35 (hb hby d11_34) rfl rfl ?_
      refine g_iloadN X497 hx 36 (hb hby d11_35) rfl rfl ?_
      refine g_static X497 hx hZ hown (hw _ (List.mem_of_getElem? (i := 63) rfl)) (hw _ (List.mem_of_getElem? (i := 64) rfl)) (hw _ (List.mem_of_getElem? (i := 65) rfl)) (hw _ (List.mem_of_getElem? (i := 66) rfl)) (by decide) (rmC3_8 l Z a0 hw ca h0 n0 Z0 kc c0 c1 c2 c3 c4 c5 c6 c7 bc0 bc1 bc2 bc3 bc4 bc5 bc6 bc7 Vc) e497 (argsL := [(.ref ca), (.int (0 : Int32)), (.int (8 : Int32))]) (rest := []) rfl rfl 0 39 rfl (by rw [hml]; rfl) (lenOf own_pd12 rfl) (Nat.le_refl _) (by decide) (by decide) (by decide) (by decide) (hb hby d11_36) ?_
      intro v499 T499 L499 X499 hQ499
      obtain ⟨b, kb, rfl, N499, K499, gb, sb, Vb⟩ := hQ499
      have N500 := Fr.app N0 N499
      have F501 := O0.keep K499 all0
      have F502 := E.keep K499
      have F503 := Fc.keep K499 nin0
      have F504 := Fv.keep K499 nin0
      have F505 := Vc.keep K499 nin0
      have Z506 : n0 ≤ T499.heap.size := Nat.le_trans Z0 K499.1
      have K507 := (Keep.refl h0 [a]).trans K499 all0
      have nab : a ≠ b := Nat.ne_of_lt (Nat.lt_of_lt_of_le E.lt sb)
      have sb := Nat.le_trans ((Keep.refl h0 [a])).1 sb
      show Go p e below _ T499 (mkF m 39 #[.val (.ref a), .val (.ref ca), .val (.int (0 : Int32)), .val (.int (8 : Int32)), .val .null, .unset] [(.ref b)])
      refine g_astore (l' := #[.val (.ref a), .val (.ref ca), .val (.int (0 : Int32)), .val (.int (8 : Int32)), .val .null, .val (.ref b)]) X499 hx 41 (hb hby d11_39) rfl rfl rfl ?_
      refine g_aloadN X499 hx 42 (hb hby d11_41) rfl rfl rfl ?_
      refine g_aload X499 hx 44 (hb hby d11_42) rfl rfl rfl ?_
      refine g_iloadN X499 hx 45 (hb hby d11_44) rfl rfl ?_
      refine g_static X499 hx hZ hown (hw _ (List.mem_of_getElem? (i := 70) rfl)) (hw _ (List.mem_of_getElem? (i := 71) rfl)) (hw _ (List.mem_of_getElem? (i := 65) rfl)) (hw _ (List.mem_of_getElem? (i := 72) rfl)) (by decide) (rmCF_8 l Z a0 hw b T499.heap n0 Z506 kb _ Vb) rfl (argsL := [(.ref b), (.int (8 : Int32))]) (rest := [(.ref a)]) rfl rfl 1 48 rfl (by rw [hml]; rfl) (lenOf own_pd14 rfl) (Nat.le_refl _) (by decide) (by decide) (by decide) (by decide) (hb hby d11_45) ?_
      intro v508 T508 L508 X508 hQ508
      obtain ⟨rfl, N508, q508⟩ := hQ508
      have N509 := Fr.app N500 N508
      show Go p e below _ T508 (mkF m 48 #[.val (.ref a), .val (.ref ca), .val (.int (0 : Int32)), .val (.int (8 : Int32)), .val .null, .val (.ref b)] [(.int (0 : Int32)), (.ref a)])
      refine g_putF X508 hx hZ hown (hw _ (List.mem_of_getElem? (i := 25) rfl)) Via.refl q508 F503 F502 (Or.inr ⟨(hw _ (List.mem_of_getElem? (i := 5) rfl)), rfl, hnm⟩) (hw _ (List.mem_of_getElem? (i := 2) rfl)) (ty := .byte) (by decide) rfl rfl 51 (hb hby d11_48) rfl ?_
      intro T510 h510 X510 e510 W510
      have F511 : Fld Z h510 a "java/lang/String" "coder" "B" (.int (0 : Int32)) := F503.same W510
      have F512 := F501.wr W510 ga
      have F513 := F502.wr W510
      have F514 := F504.other W510 (Or.inr (slot_ne (Or.inr (hw _ (List.mem_of_getElem? (i := 4) rfl))) (Or.inr (hw _ (List.mem_of_getElem? (i := 5) rfl))) (by decide) (t := (.array .byte)) (t' := .byte) (by decide) (by decide)))
      have F515 := F505.other W510 (Ne.symm nac)
      have F516 := Vb.other W510 (Ne.symm nab)
      have K517 := K507.wr W510 (Or.inl (List.mem_of_getElem? (i := 0) rfl))
      have N518 := Fr.snoc X510 N509 ga
      have Z519 : n0 ≤ h510.size := by rw [W510.size]; exact Z506
      refine g_aloadN X510 hx 52 (hb hby d11_51) rfl rfl rfl ?_
      refine g_aload X510 hx 54 (hb hby d11_52) rfl rfl rfl ?_
      refine g_putF X510 hx hZ hown (hw _ (List.mem_of_getElem? (i := 18) rfl)) Via.refl e510 F514 F513 (Or.inr ⟨(hw _ (List.mem_of_getElem? (i := 4) rfl)), rfl, hnm⟩) (hw _ (List.mem_of_getElem? (i := 2) rfl)) (ty := (.array .byte)) (by decide) rfl rfl 57 (hb hby d11_54) rfl ?_
      intro T520 h520 X520 e520 W520
      have F521 : Fld Z h520 a "java/lang/String" "value" "[B" (.ref b) := F514.same W520
      have F522 := F512.wr W520 ga
      have F523 := F513.wr W520
      have F524 := F515.other W520 (Ne.symm nac)
      have F525 := F516.other W520 (Ne.symm nab)
      have F526 := F511.other W520 (Or.inr (slot_ne (Or.inr (hw _ (List.mem_of_getElem? (i := 5) rfl))) (Or.inr (hw _ (List.mem_of_getElem? (i := 4) rfl))) (by decide) (t := .byte) (t' := (.array .byte)) (by decide) (by decide)))
      have K527 := K517.wr W520 (Or.inl (List.mem_of_getElem? (i := 0) rfl))
      have N528 := Fr.snoc X520 N518 ga
      have Z529 : n0 ≤ h520.size := by rw [W520.size]; exact Z519
      exact g_retV X520 hx hlk hret (hb hby d11_57) (by decide) (by decide) e520 ⟨rfl, N528, K527, b, kb, gb, sb, F526, F521, F525⟩
  · skip
    exfalso; revert c495; decide
def Q_rmI1_8 (Z : State) (a : Addr) (c0 c1 c2 c3 c4 c5 c6 c7 : Int32) (n0 : Nat) (h0 : Heap) (v : Option Value) (h : Heap) (L : List Loc) : Prop := v = none ∧ Fr n0 L ∧ Keep h0 h [a] ∧ ∃ (b : Addr) (kb : ClassId), n0 ≤ b ∧ h0.size ≤ b ∧ Fld Z h a "java/lang/String" "coder" "B" (.int 0) ∧ Fld Z h a "java/lang/String" "value" "[B" (.ref b) ∧ Arv Z h b kb .byte 8 [(.int (c0.toInt8.toInt32.toInt8.toInt32)), (.int (c1.toInt8.toInt32.toInt8.toInt32)), (.int (c2.toInt8.toInt32.toInt8.toInt32)), (.int (c3.toInt8.toInt32.toInt8.toInt32)), (.int (c4.toInt8.toInt32.toInt8.toInt32)), (.int (c5.toInt8.toInt32.toInt8.toInt32)), (.int (c6.toInt8.toInt32.toInt8.toInt32)), (.int (c7.toInt8.toInt32.toInt8.toInt32))] (.int 0)
theorem ef_rmI1_8 (a ca : Addr) (m : MethodId) : entryFrame m #[(.ref a), (.ref ca)] 2 = mkF m 0 #[.val (.ref a), .val (.ref ca)] [] := by first | (simp [entryFrame, mkF, argsToLocals, Value.category]; done) | rfl
theorem rmI1_8 (l : Launch) (Z : State) (a0 : Array Value) (hw : ∀ d ∈ tables_1, d.before a0 Z = true) (a ca : Addr) (h0 : Heap) (n0 : Nat) (Z0 : n0 ≤ h0.size) (cst : Int32) (hc : cst ≠ 0) (O0 : Old Z n0 h0) (SC : Sta Z Z.heap "java/lang/String" "COMPACT_STRINGS" "Z" (.int cst)) (kc : ClassId) (c0 c1 c2 c3 c4 c5 c6 c7 : Int32) (bc0 : 0 ≤ c0.toInt ∧ c0.toInt ≤ 255) (bc1 : 0 ≤ c1.toInt ∧ c1.toInt ≤ 255) (bc2 : 0 ≤ c2.toInt ∧ c2.toInt ≤ 255) (bc3 : 0 ≤ c3.toInt ∧ c3.toInt ≤ 255) (bc4 : 0 ≤ c4.toInt ∧ c4.toInt ≤ 255) (bc5 : 0 ≤ c5.toInt ∧ c5.toInt ≤ 255) (bc6 : 0 ≤ c6.toInt ∧ c6.toInt ≤ 255) (bc7 : 0 ≤ c7.toInt ∧ c7.toInt ≤ 255) (E : Exa Z h0 a "java/lang/String") (ga : n0 ≤ a) (nac : a ≠ ca) (Fc : Fld Z h0 a "java/lang/String" "coder" "B" (.int 0)) (Fv : Fld Z h0 a "java/lang/String" "value" "[B" .null) (Vc : Arv Z h0 ca kc .char 8 [(.int c0), (.int c1), (.int c2), (.int c3), (.int c4), (.int c5), (.int c6), (.int c7)] (.int 0)) :
    MetFree l (⟨"java/lang/String", "<init>", "([C)V"⟩ : MethodName) (head1 [Jvm.Cond.code (⟨"java/lang/String", "<init>", "([C)V"⟩ : MethodName) jdk_42_method_3_code 2 none] ({ frames := 3, cells := 1, slots := 8, locals := 64 } : Room)) (fun as_ U => as_ = #[(.ref a), (.ref ca)] ∧ Z.Warmed39 U.vm ∧ U.heap = h0) (fun _ _ _ _ _ => True) (fun _ U o U' => ∃ v L, o = .returned v ∧ Q_rmI1_8 Z a c0 c1 c2 c3 c4 c5 c6 c7 n0 h0 v U'.heap L ∧ FrameEnd U o U' L ({ frames := 3, cells := 1, slots := 8, locals := 64 } : Room).cells ({ frames := 3, cells := 1, slots := 8, locals := 64 } : Room).slots) := by
  refine own_met own_pf11 (ef_rmI1_8 a ca) ?_
  intro p e s m below meth c T0 X0 hx hby hml hret hlk hnm hown hZ e0
  have N0 := Fr.nil n0
  refine g_aloadN X0 hx 1 (hb hby d10_0) rfl rfl rfl ?_
  refine g_aloadN X0 hx 2 (hb hby d10_1) rfl rfl rfl ?_
  refine g_iconst X0 hx (0 : Int32) 3 (hb hby d10_2) rfl (by decide) ?_
  refine g_aloadN X0 hx 4 (hb hby d10_3) rfl rfl rfl ?_
  refine g_len X0 hx hZ e0 Vc 5 (hb hby d10_4) rfl ?_
  refine g_null X0 hx 6 (hb hby d10_5) rfl ?_
  refine g_init X0 hx hZ rfl hown (hw _ (List.mem_of_getElem? (i := 56) rfl)) (hw _ (List.mem_of_getElem? (i := 57) rfl)) (hw _ (List.mem_of_getElem? (i := 1) rfl)) (hw _ (List.mem_of_getElem? (i := 59) rfl)) (by decide) (rmI4_8 l Z a0 hw a ca h0 n0 Z0 cst hc O0 SC kc c0 c1 c2 c3 c4 c5 c6 c7 bc0 bc1 bc2 bc3 bc4 bc5 bc6 bc7 E ga nac Fc Fv Vc) e0 (a := a) (argsL := [(.ref ca), (.int (0 : Int32)), (.int (8 : Int32)), .null]) (rest := []) rfl rfl 0 9 rfl (by rw [hml]; rfl) (lenOf own_pd10 rfl) (Nat.le_refl _) (by decide) (by decide) (by decide) (by decide) (hb hby d10_6) ?_
  intro v530 T530 L530 X530 hQ530
  obtain ⟨rfl, N530, K530, b, kb, gb, sb, c_, v_, Vb⟩ := hQ530
  have N531 := Fr.app N0 N530
  have F532 := O0.keep K530 (allS ga all0)
  have F533 := E.keep K530
  have F536 := Vc.keep K530 (ninS (Ne.symm nac) nin0)
  have Z537 : n0 ≤ T530.heap.size := Nat.le_trans Z0 K530.1
  have K538 := (Keep.refl h0 [a]).trans K530 (allS (Or.inl (List.mem_of_getElem? (i := 0) rfl)) all0)
  show Go p e below _ T530 (mkF m 9 #[.val (.ref a), .val (.ref ca)] [])
  exact g_retV X530 hx hlk hret (hb hby d10_9) (by decide) (by decide) rfl ⟨rfl, N531, K538, b, kb, gb, sb, c_, v_, Vb⟩
def Q_rmCp_11 (Z : State) (ba : Addr) (kb : ClassId) (c0 c1 c2 c3 c4 c5 c6 c7 c8 c9 c10 : Int32) (n0 : Nat) (h0 : Heap) (v : Option Value) (h : Heap) (L : List Loc) : Prop := v = some (.int 11) ∧ Fr n0 L ∧ Keep h0 h [ba] ∧ Arv Z h ba kb .byte 11 [(.int (c0.toInt8.toInt32.toInt8.toInt32)), (.int (c1.toInt8.toInt32.toInt8.toInt32)), (.int (c2.toInt8.toInt32.toInt8.toInt32)), (.int (c3.toInt8.toInt32.toInt8.toInt32)), (.int (c4.toInt8.toInt32.toInt8.toInt32)), (.int (c5.toInt8.toInt32.toInt8.toInt32)), (.int (c6.toInt8.toInt32.toInt8.toInt32)), (.int (c7.toInt8.toInt32.toInt8.toInt32)), (.int (c8.toInt8.toInt32.toInt8.toInt32)), (.int (c9.toInt8.toInt32.toInt8.toInt32)), (.int (c10.toInt8.toInt32.toInt8.toInt32))] (.int 0)
theorem ef_rmCp_11 (ca ba : Addr) (m : MethodId) : entryFrame m #[(.ref ca), (.int 0), (.ref ba), (.int 0), (.int 11)] 7 = mkF m 0 #[.val (.ref ca), .val (.int 0), .val (.ref ba), .val (.int 0), .val (.int 11), .unset, .unset] [] := by first | (simp [entryFrame, mkF, argsToLocals, Value.category]; done) | rfl
theorem rmCp_11 (l : Launch) (Z : State) (a0 : Array Value) (hw : ∀ d ∈ tables_1, d.before a0 Z = true) (ca ba : Addr) (h0 : Heap) (n0 : Nat) (Z0 : n0 ≤ h0.size) (kc kb : ClassId) (c0 c1 c2 c3 c4 c5 c6 c7 c8 c9 c10 : Int32) (bc0 : 0 ≤ c0.toInt ∧ c0.toInt ≤ 255) (bc1 : 0 ≤ c1.toInt ∧ c1.toInt ≤ 255) (bc2 : 0 ≤ c2.toInt ∧ c2.toInt ≤ 255) (bc3 : 0 ≤ c3.toInt ∧ c3.toInt ≤ 255) (bc4 : 0 ≤ c4.toInt ∧ c4.toInt ≤ 255) (bc5 : 0 ≤ c5.toInt ∧ c5.toInt ≤ 255) (bc6 : 0 ≤ c6.toInt ∧ c6.toInt ≤ 255) (bc7 : 0 ≤ c7.toInt ∧ c7.toInt ≤ 255) (bc8 : 0 ≤ c8.toInt ∧ c8.toInt ≤ 255) (bc9 : 0 ≤ c9.toInt ∧ c9.toInt ≤ 255) (bc10 : 0 ≤ c10.toInt ∧ c10.toInt ≤ 255) (ncb : ca ≠ ba) (gb : n0 ≤ ba) (Vc : Arv Z h0 ca kc .char 11 [(.int c0), (.int c1), (.int c2), (.int c3), (.int c4), (.int c5), (.int c6), (.int c7), (.int c8), (.int c9), (.int c10)] (.int 0)) (Vb : Arv Z h0 ba kb .byte 11 [(.int 0), (.int 0), (.int 0), (.int 0), (.int 0), (.int 0), (.int 0), (.int 0), (.int 0), (.int 0), (.int 0)] (.int 0)) :
    MetFree l (⟨"java/lang/StringUTF16", "compress", "([CI[BII)I"⟩ : MethodName) (head1 [Jvm.Cond.code (⟨"java/lang/StringUTF16", "compress", "([CI[BII)I"⟩ : MethodName) jdk_52_method_21_code 7 (some .int)] ({ frames := 0, cells := 0, slots := 0, locals := 0 } : Room)) (fun as_ U => as_ = #[(.ref ca), (.int 0), (.ref ba), (.int 0), (.int 11)] ∧ Z.Warmed39 U.vm ∧ U.heap = h0) (fun _ _ _ _ _ => True) (fun _ U o U' => ∃ v L, o = .returned v ∧ Q_rmCp_11 Z ba kb c0 c1 c2 c3 c4 c5 c6 c7 c8 c9 c10 n0 h0 v U'.heap L ∧ FrameEnd U o U' L ({ frames := 0, cells := 0, slots := 0, locals := 0 } : Room).cells ({ frames := 0, cells := 0, slots := 0, locals := 0 } : Room).slots) := by
  refine own_met own_pf7 (ef_rmCp_11 ca ba) ?_
  intro p e s m below meth c T0 X0 hx hby hml hret hlk hnm hown hZ e0
  have N0 := Fr.nil n0
  refine g_iconst X0 hx (0 : Int32) 1 (hb hby d14_0) rfl (by decide) ?_
  refine g_istore (l' := #[.val (.ref ca), .val (.int (0 : Int32)), .val (.ref ba), .val (.int (0 : Int32)), .val (.int (11 : Int32)), .val (.int (0 : Int32)), .unset]) X0 hx 3 (hb hby d14_1) rfl rfl ?_
  refine g_iload X0 hx 5 (hb hby d14_3) rfl rfl ?_
  refine g_iload X0 hx 7 (hb hby d14_5) rfl rfl ?_
  have ll540 : ((11 : Int32) : Int32).toInt = 11 := by decide
  have ll541 : ((0 : Int32) : Int32).toInt = 0 := by decide
  refine g_ic_ge X0 hx 44 10 (hb hby d14_7) (by decide) (by decide) rfl (fun c539 => ?_) (fun c539 => ?_)
  · skip
    exfalso; revert c539; decide
  · skip
    refine g_aloadN X0 hx 11 (hb hby d14_10) rfl rfl rfl ?_
    refine g_iloadN X0 hx 12 (hb hby d14_11) rfl rfl ?_
    refine g_caload X0 hx hZ e0 Vc (by decide) (by decide) (by rw [show ((0 : Int32) : Int32).toNatClampNeg = 0 by decide] <;> rfl) 13 (hb hby d14_12) rfl ?_
    refine g_istore (l' := #[.val (.ref ca), .val (.int (0 : Int32)), .val (.ref ba), .val (.int (0 : Int32)), .val (.int (11 : Int32)), .val (.int (0 : Int32)), .val (.int c0)]) X0 hx 15 (hb hby d14_13) rfl rfl ?_
    refine g_iload X0 hx 17 (hb hby d14_15) rfl rfl ?_
    refine g_sipush X0 hx (255 : Int32) 20 (hb hby d14_17) rfl (by decide) ?_
    have ll543 : ((255 : Int32) : Int32).toInt = 255 := by decide
    refine g_ic_le X0 hx 26 23 (hb hby d14_20) (by decide) (by decide) rfl (fun c542 => ?_) (fun c542 => ?_)
    · skip
      refine g_aloadN X0 hx 27 (hb hby d14_26) rfl rfl rfl ?_
      refine g_iloadN X0 hx 28 (hb hby d14_27) rfl rfl ?_
      refine g_iload X0 hx 30 (hb hby d14_28) rfl rfl ?_
      refine g_i2b X0 hx 31 (hb hby d14_30) rfl ?_
      refine g_bastore X0 hx hZ e0 Vb 0 (by decide) (by decide) (by show 0 < 11; decide) (c0.toInt8.toInt32.toInt8.toInt32) rfl 32 (hb hby d14_31) rfl ?_
      intro T544 h544 X544 e544 W544 V544
      have F545 := Vc.other W544 ncb
      have K547 := (Keep.refl h0 [ba]).wr W544 (Or.inl (List.mem_of_getElem? (i := 0) rfl))
      have N548 := Fr.snoc X544 N0 gb
      have Z549 : n0 ≤ h544.size := by rw [W544.size]; exact Z0
      have V544' : Arv Z h544 ba kb .byte (11 : Int32) [(.int (c0.toInt8.toInt32.toInt8.toInt32)), (.int (0 : Int32)), (.int (0 : Int32)), (.int (0 : Int32)), (.int (0 : Int32)), (.int (0 : Int32)), (.int (0 : Int32)), (.int (0 : Int32)), (.int (0 : Int32)), (.int (0 : Int32)), (.int (0 : Int32))] (.int 0) := V544
      refine g_iincC X544 hx (w := (1 : Int32)) (1 : Int32) (by decide) (l' := #[.val (.ref ca), .val (.int (1 : Int32)), .val (.ref ba), .val (.int (0 : Int32)), .val (.int (11 : Int32)), .val (.int (0 : Int32)), .val (.int c0)]) 35 (hb hby d14_32) rfl rfl (by decide) rfl ?_
      refine g_iincC X544 hx (w := (1 : Int32)) (1 : Int32) (by decide) (l' := #[.val (.ref ca), .val (.int (1 : Int32)), .val (.ref ba), .val (.int (1 : Int32)), .val (.int (11 : Int32)), .val (.int (0 : Int32)), .val (.int c0)]) 38 (hb hby d14_35) rfl rfl (by decide) rfl ?_
      refine g_iincC X544 hx (w := (1 : Int32)) (1 : Int32) (by decide) (l' := #[.val (.ref ca), .val (.int (1 : Int32)), .val (.ref ba), .val (.int (1 : Int32)), .val (.int (11 : Int32)), .val (.int (1 : Int32)), .val (.int c0)]) 41 (hb hby d14_38) rfl rfl (by decide) rfl ?_
      refine g_goto X544 hx 3 (hb hby d14_41) (by decide) (by decide) ?_
      refine g_iload X544 hx 5 (hb hby d14_3) rfl rfl ?_
      refine g_iload X544 hx 7 (hb hby d14_5) rfl rfl ?_
      have ll551 : ((11 : Int32) : Int32).toInt = 11 := by decide
      have ll552 : ((1 : Int32) : Int32).toInt = 1 := by decide
      refine g_ic_ge X544 hx 44 10 (hb hby d14_7) (by decide) (by decide) rfl (fun c550 => ?_) (fun c550 => ?_)
      · skip
        exfalso; revert c550; decide
      · skip
        refine g_aloadN X544 hx 11 (hb hby d14_10) rfl rfl rfl ?_
        refine g_iloadN X544 hx 12 (hb hby d14_11) rfl rfl ?_
        refine g_caload X544 hx hZ e544 F545 (by decide) (by decide) (by rw [show ((1 : Int32) : Int32).toNatClampNeg = 1 by decide] <;> rfl) 13 (hb hby d14_12) rfl ?_
        refine g_istore (l' := #[.val (.ref ca), .val (.int (1 : Int32)), .val (.ref ba), .val (.int (1 : Int32)), .val (.int (11 : Int32)), .val (.int (1 : Int32)), .val (.int c1)]) X544 hx 15 (hb hby d14_13) rfl rfl ?_
        refine g_iload X544 hx 17 (hb hby d14_15) rfl rfl ?_
        refine g_sipush X544 hx (255 : Int32) 20 (hb hby d14_17) rfl (by decide) ?_
        have ll554 : ((255 : Int32) : Int32).toInt = 255 := by decide
        refine g_ic_le X544 hx 26 23 (hb hby d14_20) (by decide) (by decide) rfl (fun c553 => ?_) (fun c553 => ?_)
        · skip
          refine g_aloadN X544 hx 27 (hb hby d14_26) rfl rfl rfl ?_
          refine g_iloadN X544 hx 28 (hb hby d14_27) rfl rfl ?_
          refine g_iload X544 hx 30 (hb hby d14_28) rfl rfl ?_
          refine g_i2b X544 hx 31 (hb hby d14_30) rfl ?_
          refine g_bastore X544 hx hZ e544 V544' 1 (by decide) (by decide) (by show 1 < 11; decide) (c1.toInt8.toInt32.toInt8.toInt32) rfl 32 (hb hby d14_31) rfl ?_
          intro T555 h555 X555 e555 W555 V555
          have F556 := F545.other W555 ncb
          have K558 := K547.wr W555 (Or.inl (List.mem_of_getElem? (i := 0) rfl))
          have N559 := Fr.snoc X555 N548 gb
          have Z560 : n0 ≤ h555.size := by rw [W555.size]; exact Z549
          have V555' : Arv Z h555 ba kb .byte (11 : Int32) [(.int (c0.toInt8.toInt32.toInt8.toInt32)), (.int (c1.toInt8.toInt32.toInt8.toInt32)), (.int (0 : Int32)), (.int (0 : Int32)), (.int (0 : Int32)), (.int (0 : Int32)), (.int (0 : Int32)), (.int (0 : Int32)), (.int (0 : Int32)), (.int (0 : Int32)), (.int (0 : Int32))] (.int 0) := V555
          refine g_iincC X555 hx (w := (1 : Int32)) (2 : Int32) (by decide) (l' := #[.val (.ref ca), .val (.int (2 : Int32)), .val (.ref ba), .val (.int (1 : Int32)), .val (.int (11 : Int32)), .val (.int (1 : Int32)), .val (.int c1)]) 35 (hb hby d14_32) rfl rfl (by decide) rfl ?_
          refine g_iincC X555 hx (w := (1 : Int32)) (2 : Int32) (by decide) (l' := #[.val (.ref ca), .val (.int (2 : Int32)), .val (.ref ba), .val (.int (2 : Int32)), .val (.int (11 : Int32)), .val (.int (1 : Int32)), .val (.int c1)]) 38 (hb hby d14_35) rfl rfl (by decide) rfl ?_
          refine g_iincC X555 hx (w := (1 : Int32)) (2 : Int32) (by decide) (l' := #[.val (.ref ca), .val (.int (2 : Int32)), .val (.ref ba), .val (.int (2 : Int32)), .val (.int (11 : Int32)), .val (.int (2 : Int32)), .val (.int c1)]) 41 (hb hby d14_38) rfl rfl (by decide) rfl ?_
          refine g_goto X555 hx 3 (hb hby d14_41) (by decide) (by decide) ?_
          refine g_iload X555 hx 5 (hb hby d14_3) rfl rfl ?_
          refine g_iload X555 hx 7 (hb hby d14_5) rfl rfl ?_
          have ll562 : ((11 : Int32) : Int32).toInt = 11 := by decide
          have ll563 : ((2 : Int32) : Int32).toInt = 2 := by decide
          refine g_ic_ge X555 hx 44 10 (hb hby d14_7) (by decide) (by decide) rfl (fun c561 => ?_) (fun c561 => ?_)
          · skip
            exfalso; revert c561; decide
          · skip
            refine g_aloadN X555 hx 11 (hb hby d14_10) rfl rfl rfl ?_
            refine g_iloadN X555 hx 12 (hb hby d14_11) rfl rfl ?_
            refine g_caload X555 hx hZ e555 F556 (by decide) (by decide) (by rw [show ((2 : Int32) : Int32).toNatClampNeg = 2 by decide] <;> rfl) 13 (hb hby d14_12) rfl ?_
            refine g_istore (l' := #[.val (.ref ca), .val (.int (2 : Int32)), .val (.ref ba), .val (.int (2 : Int32)), .val (.int (11 : Int32)), .val (.int (2 : Int32)), .val (.int c2)]) X555 hx 15 (hb hby d14_13) rfl rfl ?_
            refine g_iload X555 hx 17 (hb hby d14_15) rfl rfl ?_
            refine g_sipush X555 hx (255 : Int32) 20 (hb hby d14_17) rfl (by decide) ?_
            have ll565 : ((255 : Int32) : Int32).toInt = 255 := by decide
            refine g_ic_le X555 hx 26 23 (hb hby d14_20) (by decide) (by decide) rfl (fun c564 => ?_) (fun c564 => ?_)
            · skip
              refine g_aloadN X555 hx 27 (hb hby d14_26) rfl rfl rfl ?_
              refine g_iloadN X555 hx 28 (hb hby d14_27) rfl rfl ?_
              refine g_iload X555 hx 30 (hb hby d14_28) rfl rfl ?_
              refine g_i2b X555 hx 31 (hb hby d14_30) rfl ?_
              refine g_bastore X555 hx hZ e555 V555' 2 (by decide) (by decide) (by show 2 < 11; decide) (c2.toInt8.toInt32.toInt8.toInt32) rfl 32 (hb hby d14_31) rfl ?_
              intro T566 h566 X566 e566 W566 V566
              have F567 := F556.other W566 ncb
              have K569 := K558.wr W566 (Or.inl (List.mem_of_getElem? (i := 0) rfl))
              have N570 := Fr.snoc X566 N559 gb
              have Z571 : n0 ≤ h566.size := by rw [W566.size]; exact Z560
              have V566' : Arv Z h566 ba kb .byte (11 : Int32) [(.int (c0.toInt8.toInt32.toInt8.toInt32)), (.int (c1.toInt8.toInt32.toInt8.toInt32)), (.int (c2.toInt8.toInt32.toInt8.toInt32)), (.int (0 : Int32)), (.int (0 : Int32)), (.int (0 : Int32)), (.int (0 : Int32)), (.int (0 : Int32)), (.int (0 : Int32)), (.int (0 : Int32)), (.int (0 : Int32))] (.int 0) := V566
              refine g_iincC X566 hx (w := (1 : Int32)) (3 : Int32) (by decide) (l' := #[.val (.ref ca), .val (.int (3 : Int32)), .val (.ref ba), .val (.int (2 : Int32)), .val (.int (11 : Int32)), .val (.int (2 : Int32)), .val (.int c2)]) 35 (hb hby d14_32) rfl rfl (by decide) rfl ?_
              refine g_iincC X566 hx (w := (1 : Int32)) (3 : Int32) (by decide) (l' := #[.val (.ref ca), .val (.int (3 : Int32)), .val (.ref ba), .val (.int (3 : Int32)), .val (.int (11 : Int32)), .val (.int (2 : Int32)), .val (.int c2)]) 38 (hb hby d14_35) rfl rfl (by decide) rfl ?_
              refine g_iincC X566 hx (w := (1 : Int32)) (3 : Int32) (by decide) (l' := #[.val (.ref ca), .val (.int (3 : Int32)), .val (.ref ba), .val (.int (3 : Int32)), .val (.int (11 : Int32)), .val (.int (3 : Int32)), .val (.int c2)]) 41 (hb hby d14_38) rfl rfl (by decide) rfl ?_
              refine g_goto X566 hx 3 (hb hby d14_41) (by decide) (by decide) ?_
              refine g_iload X566 hx 5 (hb hby d14_3) rfl rfl ?_
              refine g_iload X566 hx 7 (hb hby d14_5) rfl rfl ?_
              have ll573 : ((11 : Int32) : Int32).toInt = 11 := by decide
              have ll574 : ((3 : Int32) : Int32).toInt = 3 := by decide
              refine g_ic_ge X566 hx 44 10 (hb hby d14_7) (by decide) (by decide) rfl (fun c572 => ?_) (fun c572 => ?_)
              · skip
                exfalso; revert c572; decide
              · skip
                refine g_aloadN X566 hx 11 (hb hby d14_10) rfl rfl rfl ?_
                refine g_iloadN X566 hx 12 (hb hby d14_11) rfl rfl ?_
                refine g_caload X566 hx hZ e566 F567 (by decide) (by decide) (by rw [show ((3 : Int32) : Int32).toNatClampNeg = 3 by decide] <;> rfl) 13 (hb hby d14_12) rfl ?_
                refine g_istore (l' := #[.val (.ref ca), .val (.int (3 : Int32)), .val (.ref ba), .val (.int (3 : Int32)), .val (.int (11 : Int32)), .val (.int (3 : Int32)), .val (.int c3)]) X566 hx 15 (hb hby d14_13) rfl rfl ?_
                refine g_iload X566 hx 17 (hb hby d14_15) rfl rfl ?_
                refine g_sipush X566 hx (255 : Int32) 20 (hb hby d14_17) rfl (by decide) ?_
                have ll576 : ((255 : Int32) : Int32).toInt = 255 := by decide
                refine g_ic_le X566 hx 26 23 (hb hby d14_20) (by decide) (by decide) rfl (fun c575 => ?_) (fun c575 => ?_)
                · skip
                  refine g_aloadN X566 hx 27 (hb hby d14_26) rfl rfl rfl ?_
                  refine g_iloadN X566 hx 28 (hb hby d14_27) rfl rfl ?_
                  refine g_iload X566 hx 30 (hb hby d14_28) rfl rfl ?_
                  refine g_i2b X566 hx 31 (hb hby d14_30) rfl ?_
                  refine g_bastore X566 hx hZ e566 V566' 3 (by decide) (by decide) (by show 3 < 11; decide) (c3.toInt8.toInt32.toInt8.toInt32) rfl 32 (hb hby d14_31) rfl ?_
                  intro T577 h577 X577 e577 W577 V577
                  have F578 := F567.other W577 ncb
                  have K580 := K569.wr W577 (Or.inl (List.mem_of_getElem? (i := 0) rfl))
                  have N581 := Fr.snoc X577 N570 gb
                  have Z582 : n0 ≤ h577.size := by rw [W577.size]; exact Z571
                  have V577' : Arv Z h577 ba kb .byte (11 : Int32) [(.int (c0.toInt8.toInt32.toInt8.toInt32)), (.int (c1.toInt8.toInt32.toInt8.toInt32)), (.int (c2.toInt8.toInt32.toInt8.toInt32)), (.int (c3.toInt8.toInt32.toInt8.toInt32)), (.int (0 : Int32)), (.int (0 : Int32)), (.int (0 : Int32)), (.int (0 : Int32)), (.int (0 : Int32)), (.int (0 : Int32)), (.int (0 : Int32))] (.int 0) := V577
                  refine g_iincC X577 hx (w := (1 : Int32)) (4 : Int32) (by decide) (l' := #[.val (.ref ca), .val (.int (4 : Int32)), .val (.ref ba), .val (.int (3 : Int32)), .val (.int (11 : Int32)), .val (.int (3 : Int32)), .val (.int c3)]) 35 (hb hby d14_32) rfl rfl (by decide) rfl ?_
                  refine g_iincC X577 hx (w := (1 : Int32)) (4 : Int32) (by decide) (l' := #[.val (.ref ca), .val (.int (4 : Int32)), .val (.ref ba), .val (.int (4 : Int32)), .val (.int (11 : Int32)), .val (.int (3 : Int32)), .val (.int c3)]) 38 (hb hby d14_35) rfl rfl (by decide) rfl ?_
                  refine g_iincC X577 hx (w := (1 : Int32)) (4 : Int32) (by decide) (l' := #[.val (.ref ca), .val (.int (4 : Int32)), .val (.ref ba), .val (.int (4 : Int32)), .val (.int (11 : Int32)), .val (.int (4 : Int32)), .val (.int c3)]) 41 (hb hby d14_38) rfl rfl (by decide) rfl ?_
                  refine g_goto X577 hx 3 (hb hby d14_41) (by decide) (by decide) ?_
                  refine g_iload X577 hx 5 (hb hby d14_3) rfl rfl ?_
                  refine g_iload X577 hx 7 (hb hby d14_5) rfl rfl ?_
                  have ll584 : ((11 : Int32) : Int32).toInt = 11 := by decide
                  have ll585 : ((4 : Int32) : Int32).toInt = 4 := by decide
                  refine g_ic_ge X577 hx 44 10 (hb hby d14_7) (by decide) (by decide) rfl (fun c583 => ?_) (fun c583 => ?_)
                  · skip
                    exfalso; revert c583; decide
                  · skip
                    refine g_aloadN X577 hx 11 (hb hby d14_10) rfl rfl rfl ?_
                    refine g_iloadN X577 hx 12 (hb hby d14_11) rfl rfl ?_
                    refine g_caload X577 hx hZ e577 F578 (by decide) (by decide) (by rw [show ((4 : Int32) : Int32).toNatClampNeg = 4 by decide] <;> rfl) 13 (hb hby d14_12) rfl ?_
                    refine g_istore (l' := #[.val (.ref ca), .val (.int (4 : Int32)), .val (.ref ba), .val (.int (4 : Int32)), .val (.int (11 : Int32)), .val (.int (4 : Int32)), .val (.int c4)]) X577 hx 15 (hb hby d14_13) rfl rfl ?_
                    refine g_iload X577 hx 17 (hb hby d14_15) rfl rfl ?_
                    refine g_sipush X577 hx (255 : Int32) 20 (hb hby d14_17) rfl (by decide) ?_
                    have ll587 : ((255 : Int32) : Int32).toInt = 255 := by decide
                    refine g_ic_le X577 hx 26 23 (hb hby d14_20) (by decide) (by decide) rfl (fun c586 => ?_) (fun c586 => ?_)
                    · skip
                      refine g_aloadN X577 hx 27 (hb hby d14_26) rfl rfl rfl ?_
                      refine g_iloadN X577 hx 28 (hb hby d14_27) rfl rfl ?_
                      refine g_iload X577 hx 30 (hb hby d14_28) rfl rfl ?_
                      refine g_i2b X577 hx 31 (hb hby d14_30) rfl ?_
                      refine g_bastore X577 hx hZ e577 V577' 4 (by decide) (by decide) (by show 4 < 11; decide) (c4.toInt8.toInt32.toInt8.toInt32) rfl 32 (hb hby d14_31) rfl ?_
                      intro T588 h588 X588 e588 W588 V588
                      have F589 := F578.other W588 ncb
                      have K591 := K580.wr W588 (Or.inl (List.mem_of_getElem? (i := 0) rfl))
                      have N592 := Fr.snoc X588 N581 gb
                      have Z593 : n0 ≤ h588.size := by rw [W588.size]; exact Z582
                      have V588' : Arv Z h588 ba kb .byte (11 : Int32) [(.int (c0.toInt8.toInt32.toInt8.toInt32)), (.int (c1.toInt8.toInt32.toInt8.toInt32)), (.int (c2.toInt8.toInt32.toInt8.toInt32)), (.int (c3.toInt8.toInt32.toInt8.toInt32)), (.int (c4.toInt8.toInt32.toInt8.toInt32)), (.int (0 : Int32)), (.int (0 : Int32)), (.int (0 : Int32)), (.int (0 : Int32)), (.int (0 : Int32)), (.int (0 : Int32))] (.int 0) := V588
                      refine g_iincC X588 hx (w := (1 : Int32)) (5 : Int32) (by decide) (l' := #[.val (.ref ca), .val (.int (5 : Int32)), .val (.ref ba), .val (.int (4 : Int32)), .val (.int (11 : Int32)), .val (.int (4 : Int32)), .val (.int c4)]) 35 (hb hby d14_32) rfl rfl (by decide) rfl ?_
                      refine g_iincC X588 hx (w := (1 : Int32)) (5 : Int32) (by decide) (l' := #[.val (.ref ca), .val (.int (5 : Int32)), .val (.ref ba), .val (.int (5 : Int32)), .val (.int (11 : Int32)), .val (.int (4 : Int32)), .val (.int c4)]) 38 (hb hby d14_35) rfl rfl (by decide) rfl ?_
                      refine g_iincC X588 hx (w := (1 : Int32)) (5 : Int32) (by decide) (l' := #[.val (.ref ca), .val (.int (5 : Int32)), .val (.ref ba), .val (.int (5 : Int32)), .val (.int (11 : Int32)), .val (.int (5 : Int32)), .val (.int c4)]) 41 (hb hby d14_38) rfl rfl (by decide) rfl ?_
                      refine g_goto X588 hx 3 (hb hby d14_41) (by decide) (by decide) ?_
                      refine g_iload X588 hx 5 (hb hby d14_3) rfl rfl ?_
                      refine g_iload X588 hx 7 (hb hby d14_5) rfl rfl ?_
                      have ll595 : ((11 : Int32) : Int32).toInt = 11 := by decide
                      have ll596 : ((5 : Int32) : Int32).toInt = 5 := by decide
                      refine g_ic_ge X588 hx 44 10 (hb hby d14_7) (by decide) (by decide) rfl (fun c594 => ?_) (fun c594 => ?_)
                      · skip
                        exfalso; revert c594; decide
                      · skip
                        refine g_aloadN X588 hx 11 (hb hby d14_10) rfl rfl rfl ?_
                        refine g_iloadN X588 hx 12 (hb hby d14_11) rfl rfl ?_
                        refine g_caload X588 hx hZ e588 F589 (by decide) (by decide) (by rw [show ((5 : Int32) : Int32).toNatClampNeg = 5 by decide] <;> rfl) 13 (hb hby d14_12) rfl ?_
                        refine g_istore (l' := #[.val (.ref ca), .val (.int (5 : Int32)), .val (.ref ba), .val (.int (5 : Int32)), .val (.int (11 : Int32)), .val (.int (5 : Int32)), .val (.int c5)]) X588 hx 15 (hb hby d14_13) rfl rfl ?_
                        refine g_iload X588 hx 17 (hb hby d14_15) rfl rfl ?_
                        refine g_sipush X588 hx (255 : Int32) 20 (hb hby d14_17) rfl (by decide) ?_
                        have ll598 : ((255 : Int32) : Int32).toInt = 255 := by decide
                        refine g_ic_le X588 hx 26 23 (hb hby d14_20) (by decide) (by decide) rfl (fun c597 => ?_) (fun c597 => ?_)
                        · skip
                          refine g_aloadN X588 hx 27 (hb hby d14_26) rfl rfl rfl ?_
                          refine g_iloadN X588 hx 28 (hb hby d14_27) rfl rfl ?_
                          refine g_iload X588 hx 30 (hb hby d14_28) rfl rfl ?_
                          refine g_i2b X588 hx 31 (hb hby d14_30) rfl ?_
                          refine g_bastore X588 hx hZ e588 V588' 5 (by decide) (by decide) (by show 5 < 11; decide) (c5.toInt8.toInt32.toInt8.toInt32) rfl 32 (hb hby d14_31) rfl ?_
                          intro T599 h599 X599 e599 W599 V599
                          have F600 := F589.other W599 ncb
                          have K602 := K591.wr W599 (Or.inl (List.mem_of_getElem? (i := 0) rfl))
                          have N603 := Fr.snoc X599 N592 gb
                          have Z604 : n0 ≤ h599.size := by rw [W599.size]; exact Z593
                          have V599' : Arv Z h599 ba kb .byte (11 : Int32) [(.int (c0.toInt8.toInt32.toInt8.toInt32)), (.int (c1.toInt8.toInt32.toInt8.toInt32)), (.int (c2.toInt8.toInt32.toInt8.toInt32)), (.int (c3.toInt8.toInt32.toInt8.toInt32)), (.int (c4.toInt8.toInt32.toInt8.toInt32)), (.int (c5.toInt8.toInt32.toInt8.toInt32)), (.int (0 : Int32)), (.int (0 : Int32)), (.int (0 : Int32)), (.int (0 : Int32)), (.int (0 : Int32))] (.int 0) := V599
                          refine g_iincC X599 hx (w := (1 : Int32)) (6 : Int32) (by decide) (l' := #[.val (.ref ca), .val (.int (6 : Int32)), .val (.ref ba), .val (.int (5 : Int32)), .val (.int (11 : Int32)), .val (.int (5 : Int32)), .val (.int c5)]) 35 (hb hby d14_32) rfl rfl (by decide) rfl ?_
                          refine g_iincC X599 hx (w := (1 : Int32)) (6 : Int32) (by decide) (l' := #[.val (.ref ca), .val (.int (6 : Int32)), .val (.ref ba), .val (.int (6 : Int32)), .val (.int (11 : Int32)), .val (.int (5 : Int32)), .val (.int c5)]) 38 (hb hby d14_35) rfl rfl (by decide) rfl ?_
                          refine g_iincC X599 hx (w := (1 : Int32)) (6 : Int32) (by decide) (l' := #[.val (.ref ca), .val (.int (6 : Int32)), .val (.ref ba), .val (.int (6 : Int32)), .val (.int (11 : Int32)), .val (.int (6 : Int32)), .val (.int c5)]) 41 (hb hby d14_38) rfl rfl (by decide) rfl ?_
                          refine g_goto X599 hx 3 (hb hby d14_41) (by decide) (by decide) ?_
                          refine g_iload X599 hx 5 (hb hby d14_3) rfl rfl ?_
                          refine g_iload X599 hx 7 (hb hby d14_5) rfl rfl ?_
                          have ll606 : ((11 : Int32) : Int32).toInt = 11 := by decide
                          have ll607 : ((6 : Int32) : Int32).toInt = 6 := by decide
                          refine g_ic_ge X599 hx 44 10 (hb hby d14_7) (by decide) (by decide) rfl (fun c605 => ?_) (fun c605 => ?_)
                          · skip
                            exfalso; revert c605; decide
                          · skip
                            refine g_aloadN X599 hx 11 (hb hby d14_10) rfl rfl rfl ?_
                            refine g_iloadN X599 hx 12 (hb hby d14_11) rfl rfl ?_
                            refine g_caload X599 hx hZ e599 F600 (by decide) (by decide) (by rw [show ((6 : Int32) : Int32).toNatClampNeg = 6 by decide] <;> rfl) 13 (hb hby d14_12) rfl ?_
                            refine g_istore (l' := #[.val (.ref ca), .val (.int (6 : Int32)), .val (.ref ba), .val (.int (6 : Int32)), .val (.int (11 : Int32)), .val (.int (6 : Int32)), .val (.int c6)]) X599 hx 15 (hb hby d14_13) rfl rfl ?_
                            refine g_iload X599 hx 17 (hb hby d14_15) rfl rfl ?_
                            refine g_sipush X599 hx (255 : Int32) 20 (hb hby d14_17) rfl (by decide) ?_
                            have ll609 : ((255 : Int32) : Int32).toInt = 255 := by decide
                            refine g_ic_le X599 hx 26 23 (hb hby d14_20) (by decide) (by decide) rfl (fun c608 => ?_) (fun c608 => ?_)
                            · skip
                              refine g_aloadN X599 hx 27 (hb hby d14_26) rfl rfl rfl ?_
                              refine g_iloadN X599 hx 28 (hb hby d14_27) rfl rfl ?_
                              refine g_iload X599 hx 30 (hb hby d14_28) rfl rfl ?_
                              refine g_i2b X599 hx 31 (hb hby d14_30) rfl ?_
                              refine g_bastore X599 hx hZ e599 V599' 6 (by decide) (by decide) (by show 6 < 11; decide) (c6.toInt8.toInt32.toInt8.toInt32) rfl 32 (hb hby d14_31) rfl ?_
                              intro T610 h610 X610 e610 W610 V610
                              have F611 := F600.other W610 ncb
                              have K613 := K602.wr W610 (Or.inl (List.mem_of_getElem? (i := 0) rfl))
                              have N614 := Fr.snoc X610 N603 gb
                              have Z615 : n0 ≤ h610.size := by rw [W610.size]; exact Z604
                              have V610' : Arv Z h610 ba kb .byte (11 : Int32) [(.int (c0.toInt8.toInt32.toInt8.toInt32)), (.int (c1.toInt8.toInt32.toInt8.toInt32)), (.int (c2.toInt8.toInt32.toInt8.toInt32)), (.int (c3.toInt8.toInt32.toInt8.toInt32)), (.int (c4.toInt8.toInt32.toInt8.toInt32)), (.int (c5.toInt8.toInt32.toInt8.toInt32)), (.int (c6.toInt8.toInt32.toInt8.toInt32)), (.int (0 : Int32)), (.int (0 : Int32)), (.int (0 : Int32)), (.int (0 : Int32))] (.int 0) := V610
                              refine g_iincC X610 hx (w := (1 : Int32)) (7 : Int32) (by decide) (l' := #[.val (.ref ca), .val (.int (7 : Int32)), .val (.ref ba), .val (.int (6 : Int32)), .val (.int (11 : Int32)), .val (.int (6 : Int32)), .val (.int c6)]) 35 (hb hby d14_32) rfl rfl (by decide) rfl ?_
                              refine g_iincC X610 hx (w := (1 : Int32)) (7 : Int32) (by decide) (l' := #[.val (.ref ca), .val (.int (7 : Int32)), .val (.ref ba), .val (.int (7 : Int32)), .val (.int (11 : Int32)), .val (.int (6 : Int32)), .val (.int c6)]) 38 (hb hby d14_35) rfl rfl (by decide) rfl ?_
                              refine g_iincC X610 hx (w := (1 : Int32)) (7 : Int32) (by decide) (l' := #[.val (.ref ca), .val (.int (7 : Int32)), .val (.ref ba), .val (.int (7 : Int32)), .val (.int (11 : Int32)), .val (.int (7 : Int32)), .val (.int c6)]) 41 (hb hby d14_38) rfl rfl (by decide) rfl ?_
                              refine g_goto X610 hx 3 (hb hby d14_41) (by decide) (by decide) ?_
                              refine g_iload X610 hx 5 (hb hby d14_3) rfl rfl ?_
                              refine g_iload X610 hx 7 (hb hby d14_5) rfl rfl ?_
                              have ll617 : ((11 : Int32) : Int32).toInt = 11 := by decide
                              have ll618 : ((7 : Int32) : Int32).toInt = 7 := by decide
                              refine g_ic_ge X610 hx 44 10 (hb hby d14_7) (by decide) (by decide) rfl (fun c616 => ?_) (fun c616 => ?_)
                              · skip
                                exfalso; revert c616; decide
                              · skip
                                refine g_aloadN X610 hx 11 (hb hby d14_10) rfl rfl rfl ?_
                                refine g_iloadN X610 hx 12 (hb hby d14_11) rfl rfl ?_
                                refine g_caload X610 hx hZ e610 F611 (by decide) (by decide) (by rw [show ((7 : Int32) : Int32).toNatClampNeg = 7 by decide] <;> rfl) 13 (hb hby d14_12) rfl ?_
                                refine g_istore (l' := #[.val (.ref ca), .val (.int (7 : Int32)), .val (.ref ba), .val (.int (7 : Int32)), .val (.int (11 : Int32)), .val (.int (7 : Int32)), .val (.int c7)]) X610 hx 15 (hb hby d14_13) rfl rfl ?_
                                refine g_iload X610 hx 17 (hb hby d14_15) rfl rfl ?_
                                refine g_sipush X610 hx (255 : Int32) 20 (hb hby d14_17) rfl (by decide) ?_
                                have ll620 : ((255 : Int32) : Int32).toInt = 255 := by decide
                                refine g_ic_le X610 hx 26 23 (hb hby d14_20) (by decide) (by decide) rfl (fun c619 => ?_) (fun c619 => ?_)
                                · skip
                                  refine g_aloadN X610 hx 27 (hb hby d14_26) rfl rfl rfl ?_
                                  refine g_iloadN X610 hx 28 (hb hby d14_27) rfl rfl ?_
                                  refine g_iload X610 hx 30 (hb hby d14_28) rfl rfl ?_
                                  refine g_i2b X610 hx 31 (hb hby d14_30) rfl ?_
                                  refine g_bastore X610 hx hZ e610 V610' 7 (by decide) (by decide) (by show 7 < 11; decide) (c7.toInt8.toInt32.toInt8.toInt32) rfl 32 (hb hby d14_31) rfl ?_
                                  intro T621 h621 X621 e621 W621 V621
                                  have F622 := F611.other W621 ncb
                                  have K624 := K613.wr W621 (Or.inl (List.mem_of_getElem? (i := 0) rfl))
                                  have N625 := Fr.snoc X621 N614 gb
                                  have Z626 : n0 ≤ h621.size := by rw [W621.size]; exact Z615
                                  have V621' : Arv Z h621 ba kb .byte (11 : Int32) [(.int (c0.toInt8.toInt32.toInt8.toInt32)), (.int (c1.toInt8.toInt32.toInt8.toInt32)), (.int (c2.toInt8.toInt32.toInt8.toInt32)), (.int (c3.toInt8.toInt32.toInt8.toInt32)), (.int (c4.toInt8.toInt32.toInt8.toInt32)), (.int (c5.toInt8.toInt32.toInt8.toInt32)), (.int (c6.toInt8.toInt32.toInt8.toInt32)), (.int (c7.toInt8.toInt32.toInt8.toInt32)), (.int (0 : Int32)), (.int (0 : Int32)), (.int (0 : Int32))] (.int 0) := V621
                                  refine g_iincC X621 hx (w := (1 : Int32)) (8 : Int32) (by decide) (l' := #[.val (.ref ca), .val (.int (8 : Int32)), .val (.ref ba), .val (.int (7 : Int32)), .val (.int (11 : Int32)), .val (.int (7 : Int32)), .val (.int c7)]) 35 (hb hby d14_32) rfl rfl (by decide) rfl ?_
                                  refine g_iincC X621 hx (w := (1 : Int32)) (8 : Int32) (by decide) (l' := #[.val (.ref ca), .val (.int (8 : Int32)), .val (.ref ba), .val (.int (8 : Int32)), .val (.int (11 : Int32)), .val (.int (7 : Int32)), .val (.int c7)]) 38 (hb hby d14_35) rfl rfl (by decide) rfl ?_
                                  refine g_iincC X621 hx (w := (1 : Int32)) (8 : Int32) (by decide) (l' := #[.val (.ref ca), .val (.int (8 : Int32)), .val (.ref ba), .val (.int (8 : Int32)), .val (.int (11 : Int32)), .val (.int (8 : Int32)), .val (.int c7)]) 41 (hb hby d14_38) rfl rfl (by decide) rfl ?_
                                  refine g_goto X621 hx 3 (hb hby d14_41) (by decide) (by decide) ?_
                                  refine g_iload X621 hx 5 (hb hby d14_3) rfl rfl ?_
                                  refine g_iload X621 hx 7 (hb hby d14_5) rfl rfl ?_
                                  have ll628 : ((11 : Int32) : Int32).toInt = 11 := by decide
                                  have ll629 : ((8 : Int32) : Int32).toInt = 8 := by decide
                                  refine g_ic_ge X621 hx 44 10 (hb hby d14_7) (by decide) (by decide) rfl (fun c627 => ?_) (fun c627 => ?_)
                                  · skip
                                    exfalso; revert c627; decide
                                  · skip
                                    refine g_aloadN X621 hx 11 (hb hby d14_10) rfl rfl rfl ?_
                                    refine g_iloadN X621 hx 12 (hb hby d14_11) rfl rfl ?_
                                    refine g_caload X621 hx hZ e621 F622 (by decide) (by decide) (by rw [show ((8 : Int32) : Int32).toNatClampNeg = 8 by decide] <;> rfl) 13 (hb hby d14_12) rfl ?_
                                    refine g_istore (l' := #[.val (.ref ca), .val (.int (8 : Int32)), .val (.ref ba), .val (.int (8 : Int32)), .val (.int (11 : Int32)), .val (.int (8 : Int32)), .val (.int c8)]) X621 hx 15 (hb hby d14_13) rfl rfl ?_
                                    refine g_iload X621 hx 17 (hb hby d14_15) rfl rfl ?_
                                    refine g_sipush X621 hx (255 : Int32) 20 (hb hby d14_17) rfl (by decide) ?_
                                    have ll631 : ((255 : Int32) : Int32).toInt = 255 := by decide
                                    refine g_ic_le X621 hx 26 23 (hb hby d14_20) (by decide) (by decide) rfl (fun c630 => ?_) (fun c630 => ?_)
                                    · skip
                                      refine g_aloadN X621 hx 27 (hb hby d14_26) rfl rfl rfl ?_
                                      refine g_iloadN X621 hx 28 (hb hby d14_27) rfl rfl ?_
                                      refine g_iload X621 hx 30 (hb hby d14_28) rfl rfl ?_
                                      refine g_i2b X621 hx 31 (hb hby d14_30) rfl ?_
                                      refine g_bastore X621 hx hZ e621 V621' 8 (by decide) (by decide) (by show 8 < 11; decide) (c8.toInt8.toInt32.toInt8.toInt32) rfl 32 (hb hby d14_31) rfl ?_
                                      intro T632 h632 X632 e632 W632 V632
                                      have F633 := F622.other W632 ncb
                                      have K635 := K624.wr W632 (Or.inl (List.mem_of_getElem? (i := 0) rfl))
                                      have N636 := Fr.snoc X632 N625 gb
                                      have Z637 : n0 ≤ h632.size := by rw [W632.size]; exact Z626
                                      have V632' : Arv Z h632 ba kb .byte (11 : Int32) [(.int (c0.toInt8.toInt32.toInt8.toInt32)), (.int (c1.toInt8.toInt32.toInt8.toInt32)), (.int (c2.toInt8.toInt32.toInt8.toInt32)), (.int (c3.toInt8.toInt32.toInt8.toInt32)), (.int (c4.toInt8.toInt32.toInt8.toInt32)), (.int (c5.toInt8.toInt32.toInt8.toInt32)), (.int (c6.toInt8.toInt32.toInt8.toInt32)), (.int (c7.toInt8.toInt32.toInt8.toInt32)), (.int (c8.toInt8.toInt32.toInt8.toInt32)), (.int (0 : Int32)), (.int (0 : Int32))] (.int 0) := V632
                                      refine g_iincC X632 hx (w := (1 : Int32)) (9 : Int32) (by decide) (l' := #[.val (.ref ca), .val (.int (9 : Int32)), .val (.ref ba), .val (.int (8 : Int32)), .val (.int (11 : Int32)), .val (.int (8 : Int32)), .val (.int c8)]) 35 (hb hby d14_32) rfl rfl (by decide) rfl ?_
                                      refine g_iincC X632 hx (w := (1 : Int32)) (9 : Int32) (by decide) (l' := #[.val (.ref ca), .val (.int (9 : Int32)), .val (.ref ba), .val (.int (9 : Int32)), .val (.int (11 : Int32)), .val (.int (8 : Int32)), .val (.int c8)]) 38 (hb hby d14_35) rfl rfl (by decide) rfl ?_
                                      refine g_iincC X632 hx (w := (1 : Int32)) (9 : Int32) (by decide) (l' := #[.val (.ref ca), .val (.int (9 : Int32)), .val (.ref ba), .val (.int (9 : Int32)), .val (.int (11 : Int32)), .val (.int (9 : Int32)), .val (.int c8)]) 41 (hb hby d14_38) rfl rfl (by decide) rfl ?_
                                      refine g_goto X632 hx 3 (hb hby d14_41) (by decide) (by decide) ?_
                                      refine g_iload X632 hx 5 (hb hby d14_3) rfl rfl ?_
                                      refine g_iload X632 hx 7 (hb hby d14_5) rfl rfl ?_
                                      have ll639 : ((11 : Int32) : Int32).toInt = 11 := by decide
                                      have ll640 : ((9 : Int32) : Int32).toInt = 9 := by decide
                                      refine g_ic_ge X632 hx 44 10 (hb hby d14_7) (by decide) (by decide) rfl (fun c638 => ?_) (fun c638 => ?_)
                                      · skip
                                        exfalso; revert c638; decide
                                      · skip
                                        refine g_aloadN X632 hx 11 (hb hby d14_10) rfl rfl rfl ?_
                                        refine g_iloadN X632 hx 12 (hb hby d14_11) rfl rfl ?_
                                        refine g_caload X632 hx hZ e632 F633 (by decide) (by decide) (by rw [show ((9 : Int32) : Int32).toNatClampNeg = 9 by decide] <;> rfl) 13 (hb hby d14_12) rfl ?_
                                        refine g_istore (l' := #[.val (.ref ca), .val (.int (9 : Int32)), .val (.ref ba), .val (.int (9 : Int32)), .val (.int (11 : Int32)), .val (.int (9 : Int32)), .val (.int c9)]) X632 hx 15 (hb hby d14_13) rfl rfl ?_
                                        refine g_iload X632 hx 17 (hb hby d14_15) rfl rfl ?_
                                        refine g_sipush X632 hx (255 : Int32) 20 (hb hby d14_17) rfl (by decide) ?_
                                        have ll642 : ((255 : Int32) : Int32).toInt = 255 := by decide
                                        refine g_ic_le X632 hx 26 23 (hb hby d14_20) (by decide) (by decide) rfl (fun c641 => ?_) (fun c641 => ?_)
                                        · skip
                                          refine g_aloadN X632 hx 27 (hb hby d14_26) rfl rfl rfl ?_
                                          refine g_iloadN X632 hx 28 (hb hby d14_27) rfl rfl ?_
                                          refine g_iload X632 hx 30 (hb hby d14_28) rfl rfl ?_
                                          refine g_i2b X632 hx 31 (hb hby d14_30) rfl ?_
                                          refine g_bastore X632 hx hZ e632 V632' 9 (by decide) (by decide) (by show 9 < 11; decide) (c9.toInt8.toInt32.toInt8.toInt32) rfl 32 (hb hby d14_31) rfl ?_
                                          intro T643 h643 X643 e643 W643 V643
                                          have F644 := F633.other W643 ncb
                                          have K646 := K635.wr W643 (Or.inl (List.mem_of_getElem? (i := 0) rfl))
                                          have N647 := Fr.snoc X643 N636 gb
                                          have Z648 : n0 ≤ h643.size := by rw [W643.size]; exact Z637
                                          have V643' : Arv Z h643 ba kb .byte (11 : Int32) [(.int (c0.toInt8.toInt32.toInt8.toInt32)), (.int (c1.toInt8.toInt32.toInt8.toInt32)), (.int (c2.toInt8.toInt32.toInt8.toInt32)), (.int (c3.toInt8.toInt32.toInt8.toInt32)), (.int (c4.toInt8.toInt32.toInt8.toInt32)), (.int (c5.toInt8.toInt32.toInt8.toInt32)), (.int (c6.toInt8.toInt32.toInt8.toInt32)), (.int (c7.toInt8.toInt32.toInt8.toInt32)), (.int (c8.toInt8.toInt32.toInt8.toInt32)), (.int (c9.toInt8.toInt32.toInt8.toInt32)), (.int (0 : Int32))] (.int 0) := V643
                                          refine g_iincC X643 hx (w := (1 : Int32)) (10 : Int32) (by decide) (l' := #[.val (.ref ca), .val (.int (10 : Int32)), .val (.ref ba), .val (.int (9 : Int32)), .val (.int (11 : Int32)), .val (.int (9 : Int32)), .val (.int c9)]) 35 (hb hby d14_32) rfl rfl (by decide) rfl ?_
                                          refine g_iincC X643 hx (w := (1 : Int32)) (10 : Int32) (by decide) (l' := #[.val (.ref ca), .val (.int (10 : Int32)), .val (.ref ba), .val (.int (10 : Int32)), .val (.int (11 : Int32)), .val (.int (9 : Int32)), .val (.int c9)]) 38 (hb hby d14_35) rfl rfl (by decide) rfl ?_
                                          refine g_iincC X643 hx (w := (1 : Int32)) (10 : Int32) (by decide) (l' := #[.val (.ref ca), .val (.int (10 : Int32)), .val (.ref ba), .val (.int (10 : Int32)), .val (.int (11 : Int32)), .val (.int (10 : Int32)), .val (.int c9)]) 41 (hb hby d14_38) rfl rfl (by decide) rfl ?_
                                          refine g_goto X643 hx 3 (hb hby d14_41) (by decide) (by decide) ?_
                                          refine g_iload X643 hx 5 (hb hby d14_3) rfl rfl ?_
                                          refine g_iload X643 hx 7 (hb hby d14_5) rfl rfl ?_
                                          have ll650 : ((11 : Int32) : Int32).toInt = 11 := by decide
                                          have ll651 : ((10 : Int32) : Int32).toInt = 10 := by decide
                                          refine g_ic_ge X643 hx 44 10 (hb hby d14_7) (by decide) (by decide) rfl (fun c649 => ?_) (fun c649 => ?_)
                                          · skip
                                            exfalso; revert c649; decide
                                          · skip
                                            refine g_aloadN X643 hx 11 (hb hby d14_10) rfl rfl rfl ?_
                                            refine g_iloadN X643 hx 12 (hb hby d14_11) rfl rfl ?_
                                            refine g_caload X643 hx hZ e643 F644 (by decide) (by decide) (by rw [show ((10 : Int32) : Int32).toNatClampNeg = 10 by decide] <;> rfl) 13 (hb hby d14_12) rfl ?_
                                            refine g_istore (l' := #[.val (.ref ca), .val (.int (10 : Int32)), .val (.ref ba), .val (.int (10 : Int32)), .val (.int (11 : Int32)), .val (.int (10 : Int32)), .val (.int c10)]) X643 hx 15 (hb hby d14_13) rfl rfl ?_
                                            refine g_iload X643 hx 17 (hb hby d14_15) rfl rfl ?_
                                            refine g_sipush X643 hx (255 : Int32) 20 (hb hby d14_17) rfl (by decide) ?_
                                            have ll653 : ((255 : Int32) : Int32).toInt = 255 := by decide
                                            refine g_ic_le X643 hx 26 23 (hb hby d14_20) (by decide) (by decide) rfl (fun c652 => ?_) (fun c652 => ?_)
                                            · skip
                                              refine g_aloadN X643 hx 27 (hb hby d14_26) rfl rfl rfl ?_
                                              refine g_iloadN X643 hx 28 (hb hby d14_27) rfl rfl ?_
                                              refine g_iload X643 hx 30 (hb hby d14_28) rfl rfl ?_
                                              refine g_i2b X643 hx 31 (hb hby d14_30) rfl ?_
                                              refine g_bastore X643 hx hZ e643 V643' 10 (by decide) (by decide) (by show 10 < 11; decide) (c10.toInt8.toInt32.toInt8.toInt32) rfl 32 (hb hby d14_31) rfl ?_
                                              intro T654 h654 X654 e654 W654 V654
                                              have F655 := F644.other W654 ncb
                                              have K657 := K646.wr W654 (Or.inl (List.mem_of_getElem? (i := 0) rfl))
                                              have N658 := Fr.snoc X654 N647 gb
                                              have Z659 : n0 ≤ h654.size := by rw [W654.size]; exact Z648
                                              have V654' : Arv Z h654 ba kb .byte (11 : Int32) [(.int (c0.toInt8.toInt32.toInt8.toInt32)), (.int (c1.toInt8.toInt32.toInt8.toInt32)), (.int (c2.toInt8.toInt32.toInt8.toInt32)), (.int (c3.toInt8.toInt32.toInt8.toInt32)), (.int (c4.toInt8.toInt32.toInt8.toInt32)), (.int (c5.toInt8.toInt32.toInt8.toInt32)), (.int (c6.toInt8.toInt32.toInt8.toInt32)), (.int (c7.toInt8.toInt32.toInt8.toInt32)), (.int (c8.toInt8.toInt32.toInt8.toInt32)), (.int (c9.toInt8.toInt32.toInt8.toInt32)), (.int (c10.toInt8.toInt32.toInt8.toInt32))] (.int 0) := V654
                                              refine g_iincC X654 hx (w := (1 : Int32)) (11 : Int32) (by decide) (l' := #[.val (.ref ca), .val (.int (11 : Int32)), .val (.ref ba), .val (.int (10 : Int32)), .val (.int (11 : Int32)), .val (.int (10 : Int32)), .val (.int c10)]) 35 (hb hby d14_32) rfl rfl (by decide) rfl ?_
                                              refine g_iincC X654 hx (w := (1 : Int32)) (11 : Int32) (by decide) (l' := #[.val (.ref ca), .val (.int (11 : Int32)), .val (.ref ba), .val (.int (11 : Int32)), .val (.int (11 : Int32)), .val (.int (10 : Int32)), .val (.int c10)]) 38 (hb hby d14_35) rfl rfl (by decide) rfl ?_
                                              refine g_iincC X654 hx (w := (1 : Int32)) (11 : Int32) (by decide) (l' := #[.val (.ref ca), .val (.int (11 : Int32)), .val (.ref ba), .val (.int (11 : Int32)), .val (.int (11 : Int32)), .val (.int (11 : Int32)), .val (.int c10)]) 41 (hb hby d14_38) rfl rfl (by decide) rfl ?_
                                              refine g_goto X654 hx 3 (hb hby d14_41) (by decide) (by decide) ?_
                                              refine g_iload X654 hx 5 (hb hby d14_3) rfl rfl ?_
                                              refine g_iload X654 hx 7 (hb hby d14_5) rfl rfl ?_
                                              have ll661 : ((11 : Int32) : Int32).toInt = 11 := by decide
                                              have ll662 : ((11 : Int32) : Int32).toInt = 11 := by decide
                                              refine g_ic_ge X654 hx 44 10 (hb hby d14_7) (by decide) (by decide) rfl (fun c660 => ?_) (fun c660 => ?_)
                                              · skip
                                                refine g_iload X654 hx 46 (hb hby d14_44) rfl rfl ?_
                                                exact g_retI X654 hx hlk hret (hb hby d14_46) (by decide) (by decide) e654 ⟨rfl, N658, K657, V654'⟩
                                              · skip
                                                exfalso; revert c660; decide
                                            · skip
                                              exfalso; omega
                                        · skip
                                          exfalso; omega
                                    · skip
                                      exfalso; omega
                                · skip
                                  exfalso; omega
                            · skip
                              exfalso; omega
                        · skip
                          exfalso; omega
                    · skip
                      exfalso; omega
                · skip
                  exfalso; omega
            · skip
              exfalso; omega
        · skip
          exfalso; omega
    · skip
      exfalso; omega
def Q_rmC3_11 (Z : State) (c0 c1 c2 c3 c4 c5 c6 c7 c8 c9 c10 : Int32) (n0 : Nat) (h0 : Heap) (v : Option Value) (h : Heap) (L : List Loc) : Prop := ∃ (b : Addr) (kb : ClassId), v = some (.ref b) ∧ Fr n0 L ∧ Keep h0 h [] ∧ n0 ≤ b ∧ h0.size ≤ b ∧ Arv Z h b kb .byte 11 [(.int (c0.toInt8.toInt32.toInt8.toInt32)), (.int (c1.toInt8.toInt32.toInt8.toInt32)), (.int (c2.toInt8.toInt32.toInt8.toInt32)), (.int (c3.toInt8.toInt32.toInt8.toInt32)), (.int (c4.toInt8.toInt32.toInt8.toInt32)), (.int (c5.toInt8.toInt32.toInt8.toInt32)), (.int (c6.toInt8.toInt32.toInt8.toInt32)), (.int (c7.toInt8.toInt32.toInt8.toInt32)), (.int (c8.toInt8.toInt32.toInt8.toInt32)), (.int (c9.toInt8.toInt32.toInt8.toInt32)), (.int (c10.toInt8.toInt32.toInt8.toInt32))] (.int 0)
theorem ef_rmC3_11 (ca : Addr) (m : MethodId) : entryFrame m #[(.ref ca), (.int 0), (.int 11)] 6 = mkF m 0 #[.val (.ref ca), .val (.int 0), .val (.int 11), .unset, .unset, .unset] [] := by first | (simp [entryFrame, mkF, argsToLocals, Value.category]; done) | rfl
theorem rmC3_11 (l : Launch) (Z : State) (a0 : Array Value) (hw : ∀ d ∈ tables_1, d.before a0 Z = true) (ca : Addr) (h0 : Heap) (n0 : Nat) (Z0 : n0 ≤ h0.size) (kc : ClassId) (c0 c1 c2 c3 c4 c5 c6 c7 c8 c9 c10 : Int32) (bc0 : 0 ≤ c0.toInt ∧ c0.toInt ≤ 255) (bc1 : 0 ≤ c1.toInt ∧ c1.toInt ≤ 255) (bc2 : 0 ≤ c2.toInt ∧ c2.toInt ≤ 255) (bc3 : 0 ≤ c3.toInt ∧ c3.toInt ≤ 255) (bc4 : 0 ≤ c4.toInt ∧ c4.toInt ≤ 255) (bc5 : 0 ≤ c5.toInt ∧ c5.toInt ≤ 255) (bc6 : 0 ≤ c6.toInt ∧ c6.toInt ≤ 255) (bc7 : 0 ≤ c7.toInt ∧ c7.toInt ≤ 255) (bc8 : 0 ≤ c8.toInt ∧ c8.toInt ≤ 255) (bc9 : 0 ≤ c9.toInt ∧ c9.toInt ≤ 255) (bc10 : 0 ≤ c10.toInt ∧ c10.toInt ≤ 255) (Vc : Arv Z h0 ca kc .char 11 [(.int c0), (.int c1), (.int c2), (.int c3), (.int c4), (.int c5), (.int c6), (.int c7), (.int c8), (.int c9), (.int c10)] (.int 0)) :
    MetFree l (⟨"java/lang/StringUTF16", "compress", "([CII)[B"⟩ : MethodName) (head1 [Jvm.Cond.code (⟨"java/lang/StringUTF16", "compress", "([CII)[B"⟩ : MethodName) jdk_52_method_16_code 6 (some (.array .byte))] ({ frames := 1, cells := 1, slots := 11, locals := 20 } : Room)) (fun as_ U => as_ = #[(.ref ca), (.int 0), (.int 11)] ∧ Z.Warmed39 U.vm ∧ U.heap = h0) (fun _ _ _ _ _ => True) (fun _ U o U' => ∃ v L, o = .returned v ∧ Q_rmC3_11 Z c0 c1 c2 c3 c4 c5 c6 c7 c8 c9 c10 n0 h0 v U'.heap L ∧ FrameEnd U o U' L ({ frames := 1, cells := 1, slots := 11, locals := 20 } : Room).cells ({ frames := 1, cells := 1, slots := 11, locals := 20 } : Room).slots) := by
  refine own_met own_pf8 (ef_rmC3_11 ca) ?_
  intro p e s m below meth c T0 X0 hx hby hml hret hlk hnm hown hZ e0
  have N0 := Fr.nil n0
  refine g_iloadN X0 hx 1 (hb hby d13_0) rfl rfl ?_
  refine g_newP X0 hx hZ (aty := .byte) (hw _ (List.mem_of_getElem? (i := 3) rfl)) e0 (by decide) (cap := 11) (by decide) (by decide) 3 (hb hby d13_1) rfl (by decide) (by decide) (ad := "[B") (by decide) ?_
  intro T663 h663 k663 a663 g663 X663 e663 E663 V663 A663
  have ne664 : ca ≠ a663 := Nat.ne_of_lt (by rw [g663]; exact Vc.lt)
  have ge665 : n0 ≤ a663 := by rw [g663]; exact Z0
  have sz666 : h0.size ≤ a663 := by rw [g663]; exact (Keep.refl h0 []).1
  have F667 := Vc.ext E663
  have K668 := (Keep.refl h0 []).ext E663
  have Z669 : n0 ≤ h663.size := Nat.le_trans Z0 E663.1
  have V663' : Arv Z h663 a663 k663 .byte (11 : Int32) [(.int (0 : Int32)), (.int (0 : Int32)), (.int (0 : Int32)), (.int (0 : Int32)), (.int (0 : Int32)), (.int (0 : Int32)), (.int (0 : Int32)), (.int (0 : Int32)), (.int (0 : Int32)), (.int (0 : Int32)), (.int (0 : Int32))] (.int (0 : Int32)) := V663.pad (pad_rep [] (.int (0 : Int32)) 11)
  refine g_astoreN (l' := #[.val (.ref ca), .val (.int (0 : Int32)), .val (.int (11 : Int32)), .val (.ref a663), .unset, .unset]) X663 hx 4 (hb hby d13_3) rfl rfl rfl ?_
  refine g_aloadN X663 hx 5 (hb hby d13_4) rfl rfl rfl ?_
  refine g_iloadN X663 hx 6 (hb hby d13_5) rfl rfl ?_
  refine g_aloadN X663 hx 7 (hb hby d13_6) rfl rfl rfl ?_
  refine g_iconst X663 hx (0 : Int32) 8 (hb hby d13_7) rfl (by decide) ?_
  refine g_iloadN X663 hx 9 (hb hby d13_8) rfl rfl ?_
  refine g_static X663 hx hZ hown (hw _ (List.mem_of_getElem? (i := 67) rfl)) (hw _ (List.mem_of_getElem? (i := 68) rfl)) (hw _ (List.mem_of_getElem? (i := 65) rfl)) (hw _ (List.mem_of_getElem? (i := 69) rfl)) (by decide) (rmCp_11 l Z a0 hw ca a663 h663 n0 Z669 kc k663 c0 c1 c2 c3 c4 c5 c6 c7 c8 c9 c10 bc0 bc1 bc2 bc3 bc4 bc5 bc6 bc7 bc8 bc9 bc10 ne664 ge665 F667 V663') e663 (argsL := [(.ref ca), (.int (0 : Int32)), (.ref a663), (.int (0 : Int32)), (.int (11 : Int32))]) (rest := []) rfl rfl 0 12 rfl (by rw [hml]; rfl) (lenOf own_pd13 rfl) (Nat.le_refl _) (by decide) (by decide) (by decide) (by decide) (hb hby d13_9) ?_
  intro v670 T670 L670 X670 hQ670
  obtain ⟨rfl, N670, K670, V670⟩ := hQ670
  have N671 := Fr.app N0 N670
  have F672 := F667.keep K670 (ninS ne664 nin0)
  have F673 := A663.keep K670
  have Z675 : n0 ≤ T670.heap.size := Nat.le_trans Z669 K670.1
  have K676 := K668.trans K670 (allS (Or.inr sz666) all0)
  show Go p e below _ T670 (mkF m 12 #[.val (.ref ca), .val (.int (0 : Int32)), .val (.int (11 : Int32)), .val (.ref a663), .unset, .unset] [(.int (11 : Int32))])
  refine g_istore (l' := #[.val (.ref ca), .val (.int (0 : Int32)), .val (.int (11 : Int32)), .val (.ref a663), .val (.int (11 : Int32)), .unset]) X670 hx 14 (hb hby d13_12) rfl rfl ?_
  refine g_iload X670 hx 16 (hb hby d13_14) rfl rfl ?_
  refine g_iloadN X670 hx 17 (hb hby d13_16) rfl rfl ?_
  have ll678 : ((11 : Int32) : Int32).toInt = 11 := by decide
  have ll679 : ((11 : Int32) : Int32).toInt = 11 := by decide
  refine g_ic_eq X670 hx 57 20 (hb hby d13_17) (by decide) (by decide) rfl (fun c677 => ?_) (fun c677 => ?_)
  · skip
    refine g_aloadN X670 hx 58 (hb hby d13_57) rfl rfl rfl ?_
    exact g_retA X670 hx hlk hret rfl rfl rfl (hb hby d13_58) (by decide) (by decide) rfl ⟨a663, k663, rfl, N671, K676, ge665, sz666, V670⟩
  · skip
    exfalso; revert c677; decide
def Q_rmCF_11 (n0 : Nat) (h0 : Heap) (v : Option Value) (h : Heap) (L : List Loc) : Prop := v = some (.int 0) ∧ Fr n0 L ∧ h = h0
theorem ef_rmCF_11 (b : Addr) (m : MethodId) : entryFrame m #[(.ref b), (.int 11)] 2 = mkF m 0 #[.val (.ref b), .val (.int 11)] [] := by first | (simp [entryFrame, mkF, argsToLocals, Value.category]; done) | rfl
theorem rmCF_11 (l : Launch) (Z : State) (a0 : Array Value) (hw : ∀ d ∈ tables_1, d.before a0 Z = true) (b : Addr) (h0 : Heap) (n0 : Nat) (Z0 : n0 ≤ h0.size) (kb : ClassId) (vs : List Value) (V : Arv Z h0 b kb .byte 11 vs (.int 0)) :
    MetFree l (⟨"java/lang/StringUTF16", "coderFromArrayLen", "([BI)B"⟩ : MethodName) (head1 [Jvm.Cond.code (⟨"java/lang/StringUTF16", "coderFromArrayLen", "([BI)B"⟩ : MethodName) jdk_52_method_15_code 2 (some .byte)] ({ frames := 0, cells := 0, slots := 0, locals := 0 } : Room)) (fun as_ U => as_ = #[(.ref b), (.int 11)] ∧ Z.Warmed39 U.vm ∧ U.heap = h0) (fun _ _ _ _ _ => True) (fun _ U o U' => ∃ v L, o = .returned v ∧ Q_rmCF_11 n0 h0 v U'.heap L ∧ FrameEnd U o U' L ({ frames := 0, cells := 0, slots := 0, locals := 0 } : Room).cells ({ frames := 0, cells := 0, slots := 0, locals := 0 } : Room).slots) := by
  refine own_met own_pf9 (ef_rmCF_11 b) ?_
  intro p e s m below meth c T0 X0 hx hby hml hret hlk hnm hown hZ e0
  have N0 := Fr.nil n0
  refine g_iloadN X0 hx 1 (hb hby d15_0) rfl rfl ?_
  refine g_aloadN X0 hx 2 (hb hby d15_1) rfl rfl rfl ?_
  refine g_len X0 hx hZ e0 V 3 (hb hby d15_2) rfl ?_
  refine g_isubC X0 hx (0 : Int32) (by decide) 4 (hb hby d15_3) rfl ?_
  refine g_bipush X0 hx (31 : Int32) 6 (hb hby d15_4) rfl (by decide) ?_
  refine g_iushr X0 hx 7 (hb hby d15_6) rfl ?_
  refine g_i2b X0 hx 8 (hb hby d15_7) rfl ?_
  exact g_retN X0 hx hlk hret (by simp) (hb hby d15_8) (by decide) (by decide) e0 ⟨by decide, N0, rfl⟩
def Q_rmI4_11 (Z : State) (a : Addr) (c0 c1 c2 c3 c4 c5 c6 c7 c8 c9 c10 : Int32) (n0 : Nat) (h0 : Heap) (v : Option Value) (h : Heap) (L : List Loc) : Prop := v = none ∧ Fr n0 L ∧ Keep h0 h [a] ∧ ∃ (b : Addr) (kb : ClassId), n0 ≤ b ∧ h0.size ≤ b ∧ Fld Z h a "java/lang/String" "coder" "B" (.int 0) ∧ Fld Z h a "java/lang/String" "value" "[B" (.ref b) ∧ Arv Z h b kb .byte 11 [(.int (c0.toInt8.toInt32.toInt8.toInt32)), (.int (c1.toInt8.toInt32.toInt8.toInt32)), (.int (c2.toInt8.toInt32.toInt8.toInt32)), (.int (c3.toInt8.toInt32.toInt8.toInt32)), (.int (c4.toInt8.toInt32.toInt8.toInt32)), (.int (c5.toInt8.toInt32.toInt8.toInt32)), (.int (c6.toInt8.toInt32.toInt8.toInt32)), (.int (c7.toInt8.toInt32.toInt8.toInt32)), (.int (c8.toInt8.toInt32.toInt8.toInt32)), (.int (c9.toInt8.toInt32.toInt8.toInt32)), (.int (c10.toInt8.toInt32.toInt8.toInt32))] (.int 0)
theorem ef_rmI4_11 (a ca : Addr) (m : MethodId) : entryFrame m #[(.ref a), (.ref ca), (.int 0), (.int 11), .null] 6 = mkF m 0 #[.val (.ref a), .val (.ref ca), .val (.int 0), .val (.int 11), .val .null, .unset] [] := by first | (simp [entryFrame, mkF, argsToLocals, Value.category]; done) | rfl
theorem rmI4_11 (l : Launch) (Z : State) (a0 : Array Value) (hw : ∀ d ∈ tables_1, d.before a0 Z = true) (a ca : Addr) (h0 : Heap) (n0 : Nat) (Z0 : n0 ≤ h0.size) (cst : Int32) (hc : cst ≠ 0) (O0 : Old Z n0 h0) (SC : Sta Z Z.heap "java/lang/String" "COMPACT_STRINGS" "Z" (.int cst)) (kc : ClassId) (c0 c1 c2 c3 c4 c5 c6 c7 c8 c9 c10 : Int32) (bc0 : 0 ≤ c0.toInt ∧ c0.toInt ≤ 255) (bc1 : 0 ≤ c1.toInt ∧ c1.toInt ≤ 255) (bc2 : 0 ≤ c2.toInt ∧ c2.toInt ≤ 255) (bc3 : 0 ≤ c3.toInt ∧ c3.toInt ≤ 255) (bc4 : 0 ≤ c4.toInt ∧ c4.toInt ≤ 255) (bc5 : 0 ≤ c5.toInt ∧ c5.toInt ≤ 255) (bc6 : 0 ≤ c6.toInt ∧ c6.toInt ≤ 255) (bc7 : 0 ≤ c7.toInt ∧ c7.toInt ≤ 255) (bc8 : 0 ≤ c8.toInt ∧ c8.toInt ≤ 255) (bc9 : 0 ≤ c9.toInt ∧ c9.toInt ≤ 255) (bc10 : 0 ≤ c10.toInt ∧ c10.toInt ≤ 255) (E : Exa Z h0 a "java/lang/String") (ga : n0 ≤ a) (nac : a ≠ ca) (Fc : Fld Z h0 a "java/lang/String" "coder" "B" (.int 0)) (Fv : Fld Z h0 a "java/lang/String" "value" "[B" .null) (Vc : Arv Z h0 ca kc .char 11 [(.int c0), (.int c1), (.int c2), (.int c3), (.int c4), (.int c5), (.int c6), (.int c7), (.int c8), (.int c9), (.int c10)] (.int 0)) :
    MetFree l (⟨"java/lang/String", "<init>", "([CIILjava/lang/Void;)V"⟩ : MethodName) (head1 [Jvm.Cond.code (⟨"java/lang/String", "<init>", "([CIILjava/lang/Void;)V"⟩ : MethodName) jdk_42_method_149_code 6 none] ({ frames := 2, cells := 1, slots := 11, locals := 44 } : Room)) (fun as_ U => as_ = #[(.ref a), (.ref ca), (.int 0), (.int 11), .null] ∧ Z.Warmed39 U.vm ∧ U.heap = h0) (fun _ _ _ _ _ => True) (fun _ U o U' => ∃ v L, o = .returned v ∧ Q_rmI4_11 Z a c0 c1 c2 c3 c4 c5 c6 c7 c8 c9 c10 n0 h0 v U'.heap L ∧ FrameEnd U o U' L ({ frames := 2, cells := 1, slots := 11, locals := 44 } : Room).cells ({ frames := 2, cells := 1, slots := 11, locals := 44 } : Room).slots) := by
  refine own_met own_pf10 (ef_rmI4_11 a ca) ?_
  intro p e s m below meth c T0 X0 hx hby hml hret hlk hnm hown hZ e0
  have N0 := Fr.nil n0
  refine g_aloadN X0 hx 1 (hb hby d11_0) rfl rfl rfl ?_
  refine g_objinit X0 hx hZ hown (hw _ (List.mem_of_getElem? (i := 60) rfl)) (hw _ (List.mem_of_getElem? (i := 61) rfl)) (hw _ (List.mem_of_getElem? (i := 62) rfl)) e0 0 4 (hb hby d11_1) rfl (by rw [hml]; rfl) (by decide) (Nat.le_refl _) (by decide) ?_
  intro T680 X680 e680
  refine g_iloadN X680 hx 5 (hb hby d11_4) rfl rfl ?_
  have ll682 : ((11 : Int32) : Int32).toInt = 11 := by decide
  refine g_if_ne X680 hx 27 8 (hb hby d11_5) (by decide) (by decide) rfl (fun c681 => ?_) (fun c681 => ?_)
  · skip
    refine g_getS X680 hx hZ hown (hw _ (List.mem_of_getElem? (i := 24) rfl)) Via.refl e680 (Sta.ext O0.2 SC) 30 (hb hby d11_27) rfl ?_
    intro T683 X683 e683
    refine g_if_eq X683 hx 58 33 (hb hby d11_30) (by decide) (by decide) rfl (fun c684 => ?_) (fun c684 => ?_)
    · skip
      exact absurd (own_t0 c684) hc
    · skip
      refine g_aloadN X683 hx 34 (hb hby d11_33) rfl rfl rfl ?_
      refine g_iloadN X683 hx 35 (hb hby d11_34) rfl rfl ?_
      refine g_iloadN X683 hx 36 (hb hby d11_35) rfl rfl ?_
      refine g_static X683 hx hZ hown (hw _ (List.mem_of_getElem? (i := 63) rfl)) (hw _ (List.mem_of_getElem? (i := 64) rfl)) (hw _ (List.mem_of_getElem? (i := 65) rfl)) (hw _ (List.mem_of_getElem? (i := 66) rfl)) (by decide) (rmC3_11 l Z a0 hw ca h0 n0 Z0 kc c0 c1 c2 c3 c4 c5 c6 c7 c8 c9 c10 bc0 bc1 bc2 bc3 bc4 bc5 bc6 bc7 bc8 bc9 bc10 Vc) e683 (argsL := [(.ref ca), (.int (0 : Int32)), (.int (11 : Int32))]) (rest := []) rfl rfl 0 39 rfl (by rw [hml]; rfl) (lenOf own_pd12 rfl) (Nat.le_refl _) (by decide) (by decide) (by decide) (by decide) (hb hby d11_36) ?_
      intro v685 T685 L685 X685 hQ685
      obtain ⟨b, kb, rfl, N685, K685, gb, sb, Vb⟩ := hQ685
      have N686 := Fr.app N0 N685
      have F687 := O0.keep K685 all0
      have F688 := E.keep K685
      have F689 := Fc.keep K685 nin0
      have F690 := Fv.keep K685 nin0
      have F691 := Vc.keep K685 nin0
      have Z692 : n0 ≤ T685.heap.size := Nat.le_trans Z0 K685.1
      have K693 := (Keep.refl h0 [a]).trans K685 all0
      have nab : a ≠ b := Nat.ne_of_lt (Nat.lt_of_lt_of_le E.lt sb)
      have sb := Nat.le_trans ((Keep.refl h0 [a])).1 sb
      show Go p e below _ T685 (mkF m 39 #[.val (.ref a), .val (.ref ca), .val (.int (0 : Int32)), .val (.int (11 : Int32)), .val .null, .unset] [(.ref b)])
      refine g_astore (l' := #[.val (.ref a), .val (.ref ca), .val (.int (0 : Int32)), .val (.int (11 : Int32)), .val .null, .val (.ref b)]) X685 hx 41 (hb hby d11_39) rfl rfl rfl ?_
      refine g_aloadN X685 hx 42 (hb hby d11_41) rfl rfl rfl ?_
      refine g_aload X685 hx 44 (hb hby d11_42) rfl rfl rfl ?_
      refine g_iloadN X685 hx 45 (hb hby d11_44) rfl rfl ?_
      refine g_static X685 hx hZ hown (hw _ (List.mem_of_getElem? (i := 70) rfl)) (hw _ (List.mem_of_getElem? (i := 71) rfl)) (hw _ (List.mem_of_getElem? (i := 65) rfl)) (hw _ (List.mem_of_getElem? (i := 72) rfl)) (by decide) (rmCF_11 l Z a0 hw b T685.heap n0 Z692 kb _ Vb) rfl (argsL := [(.ref b), (.int (11 : Int32))]) (rest := [(.ref a)]) rfl rfl 1 48 rfl (by rw [hml]; rfl) (lenOf own_pd14 rfl) (Nat.le_refl _) (by decide) (by decide) (by decide) (by decide) (hb hby d11_45) ?_
      intro v694 T694 L694 X694 hQ694
      obtain ⟨rfl, N694, q694⟩ := hQ694
      have N695 := Fr.app N686 N694
      show Go p e below _ T694 (mkF m 48 #[.val (.ref a), .val (.ref ca), .val (.int (0 : Int32)), .val (.int (11 : Int32)), .val .null, .val (.ref b)] [(.int (0 : Int32)), (.ref a)])
      refine g_putF X694 hx hZ hown (hw _ (List.mem_of_getElem? (i := 25) rfl)) Via.refl q694 F689 F688 (Or.inr ⟨(hw _ (List.mem_of_getElem? (i := 5) rfl)), rfl, hnm⟩) (hw _ (List.mem_of_getElem? (i := 2) rfl)) (ty := .byte) (by decide) rfl rfl 51 (hb hby d11_48) rfl ?_
      intro T696 h696 X696 e696 W696
      have F697 : Fld Z h696 a "java/lang/String" "coder" "B" (.int (0 : Int32)) := F689.same W696
      have F698 := F687.wr W696 ga
      have F699 := F688.wr W696
      have F700 := F690.other W696 (Or.inr (slot_ne (Or.inr (hw _ (List.mem_of_getElem? (i := 4) rfl))) (Or.inr (hw _ (List.mem_of_getElem? (i := 5) rfl))) (by decide) (t := (.array .byte)) (t' := .byte) (by decide) (by decide)))
      have F701 := F691.other W696 (Ne.symm nac)
      have F702 := Vb.other W696 (Ne.symm nab)
      have K703 := K693.wr W696 (Or.inl (List.mem_of_getElem? (i := 0) rfl))
      have N704 := Fr.snoc X696 N695 ga
      have Z705 : n0 ≤ h696.size := by rw [W696.size]; exact Z692
      refine g_aloadN X696 hx 52 (hb hby d11_51) rfl rfl rfl ?_
      refine g_aload X696 hx 54 (hb hby d11_52) rfl rfl rfl ?_
      refine g_putF X696 hx hZ hown (hw _ (List.mem_of_getElem? (i := 18) rfl)) Via.refl e696 F700 F699 (Or.inr ⟨(hw _ (List.mem_of_getElem? (i := 4) rfl)), rfl, hnm⟩) (hw _ (List.mem_of_getElem? (i := 2) rfl)) (ty := (.array .byte)) (by decide) rfl rfl 57 (hb hby d11_54) rfl ?_
      intro T706 h706 X706 e706 W706
      have F707 : Fld Z h706 a "java/lang/String" "value" "[B" (.ref b) := F700.same W706
      have F708 := F698.wr W706 ga
      have F709 := F699.wr W706
      have F710 := F701.other W706 (Ne.symm nac)
      have F711 := F702.other W706 (Ne.symm nab)
      have F712 := F697.other W706 (Or.inr (slot_ne (Or.inr (hw _ (List.mem_of_getElem? (i := 5) rfl))) (Or.inr (hw _ (List.mem_of_getElem? (i := 4) rfl))) (by decide) (t := .byte) (t' := (.array .byte)) (by decide) (by decide)))
      have K713 := K703.wr W706 (Or.inl (List.mem_of_getElem? (i := 0) rfl))
      have N714 := Fr.snoc X706 N704 ga
      have Z715 : n0 ≤ h706.size := by rw [W706.size]; exact Z705
      exact g_retV X706 hx hlk hret (hb hby d11_57) (by decide) (by decide) e706 ⟨rfl, N714, K713, b, kb, gb, sb, F712, F707, F711⟩
  · skip
    exfalso; revert c681; decide
def Q_rmI1_11 (Z : State) (a : Addr) (c0 c1 c2 c3 c4 c5 c6 c7 c8 c9 c10 : Int32) (n0 : Nat) (h0 : Heap) (v : Option Value) (h : Heap) (L : List Loc) : Prop := v = none ∧ Fr n0 L ∧ Keep h0 h [a] ∧ ∃ (b : Addr) (kb : ClassId), n0 ≤ b ∧ h0.size ≤ b ∧ Fld Z h a "java/lang/String" "coder" "B" (.int 0) ∧ Fld Z h a "java/lang/String" "value" "[B" (.ref b) ∧ Arv Z h b kb .byte 11 [(.int (c0.toInt8.toInt32.toInt8.toInt32)), (.int (c1.toInt8.toInt32.toInt8.toInt32)), (.int (c2.toInt8.toInt32.toInt8.toInt32)), (.int (c3.toInt8.toInt32.toInt8.toInt32)), (.int (c4.toInt8.toInt32.toInt8.toInt32)), (.int (c5.toInt8.toInt32.toInt8.toInt32)), (.int (c6.toInt8.toInt32.toInt8.toInt32)), (.int (c7.toInt8.toInt32.toInt8.toInt32)), (.int (c8.toInt8.toInt32.toInt8.toInt32)), (.int (c9.toInt8.toInt32.toInt8.toInt32)), (.int (c10.toInt8.toInt32.toInt8.toInt32))] (.int 0)
theorem ef_rmI1_11 (a ca : Addr) (m : MethodId) : entryFrame m #[(.ref a), (.ref ca)] 2 = mkF m 0 #[.val (.ref a), .val (.ref ca)] [] := by first | (simp [entryFrame, mkF, argsToLocals, Value.category]; done) | rfl
theorem rmI1_11 (l : Launch) (Z : State) (a0 : Array Value) (hw : ∀ d ∈ tables_1, d.before a0 Z = true) (a ca : Addr) (h0 : Heap) (n0 : Nat) (Z0 : n0 ≤ h0.size) (cst : Int32) (hc : cst ≠ 0) (O0 : Old Z n0 h0) (SC : Sta Z Z.heap "java/lang/String" "COMPACT_STRINGS" "Z" (.int cst)) (kc : ClassId) (c0 c1 c2 c3 c4 c5 c6 c7 c8 c9 c10 : Int32) (bc0 : 0 ≤ c0.toInt ∧ c0.toInt ≤ 255) (bc1 : 0 ≤ c1.toInt ∧ c1.toInt ≤ 255) (bc2 : 0 ≤ c2.toInt ∧ c2.toInt ≤ 255) (bc3 : 0 ≤ c3.toInt ∧ c3.toInt ≤ 255) (bc4 : 0 ≤ c4.toInt ∧ c4.toInt ≤ 255) (bc5 : 0 ≤ c5.toInt ∧ c5.toInt ≤ 255) (bc6 : 0 ≤ c6.toInt ∧ c6.toInt ≤ 255) (bc7 : 0 ≤ c7.toInt ∧ c7.toInt ≤ 255) (bc8 : 0 ≤ c8.toInt ∧ c8.toInt ≤ 255) (bc9 : 0 ≤ c9.toInt ∧ c9.toInt ≤ 255) (bc10 : 0 ≤ c10.toInt ∧ c10.toInt ≤ 255) (E : Exa Z h0 a "java/lang/String") (ga : n0 ≤ a) (nac : a ≠ ca) (Fc : Fld Z h0 a "java/lang/String" "coder" "B" (.int 0)) (Fv : Fld Z h0 a "java/lang/String" "value" "[B" .null) (Vc : Arv Z h0 ca kc .char 11 [(.int c0), (.int c1), (.int c2), (.int c3), (.int c4), (.int c5), (.int c6), (.int c7), (.int c8), (.int c9), (.int c10)] (.int 0)) :
    MetFree l (⟨"java/lang/String", "<init>", "([C)V"⟩ : MethodName) (head1 [Jvm.Cond.code (⟨"java/lang/String", "<init>", "([C)V"⟩ : MethodName) jdk_42_method_3_code 2 none] ({ frames := 3, cells := 1, slots := 11, locals := 64 } : Room)) (fun as_ U => as_ = #[(.ref a), (.ref ca)] ∧ Z.Warmed39 U.vm ∧ U.heap = h0) (fun _ _ _ _ _ => True) (fun _ U o U' => ∃ v L, o = .returned v ∧ Q_rmI1_11 Z a c0 c1 c2 c3 c4 c5 c6 c7 c8 c9 c10 n0 h0 v U'.heap L ∧ FrameEnd U o U' L ({ frames := 3, cells := 1, slots := 11, locals := 64 } : Room).cells ({ frames := 3, cells := 1, slots := 11, locals := 64 } : Room).slots) := by
  refine own_met own_pf11 (ef_rmI1_11 a ca) ?_
  intro p e s m below meth c T0 X0 hx hby hml hret hlk hnm hown hZ e0
  have N0 := Fr.nil n0
  refine g_aloadN X0 hx 1 (hb hby d10_0) rfl rfl rfl ?_
  refine g_aloadN X0 hx 2 (hb hby d10_1) rfl rfl rfl ?_
  refine g_iconst X0 hx (0 : Int32) 3 (hb hby d10_2) rfl (by decide) ?_
  refine g_aloadN X0 hx 4 (hb hby d10_3) rfl rfl rfl ?_
  refine g_len X0 hx hZ e0 Vc 5 (hb hby d10_4) rfl ?_
  refine g_null X0 hx 6 (hb hby d10_5) rfl ?_
  refine g_init X0 hx hZ rfl hown (hw _ (List.mem_of_getElem? (i := 56) rfl)) (hw _ (List.mem_of_getElem? (i := 57) rfl)) (hw _ (List.mem_of_getElem? (i := 1) rfl)) (hw _ (List.mem_of_getElem? (i := 59) rfl)) (by decide) (rmI4_11 l Z a0 hw a ca h0 n0 Z0 cst hc O0 SC kc c0 c1 c2 c3 c4 c5 c6 c7 c8 c9 c10 bc0 bc1 bc2 bc3 bc4 bc5 bc6 bc7 bc8 bc9 bc10 E ga nac Fc Fv Vc) e0 (a := a) (argsL := [(.ref ca), (.int (0 : Int32)), (.int (11 : Int32)), .null]) (rest := []) rfl rfl 0 9 rfl (by rw [hml]; rfl) (lenOf own_pd10 rfl) (Nat.le_refl _) (by decide) (by decide) (by decide) (by decide) (hb hby d10_6) ?_
  intro v716 T716 L716 X716 hQ716
  obtain ⟨rfl, N716, K716, b, kb, gb, sb, c_, v_, Vb⟩ := hQ716
  have N717 := Fr.app N0 N716
  have F718 := O0.keep K716 (allS ga all0)
  have F719 := E.keep K716
  have F722 := Vc.keep K716 (ninS (Ne.symm nac) nin0)
  have Z723 : n0 ≤ T716.heap.size := Nat.le_trans Z0 K716.1
  have K724 := (Keep.refl h0 [a]).trans K716 (allS (Or.inl (List.mem_of_getElem? (i := 0) rfl)) all0)
  show Go p e below _ T716 (mkF m 9 #[.val (.ref a), .val (.ref ca)] [])
  exact g_retV X716 hx hlk hret (hb hby d10_9) (by decide) (by decide) rfl ⟨rfl, N717, K724, b, kb, gb, sb, c_, v_, Vb⟩
def Q_rmCp_12 (Z : State) (ba : Addr) (kb : ClassId) (c0 c1 c2 c3 c4 c5 c6 c7 c8 c9 c10 c11 : Int32) (n0 : Nat) (h0 : Heap) (v : Option Value) (h : Heap) (L : List Loc) : Prop := v = some (.int 12) ∧ Fr n0 L ∧ Keep h0 h [ba] ∧ Arv Z h ba kb .byte 12 [(.int (c0.toInt8.toInt32.toInt8.toInt32)), (.int (c1.toInt8.toInt32.toInt8.toInt32)), (.int (c2.toInt8.toInt32.toInt8.toInt32)), (.int (c3.toInt8.toInt32.toInt8.toInt32)), (.int (c4.toInt8.toInt32.toInt8.toInt32)), (.int (c5.toInt8.toInt32.toInt8.toInt32)), (.int (c6.toInt8.toInt32.toInt8.toInt32)), (.int (c7.toInt8.toInt32.toInt8.toInt32)), (.int (c8.toInt8.toInt32.toInt8.toInt32)), (.int (c9.toInt8.toInt32.toInt8.toInt32)), (.int (c10.toInt8.toInt32.toInt8.toInt32)), (.int (c11.toInt8.toInt32.toInt8.toInt32))] (.int 0)
theorem ef_rmCp_12 (ca ba : Addr) (m : MethodId) : entryFrame m #[(.ref ca), (.int 0), (.ref ba), (.int 0), (.int 12)] 7 = mkF m 0 #[.val (.ref ca), .val (.int 0), .val (.ref ba), .val (.int 0), .val (.int 12), .unset, .unset] [] := by first | (simp [entryFrame, mkF, argsToLocals, Value.category]; done) | rfl
theorem rmCp_12 (l : Launch) (Z : State) (a0 : Array Value) (hw : ∀ d ∈ tables_1, d.before a0 Z = true) (ca ba : Addr) (h0 : Heap) (n0 : Nat) (Z0 : n0 ≤ h0.size) (kc kb : ClassId) (c0 c1 c2 c3 c4 c5 c6 c7 c8 c9 c10 c11 : Int32) (bc0 : 0 ≤ c0.toInt ∧ c0.toInt ≤ 255) (bc1 : 0 ≤ c1.toInt ∧ c1.toInt ≤ 255) (bc2 : 0 ≤ c2.toInt ∧ c2.toInt ≤ 255) (bc3 : 0 ≤ c3.toInt ∧ c3.toInt ≤ 255) (bc4 : 0 ≤ c4.toInt ∧ c4.toInt ≤ 255) (bc5 : 0 ≤ c5.toInt ∧ c5.toInt ≤ 255) (bc6 : 0 ≤ c6.toInt ∧ c6.toInt ≤ 255) (bc7 : 0 ≤ c7.toInt ∧ c7.toInt ≤ 255) (bc8 : 0 ≤ c8.toInt ∧ c8.toInt ≤ 255) (bc9 : 0 ≤ c9.toInt ∧ c9.toInt ≤ 255) (bc10 : 0 ≤ c10.toInt ∧ c10.toInt ≤ 255) (bc11 : 0 ≤ c11.toInt ∧ c11.toInt ≤ 255) (ncb : ca ≠ ba) (gb : n0 ≤ ba) (Vc : Arv Z h0 ca kc .char 12 [(.int c0), (.int c1), (.int c2), (.int c3), (.int c4), (.int c5), (.int c6), (.int c7), (.int c8), (.int c9), (.int c10), (.int c11)] (.int 0)) (Vb : Arv Z h0 ba kb .byte 12 [(.int 0), (.int 0), (.int 0), (.int 0), (.int 0), (.int 0), (.int 0), (.int 0), (.int 0), (.int 0), (.int 0), (.int 0)] (.int 0)) :
    MetFree l (⟨"java/lang/StringUTF16", "compress", "([CI[BII)I"⟩ : MethodName) (head1 [Jvm.Cond.code (⟨"java/lang/StringUTF16", "compress", "([CI[BII)I"⟩ : MethodName) jdk_52_method_21_code 7 (some .int)] ({ frames := 0, cells := 0, slots := 0, locals := 0 } : Room)) (fun as_ U => as_ = #[(.ref ca), (.int 0), (.ref ba), (.int 0), (.int 12)] ∧ Z.Warmed39 U.vm ∧ U.heap = h0) (fun _ _ _ _ _ => True) (fun _ U o U' => ∃ v L, o = .returned v ∧ Q_rmCp_12 Z ba kb c0 c1 c2 c3 c4 c5 c6 c7 c8 c9 c10 c11 n0 h0 v U'.heap L ∧ FrameEnd U o U' L ({ frames := 0, cells := 0, slots := 0, locals := 0 } : Room).cells ({ frames := 0, cells := 0, slots := 0, locals := 0 } : Room).slots) := by
  refine own_met own_pf7 (ef_rmCp_12 ca ba) ?_
  intro p e s m below meth c T0 X0 hx hby hml hret hlk hnm hown hZ e0
  have N0 := Fr.nil n0
  refine g_iconst X0 hx (0 : Int32) 1 (hb hby d14_0) rfl (by decide) ?_
  refine g_istore (l' := #[.val (.ref ca), .val (.int (0 : Int32)), .val (.ref ba), .val (.int (0 : Int32)), .val (.int (12 : Int32)), .val (.int (0 : Int32)), .unset]) X0 hx 3 (hb hby d14_1) rfl rfl ?_
  refine g_iload X0 hx 5 (hb hby d14_3) rfl rfl ?_
  refine g_iload X0 hx 7 (hb hby d14_5) rfl rfl ?_
  have ll726 : ((12 : Int32) : Int32).toInt = 12 := by decide
  have ll727 : ((0 : Int32) : Int32).toInt = 0 := by decide
  refine g_ic_ge X0 hx 44 10 (hb hby d14_7) (by decide) (by decide) rfl (fun c725 => ?_) (fun c725 => ?_)
  · skip
    exfalso; revert c725; decide
  · skip
    refine g_aloadN X0 hx 11 (hb hby d14_10) rfl rfl rfl ?_
    refine g_iloadN X0 hx 12 (hb hby d14_11) rfl rfl ?_
    refine g_caload X0 hx hZ e0 Vc (by decide) (by decide) (by rw [show ((0 : Int32) : Int32).toNatClampNeg = 0 by decide] <;> rfl) 13 (hb hby d14_12) rfl ?_
    refine g_istore (l' := #[.val (.ref ca), .val (.int (0 : Int32)), .val (.ref ba), .val (.int (0 : Int32)), .val (.int (12 : Int32)), .val (.int (0 : Int32)), .val (.int c0)]) X0 hx 15 (hb hby d14_13) rfl rfl ?_
    refine g_iload X0 hx 17 (hb hby d14_15) rfl rfl ?_
    refine g_sipush X0 hx (255 : Int32) 20 (hb hby d14_17) rfl (by decide) ?_
    have ll729 : ((255 : Int32) : Int32).toInt = 255 := by decide
    refine g_ic_le X0 hx 26 23 (hb hby d14_20) (by decide) (by decide) rfl (fun c728 => ?_) (fun c728 => ?_)
    · skip
      refine g_aloadN X0 hx 27 (hb hby d14_26) rfl rfl rfl ?_
      refine g_iloadN X0 hx 28 (hb hby d14_27) rfl rfl ?_
      refine g_iload X0 hx 30 (hb hby d14_28) rfl rfl ?_
      refine g_i2b X0 hx 31 (hb hby d14_30) rfl ?_
      refine g_bastore X0 hx hZ e0 Vb 0 (by decide) (by decide) (by show 0 < 12; decide) (c0.toInt8.toInt32.toInt8.toInt32) rfl 32 (hb hby d14_31) rfl ?_
      intro T730 h730 X730 e730 W730 V730
      have F731 := Vc.other W730 ncb
      have K733 := (Keep.refl h0 [ba]).wr W730 (Or.inl (List.mem_of_getElem? (i := 0) rfl))
      have N734 := Fr.snoc X730 N0 gb
      have Z735 : n0 ≤ h730.size := by rw [W730.size]; exact Z0
      have V730' : Arv Z h730 ba kb .byte (12 : Int32) [(.int (c0.toInt8.toInt32.toInt8.toInt32)), (.int (0 : Int32)), (.int (0 : Int32)), (.int (0 : Int32)), (.int (0 : Int32)), (.int (0 : Int32)), (.int (0 : Int32)), (.int (0 : Int32)), (.int (0 : Int32)), (.int (0 : Int32)), (.int (0 : Int32)), (.int (0 : Int32))] (.int 0) := V730
      refine g_iincC X730 hx (w := (1 : Int32)) (1 : Int32) (by decide) (l' := #[.val (.ref ca), .val (.int (1 : Int32)), .val (.ref ba), .val (.int (0 : Int32)), .val (.int (12 : Int32)), .val (.int (0 : Int32)), .val (.int c0)]) 35 (hb hby d14_32) rfl rfl (by decide) rfl ?_
      refine g_iincC X730 hx (w := (1 : Int32)) (1 : Int32) (by decide) (l' := #[.val (.ref ca), .val (.int (1 : Int32)), .val (.ref ba), .val (.int (1 : Int32)), .val (.int (12 : Int32)), .val (.int (0 : Int32)), .val (.int c0)]) 38 (hb hby d14_35) rfl rfl (by decide) rfl ?_
      refine g_iincC X730 hx (w := (1 : Int32)) (1 : Int32) (by decide) (l' := #[.val (.ref ca), .val (.int (1 : Int32)), .val (.ref ba), .val (.int (1 : Int32)), .val (.int (12 : Int32)), .val (.int (1 : Int32)), .val (.int c0)]) 41 (hb hby d14_38) rfl rfl (by decide) rfl ?_
      refine g_goto X730 hx 3 (hb hby d14_41) (by decide) (by decide) ?_
      refine g_iload X730 hx 5 (hb hby d14_3) rfl rfl ?_
      refine g_iload X730 hx 7 (hb hby d14_5) rfl rfl ?_
      have ll737 : ((12 : Int32) : Int32).toInt = 12 := by decide
      have ll738 : ((1 : Int32) : Int32).toInt = 1 := by decide
      refine g_ic_ge X730 hx 44 10 (hb hby d14_7) (by decide) (by decide) rfl (fun c736 => ?_) (fun c736 => ?_)
      · skip
        exfalso; revert c736; decide
      · skip
        refine g_aloadN X730 hx 11 (hb hby d14_10) rfl rfl rfl ?_
        refine g_iloadN X730 hx 12 (hb hby d14_11) rfl rfl ?_
        refine g_caload X730 hx hZ e730 F731 (by decide) (by decide) (by rw [show ((1 : Int32) : Int32).toNatClampNeg = 1 by decide] <;> rfl) 13 (hb hby d14_12) rfl ?_
        refine g_istore (l' := #[.val (.ref ca), .val (.int (1 : Int32)), .val (.ref ba), .val (.int (1 : Int32)), .val (.int (12 : Int32)), .val (.int (1 : Int32)), .val (.int c1)]) X730 hx 15 (hb hby d14_13) rfl rfl ?_
        refine g_iload X730 hx 17 (hb hby d14_15) rfl rfl ?_
        refine g_sipush X730 hx (255 : Int32) 20 (hb hby d14_17) rfl (by decide) ?_
        have ll740 : ((255 : Int32) : Int32).toInt = 255 := by decide
        refine g_ic_le X730 hx 26 23 (hb hby d14_20) (by decide) (by decide) rfl (fun c739 => ?_) (fun c739 => ?_)
        · skip
          refine g_aloadN X730 hx 27 (hb hby d14_26) rfl rfl rfl ?_
          refine g_iloadN X730 hx 28 (hb hby d14_27) rfl rfl ?_
          refine g_iload X730 hx 30 (hb hby d14_28) rfl rfl ?_
          refine g_i2b X730 hx 31 (hb hby d14_30) rfl ?_
          refine g_bastore X730 hx hZ e730 V730' 1 (by decide) (by decide) (by show 1 < 12; decide) (c1.toInt8.toInt32.toInt8.toInt32) rfl 32 (hb hby d14_31) rfl ?_
          intro T741 h741 X741 e741 W741 V741
          have F742 := F731.other W741 ncb
          have K744 := K733.wr W741 (Or.inl (List.mem_of_getElem? (i := 0) rfl))
          have N745 := Fr.snoc X741 N734 gb
          have Z746 : n0 ≤ h741.size := by rw [W741.size]; exact Z735
          have V741' : Arv Z h741 ba kb .byte (12 : Int32) [(.int (c0.toInt8.toInt32.toInt8.toInt32)), (.int (c1.toInt8.toInt32.toInt8.toInt32)), (.int (0 : Int32)), (.int (0 : Int32)), (.int (0 : Int32)), (.int (0 : Int32)), (.int (0 : Int32)), (.int (0 : Int32)), (.int (0 : Int32)), (.int (0 : Int32)), (.int (0 : Int32)), (.int (0 : Int32))] (.int 0) := V741
          refine g_iincC X741 hx (w := (1 : Int32)) (2 : Int32) (by decide) (l' := #[.val (.ref ca), .val (.int (2 : Int32)), .val (.ref ba), .val (.int (1 : Int32)), .val (.int (12 : Int32)), .val (.int (1 : Int32)), .val (.int c1)]) 35 (hb hby d14_32) rfl rfl (by decide) rfl ?_
          refine g_iincC X741 hx (w := (1 : Int32)) (2 : Int32) (by decide) (l' := #[.val (.ref ca), .val (.int (2 : Int32)), .val (.ref ba), .val (.int (2 : Int32)), .val (.int (12 : Int32)), .val (.int (1 : Int32)), .val (.int c1)]) 38 (hb hby d14_35) rfl rfl (by decide) rfl ?_
          refine g_iincC X741 hx (w := (1 : Int32)) (2 : Int32) (by decide) (l' := #[.val (.ref ca), .val (.int (2 : Int32)), .val (.ref ba), .val (.int (2 : Int32)), .val (.int (12 : Int32)), .val (.int (2 : Int32)), .val (.int c1)]) 41 (hb hby d14_38) rfl rfl (by decide) rfl ?_
          refine g_goto X741 hx 3 (hb hby d14_41) (by decide) (by decide) ?_
          refine g_iload X741 hx 5 (hb hby d14_3) rfl rfl ?_
          refine g_iload X741 hx 7 (hb hby d14_5) rfl rfl ?_
          have ll748 : ((12 : Int32) : Int32).toInt = 12 := by decide
          have ll749 : ((2 : Int32) : Int32).toInt = 2 := by decide
          refine g_ic_ge X741 hx 44 10 (hb hby d14_7) (by decide) (by decide) rfl (fun c747 => ?_) (fun c747 => ?_)
          · skip
            exfalso; revert c747; decide
          · skip
            refine g_aloadN X741 hx 11 (hb hby d14_10) rfl rfl rfl ?_
            refine g_iloadN X741 hx 12 (hb hby d14_11) rfl rfl ?_
            refine g_caload X741 hx hZ e741 F742 (by decide) (by decide) (by rw [show ((2 : Int32) : Int32).toNatClampNeg = 2 by decide] <;> rfl) 13 (hb hby d14_12) rfl ?_
            refine g_istore (l' := #[.val (.ref ca), .val (.int (2 : Int32)), .val (.ref ba), .val (.int (2 : Int32)), .val (.int (12 : Int32)), .val (.int (2 : Int32)), .val (.int c2)]) X741 hx 15 (hb hby d14_13) rfl rfl ?_
            refine g_iload X741 hx 17 (hb hby d14_15) rfl rfl ?_
            refine g_sipush X741 hx (255 : Int32) 20 (hb hby d14_17) rfl (by decide) ?_
            have ll751 : ((255 : Int32) : Int32).toInt = 255 := by decide
            refine g_ic_le X741 hx 26 23 (hb hby d14_20) (by decide) (by decide) rfl (fun c750 => ?_) (fun c750 => ?_)
            · skip
              refine g_aloadN X741 hx 27 (hb hby d14_26) rfl rfl rfl ?_
              refine g_iloadN X741 hx 28 (hb hby d14_27) rfl rfl ?_
              refine g_iload X741 hx 30 (hb hby d14_28) rfl rfl ?_
              refine g_i2b X741 hx 31 (hb hby d14_30) rfl ?_
              refine g_bastore X741 hx hZ e741 V741' 2 (by decide) (by decide) (by show 2 < 12; decide) (c2.toInt8.toInt32.toInt8.toInt32) rfl 32 (hb hby d14_31) rfl ?_
              intro T752 h752 X752 e752 W752 V752
              have F753 := F742.other W752 ncb
              have K755 := K744.wr W752 (Or.inl (List.mem_of_getElem? (i := 0) rfl))
              have N756 := Fr.snoc X752 N745 gb
              have Z757 : n0 ≤ h752.size := by rw [W752.size]; exact Z746
              have V752' : Arv Z h752 ba kb .byte (12 : Int32) [(.int (c0.toInt8.toInt32.toInt8.toInt32)), (.int (c1.toInt8.toInt32.toInt8.toInt32)), (.int (c2.toInt8.toInt32.toInt8.toInt32)), (.int (0 : Int32)), (.int (0 : Int32)), (.int (0 : Int32)), (.int (0 : Int32)), (.int (0 : Int32)), (.int (0 : Int32)), (.int (0 : Int32)), (.int (0 : Int32)), (.int (0 : Int32))] (.int 0) := V752
              refine g_iincC X752 hx (w := (1 : Int32)) (3 : Int32) (by decide) (l' := #[.val (.ref ca), .val (.int (3 : Int32)), .val (.ref ba), .val (.int (2 : Int32)), .val (.int (12 : Int32)), .val (.int (2 : Int32)), .val (.int c2)]) 35 (hb hby d14_32) rfl rfl (by decide) rfl ?_
              refine g_iincC X752 hx (w := (1 : Int32)) (3 : Int32) (by decide) (l' := #[.val (.ref ca), .val (.int (3 : Int32)), .val (.ref ba), .val (.int (3 : Int32)), .val (.int (12 : Int32)), .val (.int (2 : Int32)), .val (.int c2)]) 38 (hb hby d14_35) rfl rfl (by decide) rfl ?_
              refine g_iincC X752 hx (w := (1 : Int32)) (3 : Int32) (by decide) (l' := #[.val (.ref ca), .val (.int (3 : Int32)), .val (.ref ba), .val (.int (3 : Int32)), .val (.int (12 : Int32)), .val (.int (3 : Int32)), .val (.int c2)]) 41 (hb hby d14_38) rfl rfl (by decide) rfl ?_
              refine g_goto X752 hx 3 (hb hby d14_41) (by decide) (by decide) ?_
              refine g_iload X752 hx 5 (hb hby d14_3) rfl rfl ?_
              refine g_iload X752 hx 7 (hb hby d14_5) rfl rfl ?_
              have ll759 : ((12 : Int32) : Int32).toInt = 12 := by decide
              have ll760 : ((3 : Int32) : Int32).toInt = 3 := by decide
              refine g_ic_ge X752 hx 44 10 (hb hby d14_7) (by decide) (by decide) rfl (fun c758 => ?_) (fun c758 => ?_)
              · skip
                exfalso; revert c758; decide
              · skip
                refine g_aloadN X752 hx 11 (hb hby d14_10) rfl rfl rfl ?_
                refine g_iloadN X752 hx 12 (hb hby d14_11) rfl rfl ?_
                refine g_caload X752 hx hZ e752 F753 (by decide) (by decide) (by rw [show ((3 : Int32) : Int32).toNatClampNeg = 3 by decide] <;> rfl) 13 (hb hby d14_12) rfl ?_
                refine g_istore (l' := #[.val (.ref ca), .val (.int (3 : Int32)), .val (.ref ba), .val (.int (3 : Int32)), .val (.int (12 : Int32)), .val (.int (3 : Int32)), .val (.int c3)]) X752 hx 15 (hb hby d14_13) rfl rfl ?_
                refine g_iload X752 hx 17 (hb hby d14_15) rfl rfl ?_
                refine g_sipush X752 hx (255 : Int32) 20 (hb hby d14_17) rfl (by decide) ?_
                have ll762 : ((255 : Int32) : Int32).toInt = 255 := by decide
                refine g_ic_le X752 hx 26 23 (hb hby d14_20) (by decide) (by decide) rfl (fun c761 => ?_) (fun c761 => ?_)
                · skip
                  refine g_aloadN X752 hx 27 (hb hby d14_26) rfl rfl rfl ?_
                  refine g_iloadN X752 hx 28 (hb hby d14_27) rfl rfl ?_
                  refine g_iload X752 hx 30 (hb hby d14_28) rfl rfl ?_
                  refine g_i2b X752 hx 31 (hb hby d14_30) rfl ?_
                  refine g_bastore X752 hx hZ e752 V752' 3 (by decide) (by decide) (by show 3 < 12; decide) (c3.toInt8.toInt32.toInt8.toInt32) rfl 32 (hb hby d14_31) rfl ?_
                  intro T763 h763 X763 e763 W763 V763
                  have F764 := F753.other W763 ncb
                  have K766 := K755.wr W763 (Or.inl (List.mem_of_getElem? (i := 0) rfl))
                  have N767 := Fr.snoc X763 N756 gb
                  have Z768 : n0 ≤ h763.size := by rw [W763.size]; exact Z757
                  have V763' : Arv Z h763 ba kb .byte (12 : Int32) [(.int (c0.toInt8.toInt32.toInt8.toInt32)), (.int (c1.toInt8.toInt32.toInt8.toInt32)), (.int (c2.toInt8.toInt32.toInt8.toInt32)), (.int (c3.toInt8.toInt32.toInt8.toInt32)), (.int (0 : Int32)), (.int (0 : Int32)), (.int (0 : Int32)), (.int (0 : Int32)), (.int (0 : Int32)), (.int (0 : Int32)), (.int (0 : Int32)), (.int (0 : Int32))] (.int 0) := V763
                  refine g_iincC X763 hx (w := (1 : Int32)) (4 : Int32) (by decide) (l' := #[.val (.ref ca), .val (.int (4 : Int32)), .val (.ref ba), .val (.int (3 : Int32)), .val (.int (12 : Int32)), .val (.int (3 : Int32)), .val (.int c3)]) 35 (hb hby d14_32) rfl rfl (by decide) rfl ?_
                  refine g_iincC X763 hx (w := (1 : Int32)) (4 : Int32) (by decide) (l' := #[.val (.ref ca), .val (.int (4 : Int32)), .val (.ref ba), .val (.int (4 : Int32)), .val (.int (12 : Int32)), .val (.int (3 : Int32)), .val (.int c3)]) 38 (hb hby d14_35) rfl rfl (by decide) rfl ?_
                  refine g_iincC X763 hx (w := (1 : Int32)) (4 : Int32) (by decide) (l' := #[.val (.ref ca), .val (.int (4 : Int32)), .val (.ref ba), .val (.int (4 : Int32)), .val (.int (12 : Int32)), .val (.int (4 : Int32)), .val (.int c3)]) 41 (hb hby d14_38) rfl rfl (by decide) rfl ?_
                  refine g_goto X763 hx 3 (hb hby d14_41) (by decide) (by decide) ?_
                  refine g_iload X763 hx 5 (hb hby d14_3) rfl rfl ?_
                  refine g_iload X763 hx 7 (hb hby d14_5) rfl rfl ?_
                  have ll770 : ((12 : Int32) : Int32).toInt = 12 := by decide
                  have ll771 : ((4 : Int32) : Int32).toInt = 4 := by decide
                  refine g_ic_ge X763 hx 44 10 (hb hby d14_7) (by decide) (by decide) rfl (fun c769 => ?_) (fun c769 => ?_)
                  · skip
                    exfalso; revert c769; decide
                  · skip
                    refine g_aloadN X763 hx 11 (hb hby d14_10) rfl rfl rfl ?_
                    refine g_iloadN X763 hx 12 (hb hby d14_11) rfl rfl ?_
                    refine g_caload X763 hx hZ e763 F764 (by decide) (by decide) (by rw [show ((4 : Int32) : Int32).toNatClampNeg = 4 by decide] <;> rfl) 13 (hb hby d14_12) rfl ?_
                    refine g_istore (l' := #[.val (.ref ca), .val (.int (4 : Int32)), .val (.ref ba), .val (.int (4 : Int32)), .val (.int (12 : Int32)), .val (.int (4 : Int32)), .val (.int c4)]) X763 hx 15 (hb hby d14_13) rfl rfl ?_
                    refine g_iload X763 hx 17 (hb hby d14_15) rfl rfl ?_
                    refine g_sipush X763 hx (255 : Int32) 20 (hb hby d14_17) rfl (by decide) ?_
                    have ll773 : ((255 : Int32) : Int32).toInt = 255 := by decide
                    refine g_ic_le X763 hx 26 23 (hb hby d14_20) (by decide) (by decide) rfl (fun c772 => ?_) (fun c772 => ?_)
                    · skip
                      refine g_aloadN X763 hx 27 (hb hby d14_26) rfl rfl rfl ?_
                      refine g_iloadN X763 hx 28 (hb hby d14_27) rfl rfl ?_
                      refine g_iload X763 hx 30 (hb hby d14_28) rfl rfl ?_
                      refine g_i2b X763 hx 31 (hb hby d14_30) rfl ?_
                      refine g_bastore X763 hx hZ e763 V763' 4 (by decide) (by decide) (by show 4 < 12; decide) (c4.toInt8.toInt32.toInt8.toInt32) rfl 32 (hb hby d14_31) rfl ?_
                      intro T774 h774 X774 e774 W774 V774
                      have F775 := F764.other W774 ncb
                      have K777 := K766.wr W774 (Or.inl (List.mem_of_getElem? (i := 0) rfl))
                      have N778 := Fr.snoc X774 N767 gb
                      have Z779 : n0 ≤ h774.size := by rw [W774.size]; exact Z768
                      have V774' : Arv Z h774 ba kb .byte (12 : Int32) [(.int (c0.toInt8.toInt32.toInt8.toInt32)), (.int (c1.toInt8.toInt32.toInt8.toInt32)), (.int (c2.toInt8.toInt32.toInt8.toInt32)), (.int (c3.toInt8.toInt32.toInt8.toInt32)), (.int (c4.toInt8.toInt32.toInt8.toInt32)), (.int (0 : Int32)), (.int (0 : Int32)), (.int (0 : Int32)), (.int (0 : Int32)), (.int (0 : Int32)), (.int (0 : Int32)), (.int (0 : Int32))] (.int 0) := V774
                      refine g_iincC X774 hx (w := (1 : Int32)) (5 : Int32) (by decide) (l' := #[.val (.ref ca), .val (.int (5 : Int32)), .val (.ref ba), .val (.int (4 : Int32)), .val (.int (12 : Int32)), .val (.int (4 : Int32)), .val (.int c4)]) 35 (hb hby d14_32) rfl rfl (by decide) rfl ?_
                      refine g_iincC X774 hx (w := (1 : Int32)) (5 : Int32) (by decide) (l' := #[.val (.ref ca), .val (.int (5 : Int32)), .val (.ref ba), .val (.int (5 : Int32)), .val (.int (12 : Int32)), .val (.int (4 : Int32)), .val (.int c4)]) 38 (hb hby d14_35) rfl rfl (by decide) rfl ?_
                      refine g_iincC X774 hx (w := (1 : Int32)) (5 : Int32) (by decide) (l' := #[.val (.ref ca), .val (.int (5 : Int32)), .val (.ref ba), .val (.int (5 : Int32)), .val (.int (12 : Int32)), .val (.int (5 : Int32)), .val (.int c4)]) 41 (hb hby d14_38) rfl rfl (by decide) rfl ?_
                      refine g_goto X774 hx 3 (hb hby d14_41) (by decide) (by decide) ?_
                      refine g_iload X774 hx 5 (hb hby d14_3) rfl rfl ?_
                      refine g_iload X774 hx 7 (hb hby d14_5) rfl rfl ?_
                      have ll781 : ((12 : Int32) : Int32).toInt = 12 := by decide
                      have ll782 : ((5 : Int32) : Int32).toInt = 5 := by decide
                      refine g_ic_ge X774 hx 44 10 (hb hby d14_7) (by decide) (by decide) rfl (fun c780 => ?_) (fun c780 => ?_)
                      · skip
                        exfalso; revert c780; decide
                      · skip
                        refine g_aloadN X774 hx 11 (hb hby d14_10) rfl rfl rfl ?_
                        refine g_iloadN X774 hx 12 (hb hby d14_11) rfl rfl ?_
                        refine g_caload X774 hx hZ e774 F775 (by decide) (by decide) (by rw [show ((5 : Int32) : Int32).toNatClampNeg = 5 by decide] <;> rfl) 13 (hb hby d14_12) rfl ?_
                        refine g_istore (l' := #[.val (.ref ca), .val (.int (5 : Int32)), .val (.ref ba), .val (.int (5 : Int32)), .val (.int (12 : Int32)), .val (.int (5 : Int32)), .val (.int c5)]) X774 hx 15 (hb hby d14_13) rfl rfl ?_
                        refine g_iload X774 hx 17 (hb hby d14_15) rfl rfl ?_
                        refine g_sipush X774 hx (255 : Int32) 20 (hb hby d14_17) rfl (by decide) ?_
                        have ll784 : ((255 : Int32) : Int32).toInt = 255 := by decide
                        refine g_ic_le X774 hx 26 23 (hb hby d14_20) (by decide) (by decide) rfl (fun c783 => ?_) (fun c783 => ?_)
                        · skip
                          refine g_aloadN X774 hx 27 (hb hby d14_26) rfl rfl rfl ?_
                          refine g_iloadN X774 hx 28 (hb hby d14_27) rfl rfl ?_
                          refine g_iload X774 hx 30 (hb hby d14_28) rfl rfl ?_
                          refine g_i2b X774 hx 31 (hb hby d14_30) rfl ?_
                          refine g_bastore X774 hx hZ e774 V774' 5 (by decide) (by decide) (by show 5 < 12; decide) (c5.toInt8.toInt32.toInt8.toInt32) rfl 32 (hb hby d14_31) rfl ?_
                          intro T785 h785 X785 e785 W785 V785
                          have F786 := F775.other W785 ncb
                          have K788 := K777.wr W785 (Or.inl (List.mem_of_getElem? (i := 0) rfl))
                          have N789 := Fr.snoc X785 N778 gb
                          have Z790 : n0 ≤ h785.size := by rw [W785.size]; exact Z779
                          have V785' : Arv Z h785 ba kb .byte (12 : Int32) [(.int (c0.toInt8.toInt32.toInt8.toInt32)), (.int (c1.toInt8.toInt32.toInt8.toInt32)), (.int (c2.toInt8.toInt32.toInt8.toInt32)), (.int (c3.toInt8.toInt32.toInt8.toInt32)), (.int (c4.toInt8.toInt32.toInt8.toInt32)), (.int (c5.toInt8.toInt32.toInt8.toInt32)), (.int (0 : Int32)), (.int (0 : Int32)), (.int (0 : Int32)), (.int (0 : Int32)), (.int (0 : Int32)), (.int (0 : Int32))] (.int 0) := V785
                          refine g_iincC X785 hx (w := (1 : Int32)) (6 : Int32) (by decide) (l' := #[.val (.ref ca), .val (.int (6 : Int32)), .val (.ref ba), .val (.int (5 : Int32)), .val (.int (12 : Int32)), .val (.int (5 : Int32)), .val (.int c5)]) 35 (hb hby d14_32) rfl rfl (by decide) rfl ?_
                          refine g_iincC X785 hx (w := (1 : Int32)) (6 : Int32) (by decide) (l' := #[.val (.ref ca), .val (.int (6 : Int32)), .val (.ref ba), .val (.int (6 : Int32)), .val (.int (12 : Int32)), .val (.int (5 : Int32)), .val (.int c5)]) 38 (hb hby d14_35) rfl rfl (by decide) rfl ?_
                          refine g_iincC X785 hx (w := (1 : Int32)) (6 : Int32) (by decide) (l' := #[.val (.ref ca), .val (.int (6 : Int32)), .val (.ref ba), .val (.int (6 : Int32)), .val (.int (12 : Int32)), .val (.int (6 : Int32)), .val (.int c5)]) 41 (hb hby d14_38) rfl rfl (by decide) rfl ?_
                          refine g_goto X785 hx 3 (hb hby d14_41) (by decide) (by decide) ?_
                          refine g_iload X785 hx 5 (hb hby d14_3) rfl rfl ?_
                          refine g_iload X785 hx 7 (hb hby d14_5) rfl rfl ?_
                          have ll792 : ((12 : Int32) : Int32).toInt = 12 := by decide
                          have ll793 : ((6 : Int32) : Int32).toInt = 6 := by decide
                          refine g_ic_ge X785 hx 44 10 (hb hby d14_7) (by decide) (by decide) rfl (fun c791 => ?_) (fun c791 => ?_)
                          · skip
                            exfalso; revert c791; decide
                          · skip
                            refine g_aloadN X785 hx 11 (hb hby d14_10) rfl rfl rfl ?_
                            refine g_iloadN X785 hx 12 (hb hby d14_11) rfl rfl ?_
                            refine g_caload X785 hx hZ e785 F786 (by decide) (by decide) (by rw [show ((6 : Int32) : Int32).toNatClampNeg = 6 by decide] <;> rfl) 13 (hb hby d14_12) rfl ?_
                            refine g_istore (l' := #[.val (.ref ca), .val (.int (6 : Int32)), .val (.ref ba), .val (.int (6 : Int32)), .val (.int (12 : Int32)), .val (.int (6 : Int32)), .val (.int c6)]) X785 hx 15 (hb hby d14_13) rfl rfl ?_
                            refine g_iload X785 hx 17 (hb hby d14_15) rfl rfl ?_
                            refine g_sipush X785 hx (255 : Int32) 20 (hb hby d14_17) rfl (by decide) ?_
                            have ll795 : ((255 : Int32) : Int32).toInt = 255 := by decide
                            refine g_ic_le X785 hx 26 23 (hb hby d14_20) (by decide) (by decide) rfl (fun c794 => ?_) (fun c794 => ?_)
                            · skip
                              refine g_aloadN X785 hx 27 (hb hby d14_26) rfl rfl rfl ?_
                              refine g_iloadN X785 hx 28 (hb hby d14_27) rfl rfl ?_
                              refine g_iload X785 hx 30 (hb hby d14_28) rfl rfl ?_
                              refine g_i2b X785 hx 31 (hb hby d14_30) rfl ?_
                              refine g_bastore X785 hx hZ e785 V785' 6 (by decide) (by decide) (by show 6 < 12; decide) (c6.toInt8.toInt32.toInt8.toInt32) rfl 32 (hb hby d14_31) rfl ?_
                              intro T796 h796 X796 e796 W796 V796
                              have F797 := F786.other W796 ncb
                              have K799 := K788.wr W796 (Or.inl (List.mem_of_getElem? (i := 0) rfl))
                              have N800 := Fr.snoc X796 N789 gb
                              have Z801 : n0 ≤ h796.size := by rw [W796.size]; exact Z790
                              have V796' : Arv Z h796 ba kb .byte (12 : Int32) [(.int (c0.toInt8.toInt32.toInt8.toInt32)), (.int (c1.toInt8.toInt32.toInt8.toInt32)), (.int (c2.toInt8.toInt32.toInt8.toInt32)), (.int (c3.toInt8.toInt32.toInt8.toInt32)), (.int (c4.toInt8.toInt32.toInt8.toInt32)), (.int (c5.toInt8.toInt32.toInt8.toInt32)), (.int (c6.toInt8.toInt32.toInt8.toInt32)), (.int (0 : Int32)), (.int (0 : Int32)), (.int (0 : Int32)), (.int (0 : Int32)), (.int (0 : Int32))] (.int 0) := V796
                              refine g_iincC X796 hx (w := (1 : Int32)) (7 : Int32) (by decide) (l' := #[.val (.ref ca), .val (.int (7 : Int32)), .val (.ref ba), .val (.int (6 : Int32)), .val (.int (12 : Int32)), .val (.int (6 : Int32)), .val (.int c6)]) 35 (hb hby d14_32) rfl rfl (by decide) rfl ?_
                              refine g_iincC X796 hx (w := (1 : Int32)) (7 : Int32) (by decide) (l' := #[.val (.ref ca), .val (.int (7 : Int32)), .val (.ref ba), .val (.int (7 : Int32)), .val (.int (12 : Int32)), .val (.int (6 : Int32)), .val (.int c6)]) 38 (hb hby d14_35) rfl rfl (by decide) rfl ?_
                              refine g_iincC X796 hx (w := (1 : Int32)) (7 : Int32) (by decide) (l' := #[.val (.ref ca), .val (.int (7 : Int32)), .val (.ref ba), .val (.int (7 : Int32)), .val (.int (12 : Int32)), .val (.int (7 : Int32)), .val (.int c6)]) 41 (hb hby d14_38) rfl rfl (by decide) rfl ?_
                              refine g_goto X796 hx 3 (hb hby d14_41) (by decide) (by decide) ?_
                              refine g_iload X796 hx 5 (hb hby d14_3) rfl rfl ?_
                              refine g_iload X796 hx 7 (hb hby d14_5) rfl rfl ?_
                              have ll803 : ((12 : Int32) : Int32).toInt = 12 := by decide
                              have ll804 : ((7 : Int32) : Int32).toInt = 7 := by decide
                              refine g_ic_ge X796 hx 44 10 (hb hby d14_7) (by decide) (by decide) rfl (fun c802 => ?_) (fun c802 => ?_)
                              · skip
                                exfalso; revert c802; decide
                              · skip
                                refine g_aloadN X796 hx 11 (hb hby d14_10) rfl rfl rfl ?_
                                refine g_iloadN X796 hx 12 (hb hby d14_11) rfl rfl ?_
                                refine g_caload X796 hx hZ e796 F797 (by decide) (by decide) (by rw [show ((7 : Int32) : Int32).toNatClampNeg = 7 by decide] <;> rfl) 13 (hb hby d14_12) rfl ?_
                                refine g_istore (l' := #[.val (.ref ca), .val (.int (7 : Int32)), .val (.ref ba), .val (.int (7 : Int32)), .val (.int (12 : Int32)), .val (.int (7 : Int32)), .val (.int c7)]) X796 hx 15 (hb hby d14_13) rfl rfl ?_
                                refine g_iload X796 hx 17 (hb hby d14_15) rfl rfl ?_
                                refine g_sipush X796 hx (255 : Int32) 20 (hb hby d14_17) rfl (by decide) ?_
                                have ll806 : ((255 : Int32) : Int32).toInt = 255 := by decide
                                refine g_ic_le X796 hx 26 23 (hb hby d14_20) (by decide) (by decide) rfl (fun c805 => ?_) (fun c805 => ?_)
                                · skip
                                  refine g_aloadN X796 hx 27 (hb hby d14_26) rfl rfl rfl ?_
                                  refine g_iloadN X796 hx 28 (hb hby d14_27) rfl rfl ?_
                                  refine g_iload X796 hx 30 (hb hby d14_28) rfl rfl ?_
                                  refine g_i2b X796 hx 31 (hb hby d14_30) rfl ?_
                                  refine g_bastore X796 hx hZ e796 V796' 7 (by decide) (by decide) (by show 7 < 12; decide) (c7.toInt8.toInt32.toInt8.toInt32) rfl 32 (hb hby d14_31) rfl ?_
                                  intro T807 h807 X807 e807 W807 V807
                                  have F808 := F797.other W807 ncb
                                  have K810 := K799.wr W807 (Or.inl (List.mem_of_getElem? (i := 0) rfl))
                                  have N811 := Fr.snoc X807 N800 gb
                                  have Z812 : n0 ≤ h807.size := by rw [W807.size]; exact Z801
                                  have V807' : Arv Z h807 ba kb .byte (12 : Int32) [(.int (c0.toInt8.toInt32.toInt8.toInt32)), (.int (c1.toInt8.toInt32.toInt8.toInt32)), (.int (c2.toInt8.toInt32.toInt8.toInt32)), (.int (c3.toInt8.toInt32.toInt8.toInt32)), (.int (c4.toInt8.toInt32.toInt8.toInt32)), (.int (c5.toInt8.toInt32.toInt8.toInt32)), (.int (c6.toInt8.toInt32.toInt8.toInt32)), (.int (c7.toInt8.toInt32.toInt8.toInt32)), (.int (0 : Int32)), (.int (0 : Int32)), (.int (0 : Int32)), (.int (0 : Int32))] (.int 0) := V807
                                  refine g_iincC X807 hx (w := (1 : Int32)) (8 : Int32) (by decide) (l' := #[.val (.ref ca), .val (.int (8 : Int32)), .val (.ref ba), .val (.int (7 : Int32)), .val (.int (12 : Int32)), .val (.int (7 : Int32)), .val (.int c7)]) 35 (hb hby d14_32) rfl rfl (by decide) rfl ?_
                                  refine g_iincC X807 hx (w := (1 : Int32)) (8 : Int32) (by decide) (l' := #[.val (.ref ca), .val (.int (8 : Int32)), .val (.ref ba), .val (.int (8 : Int32)), .val (.int (12 : Int32)), .val (.int (7 : Int32)), .val (.int c7)]) 38 (hb hby d14_35) rfl rfl (by decide) rfl ?_
                                  refine g_iincC X807 hx (w := (1 : Int32)) (8 : Int32) (by decide) (l' := #[.val (.ref ca), .val (.int (8 : Int32)), .val (.ref ba), .val (.int (8 : Int32)), .val (.int (12 : Int32)), .val (.int (8 : Int32)), .val (.int c7)]) 41 (hb hby d14_38) rfl rfl (by decide) rfl ?_
                                  refine g_goto X807 hx 3 (hb hby d14_41) (by decide) (by decide) ?_
                                  refine g_iload X807 hx 5 (hb hby d14_3) rfl rfl ?_
                                  refine g_iload X807 hx 7 (hb hby d14_5) rfl rfl ?_
                                  have ll814 : ((12 : Int32) : Int32).toInt = 12 := by decide
                                  have ll815 : ((8 : Int32) : Int32).toInt = 8 := by decide
                                  refine g_ic_ge X807 hx 44 10 (hb hby d14_7) (by decide) (by decide) rfl (fun c813 => ?_) (fun c813 => ?_)
                                  · skip
                                    exfalso; revert c813; decide
                                  · skip
                                    refine g_aloadN X807 hx 11 (hb hby d14_10) rfl rfl rfl ?_
                                    refine g_iloadN X807 hx 12 (hb hby d14_11) rfl rfl ?_
                                    refine g_caload X807 hx hZ e807 F808 (by decide) (by decide) (by rw [show ((8 : Int32) : Int32).toNatClampNeg = 8 by decide] <;> rfl) 13 (hb hby d14_12) rfl ?_
                                    refine g_istore (l' := #[.val (.ref ca), .val (.int (8 : Int32)), .val (.ref ba), .val (.int (8 : Int32)), .val (.int (12 : Int32)), .val (.int (8 : Int32)), .val (.int c8)]) X807 hx 15 (hb hby d14_13) rfl rfl ?_
                                    refine g_iload X807 hx 17 (hb hby d14_15) rfl rfl ?_
                                    refine g_sipush X807 hx (255 : Int32) 20 (hb hby d14_17) rfl (by decide) ?_
                                    have ll817 : ((255 : Int32) : Int32).toInt = 255 := by decide
                                    refine g_ic_le X807 hx 26 23 (hb hby d14_20) (by decide) (by decide) rfl (fun c816 => ?_) (fun c816 => ?_)
                                    · skip
                                      refine g_aloadN X807 hx 27 (hb hby d14_26) rfl rfl rfl ?_
                                      refine g_iloadN X807 hx 28 (hb hby d14_27) rfl rfl ?_
                                      refine g_iload X807 hx 30 (hb hby d14_28) rfl rfl ?_
                                      refine g_i2b X807 hx 31 (hb hby d14_30) rfl ?_
                                      refine g_bastore X807 hx hZ e807 V807' 8 (by decide) (by decide) (by show 8 < 12; decide) (c8.toInt8.toInt32.toInt8.toInt32) rfl 32 (hb hby d14_31) rfl ?_
                                      intro T818 h818 X818 e818 W818 V818
                                      have F819 := F808.other W818 ncb
                                      have K821 := K810.wr W818 (Or.inl (List.mem_of_getElem? (i := 0) rfl))
                                      have N822 := Fr.snoc X818 N811 gb
                                      have Z823 : n0 ≤ h818.size := by rw [W818.size]; exact Z812
                                      have V818' : Arv Z h818 ba kb .byte (12 : Int32) [(.int (c0.toInt8.toInt32.toInt8.toInt32)), (.int (c1.toInt8.toInt32.toInt8.toInt32)), (.int (c2.toInt8.toInt32.toInt8.toInt32)), (.int (c3.toInt8.toInt32.toInt8.toInt32)), (.int (c4.toInt8.toInt32.toInt8.toInt32)), (.int (c5.toInt8.toInt32.toInt8.toInt32)), (.int (c6.toInt8.toInt32.toInt8.toInt32)), (.int (c7.toInt8.toInt32.toInt8.toInt32)), (.int (c8.toInt8.toInt32.toInt8.toInt32)), (.int (0 : Int32)), (.int (0 : Int32)), (.int (0 : Int32))] (.int 0) := V818
                                      refine g_iincC X818 hx (w := (1 : Int32)) (9 : Int32) (by decide) (l' := #[.val (.ref ca), .val (.int (9 : Int32)), .val (.ref ba), .val (.int (8 : Int32)), .val (.int (12 : Int32)), .val (.int (8 : Int32)), .val (.int c8)]) 35 (hb hby d14_32) rfl rfl (by decide) rfl ?_
                                      refine g_iincC X818 hx (w := (1 : Int32)) (9 : Int32) (by decide) (l' := #[.val (.ref ca), .val (.int (9 : Int32)), .val (.ref ba), .val (.int (9 : Int32)), .val (.int (12 : Int32)), .val (.int (8 : Int32)), .val (.int c8)]) 38 (hb hby d14_35) rfl rfl (by decide) rfl ?_
                                      refine g_iincC X818 hx (w := (1 : Int32)) (9 : Int32) (by decide) (l' := #[.val (.ref ca), .val (.int (9 : Int32)), .val (.ref ba), .val (.int (9 : Int32)), .val (.int (12 : Int32)), .val (.int (9 : Int32)), .val (.int c8)]) 41 (hb hby d14_38) rfl rfl (by decide) rfl ?_
                                      refine g_goto X818 hx 3 (hb hby d14_41) (by decide) (by decide) ?_
                                      refine g_iload X818 hx 5 (hb hby d14_3) rfl rfl ?_
                                      refine g_iload X818 hx 7 (hb hby d14_5) rfl rfl ?_
                                      have ll825 : ((12 : Int32) : Int32).toInt = 12 := by decide
                                      have ll826 : ((9 : Int32) : Int32).toInt = 9 := by decide
                                      refine g_ic_ge X818 hx 44 10 (hb hby d14_7) (by decide) (by decide) rfl (fun c824 => ?_) (fun c824 => ?_)
                                      · skip
                                        exfalso; revert c824; decide
                                      · skip
                                        refine g_aloadN X818 hx 11 (hb hby d14_10) rfl rfl rfl ?_
                                        refine g_iloadN X818 hx 12 (hb hby d14_11) rfl rfl ?_
                                        refine g_caload X818 hx hZ e818 F819 (by decide) (by decide) (by rw [show ((9 : Int32) : Int32).toNatClampNeg = 9 by decide] <;> rfl) 13 (hb hby d14_12) rfl ?_
                                        refine g_istore (l' := #[.val (.ref ca), .val (.int (9 : Int32)), .val (.ref ba), .val (.int (9 : Int32)), .val (.int (12 : Int32)), .val (.int (9 : Int32)), .val (.int c9)]) X818 hx 15 (hb hby d14_13) rfl rfl ?_
                                        refine g_iload X818 hx 17 (hb hby d14_15) rfl rfl ?_
                                        refine g_sipush X818 hx (255 : Int32) 20 (hb hby d14_17) rfl (by decide) ?_
                                        have ll828 : ((255 : Int32) : Int32).toInt = 255 := by decide
                                        refine g_ic_le X818 hx 26 23 (hb hby d14_20) (by decide) (by decide) rfl (fun c827 => ?_) (fun c827 => ?_)
                                        · skip
                                          refine g_aloadN X818 hx 27 (hb hby d14_26) rfl rfl rfl ?_
                                          refine g_iloadN X818 hx 28 (hb hby d14_27) rfl rfl ?_
                                          refine g_iload X818 hx 30 (hb hby d14_28) rfl rfl ?_
                                          refine g_i2b X818 hx 31 (hb hby d14_30) rfl ?_
                                          refine g_bastore X818 hx hZ e818 V818' 9 (by decide) (by decide) (by show 9 < 12; decide) (c9.toInt8.toInt32.toInt8.toInt32) rfl 32 (hb hby d14_31) rfl ?_
                                          intro T829 h829 X829 e829 W829 V829
                                          have F830 := F819.other W829 ncb
                                          have K832 := K821.wr W829 (Or.inl (List.mem_of_getElem? (i := 0) rfl))
                                          have N833 := Fr.snoc X829 N822 gb
                                          have Z834 : n0 ≤ h829.size := by rw [W829.size]; exact Z823
                                          have V829' : Arv Z h829 ba kb .byte (12 : Int32) [(.int (c0.toInt8.toInt32.toInt8.toInt32)), (.int (c1.toInt8.toInt32.toInt8.toInt32)), (.int (c2.toInt8.toInt32.toInt8.toInt32)), (.int (c3.toInt8.toInt32.toInt8.toInt32)), (.int (c4.toInt8.toInt32.toInt8.toInt32)), (.int (c5.toInt8.toInt32.toInt8.toInt32)), (.int (c6.toInt8.toInt32.toInt8.toInt32)), (.int (c7.toInt8.toInt32.toInt8.toInt32)), (.int (c8.toInt8.toInt32.toInt8.toInt32)), (.int (c9.toInt8.toInt32.toInt8.toInt32)), (.int (0 : Int32)), (.int (0 : Int32))] (.int 0) := V829
                                          refine g_iincC X829 hx (w := (1 : Int32)) (10 : Int32) (by decide) (l' := #[.val (.ref ca), .val (.int (10 : Int32)), .val (.ref ba), .val (.int (9 : Int32)), .val (.int (12 : Int32)), .val (.int (9 : Int32)), .val (.int c9)]) 35 (hb hby d14_32) rfl rfl (by decide) rfl ?_
                                          refine g_iincC X829 hx (w := (1 : Int32)) (10 : Int32) (by decide) (l' := #[.val (.ref ca), .val (.int (10 : Int32)), .val (.ref ba), .val (.int (10 : Int32)), .val (.int (12 : Int32)), .val (.int (9 : Int32)), .val (.int c9)]) 38 (hb hby d14_35) rfl rfl (by decide) rfl ?_
                                          refine g_iincC X829 hx (w := (1 : Int32)) (10 : Int32) (by decide) (l' := #[.val (.ref ca), .val (.int (10 : Int32)), .val (.ref ba), .val (.int (10 : Int32)), .val (.int (12 : Int32)), .val (.int (10 : Int32)), .val (.int c9)]) 41 (hb hby d14_38) rfl rfl (by decide) rfl ?_
                                          refine g_goto X829 hx 3 (hb hby d14_41) (by decide) (by decide) ?_
                                          refine g_iload X829 hx 5 (hb hby d14_3) rfl rfl ?_
                                          refine g_iload X829 hx 7 (hb hby d14_5) rfl rfl ?_
                                          have ll836 : ((12 : Int32) : Int32).toInt = 12 := by decide
                                          have ll837 : ((10 : Int32) : Int32).toInt = 10 := by decide
                                          refine g_ic_ge X829 hx 44 10 (hb hby d14_7) (by decide) (by decide) rfl (fun c835 => ?_) (fun c835 => ?_)
                                          · skip
                                            exfalso; revert c835; decide
                                          · skip
                                            refine g_aloadN X829 hx 11 (hb hby d14_10) rfl rfl rfl ?_
                                            refine g_iloadN X829 hx 12 (hb hby d14_11) rfl rfl ?_
                                            refine g_caload X829 hx hZ e829 F830 (by decide) (by decide) (by rw [show ((10 : Int32) : Int32).toNatClampNeg = 10 by decide] <;> rfl) 13 (hb hby d14_12) rfl ?_
                                            refine g_istore (l' := #[.val (.ref ca), .val (.int (10 : Int32)), .val (.ref ba), .val (.int (10 : Int32)), .val (.int (12 : Int32)), .val (.int (10 : Int32)), .val (.int c10)]) X829 hx 15 (hb hby d14_13) rfl rfl ?_
                                            refine g_iload X829 hx 17 (hb hby d14_15) rfl rfl ?_
                                            refine g_sipush X829 hx (255 : Int32) 20 (hb hby d14_17) rfl (by decide) ?_
                                            have ll839 : ((255 : Int32) : Int32).toInt = 255 := by decide
                                            refine g_ic_le X829 hx 26 23 (hb hby d14_20) (by decide) (by decide) rfl (fun c838 => ?_) (fun c838 => ?_)
                                            · skip
                                              refine g_aloadN X829 hx 27 (hb hby d14_26) rfl rfl rfl ?_
                                              refine g_iloadN X829 hx 28 (hb hby d14_27) rfl rfl ?_
                                              refine g_iload X829 hx 30 (hb hby d14_28) rfl rfl ?_
                                              refine g_i2b X829 hx 31 (hb hby d14_30) rfl ?_
                                              refine g_bastore X829 hx hZ e829 V829' 10 (by decide) (by decide) (by show 10 < 12; decide) (c10.toInt8.toInt32.toInt8.toInt32) rfl 32 (hb hby d14_31) rfl ?_
                                              intro T840 h840 X840 e840 W840 V840
                                              have F841 := F830.other W840 ncb
                                              have K843 := K832.wr W840 (Or.inl (List.mem_of_getElem? (i := 0) rfl))
                                              have N844 := Fr.snoc X840 N833 gb
                                              have Z845 : n0 ≤ h840.size := by rw [W840.size]; exact Z834
                                              have V840' : Arv Z h840 ba kb .byte (12 : Int32) [(.int (c0.toInt8.toInt32.toInt8.toInt32)), (.int (c1.toInt8.toInt32.toInt8.toInt32)), (.int (c2.toInt8.toInt32.toInt8.toInt32)), (.int (c3.toInt8.toInt32.toInt8.toInt32)), (.int (c4.toInt8.toInt32.toInt8.toInt32)), (.int (c5.toInt8.toInt32.toInt8.toInt32)), (.int (c6.toInt8.toInt32.toInt8.toInt32)), (.int (c7.toInt8.toInt32.toInt8.toInt32)), (.int (c8.toInt8.toInt32.toInt8.toInt32)), (.int (c9.toInt8.toInt32.toInt8.toInt32)), (.int (c10.toInt8.toInt32.toInt8.toInt32)), (.int (0 : Int32))] (.int 0) := V840
                                              refine g_iincC X840 hx (w := (1 : Int32)) (11 : Int32) (by decide) (l' := #[.val (.ref ca), .val (.int (11 : Int32)), .val (.ref ba), .val (.int (10 : Int32)), .val (.int (12 : Int32)), .val (.int (10 : Int32)), .val (.int c10)]) 35 (hb hby d14_32) rfl rfl (by decide) rfl ?_
                                              refine g_iincC X840 hx (w := (1 : Int32)) (11 : Int32) (by decide) (l' := #[.val (.ref ca), .val (.int (11 : Int32)), .val (.ref ba), .val (.int (11 : Int32)), .val (.int (12 : Int32)), .val (.int (10 : Int32)), .val (.int c10)]) 38 (hb hby d14_35) rfl rfl (by decide) rfl ?_
                                              refine g_iincC X840 hx (w := (1 : Int32)) (11 : Int32) (by decide) (l' := #[.val (.ref ca), .val (.int (11 : Int32)), .val (.ref ba), .val (.int (11 : Int32)), .val (.int (12 : Int32)), .val (.int (11 : Int32)), .val (.int c10)]) 41 (hb hby d14_38) rfl rfl (by decide) rfl ?_
                                              refine g_goto X840 hx 3 (hb hby d14_41) (by decide) (by decide) ?_
                                              refine g_iload X840 hx 5 (hb hby d14_3) rfl rfl ?_
                                              refine g_iload X840 hx 7 (hb hby d14_5) rfl rfl ?_
                                              have ll847 : ((12 : Int32) : Int32).toInt = 12 := by decide
                                              have ll848 : ((11 : Int32) : Int32).toInt = 11 := by decide
                                              refine g_ic_ge X840 hx 44 10 (hb hby d14_7) (by decide) (by decide) rfl (fun c846 => ?_) (fun c846 => ?_)
                                              · skip
                                                exfalso; revert c846; decide
                                              · skip
                                                refine g_aloadN X840 hx 11 (hb hby d14_10) rfl rfl rfl ?_
                                                refine g_iloadN X840 hx 12 (hb hby d14_11) rfl rfl ?_
                                                refine g_caload X840 hx hZ e840 F841 (by decide) (by decide) (by rw [show ((11 : Int32) : Int32).toNatClampNeg = 11 by decide] <;> rfl) 13 (hb hby d14_12) rfl ?_
                                                refine g_istore (l' := #[.val (.ref ca), .val (.int (11 : Int32)), .val (.ref ba), .val (.int (11 : Int32)), .val (.int (12 : Int32)), .val (.int (11 : Int32)), .val (.int c11)]) X840 hx 15 (hb hby d14_13) rfl rfl ?_
                                                refine g_iload X840 hx 17 (hb hby d14_15) rfl rfl ?_
                                                refine g_sipush X840 hx (255 : Int32) 20 (hb hby d14_17) rfl (by decide) ?_
                                                have ll850 : ((255 : Int32) : Int32).toInt = 255 := by decide
                                                refine g_ic_le X840 hx 26 23 (hb hby d14_20) (by decide) (by decide) rfl (fun c849 => ?_) (fun c849 => ?_)
                                                · skip
                                                  refine g_aloadN X840 hx 27 (hb hby d14_26) rfl rfl rfl ?_
                                                  refine g_iloadN X840 hx 28 (hb hby d14_27) rfl rfl ?_
                                                  refine g_iload X840 hx 30 (hb hby d14_28) rfl rfl ?_
                                                  refine g_i2b X840 hx 31 (hb hby d14_30) rfl ?_
                                                  refine g_bastore X840 hx hZ e840 V840' 11 (by decide) (by decide) (by show 11 < 12; decide) (c11.toInt8.toInt32.toInt8.toInt32) rfl 32 (hb hby d14_31) rfl ?_
                                                  intro T851 h851 X851 e851 W851 V851
                                                  have F852 := F841.other W851 ncb
                                                  have K854 := K843.wr W851 (Or.inl (List.mem_of_getElem? (i := 0) rfl))
                                                  have N855 := Fr.snoc X851 N844 gb
                                                  have Z856 : n0 ≤ h851.size := by rw [W851.size]; exact Z845
                                                  have V851' : Arv Z h851 ba kb .byte (12 : Int32) [(.int (c0.toInt8.toInt32.toInt8.toInt32)), (.int (c1.toInt8.toInt32.toInt8.toInt32)), (.int (c2.toInt8.toInt32.toInt8.toInt32)), (.int (c3.toInt8.toInt32.toInt8.toInt32)), (.int (c4.toInt8.toInt32.toInt8.toInt32)), (.int (c5.toInt8.toInt32.toInt8.toInt32)), (.int (c6.toInt8.toInt32.toInt8.toInt32)), (.int (c7.toInt8.toInt32.toInt8.toInt32)), (.int (c8.toInt8.toInt32.toInt8.toInt32)), (.int (c9.toInt8.toInt32.toInt8.toInt32)), (.int (c10.toInt8.toInt32.toInt8.toInt32)), (.int (c11.toInt8.toInt32.toInt8.toInt32))] (.int 0) := V851
                                                  refine g_iincC X851 hx (w := (1 : Int32)) (12 : Int32) (by decide) (l' := #[.val (.ref ca), .val (.int (12 : Int32)), .val (.ref ba), .val (.int (11 : Int32)), .val (.int (12 : Int32)), .val (.int (11 : Int32)), .val (.int c11)]) 35 (hb hby d14_32) rfl rfl (by decide) rfl ?_
                                                  refine g_iincC X851 hx (w := (1 : Int32)) (12 : Int32) (by decide) (l' := #[.val (.ref ca), .val (.int (12 : Int32)), .val (.ref ba), .val (.int (12 : Int32)), .val (.int (12 : Int32)), .val (.int (11 : Int32)), .val (.int c11)]) 38 (hb hby d14_35) rfl rfl (by decide) rfl ?_
                                                  refine g_iincC X851 hx (w := (1 : Int32)) (12 : Int32) (by decide) (l' := #[.val (.ref ca), .val (.int (12 : Int32)), .val (.ref ba), .val (.int (12 : Int32)), .val (.int (12 : Int32)), .val (.int (12 : Int32)), .val (.int c11)]) 41 (hb hby d14_38) rfl rfl (by decide) rfl ?_
                                                  refine g_goto X851 hx 3 (hb hby d14_41) (by decide) (by decide) ?_
                                                  refine g_iload X851 hx 5 (hb hby d14_3) rfl rfl ?_
                                                  refine g_iload X851 hx 7 (hb hby d14_5) rfl rfl ?_
                                                  have ll858 : ((12 : Int32) : Int32).toInt = 12 := by decide
                                                  have ll859 : ((12 : Int32) : Int32).toInt = 12 := by decide
                                                  refine g_ic_ge X851 hx 44 10 (hb hby d14_7) (by decide) (by decide) rfl (fun c857 => ?_) (fun c857 => ?_)
                                                  · skip
                                                    refine g_iload X851 hx 46 (hb hby d14_44) rfl rfl ?_
                                                    exact g_retI X851 hx hlk hret (hb hby d14_46) (by decide) (by decide) e851 ⟨rfl, N855, K854, V851'⟩
                                                  · skip
                                                    exfalso; revert c857; decide
                                                · skip
                                                  exfalso; omega
                                            · skip
                                              exfalso; omega
                                        · skip
                                          exfalso; omega
                                    · skip
                                      exfalso; omega
                                · skip
                                  exfalso; omega
                            · skip
                              exfalso; omega
                        · skip
                          exfalso; omega
                    · skip
                      exfalso; omega
                · skip
                  exfalso; omega
            · skip
              exfalso; omega
        · skip
          exfalso; omega
    · skip
      exfalso; omega
def Q_rmC3_12 (Z : State) (c0 c1 c2 c3 c4 c5 c6 c7 c8 c9 c10 c11 : Int32) (n0 : Nat) (h0 : Heap) (v : Option Value) (h : Heap) (L : List Loc) : Prop := ∃ (b : Addr) (kb : ClassId), v = some (.ref b) ∧ Fr n0 L ∧ Keep h0 h [] ∧ n0 ≤ b ∧ h0.size ≤ b ∧ Arv Z h b kb .byte 12 [(.int (c0.toInt8.toInt32.toInt8.toInt32)), (.int (c1.toInt8.toInt32.toInt8.toInt32)), (.int (c2.toInt8.toInt32.toInt8.toInt32)), (.int (c3.toInt8.toInt32.toInt8.toInt32)), (.int (c4.toInt8.toInt32.toInt8.toInt32)), (.int (c5.toInt8.toInt32.toInt8.toInt32)), (.int (c6.toInt8.toInt32.toInt8.toInt32)), (.int (c7.toInt8.toInt32.toInt8.toInt32)), (.int (c8.toInt8.toInt32.toInt8.toInt32)), (.int (c9.toInt8.toInt32.toInt8.toInt32)), (.int (c10.toInt8.toInt32.toInt8.toInt32)), (.int (c11.toInt8.toInt32.toInt8.toInt32))] (.int 0)
theorem ef_rmC3_12 (ca : Addr) (m : MethodId) : entryFrame m #[(.ref ca), (.int 0), (.int 12)] 6 = mkF m 0 #[.val (.ref ca), .val (.int 0), .val (.int 12), .unset, .unset, .unset] [] := by first | (simp [entryFrame, mkF, argsToLocals, Value.category]; done) | rfl
theorem rmC3_12 (l : Launch) (Z : State) (a0 : Array Value) (hw : ∀ d ∈ tables_1, d.before a0 Z = true) (ca : Addr) (h0 : Heap) (n0 : Nat) (Z0 : n0 ≤ h0.size) (kc : ClassId) (c0 c1 c2 c3 c4 c5 c6 c7 c8 c9 c10 c11 : Int32) (bc0 : 0 ≤ c0.toInt ∧ c0.toInt ≤ 255) (bc1 : 0 ≤ c1.toInt ∧ c1.toInt ≤ 255) (bc2 : 0 ≤ c2.toInt ∧ c2.toInt ≤ 255) (bc3 : 0 ≤ c3.toInt ∧ c3.toInt ≤ 255) (bc4 : 0 ≤ c4.toInt ∧ c4.toInt ≤ 255) (bc5 : 0 ≤ c5.toInt ∧ c5.toInt ≤ 255) (bc6 : 0 ≤ c6.toInt ∧ c6.toInt ≤ 255) (bc7 : 0 ≤ c7.toInt ∧ c7.toInt ≤ 255) (bc8 : 0 ≤ c8.toInt ∧ c8.toInt ≤ 255) (bc9 : 0 ≤ c9.toInt ∧ c9.toInt ≤ 255) (bc10 : 0 ≤ c10.toInt ∧ c10.toInt ≤ 255) (bc11 : 0 ≤ c11.toInt ∧ c11.toInt ≤ 255) (Vc : Arv Z h0 ca kc .char 12 [(.int c0), (.int c1), (.int c2), (.int c3), (.int c4), (.int c5), (.int c6), (.int c7), (.int c8), (.int c9), (.int c10), (.int c11)] (.int 0)) :
    MetFree l (⟨"java/lang/StringUTF16", "compress", "([CII)[B"⟩ : MethodName) (head1 [Jvm.Cond.code (⟨"java/lang/StringUTF16", "compress", "([CII)[B"⟩ : MethodName) jdk_52_method_16_code 6 (some (.array .byte))] ({ frames := 1, cells := 1, slots := 12, locals := 20 } : Room)) (fun as_ U => as_ = #[(.ref ca), (.int 0), (.int 12)] ∧ Z.Warmed39 U.vm ∧ U.heap = h0) (fun _ _ _ _ _ => True) (fun _ U o U' => ∃ v L, o = .returned v ∧ Q_rmC3_12 Z c0 c1 c2 c3 c4 c5 c6 c7 c8 c9 c10 c11 n0 h0 v U'.heap L ∧ FrameEnd U o U' L ({ frames := 1, cells := 1, slots := 12, locals := 20 } : Room).cells ({ frames := 1, cells := 1, slots := 12, locals := 20 } : Room).slots) := by
  refine own_met own_pf8 (ef_rmC3_12 ca) ?_
  intro p e s m below meth c T0 X0 hx hby hml hret hlk hnm hown hZ e0
  have N0 := Fr.nil n0
  refine g_iloadN X0 hx 1 (hb hby d13_0) rfl rfl ?_
  refine g_newP X0 hx hZ (aty := .byte) (hw _ (List.mem_of_getElem? (i := 3) rfl)) e0 (by decide) (cap := 12) (by decide) (by decide) 3 (hb hby d13_1) rfl (by decide) (by decide) (ad := "[B") (by decide) ?_
  intro T860 h860 k860 a860 g860 X860 e860 E860 V860 A860
  have ne861 : ca ≠ a860 := Nat.ne_of_lt (by rw [g860]; exact Vc.lt)
  have ge862 : n0 ≤ a860 := by rw [g860]; exact Z0
  have sz863 : h0.size ≤ a860 := by rw [g860]; exact (Keep.refl h0 []).1
  have F864 := Vc.ext E860
  have K865 := (Keep.refl h0 []).ext E860
  have Z866 : n0 ≤ h860.size := Nat.le_trans Z0 E860.1
  have V860' : Arv Z h860 a860 k860 .byte (12 : Int32) [(.int (0 : Int32)), (.int (0 : Int32)), (.int (0 : Int32)), (.int (0 : Int32)), (.int (0 : Int32)), (.int (0 : Int32)), (.int (0 : Int32)), (.int (0 : Int32)), (.int (0 : Int32)), (.int (0 : Int32)), (.int (0 : Int32)), (.int (0 : Int32))] (.int (0 : Int32)) := V860.pad (pad_rep [] (.int (0 : Int32)) 12)
  refine g_astoreN (l' := #[.val (.ref ca), .val (.int (0 : Int32)), .val (.int (12 : Int32)), .val (.ref a860), .unset, .unset]) X860 hx 4 (hb hby d13_3) rfl rfl rfl ?_
  refine g_aloadN X860 hx 5 (hb hby d13_4) rfl rfl rfl ?_
  refine g_iloadN X860 hx 6 (hb hby d13_5) rfl rfl ?_
  refine g_aloadN X860 hx 7 (hb hby d13_6) rfl rfl rfl ?_
  refine g_iconst X860 hx (0 : Int32) 8 (hb hby d13_7) rfl (by decide) ?_
  refine g_iloadN X860 hx 9 (hb hby d13_8) rfl rfl ?_
  refine g_static X860 hx hZ hown (hw _ (List.mem_of_getElem? (i := 67) rfl)) (hw _ (List.mem_of_getElem? (i := 68) rfl)) (hw _ (List.mem_of_getElem? (i := 65) rfl)) (hw _ (List.mem_of_getElem? (i := 69) rfl)) (by decide) (rmCp_12 l Z a0 hw ca a860 h860 n0 Z866 kc k860 c0 c1 c2 c3 c4 c5 c6 c7 c8 c9 c10 c11 bc0 bc1 bc2 bc3 bc4 bc5 bc6 bc7 bc8 bc9 bc10 bc11 ne861 ge862 F864 V860') e860 (argsL := [(.ref ca), (.int (0 : Int32)), (.ref a860), (.int (0 : Int32)), (.int (12 : Int32))]) (rest := []) rfl rfl 0 12 rfl (by rw [hml]; rfl) (lenOf own_pd13 rfl) (Nat.le_refl _) (by decide) (by decide) (by decide) (by decide) (hb hby d13_9) ?_
  intro v867 T867 L867 X867 hQ867
  obtain ⟨rfl, N867, K867, V867⟩ := hQ867
  have N868 := Fr.app N0 N867
  have F869 := F864.keep K867 (ninS ne861 nin0)
  have F870 := A860.keep K867
  have Z872 : n0 ≤ T867.heap.size := Nat.le_trans Z866 K867.1
  have K873 := K865.trans K867 (allS (Or.inr sz863) all0)
  show Go p e below _ T867 (mkF m 12 #[.val (.ref ca), .val (.int (0 : Int32)), .val (.int (12 : Int32)), .val (.ref a860), .unset, .unset] [(.int (12 : Int32))])
  refine g_istore (l' := #[.val (.ref ca), .val (.int (0 : Int32)), .val (.int (12 : Int32)), .val (.ref a860), .val (.int (12 : Int32)), .unset]) X867 hx 14 (hb hby d13_12) rfl rfl ?_
  refine g_iload X867 hx 16 (hb hby d13_14) rfl rfl ?_
  refine g_iloadN X867 hx 17 (hb hby d13_16) rfl rfl ?_
  have ll875 : ((12 : Int32) : Int32).toInt = 12 := by decide
  have ll876 : ((12 : Int32) : Int32).toInt = 12 := by decide
  refine g_ic_eq X867 hx 57 20 (hb hby d13_17) (by decide) (by decide) rfl (fun c874 => ?_) (fun c874 => ?_)
  · skip
    refine g_aloadN X867 hx 58 (hb hby d13_57) rfl rfl rfl ?_
    exact g_retA X867 hx hlk hret rfl rfl rfl (hb hby d13_58) (by decide) (by decide) rfl ⟨a860, k860, rfl, N868, K873, ge862, sz863, V867⟩
  · skip
    exfalso; revert c874; decide
def Q_rmCF_12 (n0 : Nat) (h0 : Heap) (v : Option Value) (h : Heap) (L : List Loc) : Prop := v = some (.int 0) ∧ Fr n0 L ∧ h = h0
theorem ef_rmCF_12 (b : Addr) (m : MethodId) : entryFrame m #[(.ref b), (.int 12)] 2 = mkF m 0 #[.val (.ref b), .val (.int 12)] [] := by first | (simp [entryFrame, mkF, argsToLocals, Value.category]; done) | rfl
theorem rmCF_12 (l : Launch) (Z : State) (a0 : Array Value) (hw : ∀ d ∈ tables_1, d.before a0 Z = true) (b : Addr) (h0 : Heap) (n0 : Nat) (Z0 : n0 ≤ h0.size) (kb : ClassId) (vs : List Value) (V : Arv Z h0 b kb .byte 12 vs (.int 0)) :
    MetFree l (⟨"java/lang/StringUTF16", "coderFromArrayLen", "([BI)B"⟩ : MethodName) (head1 [Jvm.Cond.code (⟨"java/lang/StringUTF16", "coderFromArrayLen", "([BI)B"⟩ : MethodName) jdk_52_method_15_code 2 (some .byte)] ({ frames := 0, cells := 0, slots := 0, locals := 0 } : Room)) (fun as_ U => as_ = #[(.ref b), (.int 12)] ∧ Z.Warmed39 U.vm ∧ U.heap = h0) (fun _ _ _ _ _ => True) (fun _ U o U' => ∃ v L, o = .returned v ∧ Q_rmCF_12 n0 h0 v U'.heap L ∧ FrameEnd U o U' L ({ frames := 0, cells := 0, slots := 0, locals := 0 } : Room).cells ({ frames := 0, cells := 0, slots := 0, locals := 0 } : Room).slots) := by
  refine own_met own_pf9 (ef_rmCF_12 b) ?_
  intro p e s m below meth c T0 X0 hx hby hml hret hlk hnm hown hZ e0
  have N0 := Fr.nil n0
  refine g_iloadN X0 hx 1 (hb hby d15_0) rfl rfl ?_
  refine g_aloadN X0 hx 2 (hb hby d15_1) rfl rfl rfl ?_
  refine g_len X0 hx hZ e0 V 3 (hb hby d15_2) rfl ?_
  refine g_isubC X0 hx (0 : Int32) (by decide) 4 (hb hby d15_3) rfl ?_
  refine g_bipush X0 hx (31 : Int32) 6 (hb hby d15_4) rfl (by decide) ?_
  refine g_iushr X0 hx 7 (hb hby d15_6) rfl ?_
  refine g_i2b X0 hx 8 (hb hby d15_7) rfl ?_
  exact g_retN X0 hx hlk hret (by simp) (hb hby d15_8) (by decide) (by decide) e0 ⟨by decide, N0, rfl⟩
def Q_rmI4_12 (Z : State) (a : Addr) (c0 c1 c2 c3 c4 c5 c6 c7 c8 c9 c10 c11 : Int32) (n0 : Nat) (h0 : Heap) (v : Option Value) (h : Heap) (L : List Loc) : Prop := v = none ∧ Fr n0 L ∧ Keep h0 h [a] ∧ ∃ (b : Addr) (kb : ClassId), n0 ≤ b ∧ h0.size ≤ b ∧ Fld Z h a "java/lang/String" "coder" "B" (.int 0) ∧ Fld Z h a "java/lang/String" "value" "[B" (.ref b) ∧ Arv Z h b kb .byte 12 [(.int (c0.toInt8.toInt32.toInt8.toInt32)), (.int (c1.toInt8.toInt32.toInt8.toInt32)), (.int (c2.toInt8.toInt32.toInt8.toInt32)), (.int (c3.toInt8.toInt32.toInt8.toInt32)), (.int (c4.toInt8.toInt32.toInt8.toInt32)), (.int (c5.toInt8.toInt32.toInt8.toInt32)), (.int (c6.toInt8.toInt32.toInt8.toInt32)), (.int (c7.toInt8.toInt32.toInt8.toInt32)), (.int (c8.toInt8.toInt32.toInt8.toInt32)), (.int (c9.toInt8.toInt32.toInt8.toInt32)), (.int (c10.toInt8.toInt32.toInt8.toInt32)), (.int (c11.toInt8.toInt32.toInt8.toInt32))] (.int 0)
theorem ef_rmI4_12 (a ca : Addr) (m : MethodId) : entryFrame m #[(.ref a), (.ref ca), (.int 0), (.int 12), .null] 6 = mkF m 0 #[.val (.ref a), .val (.ref ca), .val (.int 0), .val (.int 12), .val .null, .unset] [] := by first | (simp [entryFrame, mkF, argsToLocals, Value.category]; done) | rfl
theorem rmI4_12 (l : Launch) (Z : State) (a0 : Array Value) (hw : ∀ d ∈ tables_1, d.before a0 Z = true) (a ca : Addr) (h0 : Heap) (n0 : Nat) (Z0 : n0 ≤ h0.size) (cst : Int32) (hc : cst ≠ 0) (O0 : Old Z n0 h0) (SC : Sta Z Z.heap "java/lang/String" "COMPACT_STRINGS" "Z" (.int cst)) (kc : ClassId) (c0 c1 c2 c3 c4 c5 c6 c7 c8 c9 c10 c11 : Int32) (bc0 : 0 ≤ c0.toInt ∧ c0.toInt ≤ 255) (bc1 : 0 ≤ c1.toInt ∧ c1.toInt ≤ 255) (bc2 : 0 ≤ c2.toInt ∧ c2.toInt ≤ 255) (bc3 : 0 ≤ c3.toInt ∧ c3.toInt ≤ 255) (bc4 : 0 ≤ c4.toInt ∧ c4.toInt ≤ 255) (bc5 : 0 ≤ c5.toInt ∧ c5.toInt ≤ 255) (bc6 : 0 ≤ c6.toInt ∧ c6.toInt ≤ 255) (bc7 : 0 ≤ c7.toInt ∧ c7.toInt ≤ 255) (bc8 : 0 ≤ c8.toInt ∧ c8.toInt ≤ 255) (bc9 : 0 ≤ c9.toInt ∧ c9.toInt ≤ 255) (bc10 : 0 ≤ c10.toInt ∧ c10.toInt ≤ 255) (bc11 : 0 ≤ c11.toInt ∧ c11.toInt ≤ 255) (E : Exa Z h0 a "java/lang/String") (ga : n0 ≤ a) (nac : a ≠ ca) (Fc : Fld Z h0 a "java/lang/String" "coder" "B" (.int 0)) (Fv : Fld Z h0 a "java/lang/String" "value" "[B" .null) (Vc : Arv Z h0 ca kc .char 12 [(.int c0), (.int c1), (.int c2), (.int c3), (.int c4), (.int c5), (.int c6), (.int c7), (.int c8), (.int c9), (.int c10), (.int c11)] (.int 0)) :
    MetFree l (⟨"java/lang/String", "<init>", "([CIILjava/lang/Void;)V"⟩ : MethodName) (head1 [Jvm.Cond.code (⟨"java/lang/String", "<init>", "([CIILjava/lang/Void;)V"⟩ : MethodName) jdk_42_method_149_code 6 none] ({ frames := 2, cells := 1, slots := 12, locals := 44 } : Room)) (fun as_ U => as_ = #[(.ref a), (.ref ca), (.int 0), (.int 12), .null] ∧ Z.Warmed39 U.vm ∧ U.heap = h0) (fun _ _ _ _ _ => True) (fun _ U o U' => ∃ v L, o = .returned v ∧ Q_rmI4_12 Z a c0 c1 c2 c3 c4 c5 c6 c7 c8 c9 c10 c11 n0 h0 v U'.heap L ∧ FrameEnd U o U' L ({ frames := 2, cells := 1, slots := 12, locals := 44 } : Room).cells ({ frames := 2, cells := 1, slots := 12, locals := 44 } : Room).slots) := by
  refine own_met own_pf10 (ef_rmI4_12 a ca) ?_
  intro p e s m below meth c T0 X0 hx hby hml hret hlk hnm hown hZ e0
  have N0 := Fr.nil n0
  refine g_aloadN X0 hx 1 (hb hby d11_0) rfl rfl rfl ?_
  refine g_objinit X0 hx hZ hown (hw _ (List.mem_of_getElem? (i := 60) rfl)) (hw _ (List.mem_of_getElem? (i := 61) rfl)) (hw _ (List.mem_of_getElem? (i := 62) rfl)) e0 0 4 (hb hby d11_1) rfl (by rw [hml]; rfl) (by decide) (Nat.le_refl _) (by decide) ?_
  intro T877 X877 e877
  refine g_iloadN X877 hx 5 (hb hby d11_4) rfl rfl ?_
  have ll879 : ((12 : Int32) : Int32).toInt = 12 := by decide
  refine g_if_ne X877 hx 27 8 (hb hby d11_5) (by decide) (by decide) rfl (fun c878 => ?_) (fun c878 => ?_)
  · skip
    refine g_getS X877 hx hZ hown (hw _ (List.mem_of_getElem? (i := 24) rfl)) Via.refl e877 (Sta.ext O0.2 SC) 30 (hb hby d11_27) rfl ?_
    intro T880 X880 e880
    refine g_if_eq X880 hx 58 33 (hb hby d11_30) (by decide) (by decide) rfl (fun c881 => ?_) (fun c881 => ?_)
    · skip
      exact absurd (own_t0 c881) hc
    · skip
      refine g_aloadN X880 hx 34 (hb hby d11_33) rfl rfl rfl ?_
      refine g_iloadN X880 hx 35 (hb hby d11_34) rfl rfl ?_
      refine g_iloadN X880 hx 36 (hb hby d11_35) rfl rfl ?_
      refine g_static X880 hx hZ hown (hw _ (List.mem_of_getElem? (i := 63) rfl)) (hw _ (List.mem_of_getElem? (i := 64) rfl)) (hw _ (List.mem_of_getElem? (i := 65) rfl)) (hw _ (List.mem_of_getElem? (i := 66) rfl)) (by decide) (rmC3_12 l Z a0 hw ca h0 n0 Z0 kc c0 c1 c2 c3 c4 c5 c6 c7 c8 c9 c10 c11 bc0 bc1 bc2 bc3 bc4 bc5 bc6 bc7 bc8 bc9 bc10 bc11 Vc) e880 (argsL := [(.ref ca), (.int (0 : Int32)), (.int (12 : Int32))]) (rest := []) rfl rfl 0 39 rfl (by rw [hml]; rfl) (lenOf own_pd12 rfl) (Nat.le_refl _) (by decide) (by decide) (by decide) (by decide) (hb hby d11_36) ?_
      intro v882 T882 L882 X882 hQ882
      obtain ⟨b, kb, rfl, N882, K882, gb, sb, Vb⟩ := hQ882
      have N883 := Fr.app N0 N882
      have F884 := O0.keep K882 all0
      have F885 := E.keep K882
      have F886 := Fc.keep K882 nin0
      have F887 := Fv.keep K882 nin0
      have F888 := Vc.keep K882 nin0
      have Z889 : n0 ≤ T882.heap.size := Nat.le_trans Z0 K882.1
      have K890 := (Keep.refl h0 [a]).trans K882 all0
      have nab : a ≠ b := Nat.ne_of_lt (Nat.lt_of_lt_of_le E.lt sb)
      have sb := Nat.le_trans ((Keep.refl h0 [a])).1 sb
      show Go p e below _ T882 (mkF m 39 #[.val (.ref a), .val (.ref ca), .val (.int (0 : Int32)), .val (.int (12 : Int32)), .val .null, .unset] [(.ref b)])
      refine g_astore (l' := #[.val (.ref a), .val (.ref ca), .val (.int (0 : Int32)), .val (.int (12 : Int32)), .val .null, .val (.ref b)]) X882 hx 41 (hb hby d11_39) rfl rfl rfl ?_
      refine g_aloadN X882 hx 42 (hb hby d11_41) rfl rfl rfl ?_
      refine g_aload X882 hx 44 (hb hby d11_42) rfl rfl rfl ?_
      refine g_iloadN X882 hx 45 (hb hby d11_44) rfl rfl ?_
      refine g_static X882 hx hZ hown (hw _ (List.mem_of_getElem? (i := 70) rfl)) (hw _ (List.mem_of_getElem? (i := 71) rfl)) (hw _ (List.mem_of_getElem? (i := 65) rfl)) (hw _ (List.mem_of_getElem? (i := 72) rfl)) (by decide) (rmCF_12 l Z a0 hw b T882.heap n0 Z889 kb _ Vb) rfl (argsL := [(.ref b), (.int (12 : Int32))]) (rest := [(.ref a)]) rfl rfl 1 48 rfl (by rw [hml]; rfl) (lenOf own_pd14 rfl) (Nat.le_refl _) (by decide) (by decide) (by decide) (by decide) (hb hby d11_45) ?_
      intro v891 T891 L891 X891 hQ891
      obtain ⟨rfl, N891, q891⟩ := hQ891
      have N892 := Fr.app N883 N891
      show Go p e below _ T891 (mkF m 48 #[.val (.ref a), .val (.ref ca), .val (.int (0 : Int32)), .val (.int (12 : Int32)), .val .null, .val (.ref b)] [(.int (0 : Int32)), (.ref a)])
      refine g_putF X891 hx hZ hown (hw _ (List.mem_of_getElem? (i := 25) rfl)) Via.refl q891 F886 F885 (Or.inr ⟨(hw _ (List.mem_of_getElem? (i := 5) rfl)), rfl, hnm⟩) (hw _ (List.mem_of_getElem? (i := 2) rfl)) (ty := .byte) (by decide) rfl rfl 51 (hb hby d11_48) rfl ?_
      intro T893 h893 X893 e893 W893
      have F894 : Fld Z h893 a "java/lang/String" "coder" "B" (.int (0 : Int32)) := F886.same W893
      have F895 := F884.wr W893 ga
      have F896 := F885.wr W893
      have F897 := F887.other W893 (Or.inr (slot_ne (Or.inr (hw _ (List.mem_of_getElem? (i := 4) rfl))) (Or.inr (hw _ (List.mem_of_getElem? (i := 5) rfl))) (by decide) (t := (.array .byte)) (t' := .byte) (by decide) (by decide)))
      have F898 := F888.other W893 (Ne.symm nac)
      have F899 := Vb.other W893 (Ne.symm nab)
      have K900 := K890.wr W893 (Or.inl (List.mem_of_getElem? (i := 0) rfl))
      have N901 := Fr.snoc X893 N892 ga
      have Z902 : n0 ≤ h893.size := by rw [W893.size]; exact Z889
      refine g_aloadN X893 hx 52 (hb hby d11_51) rfl rfl rfl ?_
      refine g_aload X893 hx 54 (hb hby d11_52) rfl rfl rfl ?_
      refine g_putF X893 hx hZ hown (hw _ (List.mem_of_getElem? (i := 18) rfl)) Via.refl e893 F897 F896 (Or.inr ⟨(hw _ (List.mem_of_getElem? (i := 4) rfl)), rfl, hnm⟩) (hw _ (List.mem_of_getElem? (i := 2) rfl)) (ty := (.array .byte)) (by decide) rfl rfl 57 (hb hby d11_54) rfl ?_
      intro T903 h903 X903 e903 W903
      have F904 : Fld Z h903 a "java/lang/String" "value" "[B" (.ref b) := F897.same W903
      have F905 := F895.wr W903 ga
      have F906 := F896.wr W903
      have F907 := F898.other W903 (Ne.symm nac)
      have F908 := F899.other W903 (Ne.symm nab)
      have F909 := F894.other W903 (Or.inr (slot_ne (Or.inr (hw _ (List.mem_of_getElem? (i := 5) rfl))) (Or.inr (hw _ (List.mem_of_getElem? (i := 4) rfl))) (by decide) (t := .byte) (t' := (.array .byte)) (by decide) (by decide)))
      have K910 := K900.wr W903 (Or.inl (List.mem_of_getElem? (i := 0) rfl))
      have N911 := Fr.snoc X903 N901 ga
      have Z912 : n0 ≤ h903.size := by rw [W903.size]; exact Z902
      exact g_retV X903 hx hlk hret (hb hby d11_57) (by decide) (by decide) e903 ⟨rfl, N911, K910, b, kb, gb, sb, F909, F904, F908⟩
  · skip
    exfalso; revert c878; decide
def Q_rmI1_12 (Z : State) (a : Addr) (c0 c1 c2 c3 c4 c5 c6 c7 c8 c9 c10 c11 : Int32) (n0 : Nat) (h0 : Heap) (v : Option Value) (h : Heap) (L : List Loc) : Prop := v = none ∧ Fr n0 L ∧ Keep h0 h [a] ∧ ∃ (b : Addr) (kb : ClassId), n0 ≤ b ∧ h0.size ≤ b ∧ Fld Z h a "java/lang/String" "coder" "B" (.int 0) ∧ Fld Z h a "java/lang/String" "value" "[B" (.ref b) ∧ Arv Z h b kb .byte 12 [(.int (c0.toInt8.toInt32.toInt8.toInt32)), (.int (c1.toInt8.toInt32.toInt8.toInt32)), (.int (c2.toInt8.toInt32.toInt8.toInt32)), (.int (c3.toInt8.toInt32.toInt8.toInt32)), (.int (c4.toInt8.toInt32.toInt8.toInt32)), (.int (c5.toInt8.toInt32.toInt8.toInt32)), (.int (c6.toInt8.toInt32.toInt8.toInt32)), (.int (c7.toInt8.toInt32.toInt8.toInt32)), (.int (c8.toInt8.toInt32.toInt8.toInt32)), (.int (c9.toInt8.toInt32.toInt8.toInt32)), (.int (c10.toInt8.toInt32.toInt8.toInt32)), (.int (c11.toInt8.toInt32.toInt8.toInt32))] (.int 0)
theorem ef_rmI1_12 (a ca : Addr) (m : MethodId) : entryFrame m #[(.ref a), (.ref ca)] 2 = mkF m 0 #[.val (.ref a), .val (.ref ca)] [] := by first | (simp [entryFrame, mkF, argsToLocals, Value.category]; done) | rfl
theorem rmI1_12 (l : Launch) (Z : State) (a0 : Array Value) (hw : ∀ d ∈ tables_1, d.before a0 Z = true) (a ca : Addr) (h0 : Heap) (n0 : Nat) (Z0 : n0 ≤ h0.size) (cst : Int32) (hc : cst ≠ 0) (O0 : Old Z n0 h0) (SC : Sta Z Z.heap "java/lang/String" "COMPACT_STRINGS" "Z" (.int cst)) (kc : ClassId) (c0 c1 c2 c3 c4 c5 c6 c7 c8 c9 c10 c11 : Int32) (bc0 : 0 ≤ c0.toInt ∧ c0.toInt ≤ 255) (bc1 : 0 ≤ c1.toInt ∧ c1.toInt ≤ 255) (bc2 : 0 ≤ c2.toInt ∧ c2.toInt ≤ 255) (bc3 : 0 ≤ c3.toInt ∧ c3.toInt ≤ 255) (bc4 : 0 ≤ c4.toInt ∧ c4.toInt ≤ 255) (bc5 : 0 ≤ c5.toInt ∧ c5.toInt ≤ 255) (bc6 : 0 ≤ c6.toInt ∧ c6.toInt ≤ 255) (bc7 : 0 ≤ c7.toInt ∧ c7.toInt ≤ 255) (bc8 : 0 ≤ c8.toInt ∧ c8.toInt ≤ 255) (bc9 : 0 ≤ c9.toInt ∧ c9.toInt ≤ 255) (bc10 : 0 ≤ c10.toInt ∧ c10.toInt ≤ 255) (bc11 : 0 ≤ c11.toInt ∧ c11.toInt ≤ 255) (E : Exa Z h0 a "java/lang/String") (ga : n0 ≤ a) (nac : a ≠ ca) (Fc : Fld Z h0 a "java/lang/String" "coder" "B" (.int 0)) (Fv : Fld Z h0 a "java/lang/String" "value" "[B" .null) (Vc : Arv Z h0 ca kc .char 12 [(.int c0), (.int c1), (.int c2), (.int c3), (.int c4), (.int c5), (.int c6), (.int c7), (.int c8), (.int c9), (.int c10), (.int c11)] (.int 0)) :
    MetFree l (⟨"java/lang/String", "<init>", "([C)V"⟩ : MethodName) (head1 [Jvm.Cond.code (⟨"java/lang/String", "<init>", "([C)V"⟩ : MethodName) jdk_42_method_3_code 2 none] ({ frames := 3, cells := 1, slots := 12, locals := 64 } : Room)) (fun as_ U => as_ = #[(.ref a), (.ref ca)] ∧ Z.Warmed39 U.vm ∧ U.heap = h0) (fun _ _ _ _ _ => True) (fun _ U o U' => ∃ v L, o = .returned v ∧ Q_rmI1_12 Z a c0 c1 c2 c3 c4 c5 c6 c7 c8 c9 c10 c11 n0 h0 v U'.heap L ∧ FrameEnd U o U' L ({ frames := 3, cells := 1, slots := 12, locals := 64 } : Room).cells ({ frames := 3, cells := 1, slots := 12, locals := 64 } : Room).slots) := by
  refine own_met own_pf11 (ef_rmI1_12 a ca) ?_
  intro p e s m below meth c T0 X0 hx hby hml hret hlk hnm hown hZ e0
  have N0 := Fr.nil n0
  refine g_aloadN X0 hx 1 (hb hby d10_0) rfl rfl rfl ?_
  refine g_aloadN X0 hx 2 (hb hby d10_1) rfl rfl rfl ?_
  refine g_iconst X0 hx (0 : Int32) 3 (hb hby d10_2) rfl (by decide) ?_
  refine g_aloadN X0 hx 4 (hb hby d10_3) rfl rfl rfl ?_
  refine g_len X0 hx hZ e0 Vc 5 (hb hby d10_4) rfl ?_
  refine g_null X0 hx 6 (hb hby d10_5) rfl ?_
  refine g_init X0 hx hZ rfl hown (hw _ (List.mem_of_getElem? (i := 56) rfl)) (hw _ (List.mem_of_getElem? (i := 57) rfl)) (hw _ (List.mem_of_getElem? (i := 1) rfl)) (hw _ (List.mem_of_getElem? (i := 59) rfl)) (by decide) (rmI4_12 l Z a0 hw a ca h0 n0 Z0 cst hc O0 SC kc c0 c1 c2 c3 c4 c5 c6 c7 c8 c9 c10 c11 bc0 bc1 bc2 bc3 bc4 bc5 bc6 bc7 bc8 bc9 bc10 bc11 E ga nac Fc Fv Vc) e0 (a := a) (argsL := [(.ref ca), (.int (0 : Int32)), (.int (12 : Int32)), .null]) (rest := []) rfl rfl 0 9 rfl (by rw [hml]; rfl) (lenOf own_pd10 rfl) (Nat.le_refl _) (by decide) (by decide) (by decide) (by decide) (hb hby d10_6) ?_
  intro v913 T913 L913 X913 hQ913
  obtain ⟨rfl, N913, K913, b, kb, gb, sb, c_, v_, Vb⟩ := hQ913
  have N914 := Fr.app N0 N913
  have F915 := O0.keep K913 (allS ga all0)
  have F916 := E.keep K913
  have F919 := Vc.keep K913 (ninS (Ne.symm nac) nin0)
  have Z920 : n0 ≤ T913.heap.size := Nat.le_trans Z0 K913.1
  have K921 := (Keep.refl h0 [a]).trans K913 (allS (Or.inl (List.mem_of_getElem? (i := 0) rfl)) all0)
  show Go p e below _ T913 (mkF m 9 #[.val (.ref a), .val (.ref ca)] [])
  exact g_retV X913 hx hlk hret (hb hby d10_9) (by decide) (by decide) rfl ⟨rfl, N914, K921, b, kb, gb, sb, c_, v_, Vb⟩
theorem d28_0 : decode jdk_43_method_3_code 0 = .ok (.iload_n 0, 1) := by decide +kernel
theorem d28_1 : decode jdk_43_method_3_code 1 = .ok (.sipush 255, 3) := by decide +kernel
theorem d28_4 : decode jdk_43_method_3_code 4 = .ok (.if_icmp .gt 7, 3) := by decide +kernel
theorem d28_7 : decode jdk_43_method_3_code 7 = .ok (.iconst 1, 1) := by decide +kernel
theorem d28_8 : decode jdk_43_method_3_code 8 = .ok (.goto 4, 3) := by decide +kernel
theorem d28_11 : decode jdk_43_method_3_code 11 = .ok (.iconst 0, 1) := by decide +kernel
theorem d28_12 : decode jdk_43_method_3_code 12 = .ok (.ireturn, 1) := by decide +kernel
theorem own_pf12 : plainFor (⟨"java/lang/StringLatin1", "canEncode", "(C)Z"⟩ : MethodName) = true := plainFor_of_name (by first | (simp [plainName, overriddenIn]; done) | decide +kernel)
def Q_rmCE (n0 : Nat) (h0 : Heap) (v : Option Value) (h : Heap) (L : List Loc) : Prop := v = some (.int 1) ∧ Fr n0 L ∧ h = h0
theorem ef_rmCE (c0 : Int32) (m : MethodId) : entryFrame m #[(.int c0)] 1 = mkF m 0 #[.val (.int c0)] [] := by first | (simp [entryFrame, mkF, argsToLocals, Value.category]; done) | rfl
theorem rmCE (l : Launch) (Z : State) (a0 : Array Value) (hw : ∀ d ∈ tables_1, d.before a0 Z = true) (c0 : Int32) (h0 : Heap) (n0 : Nat) (Z0 : n0 ≤ h0.size) (bc0 : 0 ≤ c0.toInt ∧ c0.toInt ≤ 255) :
    MetFree l (⟨"java/lang/StringLatin1", "canEncode", "(C)Z"⟩ : MethodName) (head1 [Jvm.Cond.code (⟨"java/lang/StringLatin1", "canEncode", "(C)Z"⟩ : MethodName) jdk_43_method_3_code 1 (some .boolean)] ({ frames := 0, cells := 0, slots := 0, locals := 0 } : Room)) (fun as_ U => as_ = #[(.int c0)] ∧ Z.Warmed39 U.vm ∧ U.heap = h0) (fun _ _ _ _ _ => True) (fun _ U o U' => ∃ v L, o = .returned v ∧ Q_rmCE n0 h0 v U'.heap L ∧ FrameEnd U o U' L ({ frames := 0, cells := 0, slots := 0, locals := 0 } : Room).cells ({ frames := 0, cells := 0, slots := 0, locals := 0 } : Room).slots) := by
  refine own_met own_pf12 (ef_rmCE c0) ?_
  intro p e s m below meth c T0 X0 hx hby hml hret hlk hnm hown hZ e0
  have N0 := Fr.nil n0
  refine g_iloadN X0 hx 1 (hb hby d28_0) rfl rfl ?_
  refine g_sipush X0 hx (255 : Int32) 4 (hb hby d28_1) rfl (by decide) ?_
  have ll923 : ((255 : Int32) : Int32).toInt = 255 := by decide
  refine g_ic_gt X0 hx 11 7 (hb hby d28_4) (by decide) (by decide) rfl (fun c922 => ?_) (fun c922 => ?_)
  · skip
    exfalso; omega
  · skip
    refine g_iconst X0 hx (1 : Int32) 8 (hb hby d28_7) rfl (by decide) ?_
    refine g_goto X0 hx 12 (hb hby d28_8) (by decide) (by decide) ?_
    exact g_retZ X0 hx hlk hret (hb hby d28_12) (by decide) (by decide) e0 ⟨rfl, N0, rfl⟩
theorem d29_0 : decode jdk_43_method_46_code 0 = .ok (.iconst 1, 1) := by decide +kernel
theorem d29_1 : decode jdk_43_method_46_code 1 = .ok (.newarray .byte, 2) := by decide +kernel
theorem d29_3 : decode jdk_43_method_46_code 3 = .ok (.dup, 1) := by decide +kernel
theorem d29_4 : decode jdk_43_method_46_code 4 = .ok (.iconst 0, 1) := by decide +kernel
theorem d29_5 : decode jdk_43_method_46_code 5 = .ok (.iload_n 0, 1) := by decide +kernel
theorem d29_6 : decode jdk_43_method_46_code 6 = .ok (.i2b, 1) := by decide +kernel
theorem d29_7 : decode jdk_43_method_46_code 7 = .ok (.bastore, 1) := by decide +kernel
theorem d29_8 : decode jdk_43_method_46_code 8 = .ok (.areturn, 1) := by decide +kernel
theorem own_pf13 : plainFor (⟨"java/lang/StringLatin1", "toBytes", "(C)[B"⟩ : MethodName) = true := plainFor_of_name (by first | (simp [plainName, overriddenIn]; done) | decide +kernel)
def Q_rmTB (Z : State) (c0 : Int32) (n0 : Nat) (h0 : Heap) (v : Option Value) (h : Heap) (L : List Loc) : Prop := ∃ (b : Addr) (kb : ClassId), v = some (.ref b) ∧ Fr n0 L ∧ Keep h0 h [] ∧ n0 ≤ b ∧ h0.size ≤ b ∧ Arv Z h b kb .byte 1 [(.int (c0.toInt8.toInt32.toInt8.toInt32))] (.int 0)
theorem ef_rmTB (c0 : Int32) (m : MethodId) : entryFrame m #[(.int c0)] 1 = mkF m 0 #[.val (.int c0)] [] := by first | (simp [entryFrame, mkF, argsToLocals, Value.category]; done) | rfl
theorem rmTB (l : Launch) (Z : State) (a0 : Array Value) (hw : ∀ d ∈ tables_1, d.before a0 Z = true) (c0 : Int32) (h0 : Heap) (n0 : Nat) (Z0 : n0 ≤ h0.size)  :
    MetFree l (⟨"java/lang/StringLatin1", "toBytes", "(C)[B"⟩ : MethodName) (head1 [Jvm.Cond.code (⟨"java/lang/StringLatin1", "toBytes", "(C)[B"⟩ : MethodName) jdk_43_method_46_code 1 (some (.array .byte))] ({ frames := 0, cells := 1, slots := 1, locals := 0 } : Room)) (fun as_ U => as_ = #[(.int c0)] ∧ Z.Warmed39 U.vm ∧ U.heap = h0) (fun _ _ _ _ _ => True) (fun _ U o U' => ∃ v L, o = .returned v ∧ Q_rmTB Z c0 n0 h0 v U'.heap L ∧ FrameEnd U o U' L ({ frames := 0, cells := 1, slots := 1, locals := 0 } : Room).cells ({ frames := 0, cells := 1, slots := 1, locals := 0 } : Room).slots) := by
  refine own_met own_pf13 (ef_rmTB c0) ?_
  intro p e s m below meth c T0 X0 hx hby hml hret hlk hnm hown hZ e0
  have N0 := Fr.nil n0
  refine g_iconst X0 hx (1 : Int32) 1 (hb hby d29_0) rfl (by decide) ?_
  refine g_newP X0 hx hZ (aty := .byte) (hw _ (List.mem_of_getElem? (i := 3) rfl)) e0 (by decide) (cap := 1) (by decide) (by decide) 3 (hb hby d29_1) rfl (by decide) (by decide) (ad := "[B") (by decide) ?_
  intro T924 h924 k924 a924 g924 X924 e924 E924 V924 A924
  have ge925 : n0 ≤ a924 := by rw [g924]; exact Z0
  have sz926 : h0.size ≤ a924 := by rw [g924]; exact (Keep.refl h0 []).1
  have K927 := (Keep.refl h0 []).ext E924
  have Z928 : n0 ≤ h924.size := Nat.le_trans Z0 E924.1
  have V924' : Arv Z h924 a924 k924 .byte (1 : Int32) [(.int (0 : Int32))] (.int (0 : Int32)) := V924.pad (pad_rep [] (.int (0 : Int32)) 1)
  refine g_dup X924 hx 4 (hb hby d29_3) rfl rfl ?_
  refine g_iconst X924 hx (0 : Int32) 5 (hb hby d29_4) rfl (by decide) ?_
  refine g_iloadN X924 hx 6 (hb hby d29_5) rfl rfl ?_
  refine g_i2b X924 hx 7 (hb hby d29_6) rfl ?_
  refine g_bastore X924 hx hZ e924 V924' 0 (by decide) (by decide) (by show 0 < 1; decide) (c0.toInt8.toInt32.toInt8.toInt32) rfl 8 (hb hby d29_7) rfl ?_
  intro T929 h929 X929 e929 W929 V929
  have F930 := A924.wr W929
  have K932 := K927.wr W929 (Or.inr sz926)
  have N933 := Fr.snoc X929 N0 ge925
  have Z934 : n0 ≤ h929.size := by rw [W929.size]; exact Z928
  have V929' : Arv Z h929 a924 k924 .byte (1 : Int32) [(.int (c0.toInt8.toInt32.toInt8.toInt32))] (.int (0 : Int32)) := V929
  exact g_retA X929 hx hlk hret rfl rfl rfl (hb hby d29_8) (by decide) (by decide) e929 ⟨a924, k924, rfl, N933, K932, ge925, sz926, V929'⟩
theorem d30_0 : decode jdk_42_method_151_code 0 = .ok (.aload_n 0, 1) := by decide +kernel
theorem d30_1 : decode jdk_42_method_151_code 1 = .ok (.invokespecial 1, 3) := by decide +kernel
theorem d30_4 : decode jdk_42_method_151_code 4 = .ok (.aload_n 0, 1) := by decide +kernel
theorem d30_5 : decode jdk_42_method_151_code 5 = .ok (.aload_n 1, 1) := by decide +kernel
theorem d30_6 : decode jdk_42_method_151_code 6 = .ok (.putfield 9, 3) := by decide +kernel
theorem d30_9 : decode jdk_42_method_151_code 9 = .ok (.aload_n 0, 1) := by decide +kernel
theorem d30_10 : decode jdk_42_method_151_code 10 = .ok (.iload_n 2, 1) := by decide +kernel
theorem d30_11 : decode jdk_42_method_151_code 11 = .ok (.putfield 15, 3) := by decide +kernel
theorem d30_14 : decode jdk_42_method_151_code 14 = .ok (.return_, 1) := by decide +kernel
theorem own_pf14 : plainFor (⟨"java/lang/String", "<init>", "([BB)V"⟩ : MethodName) = true := plainFor_of_name (by first | (simp [plainName, overriddenIn]; done) | decide +kernel)
def Q_rmIB (Z : State) (a b : Addr) (n0 : Nat) (h0 : Heap) (v : Option Value) (h : Heap) (L : List Loc) : Prop := v = none ∧ Fr n0 L ∧ Keep h0 h [a] ∧ Fld Z h a "java/lang/String" "coder" "B" (.int 0) ∧ Fld Z h a "java/lang/String" "value" "[B" (.ref b)
theorem ef_rmIB (a b : Addr) (m : MethodId) : entryFrame m #[(.ref a), (.ref b), (.int 0)] 3 = mkF m 0 #[.val (.ref a), .val (.ref b), .val (.int 0)] [] := by first | (simp [entryFrame, mkF, argsToLocals, Value.category]; done) | rfl
theorem rmIB (l : Launch) (Z : State) (a0 : Array Value) (hw : ∀ d ∈ tables_1, d.before a0 Z = true) (a b : Addr) (h0 : Heap) (n0 : Nat) (Z0 : n0 ≤ h0.size) (E : Exa Z h0 a "java/lang/String") (ga : n0 ≤ a) (Fc : Fld Z h0 a "java/lang/String" "coder" "B" (.int 0)) (Fv : Fld Z h0 a "java/lang/String" "value" "[B" .null) :
    MetFree l (⟨"java/lang/String", "<init>", "([BB)V"⟩ : MethodName) (head1 [Jvm.Cond.code (⟨"java/lang/String", "<init>", "([BB)V"⟩ : MethodName) jdk_42_method_151_code 3 none] ({ frames := 1, cells := 0, slots := 0, locals := 12 } : Room)) (fun as_ U => as_ = #[(.ref a), (.ref b), (.int 0)] ∧ Z.Warmed39 U.vm ∧ U.heap = h0) (fun _ _ _ _ _ => True) (fun _ U o U' => ∃ v L, o = .returned v ∧ Q_rmIB Z a b n0 h0 v U'.heap L ∧ FrameEnd U o U' L ({ frames := 1, cells := 0, slots := 0, locals := 12 } : Room).cells ({ frames := 1, cells := 0, slots := 0, locals := 12 } : Room).slots) := by
  refine own_met own_pf14 (ef_rmIB a b) ?_
  intro p e s m below meth c T0 X0 hx hby hml hret hlk hnm hown hZ e0
  have N0 := Fr.nil n0
  refine g_aloadN X0 hx 1 (hb hby d30_0) rfl rfl rfl ?_
  refine g_objinit X0 hx hZ hown (hw _ (List.mem_of_getElem? (i := 60) rfl)) (hw _ (List.mem_of_getElem? (i := 61) rfl)) (hw _ (List.mem_of_getElem? (i := 62) rfl)) e0 0 4 (hb hby d30_1) rfl (by rw [hml]; rfl) (by decide) (Nat.le_refl _) (by decide) ?_
  intro T935 X935 e935
  refine g_aloadN X935 hx 5 (hb hby d30_4) rfl rfl rfl ?_
  refine g_aloadN X935 hx 6 (hb hby d30_5) rfl rfl rfl ?_
  refine g_putF X935 hx hZ hown (hw _ (List.mem_of_getElem? (i := 18) rfl)) Via.refl e935 Fv E (Or.inr ⟨(hw _ (List.mem_of_getElem? (i := 4) rfl)), rfl, hnm⟩) (hw _ (List.mem_of_getElem? (i := 2) rfl)) (ty := (.array .byte)) (by decide) rfl rfl 9 (hb hby d30_6) rfl ?_
  intro T936 h936 X936 e936 W936
  have F937 : Fld Z h936 a "java/lang/String" "value" "[B" (.ref b) := Fv.same W936
  have F938 := E.wr W936
  have F939 := Fc.other W936 (Or.inr (slot_ne (Or.inr (hw _ (List.mem_of_getElem? (i := 5) rfl))) (Or.inr (hw _ (List.mem_of_getElem? (i := 4) rfl))) (by decide) (t := .byte) (t' := (.array .byte)) (by decide) (by decide)))
  have K940 := (Keep.refl h0 [a]).wr W936 (Or.inl (List.mem_of_getElem? (i := 0) rfl))
  have N941 := Fr.snoc X936 N0 ga
  have Z942 : n0 ≤ h936.size := by rw [W936.size]; exact Z0
  refine g_aloadN X936 hx 10 (hb hby d30_9) rfl rfl rfl ?_
  refine g_iloadN X936 hx 11 (hb hby d30_10) rfl rfl ?_
  refine g_putF X936 hx hZ hown (hw _ (List.mem_of_getElem? (i := 25) rfl)) Via.refl e936 F939 F938 (Or.inr ⟨(hw _ (List.mem_of_getElem? (i := 5) rfl)), rfl, hnm⟩) (hw _ (List.mem_of_getElem? (i := 2) rfl)) (ty := .byte) (by decide) rfl rfl 14 (hb hby d30_11) rfl ?_
  intro T943 h943 X943 e943 W943
  have F944 : Fld Z h943 a "java/lang/String" "coder" "B" (.int (0 : Int32)) := F939.same W943
  have F945 := F938.wr W943
  have F946 := F937.other W943 (Or.inr (slot_ne (Or.inr (hw _ (List.mem_of_getElem? (i := 4) rfl))) (Or.inr (hw _ (List.mem_of_getElem? (i := 5) rfl))) (by decide) (t := (.array .byte)) (t' := .byte) (by decide) (by decide)))
  have K947 := K940.wr W943 (Or.inl (List.mem_of_getElem? (i := 0) rfl))
  have N948 := Fr.snoc X943 N941 ga
  have Z949 : n0 ≤ h943.size := by rw [W943.size]; exact Z942
  exact g_retV X943 hx hlk hret (hb hby d30_14) (by decide) (by decide) e943 ⟨rfl, N948, K947, F944, F946⟩
theorem d27_0 : decode jdk_42_method_139_code 0 = .ok (.getstatic 38, 3) := by decide +kernel
theorem d27_3 : decode jdk_42_method_139_code 3 = .ok (.ifCond .eq 23, 3) := by decide +kernel
theorem d27_6 : decode jdk_42_method_139_code 6 = .ok (.iload_n 0, 1) := by decide +kernel
theorem d27_7 : decode jdk_42_method_139_code 7 = .ok (.invokestatic 1015, 3) := by decide +kernel
theorem d27_10 : decode jdk_42_method_139_code 10 = .ok (.ifCond .eq 16, 3) := by decide +kernel
theorem d27_13 : decode jdk_42_method_139_code 13 = .ok (.new 10, 3) := by decide +kernel
theorem d27_16 : decode jdk_42_method_139_code 16 = .ok (.dup, 1) := by decide +kernel
theorem d27_17 : decode jdk_42_method_139_code 17 = .ok (.iload_n 0, 1) := by decide +kernel
theorem d27_18 : decode jdk_42_method_139_code 18 = .ok (.invokestatic 1018, 3) := by decide +kernel
theorem d27_21 : decode jdk_42_method_139_code 21 = .ok (.iconst 0, 1) := by decide +kernel
theorem d27_22 : decode jdk_42_method_139_code 22 = .ok (.invokespecial 209, 3) := by decide +kernel
theorem d27_25 : decode jdk_42_method_139_code 25 = .ok (.areturn, 1) := by decide +kernel
theorem d27_26 : decode jdk_42_method_139_code 26 = .ok (.new 10, 3) := by decide +kernel
theorem d27_29 : decode jdk_42_method_139_code 29 = .ok (.dup, 1) := by decide +kernel
theorem d27_30 : decode jdk_42_method_139_code 30 = .ok (.iload_n 0, 1) := by decide +kernel
theorem d27_31 : decode jdk_42_method_139_code 31 = .ok (.invokestatic 1021, 3) := by decide +kernel
theorem d27_34 : decode jdk_42_method_139_code 34 = .ok (.iconst 1, 1) := by decide +kernel
theorem d27_35 : decode jdk_42_method_139_code 35 = .ok (.invokespecial 209, 3) := by decide +kernel
theorem d27_38 : decode jdk_42_method_139_code 38 = .ok (.areturn, 1) := by decide +kernel
theorem own_pf15 : plainFor (⟨"java/lang/String", "valueOf", "(C)Ljava/lang/String;"⟩ : MethodName) = true := plainFor_of_name (by first | (simp [plainName, overriddenIn]; done) | decide +kernel)
def Q_rmVo (Z : State) (n0 : Nat) (h0 : Heap) (v : Option Value) (h : Heap) (L : List Loc) : Prop := ∃ (r vb : Addr) (kb : ClassId) (z : Int32) (xs : List Int32), v = some (.ref r) ∧ Fr n0 L ∧ Keep h0 h [] ∧ n0 ≤ r ∧ h0.size ≤ r ∧ Exa Z h r "java/lang/String" ∧ Fld Z h r "java/lang/String" "coder" "B" (.int 0) ∧ Fld Z h r "java/lang/String" "value" "[B" (.ref vb) ∧ Arv Z h vb kb .byte z (xs.map Value.int) (.int 0) ∧ z.toInt = (xs.length : Int)
theorem ef_rmVo (c0 : Int32) (m : MethodId) : entryFrame m #[(.int c0)] 1 = mkF m 0 #[.val (.int c0)] [] := by first | (simp [entryFrame, mkF, argsToLocals, Value.category]; done) | rfl
theorem rmVo (l : Launch) (Z : State) (a0 : Array Value) (hw : ∀ d ∈ tables_1, d.before a0 Z = true) (c0 : Int32) (h0 : Heap) (n0 : Nat) (Z0 : n0 ≤ h0.size) (cst : Int32) (hc : cst ≠ 0) (O0 : Old Z n0 h0) (SC : Sta Z Z.heap "java/lang/String" "COMPACT_STRINGS" "Z" (.int cst)) (bc0 : 0 ≤ c0.toInt ∧ c0.toInt ≤ 255) :
    MetFree l (⟨"java/lang/String", "valueOf", "(C)Ljava/lang/String;"⟩ : MethodName) (head1 [Jvm.Cond.code (⟨"java/lang/String", "valueOf", "(C)Ljava/lang/String;"⟩ : MethodName) jdk_42_method_139_code 1 (some (.object "java/lang/String"))] ({ frames := 2, cells := 2, slots := 5, locals := 40 } : Room)) (fun as_ U => as_ = #[(.int c0)] ∧ Z.Warmed39 U.vm ∧ U.heap = h0) (fun _ _ _ _ _ => True) (fun _ U o U' => ∃ v L, o = .returned v ∧ Q_rmVo Z n0 h0 v U'.heap L ∧ FrameEnd U o U' L ({ frames := 2, cells := 2, slots := 5, locals := 40 } : Room).cells ({ frames := 2, cells := 2, slots := 5, locals := 40 } : Room).slots) := by
  refine own_met own_pf15 (ef_rmVo c0) ?_
  intro p e s m below meth c T0 X0 hx hby hml hret hlk hnm hown hZ e0
  have N0 := Fr.nil n0
  refine g_getS X0 hx hZ hown (hw _ (List.mem_of_getElem? (i := 24) rfl)) Via.refl e0 (Sta.ext O0.2 SC) 3 (hb hby d27_0) rfl ?_
  intro T950 X950 e950
  refine g_if_eq X950 hx 26 6 (hb hby d27_3) (by decide) (by decide) rfl (fun c951 => ?_) (fun c951 => ?_)
  · skip
    exact absurd (own_t0 c951) hc
  · skip
    refine g_iloadN X950 hx 7 (hb hby d27_6) rfl rfl ?_
    refine g_static X950 hx hZ hown (hw _ (List.mem_of_getElem? (i := 152) rfl)) (hw _ (List.mem_of_getElem? (i := 153) rfl)) (hw _ (List.mem_of_getElem? (i := 38) rfl)) (hw _ (List.mem_of_getElem? (i := 154) rfl)) (by decide) (rmCE l Z a0 hw c0 h0 n0 Z0 bc0) e950 (argsL := [(.int c0)]) (rest := []) rfl rfl 0 10 rfl (by rw [hml]; rfl) (lenOf own_pd26 rfl) (Nat.le_refl _) (by decide) (by decide) (by decide) (by decide) (hb hby d27_7) ?_
    intro v952 T952 L952 X952 hQ952
    obtain ⟨rfl, N952, q952⟩ := hQ952
    have N953 := Fr.app N0 N952
    show Go p e below _ T952 (mkF m 10 #[.val (.int c0)] [(.int (1 : Int32))])
    have ll955 : ((1 : Int32) : Int32).toInt = 1 := by decide
    refine g_if_eq X952 hx 26 13 (hb hby d27_10) (by decide) (by decide) rfl (fun c954 => ?_) (fun c954 => ?_)
    · skip
      exfalso; revert c954; decide
    · skip
      refine g_new X952 hx hZ hown (hw _ (List.mem_of_getElem? (i := 101) rfl)) (hw _ (List.mem_of_getElem? (i := 2) rfl)) (hw _ (List.mem_of_getElem? (i := 1) rfl)) q952 16 (hb hby d27_13) rfl (by decide) (by decide) ?_
      intro T956 h956 a956 g956 X956 e956 E956 A956 D956
      have ge957 : n0 ≤ a956 := by rw [g956]; exact Z0
      have sz958 : h0.size ≤ a956 := by rw [g956]; exact (Keep.refl h0 []).1
      have F959 := O0.ext E956
      have K960 := (Keep.refl h0 []).ext E956
      have Z961 : n0 ≤ h956.size := Nat.le_trans Z0 E956.1
      have F962 : Fld Z h956 a956 "java/lang/String" "value" "[B" .null := D956 (Or.inr (hw _ (List.mem_of_getElem? (i := 4) rfl))) (ty := (.array .byte)) (by decide)
      have F963 : Fld Z h956 a956 "java/lang/String" "coder" "B" (.int (0 : Int32)) := D956 (Or.inr (hw _ (List.mem_of_getElem? (i := 5) rfl))) (ty := .byte) (by decide)
      refine g_dup X956 hx 17 (hb hby d27_16) rfl rfl ?_
      refine g_iloadN X956 hx 18 (hb hby d27_17) rfl rfl ?_
      refine g_static X956 hx hZ hown (hw _ (List.mem_of_getElem? (i := 155) rfl)) (hw _ (List.mem_of_getElem? (i := 156) rfl)) (hw _ (List.mem_of_getElem? (i := 38) rfl)) (hw _ (List.mem_of_getElem? (i := 157) rfl)) (by decide) (rmTB l Z a0 hw c0 h956 n0 Z961) e956 (argsL := [(.int c0)]) (rest := [(.ref a956), (.ref a956)]) rfl rfl 2 21 rfl (by rw [hml]; rfl) (lenOf own_pd27 rfl) (Nat.le_refl _) (by decide) (by decide) (by decide) (by decide) (hb hby d27_18) ?_
      intro v964 T964 L964 X964 hQ964
      obtain ⟨b, kb, rfl, N964, K964, gb, sb, Vb⟩ := hQ964
      have N965 := Fr.app N953 N964
      have F966 := F959.keep K964 all0
      have F967 := A956.keep K964
      have F968 := F962.keep K964 nin0
      have F969 := F963.keep K964 nin0
      have Z970 : n0 ≤ T964.heap.size := Nat.le_trans Z961 K964.1
      have K971 := K960.trans K964 all0
      have nab : a956 ≠ b := Nat.ne_of_lt (Nat.lt_of_lt_of_le A956.lt sb)
      show Go p e below _ T964 (mkF m 21 #[.val (.int c0)] [(.ref b), (.ref a956), (.ref a956)])
      refine g_iconst X964 hx (0 : Int32) 22 (hb hby d27_21) rfl (by decide) ?_
      refine g_init X964 hx hZ rfl hown (hw _ (List.mem_of_getElem? (i := 158) rfl)) (hw _ (List.mem_of_getElem? (i := 159) rfl)) (hw _ (List.mem_of_getElem? (i := 1) rfl)) (hw _ (List.mem_of_getElem? (i := 160) rfl)) (by decide) (rmIB l Z a0 hw a956 b T964.heap n0 Z970 F967 ge957 F969 F968) rfl (a := a956) (argsL := [(.ref b), (.int (0 : Int32))]) (rest := [(.ref a956)]) rfl rfl 1 25 rfl (by rw [hml]; rfl) (lenOf own_pd28 rfl) (Nat.le_refl _) (by decide) (by decide) (by decide) (by decide) (hb hby d27_22) ?_
      intro v972 T972 L972 X972 hQ972
      obtain ⟨rfl, N972, K972, c_, v_⟩ := hQ972
      have N973 := Fr.app N965 N972
      have F974 := F966.keep K972 (allS ge957 all0)
      have F975 := F967.keep K972
      have F978 := Vb.keep K972 (ninS (Ne.symm nab) nin0)
      have Z979 : n0 ≤ T972.heap.size := Nat.le_trans Z970 K972.1
      have K980 := K971.trans K972 (allS (Or.inr sz958) all0)
      show Go p e below _ T972 (mkF m 25 #[.val (.int c0)] [(.ref a956)])
      exact g_retA X972 hx hlk hret rfl rfl rfl (hb hby d27_25) (by decide) (by decide) rfl ⟨a956, b, kb, 1, [c0.toInt8.toInt32.toInt8.toInt32], rfl, N973, K980, ge957, sz958, F975, c_, v_, F978, (by show (1 : Int32).toInt = 1; decide)⟩
theorem own_ext {xs ys : List Int32} (hl : xs.length = ys.length) (h : ∀ j, j < xs.length → xs.getD j 0 = ys.getD j 0) : xs = ys := by
  refine List.ext_getElem hl fun i h1 h2 => ?_
  have := h i h1
  simp only [List.getD_eq_getElem?_getD, List.getElem?_eq_getElem h1, List.getElem?_eq_getElem h2, Option.getD_some] at this
  exact this
def Q_rmLE (xs ys : List Int32) (n0 : Nat) (h0 : Heap) (v : Option Value) (h : Heap) (L : List Loc) : Prop := ∃ r : Int32, v = some (.int r) ∧ ((xs = ys ∧ r = 1) ∨ (xs ≠ ys ∧ r = 0)) ∧ Fr n0 L ∧ h = h0
theorem d19_0 : decode jdk_43_method_13_code 0 = .ok (.aload_n 0, 1) := by decide +kernel
theorem d19_1 : decode jdk_43_method_13_code 1 = .ok (.arraylength, 1) := by decide +kernel
theorem d19_2 : decode jdk_43_method_13_code 2 = .ok (.aload_n 1, 1) := by decide +kernel
theorem d19_3 : decode jdk_43_method_13_code 3 = .ok (.arraylength, 1) := by decide +kernel
theorem d19_4 : decode jdk_43_method_13_code 4 = .ok (.if_icmp .ne 30, 3) := by decide +kernel
theorem d19_7 : decode jdk_43_method_13_code 7 = .ok (.iconst 0, 1) := by decide +kernel
theorem d19_8 : decode jdk_43_method_13_code 8 = .ok (.istore_n 2, 1) := by decide +kernel
theorem d19_9 : decode jdk_43_method_13_code 9 = .ok (.iload_n 2, 1) := by decide +kernel
theorem d19_10 : decode jdk_43_method_13_code 10 = .ok (.aload_n 0, 1) := by decide +kernel
theorem d19_11 : decode jdk_43_method_13_code 11 = .ok (.arraylength, 1) := by decide +kernel
theorem d19_12 : decode jdk_43_method_13_code 12 = .ok (.if_icmp .ge 20, 3) := by decide +kernel
theorem d19_15 : decode jdk_43_method_13_code 15 = .ok (.aload_n 0, 1) := by decide +kernel
theorem d19_16 : decode jdk_43_method_13_code 16 = .ok (.iload_n 2, 1) := by decide +kernel
theorem d19_17 : decode jdk_43_method_13_code 17 = .ok (.baload, 1) := by decide +kernel
theorem d19_18 : decode jdk_43_method_13_code 18 = .ok (.aload_n 1, 1) := by decide +kernel
theorem d19_19 : decode jdk_43_method_13_code 19 = .ok (.iload_n 2, 1) := by decide +kernel
theorem d19_20 : decode jdk_43_method_13_code 20 = .ok (.baload, 1) := by decide +kernel
theorem d19_21 : decode jdk_43_method_13_code 21 = .ok (.if_icmp .eq 5, 3) := by decide +kernel
theorem d19_24 : decode jdk_43_method_13_code 24 = .ok (.iconst 0, 1) := by decide +kernel
theorem d19_25 : decode jdk_43_method_13_code 25 = .ok (.ireturn, 1) := by decide +kernel
theorem d19_26 : decode jdk_43_method_13_code 26 = .ok (.iinc 2 1, 3) := by decide +kernel
theorem d19_29 : decode jdk_43_method_13_code 29 = .ok (.goto (-20), 3) := by decide +kernel
theorem d19_32 : decode jdk_43_method_13_code 32 = .ok (.iconst 1, 1) := by decide +kernel
theorem d19_33 : decode jdk_43_method_13_code 33 = .ok (.ireturn, 1) := by decide +kernel
theorem d19_34 : decode jdk_43_method_13_code 34 = .ok (.iconst 0, 1) := by decide +kernel
theorem d19_35 : decode jdk_43_method_13_code 35 = .ok (.ireturn, 1) := by decide +kernel
theorem rmLE_9 {p : Program} {l : Launch} {e : Env} {s : State} {m : MethodId} {args : Array Value} {below : List Frame} {meth : Method} {c : Code} {T0 Z : State} {a0 : Array Value} {h0 : Heap} {n0 : Nat} {R : Room} {locs : List Loc} {vx vy : Addr} {kx ky : ClassId} {zx zy : Int32} {xs ys : List Int32} (d : Nat) (i : Int32) (k : Nat) (X0 : Stand p l e R s m args below meth c T0 locs 0 0) (hx : p.tables.exec = Jvm.exec) (hby : c.code = jdk_43_method_13_code) (hml : c.maxLocals = 3) (hret : meth.sig.returnType = (some .boolean)) (hlk : meth.locks = false) (hown : s.vm.findClass "java/lang/StringLatin1" = some m.cls) (hZ : Z.Warmed39 s.vm) (hw : ∀ d ∈ tables_1, d.before a0 Z = true) (e0 : T0.heap = h0) (Z0 : n0 ≤ h0.size) (N0 : Fr n0 locs) (Vx : Arv Z h0 vx kx .byte zx (xs.map Value.int) (.int 0)) (Vy : Arv Z h0 vy ky .byte zy (ys.map Value.int) (.int 0)) (hlx : zx.toInt = (xs.length : Int)) (hly : zy.toInt = (ys.length : Int)) (hl : xs.length = ys.length) (hi : i.toInt = (k : Int)) (hd : k + d = xs.length) (he : ∀ j, j < k → xs.getD j 0 = ys.getD j 0) :
    Go p e below (EndQ s (Q_rmLE xs ys n0 h0) 0 0) T0 (mkF m 9 #[.val (.ref vx), .val (.ref vy), .val (.int i)] []) := by
  have rz := rng32 zx
  induction d generalizing i k with
  | zero =>
    refine g_iloadN X0 hx 10 (hb hby d19_9) rfl rfl ?_
    refine g_aloadN X0 hx 11 (hb hby d19_10) rfl rfl rfl ?_
    refine g_len X0 hx hZ e0 Vx 12 (hb hby d19_11) rfl ?_
    refine g_ic_ge X0 hx 32 15 (hb hby d19_12) (by decide) (by decide) rfl (fun c981 => ?_) (fun c981 => ?_)
    · skip
      refine g_iconst X0 hx (1 : Int32) 33 (hb hby d19_32) rfl (by decide) ?_
      exact g_retZ X0 hx hlk hret (hb hby d19_33) (by decide) (by decide) e0 ⟨1, rfl, Or.inl ⟨own_ext hl (fun j hj => he j (by omega)), rfl⟩, N0, rfl⟩
    · skip
      exfalso; omega
  | succ d ih =>
    refine g_iloadN X0 hx 10 (hb hby d19_9) rfl rfl ?_
    refine g_aloadN X0 hx 11 (hb hby d19_10) rfl rfl rfl ?_
    refine g_len X0 hx hZ e0 Vx 12 (hb hby d19_11) rfl ?_
    refine g_ic_ge X0 hx 32 15 (hb hby d19_12) (by decide) (by decide) rfl (fun c982 => ?_) (fun c982 => ?_)
    · skip
      exfalso; omega
    · skip
      refine g_aloadN X0 hx 16 (hb hby d19_15) rfl rfl rfl ?_
      refine g_iloadN X0 hx 17 (hb hby d19_16) rfl rfl ?_
      refine g_baload X0 hx hZ e0 Vx (by omega) (by omega) (own_mapget xs (jn := k) hi) 18 (hb hby d19_17) rfl ?_
      refine g_aloadN X0 hx 19 (hb hby d19_18) rfl rfl rfl ?_
      refine g_iloadN X0 hx 20 (hb hby d19_19) rfl rfl ?_
      refine g_baload X0 hx hZ e0 Vy (by omega) (by omega) (own_mapget ys (jn := k) hi) 21 (hb hby d19_20) rfl ?_
      refine g_ic_eq X0 hx 26 24 (hb hby d19_21) (by decide) (by decide) rfl (fun c983 => ?_) (fun c983 => ?_)
      · skip
        refine g_iinc (w := (1 : Int32)) (l' := #[.val (.ref vx), .val (.ref vy), .val (.int (i + (1 : Int32)))]) X0 hx 29 (hb hby d19_26) rfl rfl (by decide) rfl ?_
        refine g_goto X0 hx 9 (hb hby d19_29) (by decide) (by decide) ?_
        have i1 := c_iadd i 1
        have i2 := rng32 (i + 1)
        have l1 : (1 : Int32).toInt = 1 := by decide
        rw [l1] at i1
        exact ih _ (k + 1) (by omega) (by omega) (fun j hj => by rcases Nat.lt_succ_iff_lt_or_eq.mp hj with q | q; exact he j q; rw [q]; exact own_te c983)
      · skip
        refine g_iconst X0 hx (0 : Int32) 25 (hb hby d19_24) rfl (by decide) ?_
        exact g_retZ X0 hx hlk hret (hb hby d19_25) (by decide) (by decide) e0 ⟨0, rfl, Or.inr ⟨fun q => c983 (by rw [q]), rfl⟩, N0, rfl⟩
theorem own_pf16 : plainFor (⟨"java/lang/StringLatin1", "equals", "([B[B)Z"⟩ : MethodName) = true := plainFor_of_name (by first | (simp [plainName, overriddenIn]; done) | decide +kernel)
theorem ef_rmLE (vx vy : Addr) (m : MethodId) : entryFrame m #[(.ref vx), (.ref vy)] 3 = mkF m 0 #[.val (.ref vx), .val (.ref vy), .unset] [] := by first | (simp [entryFrame, mkF, argsToLocals, Value.category]; done) | rfl
theorem rmLE (l : Launch) (Z : State) (a0 : Array Value) (hw : ∀ d ∈ tables_1, d.before a0 Z = true) (vx vy : Addr) (h0 : Heap) (n0 : Nat) (Z0 : n0 ≤ h0.size) (kx ky : ClassId) (zx zy : Int32) (xs ys : List Int32) (Vx : Arv Z h0 vx kx .byte zx (xs.map Value.int) (.int 0)) (Vy : Arv Z h0 vy ky .byte zy (ys.map Value.int) (.int 0)) (hlx : zx.toInt = (xs.length : Int)) (hly : zy.toInt = (ys.length : Int)) :
    MetFree l (⟨"java/lang/StringLatin1", "equals", "([B[B)Z"⟩ : MethodName) (head1 [Jvm.Cond.code (⟨"java/lang/StringLatin1", "equals", "([B[B)Z"⟩ : MethodName) jdk_43_method_13_code 3 (some .boolean)] ({ frames := 0, cells := 0, slots := 0, locals := 0 } : Room)) (fun as_ U => as_ = #[(.ref vx), (.ref vy)] ∧ Z.Warmed39 U.vm ∧ U.heap = h0) (fun _ _ _ _ _ => True) (fun _ U o U' => ∃ v L, o = .returned v ∧ Q_rmLE xs ys n0 h0 v U'.heap L ∧ FrameEnd U o U' L ({ frames := 0, cells := 0, slots := 0, locals := 0 } : Room).cells ({ frames := 0, cells := 0, slots := 0, locals := 0 } : Room).slots) := by
  refine own_met own_pf16 (ef_rmLE vx vy) ?_
  intro p e s m below meth c T0 X0 hx hby hml hret hlk hnm hown hZ e0
  have N0 := Fr.nil n0
  refine g_aloadN X0 hx 1 (hb hby d19_0) rfl rfl rfl ?_
  refine g_len X0 hx hZ e0 Vx 2 (hb hby d19_1) rfl ?_
  refine g_aloadN X0 hx 3 (hb hby d19_2) rfl rfl rfl ?_
  refine g_len X0 hx hZ e0 Vy 4 (hb hby d19_3) rfl ?_
  refine g_ic_ne X0 hx 34 7 (hb hby d19_4) (by decide) (by decide) rfl (fun c984 => ?_) (fun c984 => ?_)
  · skip
    refine g_iconst X0 hx (0 : Int32) 35 (hb hby d19_34) rfl (by decide) ?_
    exact g_retZ X0 hx hlk hret (hb hby d19_35) (by decide) (by decide) e0 ⟨0, rfl, Or.inr ⟨fun q => c984 (by rw [hlx, hly, q]), rfl⟩, N0, rfl⟩
  · skip
    refine g_iconst X0 hx (0 : Int32) 8 (hb hby d19_7) rfl (by decide) ?_
    refine g_istoreN (l' := #[.val (.ref vx), .val (.ref vy), .val (.int (0 : Int32))]) X0 hx 9 (hb hby d19_8) rfl rfl ?_
    exact rmLE_9 xs.length 0 0 X0 hx hby hml hret hlk hown hZ hw e0 Z0 N0 Vx Vy hlx hly (by omega) (by decide) (by omega) (fun j hj => absurd hj (Nat.not_lt_zero j))
theorem d18_0 : decode jdk_42_method_66_code 0 = .ok (.aload_n 0, 1) := by decide +kernel
theorem d18_1 : decode jdk_42_method_66_code 1 = .ok (.aload_n 1, 1) := by decide +kernel
theorem d18_2 : decode jdk_42_method_66_code 2 = .ok (.if_acmp .ne 5, 3) := by decide +kernel
theorem d18_5 : decode jdk_42_method_66_code 5 = .ok (.iconst 1, 1) := by decide +kernel
theorem d18_6 : decode jdk_42_method_66_code 6 = .ok (.ireturn, 1) := by decide +kernel
theorem d18_7 : decode jdk_42_method_66_code 7 = .ok (.aload_n 1, 1) := by decide +kernel
theorem d18_8 : decode jdk_42_method_66_code 8 = .ok (.instanceof 10, 3) := by decide +kernel
theorem d18_11 : decode jdk_42_method_66_code 11 = .ok (.ifCond .eq 43, 3) := by decide +kernel
theorem d18_14 : decode jdk_42_method_66_code 14 = .ok (.aload_n 1, 1) := by decide +kernel
theorem d18_15 : decode jdk_42_method_66_code 15 = .ok (.checkcast 10, 3) := by decide +kernel
theorem d18_18 : decode jdk_42_method_66_code 18 = .ok (.astore_n 2, 1) := by decide +kernel
theorem d18_19 : decode jdk_42_method_66_code 19 = .ok (.getstatic 38, 3) := by decide +kernel
theorem d18_22 : decode jdk_42_method_66_code 22 = .ok (.ifCond .eq 14, 3) := by decide +kernel
theorem d18_25 : decode jdk_42_method_66_code 25 = .ok (.aload_n 0, 1) := by decide +kernel
theorem d18_26 : decode jdk_42_method_66_code 26 = .ok (.getfield 15, 3) := by decide +kernel
theorem d18_29 : decode jdk_42_method_66_code 29 = .ok (.aload_n 2, 1) := by decide +kernel
theorem d18_30 : decode jdk_42_method_66_code 30 = .ok (.getfield 15, 3) := by decide +kernel
theorem d18_33 : decode jdk_42_method_66_code 33 = .ok (.if_icmp .ne 21, 3) := by decide +kernel
theorem d18_36 : decode jdk_42_method_66_code 36 = .ok (.aload_n 0, 1) := by decide +kernel
theorem d18_37 : decode jdk_42_method_66_code 37 = .ok (.getfield 9, 3) := by decide +kernel
theorem d18_40 : decode jdk_42_method_66_code 40 = .ok (.aload_n 2, 1) := by decide +kernel
theorem d18_41 : decode jdk_42_method_66_code 41 = .ok (.getfield 9, 3) := by decide +kernel
theorem d18_44 : decode jdk_42_method_66_code 44 = .ok (.invokestatic 541, 3) := by decide +kernel
theorem d18_47 : decode jdk_42_method_66_code 47 = .ok (.ifCond .eq 7, 3) := by decide +kernel
theorem d18_50 : decode jdk_42_method_66_code 50 = .ok (.iconst 1, 1) := by decide +kernel
theorem d18_51 : decode jdk_42_method_66_code 51 = .ok (.goto 4, 3) := by decide +kernel
theorem d18_54 : decode jdk_42_method_66_code 54 = .ok (.iconst 0, 1) := by decide +kernel
theorem d18_55 : decode jdk_42_method_66_code 55 = .ok (.ireturn, 1) := by decide +kernel
theorem own_pf17 : plainFor (⟨"java/lang/String", "equals", "(Ljava/lang/Object;)Z"⟩ : MethodName) = true := plainFor_of_name (by first | (simp [plainName, overriddenIn]; done) | decide +kernel)
def Q_rmEq (xs ys : List Int32) (n0 : Nat) (h0 : Heap) (v : Option Value) (h : Heap) (L : List Loc) : Prop := ∃ r : Int32, v = some (.int r) ∧ ((xs = ys ∧ r = 1) ∨ (xs ≠ ys ∧ r = 0)) ∧ Fr n0 L ∧ h = h0
theorem ef_rmEq (a b : Addr) (m : MethodId) : entryFrame m #[(.ref a), (.ref b)] 3 = mkF m 0 #[.val (.ref a), .val (.ref b), .unset] [] := by first | (simp [entryFrame, mkF, argsToLocals, Value.category]; done) | rfl
theorem rmEq (l : Launch) (Z : State) (a0 : Array Value) (hw : ∀ d ∈ tables_1, d.before a0 Z = true) (a b : Addr) (h0 : Heap) (n0 : Nat) (Z0 : n0 ≤ h0.size) (cst : Int32) (hc : cst ≠ 0) (O0 : Old Z n0 h0) (SC : Sta Z Z.heap "java/lang/String" "COMPACT_STRINGS" "Z" (.int cst)) (nab : a ≠ b) (vbx : Addr) (kbx : ClassId) (zx : Int32) (xs : List Int32) (Ex : Exa Z h0 a "java/lang/String") (Fcx : Fld Z h0 a "java/lang/String" "coder" "B" (.int 0)) (Fvx : Fld Z h0 a "java/lang/String" "value" "[B" (.ref vbx)) (Vx : Arv Z h0 vbx kbx .byte zx (xs.map Value.int) (.int 0)) (vby : Addr) (kby : ClassId) (zy : Int32) (ys : List Int32) (Ey : Exa Z h0 b "java/lang/String") (Fcy : Fld Z h0 b "java/lang/String" "coder" "B" (.int 0)) (Fvy : Fld Z h0 b "java/lang/String" "value" "[B" (.ref vby)) (Vy : Arv Z h0 vby kby .byte zy (ys.map Value.int) (.int 0)) (hlx : zx.toInt = (xs.length : Int)) (hly : zy.toInt = (ys.length : Int)) :
    MetFree l (⟨"java/lang/String", "equals", "(Ljava/lang/Object;)Z"⟩ : MethodName) (head1 [Jvm.Cond.code (⟨"java/lang/String", "equals", "(Ljava/lang/Object;)Z"⟩ : MethodName) jdk_42_method_66_code 3 (some .boolean)] ({ frames := 1, cells := 0, slots := 0, locals := 16 } : Room)) (fun as_ U => as_ = #[(.ref a), (.ref b)] ∧ Z.Warmed39 U.vm ∧ U.heap = h0) (fun _ _ _ _ _ => True) (fun _ U o U' => ∃ v L, o = .returned v ∧ Q_rmEq xs ys n0 h0 v U'.heap L ∧ FrameEnd U o U' L ({ frames := 1, cells := 0, slots := 0, locals := 16 } : Room).cells ({ frames := 1, cells := 0, slots := 0, locals := 16 } : Room).slots) := by
  refine own_met own_pf17 (ef_rmEq a b) ?_
  intro p e s m below meth c T0 X0 hx hby hml hret hlk hnm hown hZ e0
  have N0 := Fr.nil n0
  refine g_aloadN X0 hx 1 (hb hby d18_0) rfl rfl rfl ?_
  refine g_aloadN X0 hx 2 (hb hby d18_1) rfl rfl rfl ?_
  refine g_acmp_ne X0 hx rfl rfl 7 5 (hb hby d18_2) (by decide) (by decide) rfl (fun c985 => ?_) (fun c985 => ?_)
  · skip
    refine g_aloadN X0 hx 8 (hb hby d18_7) rfl rfl rfl ?_
    refine g_instY X0 hx hZ hown (hw _ (List.mem_of_getElem? (i := 101) rfl)) e0 (Ins.self Ey) 11 (hb hby d18_8) rfl ?_
    intro T986 X986 e986
    have ll988 : ((1 : Int32) : Int32).toInt = 1 := by decide
    refine g_if_eq X986 hx 54 14 (hb hby d18_11) (by decide) (by decide) rfl (fun c987 => ?_) (fun c987 => ?_)
    · skip
      exfalso; revert c987; decide
    · skip
      refine g_aloadN X986 hx 15 (hb hby d18_14) rfl rfl rfl ?_
      refine g_cast X986 hx hZ hown (hw _ (List.mem_of_getElem? (i := 101) rfl)) e986 (Ins.self Ey) 18 (hb hby d18_15) rfl ?_
      intro T989 X989 e989
      refine g_astoreN (l' := #[.val (.ref a), .val (.ref b), .val (.ref b)]) X989 hx 19 (hb hby d18_18) rfl rfl rfl ?_
      refine g_getS X989 hx hZ hown (hw _ (List.mem_of_getElem? (i := 24) rfl)) Via.refl e989 (Sta.ext O0.2 SC) 22 (hb hby d18_19) rfl ?_
      intro T990 X990 e990
      refine g_if_eq X990 hx 36 25 (hb hby d18_22) (by decide) (by decide) rfl (fun c991 => ?_) (fun c991 => ?_)
      · skip
        exact absurd (own_t0 c991) hc
      · skip
        refine g_aloadN X990 hx 26 (hb hby d18_25) rfl rfl rfl ?_
        refine g_getF X990 hx hZ hown (hw _ (List.mem_of_getElem? (i := 25) rfl)) Via.refl e990 Fcx 29 (hb hby d18_26) rfl ?_
        intro T992 X992 e992
        refine g_aloadN X992 hx 30 (hb hby d18_29) rfl rfl rfl ?_
        refine g_getF X992 hx hZ hown (hw _ (List.mem_of_getElem? (i := 25) rfl)) Via.refl e992 Fcy 33 (hb hby d18_30) rfl ?_
        intro T993 X993 e993
        have ll995 : ((0 : Int32) : Int32).toInt = 0 := by decide
        have ll996 : ((0 : Int32) : Int32).toInt = 0 := by decide
        refine g_ic_ne X993 hx 54 36 (hb hby d18_33) (by decide) (by decide) rfl (fun c994 => ?_) (fun c994 => ?_)
        · skip
          exfalso; revert c994; decide
        · skip
          refine g_aloadN X993 hx 37 (hb hby d18_36) rfl rfl rfl ?_
          refine g_getF X993 hx hZ hown (hw _ (List.mem_of_getElem? (i := 18) rfl)) Via.refl e993 Fvx 40 (hb hby d18_37) rfl ?_
          intro T997 X997 e997
          refine g_aloadN X997 hx 41 (hb hby d18_40) rfl rfl rfl ?_
          refine g_getF X997 hx hZ hown (hw _ (List.mem_of_getElem? (i := 18) rfl)) Via.refl e997 Fvy 44 (hb hby d18_41) rfl ?_
          intro T998 X998 e998
          refine g_static X998 hx hZ hown (hw _ (List.mem_of_getElem? (i := 102) rfl)) (hw _ (List.mem_of_getElem? (i := 103) rfl)) (hw _ (List.mem_of_getElem? (i := 38) rfl)) (hw _ (List.mem_of_getElem? (i := 104) rfl)) (by decide) (rmLE l Z a0 hw vbx vby h0 n0 Z0 kbx kby zx zy xs ys Vx Vy hlx hly) e998 (argsL := [(.ref vbx), (.ref vby)]) (rest := []) rfl rfl 0 47 rfl (by rw [hml]; rfl) (lenOf own_pd19 rfl) (Nat.le_refl _) (by decide) (by decide) (by decide) (by decide) (hb hby d18_44) ?_
          intro v999 T999 L999 X999 hQ999
          obtain ⟨r, rfl, hr, N999, q999⟩ := hQ999
          have N1000 := Fr.app N0 N999
          show Go p e below _ T999 (mkF m 47 #[.val (.ref a), .val (.ref b), .val (.ref b)] [(.int r)])
          rcases hr with ⟨hr, rfl⟩ | ⟨hr, rfl⟩
          · skip
            have ll1002 : ((1 : Int32) : Int32).toInt = 1 := by decide
            refine g_if_eq X999 hx 54 50 (hb hby d18_47) (by decide) (by decide) rfl (fun c1001 => ?_) (fun c1001 => ?_)
            · skip
              exfalso; revert c1001; decide
            · skip
              refine g_iconst X999 hx (1 : Int32) 51 (hb hby d18_50) rfl (by decide) ?_
              refine g_goto X999 hx 55 (hb hby d18_51) (by decide) (by decide) ?_
              exact g_retZ X999 hx hlk hret (hb hby d18_55) (by decide) (by decide) q999 ⟨1, rfl, Or.inl ⟨hr, rfl⟩, N1000, rfl⟩
          · skip
            have ll1004 : ((0 : Int32) : Int32).toInt = 0 := by decide
            refine g_if_eq X999 hx 54 50 (hb hby d18_47) (by decide) (by decide) rfl (fun c1003 => ?_) (fun c1003 => ?_)
            · skip
              refine g_iconst X999 hx (0 : Int32) 55 (hb hby d18_54) rfl (by decide) ?_
              exact g_retZ X999 hx hlk hret (hb hby d18_55) (by decide) (by decide) q999 ⟨0, rfl, Or.inr ⟨hr, rfl⟩, N1000, rfl⟩
            · skip
              exfalso; revert c1003; decide
  · skip
    exact absurd (Value.ref.inj c985) nab
def Q_rmEN (n0 : Nat) (h0 : Heap) (v : Option Value) (h : Heap) (L : List Loc) : Prop := v = some (.int 0) ∧ Fr n0 L ∧ h = h0
theorem ef_rmEN (a : Addr) (m : MethodId) : entryFrame m #[(.ref a), .null] 3 = mkF m 0 #[.val (.ref a), .val .null, .unset] [] := by first | (simp [entryFrame, mkF, argsToLocals, Value.category]; done) | rfl
theorem rmEN (l : Launch) (Z : State) (a0 : Array Value) (hw : ∀ d ∈ tables_1, d.before a0 Z = true) (a : Addr) (h0 : Heap) (n0 : Nat) (Z0 : n0 ≤ h0.size) (O0 : Old Z n0 h0) :
    MetFree l (⟨"java/lang/String", "equals", "(Ljava/lang/Object;)Z"⟩ : MethodName) (head1 [Jvm.Cond.code (⟨"java/lang/String", "equals", "(Ljava/lang/Object;)Z"⟩ : MethodName) jdk_42_method_66_code 3 (some .boolean)] ({ frames := 0, cells := 0, slots := 0, locals := 0 } : Room)) (fun as_ U => as_ = #[(.ref a), .null] ∧ Z.Warmed39 U.vm ∧ U.heap = h0) (fun _ _ _ _ _ => True) (fun _ U o U' => ∃ v L, o = .returned v ∧ Q_rmEN n0 h0 v U'.heap L ∧ FrameEnd U o U' L ({ frames := 0, cells := 0, slots := 0, locals := 0 } : Room).cells ({ frames := 0, cells := 0, slots := 0, locals := 0 } : Room).slots) := by
  refine own_met own_pf17 (ef_rmEN a) ?_
  intro p e s m below meth c T0 X0 hx hby hml hret hlk hnm hown hZ e0
  have N0 := Fr.nil n0
  refine g_aloadN X0 hx 1 (hb hby d18_0) rfl rfl rfl ?_
  refine g_aloadN X0 hx 2 (hb hby d18_1) rfl rfl rfl ?_
  refine g_acmp_ne X0 hx rfl rfl 7 5 (hb hby d18_2) (by decide) (by decide) rfl (fun c1005 => ?_) (fun c1005 => ?_)
  · skip
    refine g_aloadN X0 hx 8 (hb hby d18_7) rfl rfl rfl ?_
    refine g_instNull X0 hx 11 (hb hby d18_8) rfl ?_
    have ll1007 : ((0 : Int32) : Int32).toInt = 0 := by decide
    refine g_if_eq X0 hx 54 14 (hb hby d18_11) (by decide) (by decide) rfl (fun c1006 => ?_) (fun c1006 => ?_)
    · skip
      refine g_iconst X0 hx (0 : Int32) 55 (hb hby d18_54) rfl (by decide) ?_
      exact g_retZ X0 hx hlk hret (hb hby d18_55) (by decide) (by decide) e0 ⟨rfl, N0, rfl⟩
    · skip
      exfalso; revert c1006; decide
  · skip
    cases c1005
theorem d1_0 : decode method_2_code 0 = .ok (.iload_n 0, 1) := by decide +kernel
theorem d1_1 : decode method_2_code 1 = .ok (.iload_n 2, 1) := by decide +kernel
theorem d1_2 : decode method_2_code 2 = .ok (.if_icmp .ne 5, 3) := by decide +kernel
theorem d1_5 : decode method_2_code 5 = .ok (.iload_n 3, 1) := by decide +kernel
theorem d1_6 : decode method_2_code 6 = .ok (.ireturn, 1) := by decide +kernel
theorem d1_7 : decode method_2_code 7 = .ok (.iload_n 0, 1) := by decide +kernel
theorem d1_8 : decode method_2_code 8 = .ok (.aload_n 1, 1) := by decide +kernel
theorem d1_9 : decode method_2_code 9 = .ok (.invokevirtual 7, 3) := by decide +kernel
theorem d1_12 : decode method_2_code 12 = .ok (.if_icmp .ge 9, 3) := by decide +kernel
theorem d1_15 : decode method_2_code 15 = .ok (.aload_n 1, 1) := by decide +kernel
theorem d1_16 : decode method_2_code 16 = .ok (.iload_n 0, 1) := by decide +kernel
theorem d1_17 : decode method_2_code 17 = .ok (.invokevirtual 13, 3) := by decide +kernel
theorem d1_20 : decode method_2_code 20 = .ok (.ireturn, 1) := by decide +kernel
theorem d1_21 : decode method_2_code 21 = .ok (.lload 4, 2) := by decide +kernel
theorem d1_23 : decode method_2_code 23 = .ok (.bipush 8, 2) := by decide +kernel
theorem d1_25 : decode method_2_code 25 = .ok (.iload_n 0, 1) := by decide +kernel
theorem d1_26 : decode method_2_code 26 = .ok (.bipush 7, 2) := by decide +kernel
theorem d1_28 : decode method_2_code 28 = .ok (.iand, 1) := by decide +kernel
theorem d1_29 : decode method_2_code 29 = .ok (.imul, 1) := by decide +kernel
theorem d1_30 : decode method_2_code 30 = .ok (.lushr, 1) := by decide +kernel
theorem d1_31 : decode method_2_code 31 = .ok (.ldc2_w 17, 3) := by decide +kernel
theorem d1_34 : decode method_2_code 34 = .ok (.land, 1) := by decide +kernel
theorem d1_35 : decode method_2_code 35 = .ok (.l2i, 1) := by decide +kernel
theorem d1_36 : decode method_2_code 36 = .ok (.i2c, 1) := by decide +kernel
theorem d1_37 : decode method_2_code 37 = .ok (.ireturn, 1) := by decide +kernel
theorem own_pf18 : plainFor (⟨"com/example/dispatchd/dispatchd/store/EventSchemaWithLabelPinLaw", "ch", "(ILjava/lang/String;ICJ)C"⟩ : MethodName) = true := plainFor_of_name (by first | (simp [plainName, overriddenIn]; done) | decide +kernel)
def Q_rmCh (n0 : Nat) (h0 : Heap) (v : Option Value) (h : Heap) (L : List Loc) : Prop := ∃ r : Int32, v = some (.int r) ∧ (0 ≤ r.toInt ∧ r.toInt ≤ 255) ∧ Fr n0 L ∧ h = h0
theorem ef_rmCh (i : Int32) (a : Addr) (ps cc : Int32) (lw : Int64) (m : MethodId) : entryFrame m #[(.int i), (.ref a), (.int ps), (.int cc), (.long lw)] 6 = mkF m 0 #[.val (.int i), .val (.ref a), .val (.int ps), .val (.int cc), .val (.long lw), .second] [] := by first | (simp [entryFrame, mkF, argsToLocals, Value.category]; done) | rfl
theorem rmCh (l : Launch) (Z : State) (a0 : Array Value) (hw : ∀ d ∈ tables_1, d.before a0 Z = true) (i : Int32) (a : Addr) (ps cc : Int32) (lw : Int64) (h0 : Heap) (n0 : Nat) (Z0 : n0 ≤ h0.size) (cst : Int32) (hc : cst ≠ 0) (O0 : Old Z n0 h0) (SC : Sta Z Z.heap "java/lang/String" "COMPACT_STRINGS" "Z" (.int cst)) (fm : Option Addr) (SF : Sta Z Z.heap "jdk/internal/util/Preconditions" "SIOOBE_FORMATTER" "Ljava/util/function/BiFunction;" (own_rv fm)) (vb : Addr) (kb : ClassId) (z : Int32) (xs : List Int32) (E : Exa Z h0 a "java/lang/String") (Fc : Fld Z h0 a "java/lang/String" "coder" "B" (.int 0)) (Fv : Fld Z h0 a "java/lang/String" "value" "[B" (.ref vb)) (V : Arv Z h0 vb kb .byte z (xs.map Value.int) (.int 0)) (b1 : 0 ≤ i.toInt) (bcc : 0 ≤ cc.toInt ∧ cc.toInt ≤ 255) :
    MetFree l (⟨"com/example/dispatchd/dispatchd/store/EventSchemaWithLabelPinLaw", "ch", "(ILjava/lang/String;ICJ)C"⟩ : MethodName) (head1 [Jvm.Cond.code (⟨"com/example/dispatchd/dispatchd/store/EventSchemaWithLabelPinLaw", "ch", "(ILjava/lang/String;ICJ)C"⟩ : MethodName) method_2_code 6 (some .char)] ({ frames := 4, cells := 0, slots := 0, locals := 60 } : Room)) (fun as_ U => as_ = #[(.int i), (.ref a), (.int ps), (.int cc), (.long lw)] ∧ Z.Warmed39 U.vm ∧ U.heap = h0) (fun _ _ _ _ _ => True) (fun _ U o U' => ∃ v L, o = .returned v ∧ Q_rmCh n0 h0 v U'.heap L ∧ FrameEnd U o U' L ({ frames := 4, cells := 0, slots := 0, locals := 60 } : Room).cells ({ frames := 4, cells := 0, slots := 0, locals := 60 } : Room).slots) := by
  refine own_met own_pf18 (ef_rmCh i a ps cc lw) ?_
  intro p e s m below meth c T0 X0 hx hby hml hret hlk hnm hown hZ e0
  have N0 := Fr.nil n0
  refine g_iloadN X0 hx 1 (hb hby d1_0) rfl rfl ?_
  refine g_iloadN X0 hx 2 (hb hby d1_1) rfl rfl ?_
  refine g_ic_ne X0 hx 7 5 (hb hby d1_2) (by decide) (by decide) rfl (fun c1008 => ?_) (fun c1008 => ?_)
  · skip
    refine g_iloadN X0 hx 8 (hb hby d1_7) rfl rfl ?_
    refine g_aloadN X0 hx 9 (hb hby d1_8) rfl rfl rfl ?_
    refine g_virt X0 hx hZ (C := "java/lang/String") hown (hw _ (List.mem_of_getElem? (i := 13) rfl)) (hw _ (List.mem_of_getElem? (i := 14) rfl)) (hw _ (List.mem_of_getElem? (i := 16) rfl)) (hw _ (List.mem_of_getElem? (i := 16) rfl)) (hw _ (List.mem_of_getElem? (i := 15) rfl)) (hw _ (List.mem_of_getElem? (i := 1) rfl)) (hw _ (List.mem_of_getElem? (i := 17) rfl)) (by decide) (rmLen l Z a0 hw a h0 n0 Z0 cst hc O0 SC vb kb z xs E Fc Fv V) e0 (b := a) E (argsL := []) (rest := [(.int i)]) rfl rfl 1 12 rfl (by rw [hml]; rfl) (lenOf own_pd1 rfl) (Nat.le_refl _) (by decide) (by decide) (by decide) (by decide) (hb hby d1_9) ?_
    intro v1009 T1009 L1009 X1009 hQ1009
    obtain ⟨rfl, N1009, q1009⟩ := hQ1009
    have N1010 := Fr.app N0 N1009
    show Go p e below _ T1009 (mkF m 12 #[.val (.int i), .val (.ref a), .val (.int ps), .val (.int cc), .val (.long lw), .second] [(.int z), (.int i)])
    refine g_ic_ge X1009 hx 21 15 (hb hby d1_12) (by decide) (by decide) rfl (fun c1011 => ?_) (fun c1011 => ?_)
    · skip
      have b3 := own_255L ((lw.toUInt64 >>> (((8 : Int32) * (i &&& (7 : Int32))) &&& 0x3f).toInt64.toUInt64).toInt64)
      refine g_lload X1009 hx 23 (hb hby d1_21) rfl rfl ?_
      refine g_bipush X1009 hx (8 : Int32) 25 (hb hby d1_23) rfl (by decide) ?_
      refine g_iloadN X1009 hx 26 (hb hby d1_25) rfl rfl ?_
      refine g_bipush X1009 hx (7 : Int32) 28 (hb hby d1_26) rfl (by decide) ?_
      refine g_iand X1009 hx 29 (hb hby d1_28) rfl ?_
      refine g_imul X1009 hx 30 (hb hby d1_29) rfl ?_
      refine g_lushr X1009 hx 31 (hb hby d1_30) rfl ?_
      refine g_ldc2J X1009 hx 34 hZ hown (hw _ (List.mem_of_getElem? (i := 48) rfl)) (hb hby d1_31) rfl ?_
      refine g_land X1009 hx 35 (hb hby d1_34) rfl ?_
      refine g_l2i X1009 hx 36 (hb hby d1_35) rfl ?_
      refine g_i2c X1009 hx 37 (hb hby d1_36) rfl ?_
      exact g_retN X1009 hx hlk hret (by simp) (hb hby d1_37) (by decide) (by decide) q1009 ⟨_, rfl, by rw [own_narc (by rw [own_i2c b3]; exact b3), own_i2c b3]; exact b3, N1010, rfl⟩
    · skip
      refine g_aloadN X1009 hx 16 (hb hby d1_15) rfl rfl rfl ?_
      refine g_iloadN X1009 hx 17 (hb hby d1_16) rfl rfl ?_
      refine g_virt X1009 hx hZ (C := "java/lang/String") hown (hw _ (List.mem_of_getElem? (i := 26) rfl)) (hw _ (List.mem_of_getElem? (i := 27) rfl)) (hw _ (List.mem_of_getElem? (i := 29) rfl)) (hw _ (List.mem_of_getElem? (i := 29) rfl)) (hw _ (List.mem_of_getElem? (i := 28) rfl)) (hw _ (List.mem_of_getElem? (i := 1) rfl)) (hw _ (List.mem_of_getElem? (i := 30) rfl)) (by decide) (rmCA l Z a0 hw a i h0 n0 Z0 cst hc O0 SC fm SF vb kb z xs E Fc Fv V b1 (by omega)) q1009 (b := a) E (argsL := [(.int i)]) (rest := []) rfl rfl 0 20 rfl (by rw [hml]; rfl) (lenOf own_pd3 rfl) (Nat.le_refl _) (by decide) (by decide) (by decide) (by decide) (hb hby d1_17) ?_
      intro v1012 T1012 L1012 X1012 hQ1012
      obtain ⟨r, rfl, b3, N1012, q1012⟩ := hQ1012
      have N1013 := Fr.app N1010 N1012
      show Go p e below _ T1012 (mkF m 20 #[.val (.int i), .val (.ref a), .val (.int ps), .val (.int cc), .val (.long lw), .second] [(.int r)])
      exact g_retN X1012 hx hlk hret (by simp) (hb hby d1_20) (by decide) (by decide) q1012 ⟨_, rfl, by rw [own_narc b3]; exact b3, N1013, rfl⟩
  · skip
    refine g_iloadN X0 hx 6 (hb hby d1_5) rfl rfl ?_
    exact g_retN X0 hx hlk hret (by simp) (hb hby d1_6) (by decide) (by decide) e0 ⟨_, rfl, by rw [own_narc bcc]; exact bcc, N0, rfl⟩
theorem d9_0 : decode method_3_code 0 = .ok (.iload_n 0, 1) := by decide +kernel
theorem d9_1 : decode method_3_code 1 = .ok (.ifCond .ne 14, 3) := by decide +kernel
theorem d9_4 : decode method_3_code 4 = .ok (.new 8, 3) := by decide +kernel
theorem d9_7 : decode method_3_code 7 = .ok (.dup, 1) := by decide +kernel
theorem d9_8 : decode method_3_code 8 = .ok (.iconst 0, 1) := by decide +kernel
theorem d9_9 : decode method_3_code 9 = .ok (.newarray .char, 2) := by decide +kernel
theorem d9_11 : decode method_3_code 11 = .ok (.invokespecial 19, 3) := by decide +kernel
theorem d9_14 : decode method_3_code 14 = .ok (.areturn, 1) := by decide +kernel
theorem d9_15 : decode method_3_code 15 = .ok (.iload_n 0, 1) := by decide +kernel
theorem d9_16 : decode method_3_code 16 = .ok (.iconst 1, 1) := by decide +kernel
theorem d9_17 : decode method_3_code 17 = .ok (.if_icmp .ne 10, 3) := by decide +kernel
theorem d9_20 : decode method_3_code 20 = .ok (.aload_n 1, 1) := by decide +kernel
theorem d9_21 : decode method_3_code 21 = .ok (.iconst 0, 1) := by decide +kernel
theorem d9_22 : decode method_3_code 22 = .ok (.caload, 1) := by decide +kernel
theorem d9_23 : decode method_3_code 23 = .ok (.invokestatic 22, 3) := by decide +kernel
theorem d9_26 : decode method_3_code 26 = .ok (.areturn, 1) := by decide +kernel
theorem d9_27 : decode method_3_code 27 = .ok (.iload_n 0, 1) := by decide +kernel
theorem d9_28 : decode method_3_code 28 = .ok (.iconst 4, 1) := by decide +kernel
theorem d9_29 : decode method_3_code 29 = .ok (.if_icmp .ne 38, 3) := by decide +kernel
theorem d9_32 : decode method_3_code 32 = .ok (.new 8, 3) := by decide +kernel
theorem d9_35 : decode method_3_code 35 = .ok (.dup, 1) := by decide +kernel
theorem d9_36 : decode method_3_code 36 = .ok (.iconst 4, 1) := by decide +kernel
theorem d9_37 : decode method_3_code 37 = .ok (.newarray .char, 2) := by decide +kernel
theorem d9_39 : decode method_3_code 39 = .ok (.dup, 1) := by decide +kernel
theorem d9_40 : decode method_3_code 40 = .ok (.iconst 0, 1) := by decide +kernel
theorem d9_41 : decode method_3_code 41 = .ok (.aload_n 1, 1) := by decide +kernel
theorem d9_42 : decode method_3_code 42 = .ok (.iconst 0, 1) := by decide +kernel
theorem d9_43 : decode method_3_code 43 = .ok (.caload, 1) := by decide +kernel
theorem d9_44 : decode method_3_code 44 = .ok (.castore, 1) := by decide +kernel
theorem d9_45 : decode method_3_code 45 = .ok (.dup, 1) := by decide +kernel
theorem d9_46 : decode method_3_code 46 = .ok (.iconst 1, 1) := by decide +kernel
theorem d9_47 : decode method_3_code 47 = .ok (.aload_n 1, 1) := by decide +kernel
theorem d9_48 : decode method_3_code 48 = .ok (.iconst 1, 1) := by decide +kernel
theorem d9_49 : decode method_3_code 49 = .ok (.caload, 1) := by decide +kernel
theorem d9_50 : decode method_3_code 50 = .ok (.castore, 1) := by decide +kernel
theorem d9_51 : decode method_3_code 51 = .ok (.dup, 1) := by decide +kernel
theorem d9_52 : decode method_3_code 52 = .ok (.iconst 2, 1) := by decide +kernel
theorem d9_53 : decode method_3_code 53 = .ok (.aload_n 1, 1) := by decide +kernel
theorem d9_54 : decode method_3_code 54 = .ok (.iconst 2, 1) := by decide +kernel
theorem d9_55 : decode method_3_code 55 = .ok (.caload, 1) := by decide +kernel
theorem d9_56 : decode method_3_code 56 = .ok (.castore, 1) := by decide +kernel
theorem d9_57 : decode method_3_code 57 = .ok (.dup, 1) := by decide +kernel
theorem d9_58 : decode method_3_code 58 = .ok (.iconst 3, 1) := by decide +kernel
theorem d9_59 : decode method_3_code 59 = .ok (.aload_n 1, 1) := by decide +kernel
theorem d9_60 : decode method_3_code 60 = .ok (.iconst 3, 1) := by decide +kernel
theorem d9_61 : decode method_3_code 61 = .ok (.caload, 1) := by decide +kernel
theorem d9_62 : decode method_3_code 62 = .ok (.castore, 1) := by decide +kernel
theorem d9_63 : decode method_3_code 63 = .ok (.invokespecial 19, 3) := by decide +kernel
theorem d9_66 : decode method_3_code 66 = .ok (.areturn, 1) := by decide +kernel
theorem d9_67 : decode method_3_code 67 = .ok (.iload_n 0, 1) := by decide +kernel
theorem d9_68 : decode method_3_code 68 = .ok (.iconst 5, 1) := by decide +kernel
theorem d9_69 : decode method_3_code 69 = .ok (.if_icmp .ne 44, 3) := by decide +kernel
theorem d9_72 : decode method_3_code 72 = .ok (.new 8, 3) := by decide +kernel
theorem d9_75 : decode method_3_code 75 = .ok (.dup, 1) := by decide +kernel
theorem d9_76 : decode method_3_code 76 = .ok (.iconst 5, 1) := by decide +kernel
theorem d9_77 : decode method_3_code 77 = .ok (.newarray .char, 2) := by decide +kernel
theorem d9_79 : decode method_3_code 79 = .ok (.dup, 1) := by decide +kernel
theorem d9_80 : decode method_3_code 80 = .ok (.iconst 0, 1) := by decide +kernel
theorem d9_81 : decode method_3_code 81 = .ok (.aload_n 1, 1) := by decide +kernel
theorem d9_82 : decode method_3_code 82 = .ok (.iconst 0, 1) := by decide +kernel
theorem d9_83 : decode method_3_code 83 = .ok (.caload, 1) := by decide +kernel
theorem d9_84 : decode method_3_code 84 = .ok (.castore, 1) := by decide +kernel
theorem d9_85 : decode method_3_code 85 = .ok (.dup, 1) := by decide +kernel
theorem d9_86 : decode method_3_code 86 = .ok (.iconst 1, 1) := by decide +kernel
theorem d9_87 : decode method_3_code 87 = .ok (.aload_n 1, 1) := by decide +kernel
theorem d9_88 : decode method_3_code 88 = .ok (.iconst 1, 1) := by decide +kernel
theorem d9_89 : decode method_3_code 89 = .ok (.caload, 1) := by decide +kernel
theorem d9_90 : decode method_3_code 90 = .ok (.castore, 1) := by decide +kernel
theorem d9_91 : decode method_3_code 91 = .ok (.dup, 1) := by decide +kernel
theorem d9_92 : decode method_3_code 92 = .ok (.iconst 2, 1) := by decide +kernel
theorem d9_93 : decode method_3_code 93 = .ok (.aload_n 1, 1) := by decide +kernel
theorem d9_94 : decode method_3_code 94 = .ok (.iconst 2, 1) := by decide +kernel
theorem d9_95 : decode method_3_code 95 = .ok (.caload, 1) := by decide +kernel
theorem d9_96 : decode method_3_code 96 = .ok (.castore, 1) := by decide +kernel
theorem d9_97 : decode method_3_code 97 = .ok (.dup, 1) := by decide +kernel
theorem d9_98 : decode method_3_code 98 = .ok (.iconst 3, 1) := by decide +kernel
theorem d9_99 : decode method_3_code 99 = .ok (.aload_n 1, 1) := by decide +kernel
theorem d9_100 : decode method_3_code 100 = .ok (.iconst 3, 1) := by decide +kernel
theorem d9_101 : decode method_3_code 101 = .ok (.caload, 1) := by decide +kernel
theorem d9_102 : decode method_3_code 102 = .ok (.castore, 1) := by decide +kernel
theorem d9_103 : decode method_3_code 103 = .ok (.dup, 1) := by decide +kernel
theorem d9_104 : decode method_3_code 104 = .ok (.iconst 4, 1) := by decide +kernel
theorem d9_105 : decode method_3_code 105 = .ok (.aload_n 1, 1) := by decide +kernel
theorem d9_106 : decode method_3_code 106 = .ok (.iconst 4, 1) := by decide +kernel
theorem d9_107 : decode method_3_code 107 = .ok (.caload, 1) := by decide +kernel
theorem d9_108 : decode method_3_code 108 = .ok (.castore, 1) := by decide +kernel
theorem d9_109 : decode method_3_code 109 = .ok (.invokespecial 19, 3) := by decide +kernel
theorem d9_112 : decode method_3_code 112 = .ok (.areturn, 1) := by decide +kernel
theorem d9_113 : decode method_3_code 113 = .ok (.iload_n 0, 1) := by decide +kernel
theorem d9_114 : decode method_3_code 114 = .ok (.bipush 6, 2) := by decide +kernel
theorem d9_116 : decode method_3_code 116 = .ok (.if_icmp .ne 51, 3) := by decide +kernel
theorem d9_119 : decode method_3_code 119 = .ok (.new 8, 3) := by decide +kernel
theorem d9_122 : decode method_3_code 122 = .ok (.dup, 1) := by decide +kernel
theorem d9_123 : decode method_3_code 123 = .ok (.bipush 6, 2) := by decide +kernel
theorem d9_125 : decode method_3_code 125 = .ok (.newarray .char, 2) := by decide +kernel
theorem d9_127 : decode method_3_code 127 = .ok (.dup, 1) := by decide +kernel
theorem d9_128 : decode method_3_code 128 = .ok (.iconst 0, 1) := by decide +kernel
theorem d9_129 : decode method_3_code 129 = .ok (.aload_n 1, 1) := by decide +kernel
theorem d9_130 : decode method_3_code 130 = .ok (.iconst 0, 1) := by decide +kernel
theorem d9_131 : decode method_3_code 131 = .ok (.caload, 1) := by decide +kernel
theorem d9_132 : decode method_3_code 132 = .ok (.castore, 1) := by decide +kernel
theorem d9_133 : decode method_3_code 133 = .ok (.dup, 1) := by decide +kernel
theorem d9_134 : decode method_3_code 134 = .ok (.iconst 1, 1) := by decide +kernel
theorem d9_135 : decode method_3_code 135 = .ok (.aload_n 1, 1) := by decide +kernel
theorem d9_136 : decode method_3_code 136 = .ok (.iconst 1, 1) := by decide +kernel
theorem d9_137 : decode method_3_code 137 = .ok (.caload, 1) := by decide +kernel
theorem d9_138 : decode method_3_code 138 = .ok (.castore, 1) := by decide +kernel
theorem d9_139 : decode method_3_code 139 = .ok (.dup, 1) := by decide +kernel
theorem d9_140 : decode method_3_code 140 = .ok (.iconst 2, 1) := by decide +kernel
theorem d9_141 : decode method_3_code 141 = .ok (.aload_n 1, 1) := by decide +kernel
theorem d9_142 : decode method_3_code 142 = .ok (.iconst 2, 1) := by decide +kernel
theorem d9_143 : decode method_3_code 143 = .ok (.caload, 1) := by decide +kernel
theorem d9_144 : decode method_3_code 144 = .ok (.castore, 1) := by decide +kernel
theorem d9_145 : decode method_3_code 145 = .ok (.dup, 1) := by decide +kernel
theorem d9_146 : decode method_3_code 146 = .ok (.iconst 3, 1) := by decide +kernel
theorem d9_147 : decode method_3_code 147 = .ok (.aload_n 1, 1) := by decide +kernel
theorem d9_148 : decode method_3_code 148 = .ok (.iconst 3, 1) := by decide +kernel
theorem d9_149 : decode method_3_code 149 = .ok (.caload, 1) := by decide +kernel
theorem d9_150 : decode method_3_code 150 = .ok (.castore, 1) := by decide +kernel
theorem d9_151 : decode method_3_code 151 = .ok (.dup, 1) := by decide +kernel
theorem d9_152 : decode method_3_code 152 = .ok (.iconst 4, 1) := by decide +kernel
theorem d9_153 : decode method_3_code 153 = .ok (.aload_n 1, 1) := by decide +kernel
theorem d9_154 : decode method_3_code 154 = .ok (.iconst 4, 1) := by decide +kernel
theorem d9_155 : decode method_3_code 155 = .ok (.caload, 1) := by decide +kernel
theorem d9_156 : decode method_3_code 156 = .ok (.castore, 1) := by decide +kernel
theorem d9_157 : decode method_3_code 157 = .ok (.dup, 1) := by decide +kernel
theorem d9_158 : decode method_3_code 158 = .ok (.iconst 5, 1) := by decide +kernel
theorem d9_159 : decode method_3_code 159 = .ok (.aload_n 1, 1) := by decide +kernel
theorem d9_160 : decode method_3_code 160 = .ok (.iconst 5, 1) := by decide +kernel
theorem d9_161 : decode method_3_code 161 = .ok (.caload, 1) := by decide +kernel
theorem d9_162 : decode method_3_code 162 = .ok (.castore, 1) := by decide +kernel
theorem d9_163 : decode method_3_code 163 = .ok (.invokespecial 19, 3) := by decide +kernel
theorem d9_166 : decode method_3_code 166 = .ok (.areturn, 1) := by decide +kernel
theorem d9_167 : decode method_3_code 167 = .ok (.iload_n 0, 1) := by decide +kernel
theorem d9_168 : decode method_3_code 168 = .ok (.bipush 8, 2) := by decide +kernel
theorem d9_170 : decode method_3_code 170 = .ok (.if_icmp .ne 67, 3) := by decide +kernel
theorem d9_173 : decode method_3_code 173 = .ok (.new 8, 3) := by decide +kernel
theorem d9_176 : decode method_3_code 176 = .ok (.dup, 1) := by decide +kernel
theorem d9_177 : decode method_3_code 177 = .ok (.bipush 8, 2) := by decide +kernel
theorem d9_179 : decode method_3_code 179 = .ok (.newarray .char, 2) := by decide +kernel
theorem d9_181 : decode method_3_code 181 = .ok (.dup, 1) := by decide +kernel
theorem d9_182 : decode method_3_code 182 = .ok (.iconst 0, 1) := by decide +kernel
theorem d9_183 : decode method_3_code 183 = .ok (.aload_n 1, 1) := by decide +kernel
theorem d9_184 : decode method_3_code 184 = .ok (.iconst 0, 1) := by decide +kernel
theorem d9_185 : decode method_3_code 185 = .ok (.caload, 1) := by decide +kernel
theorem d9_186 : decode method_3_code 186 = .ok (.castore, 1) := by decide +kernel
theorem d9_187 : decode method_3_code 187 = .ok (.dup, 1) := by decide +kernel
theorem d9_188 : decode method_3_code 188 = .ok (.iconst 1, 1) := by decide +kernel
theorem d9_189 : decode method_3_code 189 = .ok (.aload_n 1, 1) := by decide +kernel
theorem d9_190 : decode method_3_code 190 = .ok (.iconst 1, 1) := by decide +kernel
theorem d9_191 : decode method_3_code 191 = .ok (.caload, 1) := by decide +kernel
theorem d9_192 : decode method_3_code 192 = .ok (.castore, 1) := by decide +kernel
theorem d9_193 : decode method_3_code 193 = .ok (.dup, 1) := by decide +kernel
theorem d9_194 : decode method_3_code 194 = .ok (.iconst 2, 1) := by decide +kernel
theorem d9_195 : decode method_3_code 195 = .ok (.aload_n 1, 1) := by decide +kernel
theorem d9_196 : decode method_3_code 196 = .ok (.iconst 2, 1) := by decide +kernel
theorem d9_197 : decode method_3_code 197 = .ok (.caload, 1) := by decide +kernel
theorem d9_198 : decode method_3_code 198 = .ok (.castore, 1) := by decide +kernel
theorem d9_199 : decode method_3_code 199 = .ok (.dup, 1) := by decide +kernel
theorem d9_200 : decode method_3_code 200 = .ok (.iconst 3, 1) := by decide +kernel
theorem d9_201 : decode method_3_code 201 = .ok (.aload_n 1, 1) := by decide +kernel
theorem d9_202 : decode method_3_code 202 = .ok (.iconst 3, 1) := by decide +kernel
theorem d9_203 : decode method_3_code 203 = .ok (.caload, 1) := by decide +kernel
theorem d9_204 : decode method_3_code 204 = .ok (.castore, 1) := by decide +kernel
theorem d9_205 : decode method_3_code 205 = .ok (.dup, 1) := by decide +kernel
theorem d9_206 : decode method_3_code 206 = .ok (.iconst 4, 1) := by decide +kernel
theorem d9_207 : decode method_3_code 207 = .ok (.aload_n 1, 1) := by decide +kernel
theorem d9_208 : decode method_3_code 208 = .ok (.iconst 4, 1) := by decide +kernel
theorem d9_209 : decode method_3_code 209 = .ok (.caload, 1) := by decide +kernel
theorem d9_210 : decode method_3_code 210 = .ok (.castore, 1) := by decide +kernel
theorem d9_211 : decode method_3_code 211 = .ok (.dup, 1) := by decide +kernel
theorem d9_212 : decode method_3_code 212 = .ok (.iconst 5, 1) := by decide +kernel
theorem d9_213 : decode method_3_code 213 = .ok (.aload_n 1, 1) := by decide +kernel
theorem d9_214 : decode method_3_code 214 = .ok (.iconst 5, 1) := by decide +kernel
theorem d9_215 : decode method_3_code 215 = .ok (.caload, 1) := by decide +kernel
theorem d9_216 : decode method_3_code 216 = .ok (.castore, 1) := by decide +kernel
theorem d9_217 : decode method_3_code 217 = .ok (.dup, 1) := by decide +kernel
theorem d9_218 : decode method_3_code 218 = .ok (.bipush 6, 2) := by decide +kernel
theorem d9_220 : decode method_3_code 220 = .ok (.aload_n 1, 1) := by decide +kernel
theorem d9_221 : decode method_3_code 221 = .ok (.bipush 6, 2) := by decide +kernel
theorem d9_223 : decode method_3_code 223 = .ok (.caload, 1) := by decide +kernel
theorem d9_224 : decode method_3_code 224 = .ok (.castore, 1) := by decide +kernel
theorem d9_225 : decode method_3_code 225 = .ok (.dup, 1) := by decide +kernel
theorem d9_226 : decode method_3_code 226 = .ok (.bipush 7, 2) := by decide +kernel
theorem d9_228 : decode method_3_code 228 = .ok (.aload_n 1, 1) := by decide +kernel
theorem d9_229 : decode method_3_code 229 = .ok (.bipush 7, 2) := by decide +kernel
theorem d9_231 : decode method_3_code 231 = .ok (.caload, 1) := by decide +kernel
theorem d9_232 : decode method_3_code 232 = .ok (.castore, 1) := by decide +kernel
theorem d9_233 : decode method_3_code 233 = .ok (.invokespecial 19, 3) := by decide +kernel
theorem d9_236 : decode method_3_code 236 = .ok (.areturn, 1) := by decide +kernel
theorem d9_237 : decode method_3_code 237 = .ok (.iload_n 0, 1) := by decide +kernel
theorem d9_238 : decode method_3_code 238 = .ok (.bipush 11, 2) := by decide +kernel
theorem d9_240 : decode method_3_code 240 = .ok (.if_icmp .ne 91, 3) := by decide +kernel
theorem d9_243 : decode method_3_code 243 = .ok (.new 8, 3) := by decide +kernel
theorem d9_246 : decode method_3_code 246 = .ok (.dup, 1) := by decide +kernel
theorem d9_247 : decode method_3_code 247 = .ok (.bipush 11, 2) := by decide +kernel
theorem d9_249 : decode method_3_code 249 = .ok (.newarray .char, 2) := by decide +kernel
theorem d9_251 : decode method_3_code 251 = .ok (.dup, 1) := by decide +kernel
theorem d9_252 : decode method_3_code 252 = .ok (.iconst 0, 1) := by decide +kernel
theorem d9_253 : decode method_3_code 253 = .ok (.aload_n 1, 1) := by decide +kernel
theorem d9_254 : decode method_3_code 254 = .ok (.iconst 0, 1) := by decide +kernel
theorem d9_255 : decode method_3_code 255 = .ok (.caload, 1) := by decide +kernel
theorem d9_256 : decode method_3_code 256 = .ok (.castore, 1) := by decide +kernel
theorem d9_257 : decode method_3_code 257 = .ok (.dup, 1) := by decide +kernel
theorem d9_258 : decode method_3_code 258 = .ok (.iconst 1, 1) := by decide +kernel
theorem d9_259 : decode method_3_code 259 = .ok (.aload_n 1, 1) := by decide +kernel
theorem d9_260 : decode method_3_code 260 = .ok (.iconst 1, 1) := by decide +kernel
theorem d9_261 : decode method_3_code 261 = .ok (.caload, 1) := by decide +kernel
theorem d9_262 : decode method_3_code 262 = .ok (.castore, 1) := by decide +kernel
theorem d9_263 : decode method_3_code 263 = .ok (.dup, 1) := by decide +kernel
theorem d9_264 : decode method_3_code 264 = .ok (.iconst 2, 1) := by decide +kernel
theorem d9_265 : decode method_3_code 265 = .ok (.aload_n 1, 1) := by decide +kernel
theorem d9_266 : decode method_3_code 266 = .ok (.iconst 2, 1) := by decide +kernel
theorem d9_267 : decode method_3_code 267 = .ok (.caload, 1) := by decide +kernel
theorem d9_268 : decode method_3_code 268 = .ok (.castore, 1) := by decide +kernel
theorem d9_269 : decode method_3_code 269 = .ok (.dup, 1) := by decide +kernel
theorem d9_270 : decode method_3_code 270 = .ok (.iconst 3, 1) := by decide +kernel
theorem d9_271 : decode method_3_code 271 = .ok (.aload_n 1, 1) := by decide +kernel
theorem d9_272 : decode method_3_code 272 = .ok (.iconst 3, 1) := by decide +kernel
theorem d9_273 : decode method_3_code 273 = .ok (.caload, 1) := by decide +kernel
theorem d9_274 : decode method_3_code 274 = .ok (.castore, 1) := by decide +kernel
theorem d9_275 : decode method_3_code 275 = .ok (.dup, 1) := by decide +kernel
theorem d9_276 : decode method_3_code 276 = .ok (.iconst 4, 1) := by decide +kernel
theorem d9_277 : decode method_3_code 277 = .ok (.aload_n 1, 1) := by decide +kernel
theorem d9_278 : decode method_3_code 278 = .ok (.iconst 4, 1) := by decide +kernel
theorem d9_279 : decode method_3_code 279 = .ok (.caload, 1) := by decide +kernel
theorem d9_280 : decode method_3_code 280 = .ok (.castore, 1) := by decide +kernel
theorem d9_281 : decode method_3_code 281 = .ok (.dup, 1) := by decide +kernel
theorem d9_282 : decode method_3_code 282 = .ok (.iconst 5, 1) := by decide +kernel
theorem d9_283 : decode method_3_code 283 = .ok (.aload_n 1, 1) := by decide +kernel
theorem d9_284 : decode method_3_code 284 = .ok (.iconst 5, 1) := by decide +kernel
theorem d9_285 : decode method_3_code 285 = .ok (.caload, 1) := by decide +kernel
theorem d9_286 : decode method_3_code 286 = .ok (.castore, 1) := by decide +kernel
theorem d9_287 : decode method_3_code 287 = .ok (.dup, 1) := by decide +kernel
theorem d9_288 : decode method_3_code 288 = .ok (.bipush 6, 2) := by decide +kernel
theorem d9_290 : decode method_3_code 290 = .ok (.aload_n 1, 1) := by decide +kernel
theorem d9_291 : decode method_3_code 291 = .ok (.bipush 6, 2) := by decide +kernel
theorem d9_293 : decode method_3_code 293 = .ok (.caload, 1) := by decide +kernel
theorem d9_294 : decode method_3_code 294 = .ok (.castore, 1) := by decide +kernel
theorem d9_295 : decode method_3_code 295 = .ok (.dup, 1) := by decide +kernel
theorem d9_296 : decode method_3_code 296 = .ok (.bipush 7, 2) := by decide +kernel
theorem d9_298 : decode method_3_code 298 = .ok (.aload_n 1, 1) := by decide +kernel
theorem d9_299 : decode method_3_code 299 = .ok (.bipush 7, 2) := by decide +kernel
theorem d9_301 : decode method_3_code 301 = .ok (.caload, 1) := by decide +kernel
theorem d9_302 : decode method_3_code 302 = .ok (.castore, 1) := by decide +kernel
theorem d9_303 : decode method_3_code 303 = .ok (.dup, 1) := by decide +kernel
theorem d9_304 : decode method_3_code 304 = .ok (.bipush 8, 2) := by decide +kernel
theorem d9_306 : decode method_3_code 306 = .ok (.aload_n 1, 1) := by decide +kernel
theorem d9_307 : decode method_3_code 307 = .ok (.bipush 8, 2) := by decide +kernel
theorem d9_309 : decode method_3_code 309 = .ok (.caload, 1) := by decide +kernel
theorem d9_310 : decode method_3_code 310 = .ok (.castore, 1) := by decide +kernel
theorem d9_311 : decode method_3_code 311 = .ok (.dup, 1) := by decide +kernel
theorem d9_312 : decode method_3_code 312 = .ok (.bipush 9, 2) := by decide +kernel
theorem d9_314 : decode method_3_code 314 = .ok (.aload_n 1, 1) := by decide +kernel
theorem d9_315 : decode method_3_code 315 = .ok (.bipush 9, 2) := by decide +kernel
theorem d9_317 : decode method_3_code 317 = .ok (.caload, 1) := by decide +kernel
theorem d9_318 : decode method_3_code 318 = .ok (.castore, 1) := by decide +kernel
theorem d9_319 : decode method_3_code 319 = .ok (.dup, 1) := by decide +kernel
theorem d9_320 : decode method_3_code 320 = .ok (.bipush 10, 2) := by decide +kernel
theorem d9_322 : decode method_3_code 322 = .ok (.aload_n 1, 1) := by decide +kernel
theorem d9_323 : decode method_3_code 323 = .ok (.bipush 10, 2) := by decide +kernel
theorem d9_325 : decode method_3_code 325 = .ok (.caload, 1) := by decide +kernel
theorem d9_326 : decode method_3_code 326 = .ok (.castore, 1) := by decide +kernel
theorem d9_327 : decode method_3_code 327 = .ok (.invokespecial 19, 3) := by decide +kernel
theorem d9_330 : decode method_3_code 330 = .ok (.areturn, 1) := by decide +kernel
theorem d9_331 : decode method_3_code 331 = .ok (.new 8, 3) := by decide +kernel
theorem d9_334 : decode method_3_code 334 = .ok (.dup, 1) := by decide +kernel
theorem d9_335 : decode method_3_code 335 = .ok (.aload_n 1, 1) := by decide +kernel
theorem d9_336 : decode method_3_code 336 = .ok (.invokespecial 19, 3) := by decide +kernel
theorem d9_339 : decode method_3_code 339 = .ok (.areturn, 1) := by decide +kernel
theorem own_pf19 : plainFor (⟨"com/example/dispatchd/dispatchd/store/EventSchemaWithLabelPinLaw", "make", "(I[C)Ljava/lang/String;"⟩ : MethodName) = true := plainFor_of_name (by first | (simp [plainName, overriddenIn]; done) | decide +kernel)
def Q_rmMk_1 (Z : State) (n0 : Nat) (h0 : Heap) (v : Option Value) (h : Heap) (L : List Loc) : Prop := ∃ (r vb : Addr) (kb : ClassId) (z : Int32) (xs : List Int32), v = some (.ref r) ∧ Fr n0 L ∧ Keep h0 h [] ∧ n0 ≤ r ∧ h0.size ≤ r ∧ Exa Z h r "java/lang/String" ∧ Fld Z h r "java/lang/String" "coder" "B" (.int 0) ∧ Fld Z h r "java/lang/String" "value" "[B" (.ref vb) ∧ Arv Z h vb kb .byte z (xs.map Value.int) (.int 0) ∧ z.toInt = (xs.length : Int)
theorem ef_rmMk_1 (ca : Addr) (m : MethodId) : entryFrame m #[(.int 1), (.ref ca)] 2 = mkF m 0 #[.val (.int 1), .val (.ref ca)] [] := by first | (simp [entryFrame, mkF, argsToLocals, Value.category]; done) | rfl
theorem rmMk_1 (l : Launch) (Z : State) (a0 : Array Value) (hw : ∀ d ∈ tables_1, d.before a0 Z = true) (ca : Addr) (h0 : Heap) (n0 : Nat) (Z0 : n0 ≤ h0.size) (cst : Int32) (hc : cst ≠ 0) (O0 : Old Z n0 h0) (SC : Sta Z Z.heap "java/lang/String" "COMPACT_STRINGS" "Z" (.int cst)) (kc : ClassId) (c0 c1 c2 c3 c4 c5 c6 c7 c8 c9 c10 c11 : Int32) (bc0 : 0 ≤ c0.toInt ∧ c0.toInt ≤ 255) (bc1 : 0 ≤ c1.toInt ∧ c1.toInt ≤ 255) (bc2 : 0 ≤ c2.toInt ∧ c2.toInt ≤ 255) (bc3 : 0 ≤ c3.toInt ∧ c3.toInt ≤ 255) (bc4 : 0 ≤ c4.toInt ∧ c4.toInt ≤ 255) (bc5 : 0 ≤ c5.toInt ∧ c5.toInt ≤ 255) (bc6 : 0 ≤ c6.toInt ∧ c6.toInt ≤ 255) (bc7 : 0 ≤ c7.toInt ∧ c7.toInt ≤ 255) (bc8 : 0 ≤ c8.toInt ∧ c8.toInt ≤ 255) (bc9 : 0 ≤ c9.toInt ∧ c9.toInt ≤ 255) (bc10 : 0 ≤ c10.toInt ∧ c10.toInt ≤ 255) (bc11 : 0 ≤ c11.toInt ∧ c11.toInt ≤ 255) (Vc : Arv Z h0 ca kc .char 12 [(.int c0), (.int c1), (.int c2), (.int c3), (.int c4), (.int c5), (.int c6), (.int c7), (.int c8), (.int c9), (.int c10), (.int c11)] (.int 0)) :
    MetFree l (⟨"com/example/dispatchd/dispatchd/store/EventSchemaWithLabelPinLaw", "make", "(I[C)Ljava/lang/String;"⟩ : MethodName) (head1 [Jvm.Cond.code (⟨"com/example/dispatchd/dispatchd/store/EventSchemaWithLabelPinLaw", "make", "(I[C)Ljava/lang/String;"⟩ : MethodName) method_3_code 2 (some (.object "java/lang/String"))] ({ frames := 3, cells := 2, slots := 5, locals := 60 } : Room)) (fun as_ U => as_ = #[(.int 1), (.ref ca)] ∧ Z.Warmed39 U.vm ∧ U.heap = h0) (fun _ _ _ _ _ => True) (fun _ U o U' => ∃ v L, o = .returned v ∧ Q_rmMk_1 Z n0 h0 v U'.heap L ∧ FrameEnd U o U' L ({ frames := 3, cells := 2, slots := 5, locals := 60 } : Room).cells ({ frames := 3, cells := 2, slots := 5, locals := 60 } : Room).slots) := by
  refine own_met own_pf19 (ef_rmMk_1 ca) ?_
  intro p e s m below meth c T0 X0 hx hby hml hret hlk hnm hown hZ e0
  have N0 := Fr.nil n0
  refine g_iloadN X0 hx 1 (hb hby d9_0) rfl rfl ?_
  have ll1015 : ((1 : Int32) : Int32).toInt = 1 := by decide
  refine g_if_ne X0 hx 15 4 (hb hby d9_1) (by decide) (by decide) rfl (fun c1014 => ?_) (fun c1014 => ?_)
  · skip
    refine g_iloadN X0 hx 16 (hb hby d9_15) rfl rfl ?_
    refine g_iconst X0 hx (1 : Int32) 17 (hb hby d9_16) rfl (by decide) ?_
    have ll1017 : ((1 : Int32) : Int32).toInt = 1 := by decide
    have ll1018 : ((1 : Int32) : Int32).toInt = 1 := by decide
    refine g_ic_ne X0 hx 27 20 (hb hby d9_17) (by decide) (by decide) rfl (fun c1016 => ?_) (fun c1016 => ?_)
    · skip
      exfalso; revert c1016; decide
    · skip
      refine g_aloadN X0 hx 21 (hb hby d9_20) rfl rfl rfl ?_
      refine g_iconst X0 hx (0 : Int32) 22 (hb hby d9_21) rfl (by decide) ?_
      refine g_caload X0 hx hZ e0 Vc (by decide) (by decide) (by rw [show ((0 : Int32) : Int32).toNatClampNeg = 0 by decide] <;> rfl) 23 (hb hby d9_22) rfl ?_
      refine g_static X0 hx hZ hown (hw _ (List.mem_of_getElem? (i := 149) rfl)) (hw _ (List.mem_of_getElem? (i := 150) rfl)) (hw _ (List.mem_of_getElem? (i := 1) rfl)) (hw _ (List.mem_of_getElem? (i := 151) rfl)) (by decide) (rmVo l Z a0 hw c0 h0 n0 Z0 cst hc O0 SC bc0) e0 (argsL := [(.int c0)]) (rest := []) rfl rfl 0 26 rfl (by rw [hml]; rfl) (lenOf own_pd25 rfl) (Nat.le_refl _) (by decide) (by decide) (by decide) (by decide) (hb hby d9_23) ?_
      intro v1019 T1019 L1019 X1019 hQ1019
      obtain ⟨r, vb, kb, z, xs, rfl, N1019, K1019, gr, sr, E_, c_, v_, V_, hl⟩ := hQ1019
      have N1020 := Fr.app N0 N1019
      have F1021 := O0.keep K1019 all0
      have F1022 := Vc.keep K1019 nin0
      have Z1023 : n0 ≤ T1019.heap.size := Nat.le_trans Z0 K1019.1
      have K1024 := (Keep.refl h0 []).trans K1019 all0
      show Go p e below _ T1019 (mkF m 26 #[.val (.int (1 : Int32)), .val (.ref ca)] [(.ref r)])
      exact g_retA X1019 hx hlk hret rfl rfl rfl (hb hby d9_26) (by decide) (by decide) rfl ⟨r, vb, kb, z, xs, rfl, N1020, K1024, gr, sr, E_, c_, v_, V_, hl⟩
  · skip
    exfalso; revert c1014; decide
def Q_rmMk_4 (Z : State) (n0 : Nat) (h0 : Heap) (v : Option Value) (h : Heap) (L : List Loc) : Prop := ∃ (r vb : Addr) (kb : ClassId) (z : Int32) (xs : List Int32), v = some (.ref r) ∧ Fr n0 L ∧ Keep h0 h [] ∧ n0 ≤ r ∧ h0.size ≤ r ∧ Exa Z h r "java/lang/String" ∧ Fld Z h r "java/lang/String" "coder" "B" (.int 0) ∧ Fld Z h r "java/lang/String" "value" "[B" (.ref vb) ∧ Arv Z h vb kb .byte z (xs.map Value.int) (.int 0) ∧ z.toInt = (xs.length : Int)
theorem ef_rmMk_4 (ca : Addr) (m : MethodId) : entryFrame m #[(.int 4), (.ref ca)] 2 = mkF m 0 #[.val (.int 4), .val (.ref ca)] [] := by first | (simp [entryFrame, mkF, argsToLocals, Value.category]; done) | rfl
theorem rmMk_4 (l : Launch) (Z : State) (a0 : Array Value) (hw : ∀ d ∈ tables_1, d.before a0 Z = true) (ca : Addr) (h0 : Heap) (n0 : Nat) (Z0 : n0 ≤ h0.size) (cst : Int32) (hc : cst ≠ 0) (O0 : Old Z n0 h0) (SC : Sta Z Z.heap "java/lang/String" "COMPACT_STRINGS" "Z" (.int cst)) (kc : ClassId) (c0 c1 c2 c3 c4 c5 c6 c7 c8 c9 c10 c11 : Int32) (bc0 : 0 ≤ c0.toInt ∧ c0.toInt ≤ 255) (bc1 : 0 ≤ c1.toInt ∧ c1.toInt ≤ 255) (bc2 : 0 ≤ c2.toInt ∧ c2.toInt ≤ 255) (bc3 : 0 ≤ c3.toInt ∧ c3.toInt ≤ 255) (bc4 : 0 ≤ c4.toInt ∧ c4.toInt ≤ 255) (bc5 : 0 ≤ c5.toInt ∧ c5.toInt ≤ 255) (bc6 : 0 ≤ c6.toInt ∧ c6.toInt ≤ 255) (bc7 : 0 ≤ c7.toInt ∧ c7.toInt ≤ 255) (bc8 : 0 ≤ c8.toInt ∧ c8.toInt ≤ 255) (bc9 : 0 ≤ c9.toInt ∧ c9.toInt ≤ 255) (bc10 : 0 ≤ c10.toInt ∧ c10.toInt ≤ 255) (bc11 : 0 ≤ c11.toInt ∧ c11.toInt ≤ 255) (Vc : Arv Z h0 ca kc .char 12 [(.int c0), (.int c1), (.int c2), (.int c3), (.int c4), (.int c5), (.int c6), (.int c7), (.int c8), (.int c9), (.int c10), (.int c11)] (.int 0)) :
    MetFree l (⟨"com/example/dispatchd/dispatchd/store/EventSchemaWithLabelPinLaw", "make", "(I[C)Ljava/lang/String;"⟩ : MethodName) (head1 [Jvm.Cond.code (⟨"com/example/dispatchd/dispatchd/store/EventSchemaWithLabelPinLaw", "make", "(I[C)Ljava/lang/String;"⟩ : MethodName) method_3_code 2 (some (.object "java/lang/String"))] ({ frames := 4, cells := 3, slots := 12, locals := 90 } : Room)) (fun as_ U => as_ = #[(.int 4), (.ref ca)] ∧ Z.Warmed39 U.vm ∧ U.heap = h0) (fun _ _ _ _ _ => True) (fun _ U o U' => ∃ v L, o = .returned v ∧ Q_rmMk_4 Z n0 h0 v U'.heap L ∧ FrameEnd U o U' L ({ frames := 4, cells := 3, slots := 12, locals := 90 } : Room).cells ({ frames := 4, cells := 3, slots := 12, locals := 90 } : Room).slots) := by
  refine own_met own_pf19 (ef_rmMk_4 ca) ?_
  intro p e s m below meth c T0 X0 hx hby hml hret hlk hnm hown hZ e0
  have N0 := Fr.nil n0
  refine g_iloadN X0 hx 1 (hb hby d9_0) rfl rfl ?_
  have ll1026 : ((4 : Int32) : Int32).toInt = 4 := by decide
  refine g_if_ne X0 hx 15 4 (hb hby d9_1) (by decide) (by decide) rfl (fun c1025 => ?_) (fun c1025 => ?_)
  · skip
    refine g_iloadN X0 hx 16 (hb hby d9_15) rfl rfl ?_
    refine g_iconst X0 hx (1 : Int32) 17 (hb hby d9_16) rfl (by decide) ?_
    have ll1028 : ((1 : Int32) : Int32).toInt = 1 := by decide
    have ll1029 : ((4 : Int32) : Int32).toInt = 4 := by decide
    refine g_ic_ne X0 hx 27 20 (hb hby d9_17) (by decide) (by decide) rfl (fun c1027 => ?_) (fun c1027 => ?_)
    · skip
      refine g_iloadN X0 hx 28 (hb hby d9_27) rfl rfl ?_
      refine g_iconst X0 hx (4 : Int32) 29 (hb hby d9_28) rfl (by decide) ?_
      have ll1031 : ((4 : Int32) : Int32).toInt = 4 := by decide
      have ll1032 : ((4 : Int32) : Int32).toInt = 4 := by decide
      refine g_ic_ne X0 hx 67 32 (hb hby d9_29) (by decide) (by decide) rfl (fun c1030 => ?_) (fun c1030 => ?_)
      · skip
        exfalso; revert c1030; decide
      · skip
        refine g_new X0 hx hZ hown (hw _ (List.mem_of_getElem? (i := 52) rfl)) (hw _ (List.mem_of_getElem? (i := 2) rfl)) (hw _ (List.mem_of_getElem? (i := 1) rfl)) e0 35 (hb hby d9_32) rfl (by decide) (by decide) ?_
        intro T1033 h1033 a1033 g1033 X1033 e1033 E1033 A1033 D1033
        have ne1034 : ca ≠ a1033 := Nat.ne_of_lt (by rw [g1033]; exact Vc.lt)
        have ge1035 : n0 ≤ a1033 := by rw [g1033]; exact Z0
        have sz1036 : h0.size ≤ a1033 := by rw [g1033]; exact (Keep.refl h0 []).1
        have F1037 := O0.ext E1033
        have F1038 := Vc.ext E1033
        have K1039 := (Keep.refl h0 []).ext E1033
        have Z1040 : n0 ≤ h1033.size := Nat.le_trans Z0 E1033.1
        have F1041 : Fld Z h1033 a1033 "java/lang/String" "value" "[B" .null := D1033 (Or.inr (hw _ (List.mem_of_getElem? (i := 4) rfl))) (ty := (.array .byte)) (by decide)
        have F1042 : Fld Z h1033 a1033 "java/lang/String" "coder" "B" (.int (0 : Int32)) := D1033 (Or.inr (hw _ (List.mem_of_getElem? (i := 5) rfl))) (ty := .byte) (by decide)
        refine g_dup X1033 hx 36 (hb hby d9_35) rfl rfl ?_
        refine g_iconst X1033 hx (4 : Int32) 37 (hb hby d9_36) rfl (by decide) ?_
        refine g_newP X1033 hx hZ (aty := .char) (hw _ (List.mem_of_getElem? (i := 8) rfl)) e1033 (by decide) (cap := 4) (by decide) (by decide) 39 (hb hby d9_37) rfl (by decide) (by decide) (ad := "[C") (by decide) ?_
        intro T1043 h1043 k1043 a1043 g1043 X1043 e1043 E1043 V1043 A1043
        have ne1044 : ca ≠ a1043 := Nat.ne_of_lt (by rw [g1043]; exact F1038.lt)
        have ne1045 : a1033 ≠ a1043 := Nat.ne_of_lt (by rw [g1043]; exact A1033.lt)
        have ge1046 : n0 ≤ a1043 := by rw [g1043]; exact Z1040
        have sz1047 : h0.size ≤ a1043 := by rw [g1043]; exact K1039.1
        have F1048 := F1037.ext E1043
        have F1049 := F1038.ext E1043
        have F1050 := A1033.ext E1043
        have F1051 := F1041.ext E1043
        have F1052 := F1042.ext E1043
        have K1053 := K1039.ext E1043
        have Z1054 : n0 ≤ h1043.size := Nat.le_trans Z1040 E1043.1
        have V1043' : Arv Z h1043 a1043 k1043 .char (4 : Int32) [(.int (0 : Int32)), (.int (0 : Int32)), (.int (0 : Int32)), (.int (0 : Int32))] (.int (0 : Int32)) := V1043.pad (pad_rep [] (.int (0 : Int32)) 4)
        refine g_dup X1043 hx 40 (hb hby d9_39) rfl rfl ?_
        refine g_iconst X1043 hx (0 : Int32) 41 (hb hby d9_40) rfl (by decide) ?_
        refine g_aloadN X1043 hx 42 (hb hby d9_41) rfl rfl rfl ?_
        refine g_iconst X1043 hx (0 : Int32) 43 (hb hby d9_42) rfl (by decide) ?_
        refine g_caload X1043 hx hZ e1043 F1049 (by decide) (by decide) (by rw [show ((0 : Int32) : Int32).toNatClampNeg = 0 by decide] <;> rfl) 44 (hb hby d9_43) rfl ?_
        refine g_castore X1043 hx hZ e1043 V1043' 0 (by decide) (by decide) (by show 0 < 4; decide) c0 (own_narc bc0) 45 (hb hby d9_44) rfl ?_
        intro T1055 h1055 X1055 e1055 W1055 V1055
        have F1056 := F1048.wr W1055 ge1046
        have F1057 := F1049.other W1055 ne1044
        have F1058 := F1050.wr W1055
        have F1059 := F1051.other W1055 (Or.inl ne1045)
        have F1060 := F1052.other W1055 (Or.inl ne1045)
        have F1061 := A1043.wr W1055
        have K1063 := K1053.wr W1055 (Or.inr sz1047)
        have N1064 := Fr.snoc X1055 N0 ge1046
        have Z1065 : n0 ≤ h1055.size := by rw [W1055.size]; exact Z1054
        have V1055' : Arv Z h1055 a1043 k1043 .char (4 : Int32) [(.int c0), (.int (0 : Int32)), (.int (0 : Int32)), (.int (0 : Int32))] (.int (0 : Int32)) := V1055
        refine g_dup X1055 hx 46 (hb hby d9_45) rfl rfl ?_
        refine g_iconst X1055 hx (1 : Int32) 47 (hb hby d9_46) rfl (by decide) ?_
        refine g_aloadN X1055 hx 48 (hb hby d9_47) rfl rfl rfl ?_
        refine g_iconst X1055 hx (1 : Int32) 49 (hb hby d9_48) rfl (by decide) ?_
        refine g_caload X1055 hx hZ e1055 F1057 (by decide) (by decide) (by rw [show ((1 : Int32) : Int32).toNatClampNeg = 1 by decide] <;> rfl) 50 (hb hby d9_49) rfl ?_
        refine g_castore X1055 hx hZ e1055 V1055' 1 (by decide) (by decide) (by show 1 < 4; decide) c1 (own_narc bc1) 51 (hb hby d9_50) rfl ?_
        intro T1066 h1066 X1066 e1066 W1066 V1066
        have F1067 := F1056.wr W1066 ge1046
        have F1068 := F1057.other W1066 ne1044
        have F1069 := F1058.wr W1066
        have F1070 := F1059.other W1066 (Or.inl ne1045)
        have F1071 := F1060.other W1066 (Or.inl ne1045)
        have F1072 := F1061.wr W1066
        have K1074 := K1063.wr W1066 (Or.inr sz1047)
        have N1075 := Fr.snoc X1066 N1064 ge1046
        have Z1076 : n0 ≤ h1066.size := by rw [W1066.size]; exact Z1065
        have V1066' : Arv Z h1066 a1043 k1043 .char (4 : Int32) [(.int c0), (.int c1), (.int (0 : Int32)), (.int (0 : Int32))] (.int (0 : Int32)) := V1066
        refine g_dup X1066 hx 52 (hb hby d9_51) rfl rfl ?_
        refine g_iconst X1066 hx (2 : Int32) 53 (hb hby d9_52) rfl (by decide) ?_
        refine g_aloadN X1066 hx 54 (hb hby d9_53) rfl rfl rfl ?_
        refine g_iconst X1066 hx (2 : Int32) 55 (hb hby d9_54) rfl (by decide) ?_
        refine g_caload X1066 hx hZ e1066 F1068 (by decide) (by decide) (by rw [show ((2 : Int32) : Int32).toNatClampNeg = 2 by decide] <;> rfl) 56 (hb hby d9_55) rfl ?_
        refine g_castore X1066 hx hZ e1066 V1066' 2 (by decide) (by decide) (by show 2 < 4; decide) c2 (own_narc bc2) 57 (hb hby d9_56) rfl ?_
        intro T1077 h1077 X1077 e1077 W1077 V1077
        have F1078 := F1067.wr W1077 ge1046
        have F1079 := F1068.other W1077 ne1044
        have F1080 := F1069.wr W1077
        have F1081 := F1070.other W1077 (Or.inl ne1045)
        have F1082 := F1071.other W1077 (Or.inl ne1045)
        have F1083 := F1072.wr W1077
        have K1085 := K1074.wr W1077 (Or.inr sz1047)
        have N1086 := Fr.snoc X1077 N1075 ge1046
        have Z1087 : n0 ≤ h1077.size := by rw [W1077.size]; exact Z1076
        have V1077' : Arv Z h1077 a1043 k1043 .char (4 : Int32) [(.int c0), (.int c1), (.int c2), (.int (0 : Int32))] (.int (0 : Int32)) := V1077
        refine g_dup X1077 hx 58 (hb hby d9_57) rfl rfl ?_
        refine g_iconst X1077 hx (3 : Int32) 59 (hb hby d9_58) rfl (by decide) ?_
        refine g_aloadN X1077 hx 60 (hb hby d9_59) rfl rfl rfl ?_
        refine g_iconst X1077 hx (3 : Int32) 61 (hb hby d9_60) rfl (by decide) ?_
        refine g_caload X1077 hx hZ e1077 F1079 (by decide) (by decide) (by rw [show ((3 : Int32) : Int32).toNatClampNeg = 3 by decide] <;> rfl) 62 (hb hby d9_61) rfl ?_
        refine g_castore X1077 hx hZ e1077 V1077' 3 (by decide) (by decide) (by show 3 < 4; decide) c3 (own_narc bc3) 63 (hb hby d9_62) rfl ?_
        intro T1088 h1088 X1088 e1088 W1088 V1088
        have F1089 := F1078.wr W1088 ge1046
        have F1090 := F1079.other W1088 ne1044
        have F1091 := F1080.wr W1088
        have F1092 := F1081.other W1088 (Or.inl ne1045)
        have F1093 := F1082.other W1088 (Or.inl ne1045)
        have F1094 := F1083.wr W1088
        have K1096 := K1085.wr W1088 (Or.inr sz1047)
        have N1097 := Fr.snoc X1088 N1086 ge1046
        have Z1098 : n0 ≤ h1088.size := by rw [W1088.size]; exact Z1087
        have V1088' : Arv Z h1088 a1043 k1043 .char (4 : Int32) [(.int c0), (.int c1), (.int c2), (.int c3)] (.int (0 : Int32)) := V1088
        refine g_init X1088 hx hZ rfl hown (hw _ (List.mem_of_getElem? (i := 53) rfl)) (hw _ (List.mem_of_getElem? (i := 54) rfl)) (hw _ (List.mem_of_getElem? (i := 1) rfl)) (hw _ (List.mem_of_getElem? (i := 55) rfl)) (by decide) (rmI1_4 l Z a0 hw a1033 a1043 h1088 n0 Z1098 cst hc F1089 SC k1043 c0 c1 c2 c3 bc0 bc1 bc2 bc3 F1091 ge1035 ne1045 F1093 F1092 V1088') e1088 (a := a1033) (argsL := [(.ref a1043)]) (rest := [(.ref a1033)]) rfl rfl 1 66 rfl (by rw [hml]; rfl) (lenOf own_pd9 rfl) (Nat.le_refl _) (by decide) (by decide) (by decide) (by decide) (hb hby d9_63) ?_
        intro v1099 T1099 L1099 X1099 hQ1099
        obtain ⟨rfl, N1099, K1099, b, kb, gb, sb, c_, v_, Vb⟩ := hQ1099
        have N1100 := Fr.app N1097 N1099
        have F1101 := F1089.keep K1099 (allS ge1035 all0)
        have F1102 := F1090.keep K1099 (ninS ne1034 nin0)
        have F1103 := F1091.keep K1099
        have F1106 := F1094.keep K1099
        have F1107 := V1088'.keep K1099 (ninS (Ne.symm ne1045) nin0)
        have Z1108 : n0 ≤ T1099.heap.size := Nat.le_trans Z1098 K1099.1
        have K1109 := K1096.trans K1099 (allS (Or.inr sz1036) all0)
        show Go p e below _ T1099 (mkF m 66 #[.val (.int (4 : Int32)), .val (.ref ca)] [(.ref a1033)])
        exact g_retA X1099 hx hlk hret rfl rfl rfl (hb hby d9_66) (by decide) (by decide) rfl ⟨a1033, b, kb, 4, [c0.toInt8.toInt32.toInt8.toInt32, c1.toInt8.toInt32.toInt8.toInt32, c2.toInt8.toInt32.toInt8.toInt32, c3.toInt8.toInt32.toInt8.toInt32], rfl, N1100, K1109, ge1035, sz1036, F1103, c_, v_, Vb, (by show (4 : Int32).toInt = 4; decide)⟩
    · skip
      exfalso; revert c1027; decide
  · skip
    exfalso; revert c1025; decide
def Q_rmMk_5 (Z : State) (n0 : Nat) (h0 : Heap) (v : Option Value) (h : Heap) (L : List Loc) : Prop := ∃ (r vb : Addr) (kb : ClassId) (z : Int32) (xs : List Int32), v = some (.ref r) ∧ Fr n0 L ∧ Keep h0 h [] ∧ n0 ≤ r ∧ h0.size ≤ r ∧ Exa Z h r "java/lang/String" ∧ Fld Z h r "java/lang/String" "coder" "B" (.int 0) ∧ Fld Z h r "java/lang/String" "value" "[B" (.ref vb) ∧ Arv Z h vb kb .byte z (xs.map Value.int) (.int 0) ∧ z.toInt = (xs.length : Int)
theorem ef_rmMk_5 (ca : Addr) (m : MethodId) : entryFrame m #[(.int 5), (.ref ca)] 2 = mkF m 0 #[.val (.int 5), .val (.ref ca)] [] := by first | (simp [entryFrame, mkF, argsToLocals, Value.category]; done) | rfl
theorem rmMk_5 (l : Launch) (Z : State) (a0 : Array Value) (hw : ∀ d ∈ tables_1, d.before a0 Z = true) (ca : Addr) (h0 : Heap) (n0 : Nat) (Z0 : n0 ≤ h0.size) (cst : Int32) (hc : cst ≠ 0) (O0 : Old Z n0 h0) (SC : Sta Z Z.heap "java/lang/String" "COMPACT_STRINGS" "Z" (.int cst)) (kc : ClassId) (c0 c1 c2 c3 c4 c5 c6 c7 c8 c9 c10 c11 : Int32) (bc0 : 0 ≤ c0.toInt ∧ c0.toInt ≤ 255) (bc1 : 0 ≤ c1.toInt ∧ c1.toInt ≤ 255) (bc2 : 0 ≤ c2.toInt ∧ c2.toInt ≤ 255) (bc3 : 0 ≤ c3.toInt ∧ c3.toInt ≤ 255) (bc4 : 0 ≤ c4.toInt ∧ c4.toInt ≤ 255) (bc5 : 0 ≤ c5.toInt ∧ c5.toInt ≤ 255) (bc6 : 0 ≤ c6.toInt ∧ c6.toInt ≤ 255) (bc7 : 0 ≤ c7.toInt ∧ c7.toInt ≤ 255) (bc8 : 0 ≤ c8.toInt ∧ c8.toInt ≤ 255) (bc9 : 0 ≤ c9.toInt ∧ c9.toInt ≤ 255) (bc10 : 0 ≤ c10.toInt ∧ c10.toInt ≤ 255) (bc11 : 0 ≤ c11.toInt ∧ c11.toInt ≤ 255) (Vc : Arv Z h0 ca kc .char 12 [(.int c0), (.int c1), (.int c2), (.int c3), (.int c4), (.int c5), (.int c6), (.int c7), (.int c8), (.int c9), (.int c10), (.int c11)] (.int 0)) :
    MetFree l (⟨"com/example/dispatchd/dispatchd/store/EventSchemaWithLabelPinLaw", "make", "(I[C)Ljava/lang/String;"⟩ : MethodName) (head1 [Jvm.Cond.code (⟨"com/example/dispatchd/dispatchd/store/EventSchemaWithLabelPinLaw", "make", "(I[C)Ljava/lang/String;"⟩ : MethodName) method_3_code 2 (some (.object "java/lang/String"))] ({ frames := 4, cells := 3, slots := 14, locals := 90 } : Room)) (fun as_ U => as_ = #[(.int 5), (.ref ca)] ∧ Z.Warmed39 U.vm ∧ U.heap = h0) (fun _ _ _ _ _ => True) (fun _ U o U' => ∃ v L, o = .returned v ∧ Q_rmMk_5 Z n0 h0 v U'.heap L ∧ FrameEnd U o U' L ({ frames := 4, cells := 3, slots := 14, locals := 90 } : Room).cells ({ frames := 4, cells := 3, slots := 14, locals := 90 } : Room).slots) := by
  refine own_met own_pf19 (ef_rmMk_5 ca) ?_
  intro p e s m below meth c T0 X0 hx hby hml hret hlk hnm hown hZ e0
  have N0 := Fr.nil n0
  refine g_iloadN X0 hx 1 (hb hby d9_0) rfl rfl ?_
  have ll1111 : ((5 : Int32) : Int32).toInt = 5 := by decide
  refine g_if_ne X0 hx 15 4 (hb hby d9_1) (by decide) (by decide) rfl (fun c1110 => ?_) (fun c1110 => ?_)
  · skip
    refine g_iloadN X0 hx 16 (hb hby d9_15) rfl rfl ?_
    refine g_iconst X0 hx (1 : Int32) 17 (hb hby d9_16) rfl (by decide) ?_
    have ll1113 : ((1 : Int32) : Int32).toInt = 1 := by decide
    have ll1114 : ((5 : Int32) : Int32).toInt = 5 := by decide
    refine g_ic_ne X0 hx 27 20 (hb hby d9_17) (by decide) (by decide) rfl (fun c1112 => ?_) (fun c1112 => ?_)
    · skip
      refine g_iloadN X0 hx 28 (hb hby d9_27) rfl rfl ?_
      refine g_iconst X0 hx (4 : Int32) 29 (hb hby d9_28) rfl (by decide) ?_
      have ll1116 : ((4 : Int32) : Int32).toInt = 4 := by decide
      have ll1117 : ((5 : Int32) : Int32).toInt = 5 := by decide
      refine g_ic_ne X0 hx 67 32 (hb hby d9_29) (by decide) (by decide) rfl (fun c1115 => ?_) (fun c1115 => ?_)
      · skip
        refine g_iloadN X0 hx 68 (hb hby d9_67) rfl rfl ?_
        refine g_iconst X0 hx (5 : Int32) 69 (hb hby d9_68) rfl (by decide) ?_
        have ll1119 : ((5 : Int32) : Int32).toInt = 5 := by decide
        have ll1120 : ((5 : Int32) : Int32).toInt = 5 := by decide
        refine g_ic_ne X0 hx 113 72 (hb hby d9_69) (by decide) (by decide) rfl (fun c1118 => ?_) (fun c1118 => ?_)
        · skip
          exfalso; revert c1118; decide
        · skip
          refine g_new X0 hx hZ hown (hw _ (List.mem_of_getElem? (i := 52) rfl)) (hw _ (List.mem_of_getElem? (i := 2) rfl)) (hw _ (List.mem_of_getElem? (i := 1) rfl)) e0 75 (hb hby d9_72) rfl (by decide) (by decide) ?_
          intro T1121 h1121 a1121 g1121 X1121 e1121 E1121 A1121 D1121
          have ne1122 : ca ≠ a1121 := Nat.ne_of_lt (by rw [g1121]; exact Vc.lt)
          have ge1123 : n0 ≤ a1121 := by rw [g1121]; exact Z0
          have sz1124 : h0.size ≤ a1121 := by rw [g1121]; exact (Keep.refl h0 []).1
          have F1125 := O0.ext E1121
          have F1126 := Vc.ext E1121
          have K1127 := (Keep.refl h0 []).ext E1121
          have Z1128 : n0 ≤ h1121.size := Nat.le_trans Z0 E1121.1
          have F1129 : Fld Z h1121 a1121 "java/lang/String" "value" "[B" .null := D1121 (Or.inr (hw _ (List.mem_of_getElem? (i := 4) rfl))) (ty := (.array .byte)) (by decide)
          have F1130 : Fld Z h1121 a1121 "java/lang/String" "coder" "B" (.int (0 : Int32)) := D1121 (Or.inr (hw _ (List.mem_of_getElem? (i := 5) rfl))) (ty := .byte) (by decide)
          refine g_dup X1121 hx 76 (hb hby d9_75) rfl rfl ?_
          refine g_iconst X1121 hx (5 : Int32) 77 (hb hby d9_76) rfl (by decide) ?_
          refine g_newP X1121 hx hZ (aty := .char) (hw _ (List.mem_of_getElem? (i := 8) rfl)) e1121 (by decide) (cap := 5) (by decide) (by decide) 79 (hb hby d9_77) rfl (by decide) (by decide) (ad := "[C") (by decide) ?_
          intro T1131 h1131 k1131 a1131 g1131 X1131 e1131 E1131 V1131 A1131
          have ne1132 : ca ≠ a1131 := Nat.ne_of_lt (by rw [g1131]; exact F1126.lt)
          have ne1133 : a1121 ≠ a1131 := Nat.ne_of_lt (by rw [g1131]; exact A1121.lt)
          have ge1134 : n0 ≤ a1131 := by rw [g1131]; exact Z1128
          have sz1135 : h0.size ≤ a1131 := by rw [g1131]; exact K1127.1
          have F1136 := F1125.ext E1131
          have F1137 := F1126.ext E1131
          have F1138 := A1121.ext E1131
          have F1139 := F1129.ext E1131
          have F1140 := F1130.ext E1131
          have K1141 := K1127.ext E1131
          have Z1142 : n0 ≤ h1131.size := Nat.le_trans Z1128 E1131.1
          have V1131' : Arv Z h1131 a1131 k1131 .char (5 : Int32) [(.int (0 : Int32)), (.int (0 : Int32)), (.int (0 : Int32)), (.int (0 : Int32)), (.int (0 : Int32))] (.int (0 : Int32)) := V1131.pad (pad_rep [] (.int (0 : Int32)) 5)
          refine g_dup X1131 hx 80 (hb hby d9_79) rfl rfl ?_
          refine g_iconst X1131 hx (0 : Int32) 81 (hb hby d9_80) rfl (by decide) ?_
          refine g_aloadN X1131 hx 82 (hb hby d9_81) rfl rfl rfl ?_
          refine g_iconst X1131 hx (0 : Int32) 83 (hb hby d9_82) rfl (by decide) ?_
          refine g_caload X1131 hx hZ e1131 F1137 (by decide) (by decide) (by rw [show ((0 : Int32) : Int32).toNatClampNeg = 0 by decide] <;> rfl) 84 (hb hby d9_83) rfl ?_
          refine g_castore X1131 hx hZ e1131 V1131' 0 (by decide) (by decide) (by show 0 < 5; decide) c0 (own_narc bc0) 85 (hb hby d9_84) rfl ?_
          intro T1143 h1143 X1143 e1143 W1143 V1143
          have F1144 := F1136.wr W1143 ge1134
          have F1145 := F1137.other W1143 ne1132
          have F1146 := F1138.wr W1143
          have F1147 := F1139.other W1143 (Or.inl ne1133)
          have F1148 := F1140.other W1143 (Or.inl ne1133)
          have F1149 := A1131.wr W1143
          have K1151 := K1141.wr W1143 (Or.inr sz1135)
          have N1152 := Fr.snoc X1143 N0 ge1134
          have Z1153 : n0 ≤ h1143.size := by rw [W1143.size]; exact Z1142
          have V1143' : Arv Z h1143 a1131 k1131 .char (5 : Int32) [(.int c0), (.int (0 : Int32)), (.int (0 : Int32)), (.int (0 : Int32)), (.int (0 : Int32))] (.int (0 : Int32)) := V1143
          refine g_dup X1143 hx 86 (hb hby d9_85) rfl rfl ?_
          refine g_iconst X1143 hx (1 : Int32) 87 (hb hby d9_86) rfl (by decide) ?_
          refine g_aloadN X1143 hx 88 (hb hby d9_87) rfl rfl rfl ?_
          refine g_iconst X1143 hx (1 : Int32) 89 (hb hby d9_88) rfl (by decide) ?_
          refine g_caload X1143 hx hZ e1143 F1145 (by decide) (by decide) (by rw [show ((1 : Int32) : Int32).toNatClampNeg = 1 by decide] <;> rfl) 90 (hb hby d9_89) rfl ?_
          refine g_castore X1143 hx hZ e1143 V1143' 1 (by decide) (by decide) (by show 1 < 5; decide) c1 (own_narc bc1) 91 (hb hby d9_90) rfl ?_
          intro T1154 h1154 X1154 e1154 W1154 V1154
          have F1155 := F1144.wr W1154 ge1134
          have F1156 := F1145.other W1154 ne1132
          have F1157 := F1146.wr W1154
          have F1158 := F1147.other W1154 (Or.inl ne1133)
          have F1159 := F1148.other W1154 (Or.inl ne1133)
          have F1160 := F1149.wr W1154
          have K1162 := K1151.wr W1154 (Or.inr sz1135)
          have N1163 := Fr.snoc X1154 N1152 ge1134
          have Z1164 : n0 ≤ h1154.size := by rw [W1154.size]; exact Z1153
          have V1154' : Arv Z h1154 a1131 k1131 .char (5 : Int32) [(.int c0), (.int c1), (.int (0 : Int32)), (.int (0 : Int32)), (.int (0 : Int32))] (.int (0 : Int32)) := V1154
          refine g_dup X1154 hx 92 (hb hby d9_91) rfl rfl ?_
          refine g_iconst X1154 hx (2 : Int32) 93 (hb hby d9_92) rfl (by decide) ?_
          refine g_aloadN X1154 hx 94 (hb hby d9_93) rfl rfl rfl ?_
          refine g_iconst X1154 hx (2 : Int32) 95 (hb hby d9_94) rfl (by decide) ?_
          refine g_caload X1154 hx hZ e1154 F1156 (by decide) (by decide) (by rw [show ((2 : Int32) : Int32).toNatClampNeg = 2 by decide] <;> rfl) 96 (hb hby d9_95) rfl ?_
          refine g_castore X1154 hx hZ e1154 V1154' 2 (by decide) (by decide) (by show 2 < 5; decide) c2 (own_narc bc2) 97 (hb hby d9_96) rfl ?_
          intro T1165 h1165 X1165 e1165 W1165 V1165
          have F1166 := F1155.wr W1165 ge1134
          have F1167 := F1156.other W1165 ne1132
          have F1168 := F1157.wr W1165
          have F1169 := F1158.other W1165 (Or.inl ne1133)
          have F1170 := F1159.other W1165 (Or.inl ne1133)
          have F1171 := F1160.wr W1165
          have K1173 := K1162.wr W1165 (Or.inr sz1135)
          have N1174 := Fr.snoc X1165 N1163 ge1134
          have Z1175 : n0 ≤ h1165.size := by rw [W1165.size]; exact Z1164
          have V1165' : Arv Z h1165 a1131 k1131 .char (5 : Int32) [(.int c0), (.int c1), (.int c2), (.int (0 : Int32)), (.int (0 : Int32))] (.int (0 : Int32)) := V1165
          refine g_dup X1165 hx 98 (hb hby d9_97) rfl rfl ?_
          refine g_iconst X1165 hx (3 : Int32) 99 (hb hby d9_98) rfl (by decide) ?_
          refine g_aloadN X1165 hx 100 (hb hby d9_99) rfl rfl rfl ?_
          refine g_iconst X1165 hx (3 : Int32) 101 (hb hby d9_100) rfl (by decide) ?_
          refine g_caload X1165 hx hZ e1165 F1167 (by decide) (by decide) (by rw [show ((3 : Int32) : Int32).toNatClampNeg = 3 by decide] <;> rfl) 102 (hb hby d9_101) rfl ?_
          refine g_castore X1165 hx hZ e1165 V1165' 3 (by decide) (by decide) (by show 3 < 5; decide) c3 (own_narc bc3) 103 (hb hby d9_102) rfl ?_
          intro T1176 h1176 X1176 e1176 W1176 V1176
          have F1177 := F1166.wr W1176 ge1134
          have F1178 := F1167.other W1176 ne1132
          have F1179 := F1168.wr W1176
          have F1180 := F1169.other W1176 (Or.inl ne1133)
          have F1181 := F1170.other W1176 (Or.inl ne1133)
          have F1182 := F1171.wr W1176
          have K1184 := K1173.wr W1176 (Or.inr sz1135)
          have N1185 := Fr.snoc X1176 N1174 ge1134
          have Z1186 : n0 ≤ h1176.size := by rw [W1176.size]; exact Z1175
          have V1176' : Arv Z h1176 a1131 k1131 .char (5 : Int32) [(.int c0), (.int c1), (.int c2), (.int c3), (.int (0 : Int32))] (.int (0 : Int32)) := V1176
          refine g_dup X1176 hx 104 (hb hby d9_103) rfl rfl ?_
          refine g_iconst X1176 hx (4 : Int32) 105 (hb hby d9_104) rfl (by decide) ?_
          refine g_aloadN X1176 hx 106 (hb hby d9_105) rfl rfl rfl ?_
          refine g_iconst X1176 hx (4 : Int32) 107 (hb hby d9_106) rfl (by decide) ?_
          refine g_caload X1176 hx hZ e1176 F1178 (by decide) (by decide) (by rw [show ((4 : Int32) : Int32).toNatClampNeg = 4 by decide] <;> rfl) 108 (hb hby d9_107) rfl ?_
          refine g_castore X1176 hx hZ e1176 V1176' 4 (by decide) (by decide) (by show 4 < 5; decide) c4 (own_narc bc4) 109 (hb hby d9_108) rfl ?_
          intro T1187 h1187 X1187 e1187 W1187 V1187
          have F1188 := F1177.wr W1187 ge1134
          have F1189 := F1178.other W1187 ne1132
          have F1190 := F1179.wr W1187
          have F1191 := F1180.other W1187 (Or.inl ne1133)
          have F1192 := F1181.other W1187 (Or.inl ne1133)
          have F1193 := F1182.wr W1187
          have K1195 := K1184.wr W1187 (Or.inr sz1135)
          have N1196 := Fr.snoc X1187 N1185 ge1134
          have Z1197 : n0 ≤ h1187.size := by rw [W1187.size]; exact Z1186
          have V1187' : Arv Z h1187 a1131 k1131 .char (5 : Int32) [(.int c0), (.int c1), (.int c2), (.int c3), (.int c4)] (.int (0 : Int32)) := V1187
          refine g_init X1187 hx hZ rfl hown (hw _ (List.mem_of_getElem? (i := 53) rfl)) (hw _ (List.mem_of_getElem? (i := 54) rfl)) (hw _ (List.mem_of_getElem? (i := 1) rfl)) (hw _ (List.mem_of_getElem? (i := 55) rfl)) (by decide) (rmI1_5 l Z a0 hw a1121 a1131 h1187 n0 Z1197 cst hc F1188 SC k1131 c0 c1 c2 c3 c4 bc0 bc1 bc2 bc3 bc4 F1190 ge1123 ne1133 F1192 F1191 V1187') e1187 (a := a1121) (argsL := [(.ref a1131)]) (rest := [(.ref a1121)]) rfl rfl 1 112 rfl (by rw [hml]; rfl) (lenOf own_pd9 rfl) (Nat.le_refl _) (by decide) (by decide) (by decide) (by decide) (hb hby d9_109) ?_
          intro v1198 T1198 L1198 X1198 hQ1198
          obtain ⟨rfl, N1198, K1198, b, kb, gb, sb, c_, v_, Vb⟩ := hQ1198
          have N1199 := Fr.app N1196 N1198
          have F1200 := F1188.keep K1198 (allS ge1123 all0)
          have F1201 := F1189.keep K1198 (ninS ne1122 nin0)
          have F1202 := F1190.keep K1198
          have F1205 := F1193.keep K1198
          have F1206 := V1187'.keep K1198 (ninS (Ne.symm ne1133) nin0)
          have Z1207 : n0 ≤ T1198.heap.size := Nat.le_trans Z1197 K1198.1
          have K1208 := K1195.trans K1198 (allS (Or.inr sz1124) all0)
          show Go p e below _ T1198 (mkF m 112 #[.val (.int (5 : Int32)), .val (.ref ca)] [(.ref a1121)])
          exact g_retA X1198 hx hlk hret rfl rfl rfl (hb hby d9_112) (by decide) (by decide) rfl ⟨a1121, b, kb, 5, [c0.toInt8.toInt32.toInt8.toInt32, c1.toInt8.toInt32.toInt8.toInt32, c2.toInt8.toInt32.toInt8.toInt32, c3.toInt8.toInt32.toInt8.toInt32, c4.toInt8.toInt32.toInt8.toInt32], rfl, N1199, K1208, ge1123, sz1124, F1202, c_, v_, Vb, (by show (5 : Int32).toInt = 5; decide)⟩
      · skip
        exfalso; revert c1115; decide
    · skip
      exfalso; revert c1112; decide
  · skip
    exfalso; revert c1110; decide
def Q_rmMk_6 (Z : State) (n0 : Nat) (h0 : Heap) (v : Option Value) (h : Heap) (L : List Loc) : Prop := ∃ (r vb : Addr) (kb : ClassId) (z : Int32) (xs : List Int32), v = some (.ref r) ∧ Fr n0 L ∧ Keep h0 h [] ∧ n0 ≤ r ∧ h0.size ≤ r ∧ Exa Z h r "java/lang/String" ∧ Fld Z h r "java/lang/String" "coder" "B" (.int 0) ∧ Fld Z h r "java/lang/String" "value" "[B" (.ref vb) ∧ Arv Z h vb kb .byte z (xs.map Value.int) (.int 0) ∧ z.toInt = (xs.length : Int)
theorem ef_rmMk_6 (ca : Addr) (m : MethodId) : entryFrame m #[(.int 6), (.ref ca)] 2 = mkF m 0 #[.val (.int 6), .val (.ref ca)] [] := by first | (simp [entryFrame, mkF, argsToLocals, Value.category]; done) | rfl
theorem rmMk_6 (l : Launch) (Z : State) (a0 : Array Value) (hw : ∀ d ∈ tables_1, d.before a0 Z = true) (ca : Addr) (h0 : Heap) (n0 : Nat) (Z0 : n0 ≤ h0.size) (cst : Int32) (hc : cst ≠ 0) (O0 : Old Z n0 h0) (SC : Sta Z Z.heap "java/lang/String" "COMPACT_STRINGS" "Z" (.int cst)) (kc : ClassId) (c0 c1 c2 c3 c4 c5 c6 c7 c8 c9 c10 c11 : Int32) (bc0 : 0 ≤ c0.toInt ∧ c0.toInt ≤ 255) (bc1 : 0 ≤ c1.toInt ∧ c1.toInt ≤ 255) (bc2 : 0 ≤ c2.toInt ∧ c2.toInt ≤ 255) (bc3 : 0 ≤ c3.toInt ∧ c3.toInt ≤ 255) (bc4 : 0 ≤ c4.toInt ∧ c4.toInt ≤ 255) (bc5 : 0 ≤ c5.toInt ∧ c5.toInt ≤ 255) (bc6 : 0 ≤ c6.toInt ∧ c6.toInt ≤ 255) (bc7 : 0 ≤ c7.toInt ∧ c7.toInt ≤ 255) (bc8 : 0 ≤ c8.toInt ∧ c8.toInt ≤ 255) (bc9 : 0 ≤ c9.toInt ∧ c9.toInt ≤ 255) (bc10 : 0 ≤ c10.toInt ∧ c10.toInt ≤ 255) (bc11 : 0 ≤ c11.toInt ∧ c11.toInt ≤ 255) (Vc : Arv Z h0 ca kc .char 12 [(.int c0), (.int c1), (.int c2), (.int c3), (.int c4), (.int c5), (.int c6), (.int c7), (.int c8), (.int c9), (.int c10), (.int c11)] (.int 0)) :
    MetFree l (⟨"com/example/dispatchd/dispatchd/store/EventSchemaWithLabelPinLaw", "make", "(I[C)Ljava/lang/String;"⟩ : MethodName) (head1 [Jvm.Cond.code (⟨"com/example/dispatchd/dispatchd/store/EventSchemaWithLabelPinLaw", "make", "(I[C)Ljava/lang/String;"⟩ : MethodName) method_3_code 2 (some (.object "java/lang/String"))] ({ frames := 4, cells := 3, slots := 16, locals := 90 } : Room)) (fun as_ U => as_ = #[(.int 6), (.ref ca)] ∧ Z.Warmed39 U.vm ∧ U.heap = h0) (fun _ _ _ _ _ => True) (fun _ U o U' => ∃ v L, o = .returned v ∧ Q_rmMk_6 Z n0 h0 v U'.heap L ∧ FrameEnd U o U' L ({ frames := 4, cells := 3, slots := 16, locals := 90 } : Room).cells ({ frames := 4, cells := 3, slots := 16, locals := 90 } : Room).slots) := by
  refine own_met own_pf19 (ef_rmMk_6 ca) ?_
  intro p e s m below meth c T0 X0 hx hby hml hret hlk hnm hown hZ e0
  have N0 := Fr.nil n0
  refine g_iloadN X0 hx 1 (hb hby d9_0) rfl rfl ?_
  have ll1210 : ((6 : Int32) : Int32).toInt = 6 := by decide
  refine g_if_ne X0 hx 15 4 (hb hby d9_1) (by decide) (by decide) rfl (fun c1209 => ?_) (fun c1209 => ?_)
  · skip
    refine g_iloadN X0 hx 16 (hb hby d9_15) rfl rfl ?_
    refine g_iconst X0 hx (1 : Int32) 17 (hb hby d9_16) rfl (by decide) ?_
    have ll1212 : ((1 : Int32) : Int32).toInt = 1 := by decide
    have ll1213 : ((6 : Int32) : Int32).toInt = 6 := by decide
    refine g_ic_ne X0 hx 27 20 (hb hby d9_17) (by decide) (by decide) rfl (fun c1211 => ?_) (fun c1211 => ?_)
    · skip
      refine g_iloadN X0 hx 28 (hb hby d9_27) rfl rfl ?_
      refine g_iconst X0 hx (4 : Int32) 29 (hb hby d9_28) rfl (by decide) ?_
      have ll1215 : ((4 : Int32) : Int32).toInt = 4 := by decide
      have ll1216 : ((6 : Int32) : Int32).toInt = 6 := by decide
      refine g_ic_ne X0 hx 67 32 (hb hby d9_29) (by decide) (by decide) rfl (fun c1214 => ?_) (fun c1214 => ?_)
      · skip
        refine g_iloadN X0 hx 68 (hb hby d9_67) rfl rfl ?_
        refine g_iconst X0 hx (5 : Int32) 69 (hb hby d9_68) rfl (by decide) ?_
        have ll1218 : ((5 : Int32) : Int32).toInt = 5 := by decide
        have ll1219 : ((6 : Int32) : Int32).toInt = 6 := by decide
        refine g_ic_ne X0 hx 113 72 (hb hby d9_69) (by decide) (by decide) rfl (fun c1217 => ?_) (fun c1217 => ?_)
        · skip
          refine g_iloadN X0 hx 114 (hb hby d9_113) rfl rfl ?_
          refine g_bipush X0 hx (6 : Int32) 116 (hb hby d9_114) rfl (by decide) ?_
          have ll1221 : ((6 : Int32) : Int32).toInt = 6 := by decide
          have ll1222 : ((6 : Int32) : Int32).toInt = 6 := by decide
          refine g_ic_ne X0 hx 167 119 (hb hby d9_116) (by decide) (by decide) rfl (fun c1220 => ?_) (fun c1220 => ?_)
          · skip
            exfalso; revert c1220; decide
          · skip
            refine g_new X0 hx hZ hown (hw _ (List.mem_of_getElem? (i := 52) rfl)) (hw _ (List.mem_of_getElem? (i := 2) rfl)) (hw _ (List.mem_of_getElem? (i := 1) rfl)) e0 122 (hb hby d9_119) rfl (by decide) (by decide) ?_
            intro T1223 h1223 a1223 g1223 X1223 e1223 E1223 A1223 D1223
            have ne1224 : ca ≠ a1223 := Nat.ne_of_lt (by rw [g1223]; exact Vc.lt)
            have ge1225 : n0 ≤ a1223 := by rw [g1223]; exact Z0
            have sz1226 : h0.size ≤ a1223 := by rw [g1223]; exact (Keep.refl h0 []).1
            have F1227 := O0.ext E1223
            have F1228 := Vc.ext E1223
            have K1229 := (Keep.refl h0 []).ext E1223
            have Z1230 : n0 ≤ h1223.size := Nat.le_trans Z0 E1223.1
            have F1231 : Fld Z h1223 a1223 "java/lang/String" "value" "[B" .null := D1223 (Or.inr (hw _ (List.mem_of_getElem? (i := 4) rfl))) (ty := (.array .byte)) (by decide)
            have F1232 : Fld Z h1223 a1223 "java/lang/String" "coder" "B" (.int (0 : Int32)) := D1223 (Or.inr (hw _ (List.mem_of_getElem? (i := 5) rfl))) (ty := .byte) (by decide)
            refine g_dup X1223 hx 123 (hb hby d9_122) rfl rfl ?_
            refine g_bipush X1223 hx (6 : Int32) 125 (hb hby d9_123) rfl (by decide) ?_
            refine g_newP X1223 hx hZ (aty := .char) (hw _ (List.mem_of_getElem? (i := 8) rfl)) e1223 (by decide) (cap := 6) (by decide) (by decide) 127 (hb hby d9_125) rfl (by decide) (by decide) (ad := "[C") (by decide) ?_
            intro T1233 h1233 k1233 a1233 g1233 X1233 e1233 E1233 V1233 A1233
            have ne1234 : ca ≠ a1233 := Nat.ne_of_lt (by rw [g1233]; exact F1228.lt)
            have ne1235 : a1223 ≠ a1233 := Nat.ne_of_lt (by rw [g1233]; exact A1223.lt)
            have ge1236 : n0 ≤ a1233 := by rw [g1233]; exact Z1230
            have sz1237 : h0.size ≤ a1233 := by rw [g1233]; exact K1229.1
            have F1238 := F1227.ext E1233
            have F1239 := F1228.ext E1233
            have F1240 := A1223.ext E1233
            have F1241 := F1231.ext E1233
            have F1242 := F1232.ext E1233
            have K1243 := K1229.ext E1233
            have Z1244 : n0 ≤ h1233.size := Nat.le_trans Z1230 E1233.1
            have V1233' : Arv Z h1233 a1233 k1233 .char (6 : Int32) [(.int (0 : Int32)), (.int (0 : Int32)), (.int (0 : Int32)), (.int (0 : Int32)), (.int (0 : Int32)), (.int (0 : Int32))] (.int (0 : Int32)) := V1233.pad (pad_rep [] (.int (0 : Int32)) 6)
            refine g_dup X1233 hx 128 (hb hby d9_127) rfl rfl ?_
            refine g_iconst X1233 hx (0 : Int32) 129 (hb hby d9_128) rfl (by decide) ?_
            refine g_aloadN X1233 hx 130 (hb hby d9_129) rfl rfl rfl ?_
            refine g_iconst X1233 hx (0 : Int32) 131 (hb hby d9_130) rfl (by decide) ?_
            refine g_caload X1233 hx hZ e1233 F1239 (by decide) (by decide) (by rw [show ((0 : Int32) : Int32).toNatClampNeg = 0 by decide] <;> rfl) 132 (hb hby d9_131) rfl ?_
            refine g_castore X1233 hx hZ e1233 V1233' 0 (by decide) (by decide) (by show 0 < 6; decide) c0 (own_narc bc0) 133 (hb hby d9_132) rfl ?_
            intro T1245 h1245 X1245 e1245 W1245 V1245
            have F1246 := F1238.wr W1245 ge1236
            have F1247 := F1239.other W1245 ne1234
            have F1248 := F1240.wr W1245
            have F1249 := F1241.other W1245 (Or.inl ne1235)
            have F1250 := F1242.other W1245 (Or.inl ne1235)
            have F1251 := A1233.wr W1245
            have K1253 := K1243.wr W1245 (Or.inr sz1237)
            have N1254 := Fr.snoc X1245 N0 ge1236
            have Z1255 : n0 ≤ h1245.size := by rw [W1245.size]; exact Z1244
            have V1245' : Arv Z h1245 a1233 k1233 .char (6 : Int32) [(.int c0), (.int (0 : Int32)), (.int (0 : Int32)), (.int (0 : Int32)), (.int (0 : Int32)), (.int (0 : Int32))] (.int (0 : Int32)) := V1245
            refine g_dup X1245 hx 134 (hb hby d9_133) rfl rfl ?_
            refine g_iconst X1245 hx (1 : Int32) 135 (hb hby d9_134) rfl (by decide) ?_
            refine g_aloadN X1245 hx 136 (hb hby d9_135) rfl rfl rfl ?_
            refine g_iconst X1245 hx (1 : Int32) 137 (hb hby d9_136) rfl (by decide) ?_
            refine g_caload X1245 hx hZ e1245 F1247 (by decide) (by decide) (by rw [show ((1 : Int32) : Int32).toNatClampNeg = 1 by decide] <;> rfl) 138 (hb hby d9_137) rfl ?_
            refine g_castore X1245 hx hZ e1245 V1245' 1 (by decide) (by decide) (by show 1 < 6; decide) c1 (own_narc bc1) 139 (hb hby d9_138) rfl ?_
            intro T1256 h1256 X1256 e1256 W1256 V1256
            have F1257 := F1246.wr W1256 ge1236
            have F1258 := F1247.other W1256 ne1234
            have F1259 := F1248.wr W1256
            have F1260 := F1249.other W1256 (Or.inl ne1235)
            have F1261 := F1250.other W1256 (Or.inl ne1235)
            have F1262 := F1251.wr W1256
            have K1264 := K1253.wr W1256 (Or.inr sz1237)
            have N1265 := Fr.snoc X1256 N1254 ge1236
            have Z1266 : n0 ≤ h1256.size := by rw [W1256.size]; exact Z1255
            have V1256' : Arv Z h1256 a1233 k1233 .char (6 : Int32) [(.int c0), (.int c1), (.int (0 : Int32)), (.int (0 : Int32)), (.int (0 : Int32)), (.int (0 : Int32))] (.int (0 : Int32)) := V1256
            refine g_dup X1256 hx 140 (hb hby d9_139) rfl rfl ?_
            refine g_iconst X1256 hx (2 : Int32) 141 (hb hby d9_140) rfl (by decide) ?_
            refine g_aloadN X1256 hx 142 (hb hby d9_141) rfl rfl rfl ?_
            refine g_iconst X1256 hx (2 : Int32) 143 (hb hby d9_142) rfl (by decide) ?_
            refine g_caload X1256 hx hZ e1256 F1258 (by decide) (by decide) (by rw [show ((2 : Int32) : Int32).toNatClampNeg = 2 by decide] <;> rfl) 144 (hb hby d9_143) rfl ?_
            refine g_castore X1256 hx hZ e1256 V1256' 2 (by decide) (by decide) (by show 2 < 6; decide) c2 (own_narc bc2) 145 (hb hby d9_144) rfl ?_
            intro T1267 h1267 X1267 e1267 W1267 V1267
            have F1268 := F1257.wr W1267 ge1236
            have F1269 := F1258.other W1267 ne1234
            have F1270 := F1259.wr W1267
            have F1271 := F1260.other W1267 (Or.inl ne1235)
            have F1272 := F1261.other W1267 (Or.inl ne1235)
            have F1273 := F1262.wr W1267
            have K1275 := K1264.wr W1267 (Or.inr sz1237)
            have N1276 := Fr.snoc X1267 N1265 ge1236
            have Z1277 : n0 ≤ h1267.size := by rw [W1267.size]; exact Z1266
            have V1267' : Arv Z h1267 a1233 k1233 .char (6 : Int32) [(.int c0), (.int c1), (.int c2), (.int (0 : Int32)), (.int (0 : Int32)), (.int (0 : Int32))] (.int (0 : Int32)) := V1267
            refine g_dup X1267 hx 146 (hb hby d9_145) rfl rfl ?_
            refine g_iconst X1267 hx (3 : Int32) 147 (hb hby d9_146) rfl (by decide) ?_
            refine g_aloadN X1267 hx 148 (hb hby d9_147) rfl rfl rfl ?_
            refine g_iconst X1267 hx (3 : Int32) 149 (hb hby d9_148) rfl (by decide) ?_
            refine g_caload X1267 hx hZ e1267 F1269 (by decide) (by decide) (by rw [show ((3 : Int32) : Int32).toNatClampNeg = 3 by decide] <;> rfl) 150 (hb hby d9_149) rfl ?_
            refine g_castore X1267 hx hZ e1267 V1267' 3 (by decide) (by decide) (by show 3 < 6; decide) c3 (own_narc bc3) 151 (hb hby d9_150) rfl ?_
            intro T1278 h1278 X1278 e1278 W1278 V1278
            have F1279 := F1268.wr W1278 ge1236
            have F1280 := F1269.other W1278 ne1234
            have F1281 := F1270.wr W1278
            have F1282 := F1271.other W1278 (Or.inl ne1235)
            have F1283 := F1272.other W1278 (Or.inl ne1235)
            have F1284 := F1273.wr W1278
            have K1286 := K1275.wr W1278 (Or.inr sz1237)
            have N1287 := Fr.snoc X1278 N1276 ge1236
            have Z1288 : n0 ≤ h1278.size := by rw [W1278.size]; exact Z1277
            have V1278' : Arv Z h1278 a1233 k1233 .char (6 : Int32) [(.int c0), (.int c1), (.int c2), (.int c3), (.int (0 : Int32)), (.int (0 : Int32))] (.int (0 : Int32)) := V1278
            refine g_dup X1278 hx 152 (hb hby d9_151) rfl rfl ?_
            refine g_iconst X1278 hx (4 : Int32) 153 (hb hby d9_152) rfl (by decide) ?_
            refine g_aloadN X1278 hx 154 (hb hby d9_153) rfl rfl rfl ?_
            refine g_iconst X1278 hx (4 : Int32) 155 (hb hby d9_154) rfl (by decide) ?_
            refine g_caload X1278 hx hZ e1278 F1280 (by decide) (by decide) (by rw [show ((4 : Int32) : Int32).toNatClampNeg = 4 by decide] <;> rfl) 156 (hb hby d9_155) rfl ?_
            refine g_castore X1278 hx hZ e1278 V1278' 4 (by decide) (by decide) (by show 4 < 6; decide) c4 (own_narc bc4) 157 (hb hby d9_156) rfl ?_
            intro T1289 h1289 X1289 e1289 W1289 V1289
            have F1290 := F1279.wr W1289 ge1236
            have F1291 := F1280.other W1289 ne1234
            have F1292 := F1281.wr W1289
            have F1293 := F1282.other W1289 (Or.inl ne1235)
            have F1294 := F1283.other W1289 (Or.inl ne1235)
            have F1295 := F1284.wr W1289
            have K1297 := K1286.wr W1289 (Or.inr sz1237)
            have N1298 := Fr.snoc X1289 N1287 ge1236
            have Z1299 : n0 ≤ h1289.size := by rw [W1289.size]; exact Z1288
            have V1289' : Arv Z h1289 a1233 k1233 .char (6 : Int32) [(.int c0), (.int c1), (.int c2), (.int c3), (.int c4), (.int (0 : Int32))] (.int (0 : Int32)) := V1289
            refine g_dup X1289 hx 158 (hb hby d9_157) rfl rfl ?_
            refine g_iconst X1289 hx (5 : Int32) 159 (hb hby d9_158) rfl (by decide) ?_
            refine g_aloadN X1289 hx 160 (hb hby d9_159) rfl rfl rfl ?_
            refine g_iconst X1289 hx (5 : Int32) 161 (hb hby d9_160) rfl (by decide) ?_
            refine g_caload X1289 hx hZ e1289 F1291 (by decide) (by decide) (by rw [show ((5 : Int32) : Int32).toNatClampNeg = 5 by decide] <;> rfl) 162 (hb hby d9_161) rfl ?_
            refine g_castore X1289 hx hZ e1289 V1289' 5 (by decide) (by decide) (by show 5 < 6; decide) c5 (own_narc bc5) 163 (hb hby d9_162) rfl ?_
            intro T1300 h1300 X1300 e1300 W1300 V1300
            have F1301 := F1290.wr W1300 ge1236
            have F1302 := F1291.other W1300 ne1234
            have F1303 := F1292.wr W1300
            have F1304 := F1293.other W1300 (Or.inl ne1235)
            have F1305 := F1294.other W1300 (Or.inl ne1235)
            have F1306 := F1295.wr W1300
            have K1308 := K1297.wr W1300 (Or.inr sz1237)
            have N1309 := Fr.snoc X1300 N1298 ge1236
            have Z1310 : n0 ≤ h1300.size := by rw [W1300.size]; exact Z1299
            have V1300' : Arv Z h1300 a1233 k1233 .char (6 : Int32) [(.int c0), (.int c1), (.int c2), (.int c3), (.int c4), (.int c5)] (.int (0 : Int32)) := V1300
            refine g_init X1300 hx hZ rfl hown (hw _ (List.mem_of_getElem? (i := 53) rfl)) (hw _ (List.mem_of_getElem? (i := 54) rfl)) (hw _ (List.mem_of_getElem? (i := 1) rfl)) (hw _ (List.mem_of_getElem? (i := 55) rfl)) (by decide) (rmI1_6 l Z a0 hw a1223 a1233 h1300 n0 Z1310 cst hc F1301 SC k1233 c0 c1 c2 c3 c4 c5 bc0 bc1 bc2 bc3 bc4 bc5 F1303 ge1225 ne1235 F1305 F1304 V1300') e1300 (a := a1223) (argsL := [(.ref a1233)]) (rest := [(.ref a1223)]) rfl rfl 1 166 rfl (by rw [hml]; rfl) (lenOf own_pd9 rfl) (Nat.le_refl _) (by decide) (by decide) (by decide) (by decide) (hb hby d9_163) ?_
            intro v1311 T1311 L1311 X1311 hQ1311
            obtain ⟨rfl, N1311, K1311, b, kb, gb, sb, c_, v_, Vb⟩ := hQ1311
            have N1312 := Fr.app N1309 N1311
            have F1313 := F1301.keep K1311 (allS ge1225 all0)
            have F1314 := F1302.keep K1311 (ninS ne1224 nin0)
            have F1315 := F1303.keep K1311
            have F1318 := F1306.keep K1311
            have F1319 := V1300'.keep K1311 (ninS (Ne.symm ne1235) nin0)
            have Z1320 : n0 ≤ T1311.heap.size := Nat.le_trans Z1310 K1311.1
            have K1321 := K1308.trans K1311 (allS (Or.inr sz1226) all0)
            show Go p e below _ T1311 (mkF m 166 #[.val (.int (6 : Int32)), .val (.ref ca)] [(.ref a1223)])
            exact g_retA X1311 hx hlk hret rfl rfl rfl (hb hby d9_166) (by decide) (by decide) rfl ⟨a1223, b, kb, 6, [c0.toInt8.toInt32.toInt8.toInt32, c1.toInt8.toInt32.toInt8.toInt32, c2.toInt8.toInt32.toInt8.toInt32, c3.toInt8.toInt32.toInt8.toInt32, c4.toInt8.toInt32.toInt8.toInt32, c5.toInt8.toInt32.toInt8.toInt32], rfl, N1312, K1321, ge1225, sz1226, F1315, c_, v_, Vb, (by show (6 : Int32).toInt = 6; decide)⟩
        · skip
          exfalso; revert c1217; decide
      · skip
        exfalso; revert c1214; decide
    · skip
      exfalso; revert c1211; decide
  · skip
    exfalso; revert c1209; decide
def Q_rmMk_8 (Z : State) (n0 : Nat) (h0 : Heap) (v : Option Value) (h : Heap) (L : List Loc) : Prop := ∃ (r vb : Addr) (kb : ClassId) (z : Int32) (xs : List Int32), v = some (.ref r) ∧ Fr n0 L ∧ Keep h0 h [] ∧ n0 ≤ r ∧ h0.size ≤ r ∧ Exa Z h r "java/lang/String" ∧ Fld Z h r "java/lang/String" "coder" "B" (.int 0) ∧ Fld Z h r "java/lang/String" "value" "[B" (.ref vb) ∧ Arv Z h vb kb .byte z (xs.map Value.int) (.int 0) ∧ z.toInt = (xs.length : Int)
theorem ef_rmMk_8 (ca : Addr) (m : MethodId) : entryFrame m #[(.int 8), (.ref ca)] 2 = mkF m 0 #[.val (.int 8), .val (.ref ca)] [] := by first | (simp [entryFrame, mkF, argsToLocals, Value.category]; done) | rfl
theorem rmMk_8 (l : Launch) (Z : State) (a0 : Array Value) (hw : ∀ d ∈ tables_1, d.before a0 Z = true) (ca : Addr) (h0 : Heap) (n0 : Nat) (Z0 : n0 ≤ h0.size) (cst : Int32) (hc : cst ≠ 0) (O0 : Old Z n0 h0) (SC : Sta Z Z.heap "java/lang/String" "COMPACT_STRINGS" "Z" (.int cst)) (kc : ClassId) (c0 c1 c2 c3 c4 c5 c6 c7 c8 c9 c10 c11 : Int32) (bc0 : 0 ≤ c0.toInt ∧ c0.toInt ≤ 255) (bc1 : 0 ≤ c1.toInt ∧ c1.toInt ≤ 255) (bc2 : 0 ≤ c2.toInt ∧ c2.toInt ≤ 255) (bc3 : 0 ≤ c3.toInt ∧ c3.toInt ≤ 255) (bc4 : 0 ≤ c4.toInt ∧ c4.toInt ≤ 255) (bc5 : 0 ≤ c5.toInt ∧ c5.toInt ≤ 255) (bc6 : 0 ≤ c6.toInt ∧ c6.toInt ≤ 255) (bc7 : 0 ≤ c7.toInt ∧ c7.toInt ≤ 255) (bc8 : 0 ≤ c8.toInt ∧ c8.toInt ≤ 255) (bc9 : 0 ≤ c9.toInt ∧ c9.toInt ≤ 255) (bc10 : 0 ≤ c10.toInt ∧ c10.toInt ≤ 255) (bc11 : 0 ≤ c11.toInt ∧ c11.toInt ≤ 255) (Vc : Arv Z h0 ca kc .char 12 [(.int c0), (.int c1), (.int c2), (.int c3), (.int c4), (.int c5), (.int c6), (.int c7), (.int c8), (.int c9), (.int c10), (.int c11)] (.int 0)) :
    MetFree l (⟨"com/example/dispatchd/dispatchd/store/EventSchemaWithLabelPinLaw", "make", "(I[C)Ljava/lang/String;"⟩ : MethodName) (head1 [Jvm.Cond.code (⟨"com/example/dispatchd/dispatchd/store/EventSchemaWithLabelPinLaw", "make", "(I[C)Ljava/lang/String;"⟩ : MethodName) method_3_code 2 (some (.object "java/lang/String"))] ({ frames := 4, cells := 3, slots := 20, locals := 90 } : Room)) (fun as_ U => as_ = #[(.int 8), (.ref ca)] ∧ Z.Warmed39 U.vm ∧ U.heap = h0) (fun _ _ _ _ _ => True) (fun _ U o U' => ∃ v L, o = .returned v ∧ Q_rmMk_8 Z n0 h0 v U'.heap L ∧ FrameEnd U o U' L ({ frames := 4, cells := 3, slots := 20, locals := 90 } : Room).cells ({ frames := 4, cells := 3, slots := 20, locals := 90 } : Room).slots) := by
  refine own_met own_pf19 (ef_rmMk_8 ca) ?_
  intro p e s m below meth c T0 X0 hx hby hml hret hlk hnm hown hZ e0
  have N0 := Fr.nil n0
  refine g_iloadN X0 hx 1 (hb hby d9_0) rfl rfl ?_
  have ll1323 : ((8 : Int32) : Int32).toInt = 8 := by decide
  refine g_if_ne X0 hx 15 4 (hb hby d9_1) (by decide) (by decide) rfl (fun c1322 => ?_) (fun c1322 => ?_)
  · skip
    refine g_iloadN X0 hx 16 (hb hby d9_15) rfl rfl ?_
    refine g_iconst X0 hx (1 : Int32) 17 (hb hby d9_16) rfl (by decide) ?_
    have ll1325 : ((1 : Int32) : Int32).toInt = 1 := by decide
    have ll1326 : ((8 : Int32) : Int32).toInt = 8 := by decide
    refine g_ic_ne X0 hx 27 20 (hb hby d9_17) (by decide) (by decide) rfl (fun c1324 => ?_) (fun c1324 => ?_)
    · skip
      refine g_iloadN X0 hx 28 (hb hby d9_27) rfl rfl ?_
      refine g_iconst X0 hx (4 : Int32) 29 (hb hby d9_28) rfl (by decide) ?_
      have ll1328 : ((4 : Int32) : Int32).toInt = 4 := by decide
      have ll1329 : ((8 : Int32) : Int32).toInt = 8 := by decide
      refine g_ic_ne X0 hx 67 32 (hb hby d9_29) (by decide) (by decide) rfl (fun c1327 => ?_) (fun c1327 => ?_)
      · skip
        refine g_iloadN X0 hx 68 (hb hby d9_67) rfl rfl ?_
        refine g_iconst X0 hx (5 : Int32) 69 (hb hby d9_68) rfl (by decide) ?_
        have ll1331 : ((5 : Int32) : Int32).toInt = 5 := by decide
        have ll1332 : ((8 : Int32) : Int32).toInt = 8 := by decide
        refine g_ic_ne X0 hx 113 72 (hb hby d9_69) (by decide) (by decide) rfl (fun c1330 => ?_) (fun c1330 => ?_)
        · skip
          refine g_iloadN X0 hx 114 (hb hby d9_113) rfl rfl ?_
          refine g_bipush X0 hx (6 : Int32) 116 (hb hby d9_114) rfl (by decide) ?_
          have ll1334 : ((6 : Int32) : Int32).toInt = 6 := by decide
          have ll1335 : ((8 : Int32) : Int32).toInt = 8 := by decide
          refine g_ic_ne X0 hx 167 119 (hb hby d9_116) (by decide) (by decide) rfl (fun c1333 => ?_) (fun c1333 => ?_)
          · skip
            refine g_iloadN X0 hx 168 (hb hby d9_167) rfl rfl ?_
            refine g_bipush X0 hx (8 : Int32) 170 (hb hby d9_168) rfl (by decide) ?_
            have ll1337 : ((8 : Int32) : Int32).toInt = 8 := by decide
            have ll1338 : ((8 : Int32) : Int32).toInt = 8 := by decide
            refine g_ic_ne X0 hx 237 173 (hb hby d9_170) (by decide) (by decide) rfl (fun c1336 => ?_) (fun c1336 => ?_)
            · skip
              exfalso; revert c1336; decide
            · skip
              refine g_new X0 hx hZ hown (hw _ (List.mem_of_getElem? (i := 52) rfl)) (hw _ (List.mem_of_getElem? (i := 2) rfl)) (hw _ (List.mem_of_getElem? (i := 1) rfl)) e0 176 (hb hby d9_173) rfl (by decide) (by decide) ?_
              intro T1339 h1339 a1339 g1339 X1339 e1339 E1339 A1339 D1339
              have ne1340 : ca ≠ a1339 := Nat.ne_of_lt (by rw [g1339]; exact Vc.lt)
              have ge1341 : n0 ≤ a1339 := by rw [g1339]; exact Z0
              have sz1342 : h0.size ≤ a1339 := by rw [g1339]; exact (Keep.refl h0 []).1
              have F1343 := O0.ext E1339
              have F1344 := Vc.ext E1339
              have K1345 := (Keep.refl h0 []).ext E1339
              have Z1346 : n0 ≤ h1339.size := Nat.le_trans Z0 E1339.1
              have F1347 : Fld Z h1339 a1339 "java/lang/String" "value" "[B" .null := D1339 (Or.inr (hw _ (List.mem_of_getElem? (i := 4) rfl))) (ty := (.array .byte)) (by decide)
              have F1348 : Fld Z h1339 a1339 "java/lang/String" "coder" "B" (.int (0 : Int32)) := D1339 (Or.inr (hw _ (List.mem_of_getElem? (i := 5) rfl))) (ty := .byte) (by decide)
              refine g_dup X1339 hx 177 (hb hby d9_176) rfl rfl ?_
              refine g_bipush X1339 hx (8 : Int32) 179 (hb hby d9_177) rfl (by decide) ?_
              refine g_newP X1339 hx hZ (aty := .char) (hw _ (List.mem_of_getElem? (i := 8) rfl)) e1339 (by decide) (cap := 8) (by decide) (by decide) 181 (hb hby d9_179) rfl (by decide) (by decide) (ad := "[C") (by decide) ?_
              intro T1349 h1349 k1349 a1349 g1349 X1349 e1349 E1349 V1349 A1349
              have ne1350 : ca ≠ a1349 := Nat.ne_of_lt (by rw [g1349]; exact F1344.lt)
              have ne1351 : a1339 ≠ a1349 := Nat.ne_of_lt (by rw [g1349]; exact A1339.lt)
              have ge1352 : n0 ≤ a1349 := by rw [g1349]; exact Z1346
              have sz1353 : h0.size ≤ a1349 := by rw [g1349]; exact K1345.1
              have F1354 := F1343.ext E1349
              have F1355 := F1344.ext E1349
              have F1356 := A1339.ext E1349
              have F1357 := F1347.ext E1349
              have F1358 := F1348.ext E1349
              have K1359 := K1345.ext E1349
              have Z1360 : n0 ≤ h1349.size := Nat.le_trans Z1346 E1349.1
              have V1349' : Arv Z h1349 a1349 k1349 .char (8 : Int32) [(.int (0 : Int32)), (.int (0 : Int32)), (.int (0 : Int32)), (.int (0 : Int32)), (.int (0 : Int32)), (.int (0 : Int32)), (.int (0 : Int32)), (.int (0 : Int32))] (.int (0 : Int32)) := V1349.pad (pad_rep [] (.int (0 : Int32)) 8)
              refine g_dup X1349 hx 182 (hb hby d9_181) rfl rfl ?_
              refine g_iconst X1349 hx (0 : Int32) 183 (hb hby d9_182) rfl (by decide) ?_
              refine g_aloadN X1349 hx 184 (hb hby d9_183) rfl rfl rfl ?_
              refine g_iconst X1349 hx (0 : Int32) 185 (hb hby d9_184) rfl (by decide) ?_
              refine g_caload X1349 hx hZ e1349 F1355 (by decide) (by decide) (by rw [show ((0 : Int32) : Int32).toNatClampNeg = 0 by decide] <;> rfl) 186 (hb hby d9_185) rfl ?_
              refine g_castore X1349 hx hZ e1349 V1349' 0 (by decide) (by decide) (by show 0 < 8; decide) c0 (own_narc bc0) 187 (hb hby d9_186) rfl ?_
              intro T1361 h1361 X1361 e1361 W1361 V1361
              have F1362 := F1354.wr W1361 ge1352
              have F1363 := F1355.other W1361 ne1350
              have F1364 := F1356.wr W1361
              have F1365 := F1357.other W1361 (Or.inl ne1351)
              have F1366 := F1358.other W1361 (Or.inl ne1351)
              have F1367 := A1349.wr W1361
              have K1369 := K1359.wr W1361 (Or.inr sz1353)
              have N1370 := Fr.snoc X1361 N0 ge1352
              have Z1371 : n0 ≤ h1361.size := by rw [W1361.size]; exact Z1360
              have V1361' : Arv Z h1361 a1349 k1349 .char (8 : Int32) [(.int c0), (.int (0 : Int32)), (.int (0 : Int32)), (.int (0 : Int32)), (.int (0 : Int32)), (.int (0 : Int32)), (.int (0 : Int32)), (.int (0 : Int32))] (.int (0 : Int32)) := V1361
              refine g_dup X1361 hx 188 (hb hby d9_187) rfl rfl ?_
              refine g_iconst X1361 hx (1 : Int32) 189 (hb hby d9_188) rfl (by decide) ?_
              refine g_aloadN X1361 hx 190 (hb hby d9_189) rfl rfl rfl ?_
              refine g_iconst X1361 hx (1 : Int32) 191 (hb hby d9_190) rfl (by decide) ?_
              refine g_caload X1361 hx hZ e1361 F1363 (by decide) (by decide) (by rw [show ((1 : Int32) : Int32).toNatClampNeg = 1 by decide] <;> rfl) 192 (hb hby d9_191) rfl ?_
              refine g_castore X1361 hx hZ e1361 V1361' 1 (by decide) (by decide) (by show 1 < 8; decide) c1 (own_narc bc1) 193 (hb hby d9_192) rfl ?_
              intro T1372 h1372 X1372 e1372 W1372 V1372
              have F1373 := F1362.wr W1372 ge1352
              have F1374 := F1363.other W1372 ne1350
              have F1375 := F1364.wr W1372
              have F1376 := F1365.other W1372 (Or.inl ne1351)
              have F1377 := F1366.other W1372 (Or.inl ne1351)
              have F1378 := F1367.wr W1372
              have K1380 := K1369.wr W1372 (Or.inr sz1353)
              have N1381 := Fr.snoc X1372 N1370 ge1352
              have Z1382 : n0 ≤ h1372.size := by rw [W1372.size]; exact Z1371
              have V1372' : Arv Z h1372 a1349 k1349 .char (8 : Int32) [(.int c0), (.int c1), (.int (0 : Int32)), (.int (0 : Int32)), (.int (0 : Int32)), (.int (0 : Int32)), (.int (0 : Int32)), (.int (0 : Int32))] (.int (0 : Int32)) := V1372
              refine g_dup X1372 hx 194 (hb hby d9_193) rfl rfl ?_
              refine g_iconst X1372 hx (2 : Int32) 195 (hb hby d9_194) rfl (by decide) ?_
              refine g_aloadN X1372 hx 196 (hb hby d9_195) rfl rfl rfl ?_
              refine g_iconst X1372 hx (2 : Int32) 197 (hb hby d9_196) rfl (by decide) ?_
              refine g_caload X1372 hx hZ e1372 F1374 (by decide) (by decide) (by rw [show ((2 : Int32) : Int32).toNatClampNeg = 2 by decide] <;> rfl) 198 (hb hby d9_197) rfl ?_
              refine g_castore X1372 hx hZ e1372 V1372' 2 (by decide) (by decide) (by show 2 < 8; decide) c2 (own_narc bc2) 199 (hb hby d9_198) rfl ?_
              intro T1383 h1383 X1383 e1383 W1383 V1383
              have F1384 := F1373.wr W1383 ge1352
              have F1385 := F1374.other W1383 ne1350
              have F1386 := F1375.wr W1383
              have F1387 := F1376.other W1383 (Or.inl ne1351)
              have F1388 := F1377.other W1383 (Or.inl ne1351)
              have F1389 := F1378.wr W1383
              have K1391 := K1380.wr W1383 (Or.inr sz1353)
              have N1392 := Fr.snoc X1383 N1381 ge1352
              have Z1393 : n0 ≤ h1383.size := by rw [W1383.size]; exact Z1382
              have V1383' : Arv Z h1383 a1349 k1349 .char (8 : Int32) [(.int c0), (.int c1), (.int c2), (.int (0 : Int32)), (.int (0 : Int32)), (.int (0 : Int32)), (.int (0 : Int32)), (.int (0 : Int32))] (.int (0 : Int32)) := V1383
              refine g_dup X1383 hx 200 (hb hby d9_199) rfl rfl ?_
              refine g_iconst X1383 hx (3 : Int32) 201 (hb hby d9_200) rfl (by decide) ?_
              refine g_aloadN X1383 hx 202 (hb hby d9_201) rfl rfl rfl ?_
              refine g_iconst X1383 hx (3 : Int32) 203 (hb hby d9_202) rfl (by decide) ?_
              refine g_caload X1383 hx hZ e1383 F1385 (by decide) (by decide) (by rw [show ((3 : Int32) : Int32).toNatClampNeg = 3 by decide] <;> rfl) 204 (hb hby d9_203) rfl ?_
              refine g_castore X1383 hx hZ e1383 V1383' 3 (by decide) (by decide) (by show 3 < 8; decide) c3 (own_narc bc3) 205 (hb hby d9_204) rfl ?_
              intro T1394 h1394 X1394 e1394 W1394 V1394
              have F1395 := F1384.wr W1394 ge1352
              have F1396 := F1385.other W1394 ne1350
              have F1397 := F1386.wr W1394
              have F1398 := F1387.other W1394 (Or.inl ne1351)
              have F1399 := F1388.other W1394 (Or.inl ne1351)
              have F1400 := F1389.wr W1394
              have K1402 := K1391.wr W1394 (Or.inr sz1353)
              have N1403 := Fr.snoc X1394 N1392 ge1352
              have Z1404 : n0 ≤ h1394.size := by rw [W1394.size]; exact Z1393
              have V1394' : Arv Z h1394 a1349 k1349 .char (8 : Int32) [(.int c0), (.int c1), (.int c2), (.int c3), (.int (0 : Int32)), (.int (0 : Int32)), (.int (0 : Int32)), (.int (0 : Int32))] (.int (0 : Int32)) := V1394
              refine g_dup X1394 hx 206 (hb hby d9_205) rfl rfl ?_
              refine g_iconst X1394 hx (4 : Int32) 207 (hb hby d9_206) rfl (by decide) ?_
              refine g_aloadN X1394 hx 208 (hb hby d9_207) rfl rfl rfl ?_
              refine g_iconst X1394 hx (4 : Int32) 209 (hb hby d9_208) rfl (by decide) ?_
              refine g_caload X1394 hx hZ e1394 F1396 (by decide) (by decide) (by rw [show ((4 : Int32) : Int32).toNatClampNeg = 4 by decide] <;> rfl) 210 (hb hby d9_209) rfl ?_
              refine g_castore X1394 hx hZ e1394 V1394' 4 (by decide) (by decide) (by show 4 < 8; decide) c4 (own_narc bc4) 211 (hb hby d9_210) rfl ?_
              intro T1405 h1405 X1405 e1405 W1405 V1405
              have F1406 := F1395.wr W1405 ge1352
              have F1407 := F1396.other W1405 ne1350
              have F1408 := F1397.wr W1405
              have F1409 := F1398.other W1405 (Or.inl ne1351)
              have F1410 := F1399.other W1405 (Or.inl ne1351)
              have F1411 := F1400.wr W1405
              have K1413 := K1402.wr W1405 (Or.inr sz1353)
              have N1414 := Fr.snoc X1405 N1403 ge1352
              have Z1415 : n0 ≤ h1405.size := by rw [W1405.size]; exact Z1404
              have V1405' : Arv Z h1405 a1349 k1349 .char (8 : Int32) [(.int c0), (.int c1), (.int c2), (.int c3), (.int c4), (.int (0 : Int32)), (.int (0 : Int32)), (.int (0 : Int32))] (.int (0 : Int32)) := V1405
              refine g_dup X1405 hx 212 (hb hby d9_211) rfl rfl ?_
              refine g_iconst X1405 hx (5 : Int32) 213 (hb hby d9_212) rfl (by decide) ?_
              refine g_aloadN X1405 hx 214 (hb hby d9_213) rfl rfl rfl ?_
              refine g_iconst X1405 hx (5 : Int32) 215 (hb hby d9_214) rfl (by decide) ?_
              refine g_caload X1405 hx hZ e1405 F1407 (by decide) (by decide) (by rw [show ((5 : Int32) : Int32).toNatClampNeg = 5 by decide] <;> rfl) 216 (hb hby d9_215) rfl ?_
              refine g_castore X1405 hx hZ e1405 V1405' 5 (by decide) (by decide) (by show 5 < 8; decide) c5 (own_narc bc5) 217 (hb hby d9_216) rfl ?_
              intro T1416 h1416 X1416 e1416 W1416 V1416
              have F1417 := F1406.wr W1416 ge1352
              have F1418 := F1407.other W1416 ne1350
              have F1419 := F1408.wr W1416
              have F1420 := F1409.other W1416 (Or.inl ne1351)
              have F1421 := F1410.other W1416 (Or.inl ne1351)
              have F1422 := F1411.wr W1416
              have K1424 := K1413.wr W1416 (Or.inr sz1353)
              have N1425 := Fr.snoc X1416 N1414 ge1352
              have Z1426 : n0 ≤ h1416.size := by rw [W1416.size]; exact Z1415
              have V1416' : Arv Z h1416 a1349 k1349 .char (8 : Int32) [(.int c0), (.int c1), (.int c2), (.int c3), (.int c4), (.int c5), (.int (0 : Int32)), (.int (0 : Int32))] (.int (0 : Int32)) := V1416
              refine g_dup X1416 hx 218 (hb hby d9_217) rfl rfl ?_
              refine g_bipush X1416 hx (6 : Int32) 220 (hb hby d9_218) rfl (by decide) ?_
              refine g_aloadN X1416 hx 221 (hb hby d9_220) rfl rfl rfl ?_
              refine g_bipush X1416 hx (6 : Int32) 223 (hb hby d9_221) rfl (by decide) ?_
              refine g_caload X1416 hx hZ e1416 F1418 (by decide) (by decide) (by rw [show ((6 : Int32) : Int32).toNatClampNeg = 6 by decide] <;> rfl) 224 (hb hby d9_223) rfl ?_
              refine g_castore X1416 hx hZ e1416 V1416' 6 (by decide) (by decide) (by show 6 < 8; decide) c6 (own_narc bc6) 225 (hb hby d9_224) rfl ?_
              intro T1427 h1427 X1427 e1427 W1427 V1427
              have F1428 := F1417.wr W1427 ge1352
              have F1429 := F1418.other W1427 ne1350
              have F1430 := F1419.wr W1427
              have F1431 := F1420.other W1427 (Or.inl ne1351)
              have F1432 := F1421.other W1427 (Or.inl ne1351)
              have F1433 := F1422.wr W1427
              have K1435 := K1424.wr W1427 (Or.inr sz1353)
              have N1436 := Fr.snoc X1427 N1425 ge1352
              have Z1437 : n0 ≤ h1427.size := by rw [W1427.size]; exact Z1426
              have V1427' : Arv Z h1427 a1349 k1349 .char (8 : Int32) [(.int c0), (.int c1), (.int c2), (.int c3), (.int c4), (.int c5), (.int c6), (.int (0 : Int32))] (.int (0 : Int32)) := V1427
              refine g_dup X1427 hx 226 (hb hby d9_225) rfl rfl ?_
              refine g_bipush X1427 hx (7 : Int32) 228 (hb hby d9_226) rfl (by decide) ?_
              refine g_aloadN X1427 hx 229 (hb hby d9_228) rfl rfl rfl ?_
              refine g_bipush X1427 hx (7 : Int32) 231 (hb hby d9_229) rfl (by decide) ?_
              refine g_caload X1427 hx hZ e1427 F1429 (by decide) (by decide) (by rw [show ((7 : Int32) : Int32).toNatClampNeg = 7 by decide] <;> rfl) 232 (hb hby d9_231) rfl ?_
              refine g_castore X1427 hx hZ e1427 V1427' 7 (by decide) (by decide) (by show 7 < 8; decide) c7 (own_narc bc7) 233 (hb hby d9_232) rfl ?_
              intro T1438 h1438 X1438 e1438 W1438 V1438
              have F1439 := F1428.wr W1438 ge1352
              have F1440 := F1429.other W1438 ne1350
              have F1441 := F1430.wr W1438
              have F1442 := F1431.other W1438 (Or.inl ne1351)
              have F1443 := F1432.other W1438 (Or.inl ne1351)
              have F1444 := F1433.wr W1438
              have K1446 := K1435.wr W1438 (Or.inr sz1353)
              have N1447 := Fr.snoc X1438 N1436 ge1352
              have Z1448 : n0 ≤ h1438.size := by rw [W1438.size]; exact Z1437
              have V1438' : Arv Z h1438 a1349 k1349 .char (8 : Int32) [(.int c0), (.int c1), (.int c2), (.int c3), (.int c4), (.int c5), (.int c6), (.int c7)] (.int (0 : Int32)) := V1438
              refine g_init X1438 hx hZ rfl hown (hw _ (List.mem_of_getElem? (i := 53) rfl)) (hw _ (List.mem_of_getElem? (i := 54) rfl)) (hw _ (List.mem_of_getElem? (i := 1) rfl)) (hw _ (List.mem_of_getElem? (i := 55) rfl)) (by decide) (rmI1_8 l Z a0 hw a1339 a1349 h1438 n0 Z1448 cst hc F1439 SC k1349 c0 c1 c2 c3 c4 c5 c6 c7 bc0 bc1 bc2 bc3 bc4 bc5 bc6 bc7 F1441 ge1341 ne1351 F1443 F1442 V1438') e1438 (a := a1339) (argsL := [(.ref a1349)]) (rest := [(.ref a1339)]) rfl rfl 1 236 rfl (by rw [hml]; rfl) (lenOf own_pd9 rfl) (Nat.le_refl _) (by decide) (by decide) (by decide) (by decide) (hb hby d9_233) ?_
              intro v1449 T1449 L1449 X1449 hQ1449
              obtain ⟨rfl, N1449, K1449, b, kb, gb, sb, c_, v_, Vb⟩ := hQ1449
              have N1450 := Fr.app N1447 N1449
              have F1451 := F1439.keep K1449 (allS ge1341 all0)
              have F1452 := F1440.keep K1449 (ninS ne1340 nin0)
              have F1453 := F1441.keep K1449
              have F1456 := F1444.keep K1449
              have F1457 := V1438'.keep K1449 (ninS (Ne.symm ne1351) nin0)
              have Z1458 : n0 ≤ T1449.heap.size := Nat.le_trans Z1448 K1449.1
              have K1459 := K1446.trans K1449 (allS (Or.inr sz1342) all0)
              show Go p e below _ T1449 (mkF m 236 #[.val (.int (8 : Int32)), .val (.ref ca)] [(.ref a1339)])
              exact g_retA X1449 hx hlk hret rfl rfl rfl (hb hby d9_236) (by decide) (by decide) rfl ⟨a1339, b, kb, 8, [c0.toInt8.toInt32.toInt8.toInt32, c1.toInt8.toInt32.toInt8.toInt32, c2.toInt8.toInt32.toInt8.toInt32, c3.toInt8.toInt32.toInt8.toInt32, c4.toInt8.toInt32.toInt8.toInt32, c5.toInt8.toInt32.toInt8.toInt32, c6.toInt8.toInt32.toInt8.toInt32, c7.toInt8.toInt32.toInt8.toInt32], rfl, N1450, K1459, ge1341, sz1342, F1453, c_, v_, Vb, (by show (8 : Int32).toInt = 8; decide)⟩
          · skip
            exfalso; revert c1333; decide
        · skip
          exfalso; revert c1330; decide
      · skip
        exfalso; revert c1327; decide
    · skip
      exfalso; revert c1324; decide
  · skip
    exfalso; revert c1322; decide
def Q_rmMk_11 (Z : State) (n0 : Nat) (h0 : Heap) (v : Option Value) (h : Heap) (L : List Loc) : Prop := ∃ (r vb : Addr) (kb : ClassId) (z : Int32) (xs : List Int32), v = some (.ref r) ∧ Fr n0 L ∧ Keep h0 h [] ∧ n0 ≤ r ∧ h0.size ≤ r ∧ Exa Z h r "java/lang/String" ∧ Fld Z h r "java/lang/String" "coder" "B" (.int 0) ∧ Fld Z h r "java/lang/String" "value" "[B" (.ref vb) ∧ Arv Z h vb kb .byte z (xs.map Value.int) (.int 0) ∧ z.toInt = (xs.length : Int)
theorem ef_rmMk_11 (ca : Addr) (m : MethodId) : entryFrame m #[(.int 11), (.ref ca)] 2 = mkF m 0 #[.val (.int 11), .val (.ref ca)] [] := by first | (simp [entryFrame, mkF, argsToLocals, Value.category]; done) | rfl
theorem rmMk_11 (l : Launch) (Z : State) (a0 : Array Value) (hw : ∀ d ∈ tables_1, d.before a0 Z = true) (ca : Addr) (h0 : Heap) (n0 : Nat) (Z0 : n0 ≤ h0.size) (cst : Int32) (hc : cst ≠ 0) (O0 : Old Z n0 h0) (SC : Sta Z Z.heap "java/lang/String" "COMPACT_STRINGS" "Z" (.int cst)) (kc : ClassId) (c0 c1 c2 c3 c4 c5 c6 c7 c8 c9 c10 c11 : Int32) (bc0 : 0 ≤ c0.toInt ∧ c0.toInt ≤ 255) (bc1 : 0 ≤ c1.toInt ∧ c1.toInt ≤ 255) (bc2 : 0 ≤ c2.toInt ∧ c2.toInt ≤ 255) (bc3 : 0 ≤ c3.toInt ∧ c3.toInt ≤ 255) (bc4 : 0 ≤ c4.toInt ∧ c4.toInt ≤ 255) (bc5 : 0 ≤ c5.toInt ∧ c5.toInt ≤ 255) (bc6 : 0 ≤ c6.toInt ∧ c6.toInt ≤ 255) (bc7 : 0 ≤ c7.toInt ∧ c7.toInt ≤ 255) (bc8 : 0 ≤ c8.toInt ∧ c8.toInt ≤ 255) (bc9 : 0 ≤ c9.toInt ∧ c9.toInt ≤ 255) (bc10 : 0 ≤ c10.toInt ∧ c10.toInt ≤ 255) (bc11 : 0 ≤ c11.toInt ∧ c11.toInt ≤ 255) (Vc : Arv Z h0 ca kc .char 12 [(.int c0), (.int c1), (.int c2), (.int c3), (.int c4), (.int c5), (.int c6), (.int c7), (.int c8), (.int c9), (.int c10), (.int c11)] (.int 0)) :
    MetFree l (⟨"com/example/dispatchd/dispatchd/store/EventSchemaWithLabelPinLaw", "make", "(I[C)Ljava/lang/String;"⟩ : MethodName) (head1 [Jvm.Cond.code (⟨"com/example/dispatchd/dispatchd/store/EventSchemaWithLabelPinLaw", "make", "(I[C)Ljava/lang/String;"⟩ : MethodName) method_3_code 2 (some (.object "java/lang/String"))] ({ frames := 4, cells := 3, slots := 26, locals := 90 } : Room)) (fun as_ U => as_ = #[(.int 11), (.ref ca)] ∧ Z.Warmed39 U.vm ∧ U.heap = h0) (fun _ _ _ _ _ => True) (fun _ U o U' => ∃ v L, o = .returned v ∧ Q_rmMk_11 Z n0 h0 v U'.heap L ∧ FrameEnd U o U' L ({ frames := 4, cells := 3, slots := 26, locals := 90 } : Room).cells ({ frames := 4, cells := 3, slots := 26, locals := 90 } : Room).slots) := by
  refine own_met own_pf19 (ef_rmMk_11 ca) ?_
  intro p e s m below meth c T0 X0 hx hby hml hret hlk hnm hown hZ e0
  have N0 := Fr.nil n0
  refine g_iloadN X0 hx 1 (hb hby d9_0) rfl rfl ?_
  have ll1461 : ((11 : Int32) : Int32).toInt = 11 := by decide
  refine g_if_ne X0 hx 15 4 (hb hby d9_1) (by decide) (by decide) rfl (fun c1460 => ?_) (fun c1460 => ?_)
  · skip
    refine g_iloadN X0 hx 16 (hb hby d9_15) rfl rfl ?_
    refine g_iconst X0 hx (1 : Int32) 17 (hb hby d9_16) rfl (by decide) ?_
    have ll1463 : ((1 : Int32) : Int32).toInt = 1 := by decide
    have ll1464 : ((11 : Int32) : Int32).toInt = 11 := by decide
    refine g_ic_ne X0 hx 27 20 (hb hby d9_17) (by decide) (by decide) rfl (fun c1462 => ?_) (fun c1462 => ?_)
    · skip
      refine g_iloadN X0 hx 28 (hb hby d9_27) rfl rfl ?_
      refine g_iconst X0 hx (4 : Int32) 29 (hb hby d9_28) rfl (by decide) ?_
      have ll1466 : ((4 : Int32) : Int32).toInt = 4 := by decide
      have ll1467 : ((11 : Int32) : Int32).toInt = 11 := by decide
      refine g_ic_ne X0 hx 67 32 (hb hby d9_29) (by decide) (by decide) rfl (fun c1465 => ?_) (fun c1465 => ?_)
      · skip
        refine g_iloadN X0 hx 68 (hb hby d9_67) rfl rfl ?_
        refine g_iconst X0 hx (5 : Int32) 69 (hb hby d9_68) rfl (by decide) ?_
        have ll1469 : ((5 : Int32) : Int32).toInt = 5 := by decide
        have ll1470 : ((11 : Int32) : Int32).toInt = 11 := by decide
        refine g_ic_ne X0 hx 113 72 (hb hby d9_69) (by decide) (by decide) rfl (fun c1468 => ?_) (fun c1468 => ?_)
        · skip
          refine g_iloadN X0 hx 114 (hb hby d9_113) rfl rfl ?_
          refine g_bipush X0 hx (6 : Int32) 116 (hb hby d9_114) rfl (by decide) ?_
          have ll1472 : ((6 : Int32) : Int32).toInt = 6 := by decide
          have ll1473 : ((11 : Int32) : Int32).toInt = 11 := by decide
          refine g_ic_ne X0 hx 167 119 (hb hby d9_116) (by decide) (by decide) rfl (fun c1471 => ?_) (fun c1471 => ?_)
          · skip
            refine g_iloadN X0 hx 168 (hb hby d9_167) rfl rfl ?_
            refine g_bipush X0 hx (8 : Int32) 170 (hb hby d9_168) rfl (by decide) ?_
            have ll1475 : ((8 : Int32) : Int32).toInt = 8 := by decide
            have ll1476 : ((11 : Int32) : Int32).toInt = 11 := by decide
            refine g_ic_ne X0 hx 237 173 (hb hby d9_170) (by decide) (by decide) rfl (fun c1474 => ?_) (fun c1474 => ?_)
            · skip
              refine g_iloadN X0 hx 238 (hb hby d9_237) rfl rfl ?_
              refine g_bipush X0 hx (11 : Int32) 240 (hb hby d9_238) rfl (by decide) ?_
              have ll1478 : ((11 : Int32) : Int32).toInt = 11 := by decide
              have ll1479 : ((11 : Int32) : Int32).toInt = 11 := by decide
              refine g_ic_ne X0 hx 331 243 (hb hby d9_240) (by decide) (by decide) rfl (fun c1477 => ?_) (fun c1477 => ?_)
              · skip
                exfalso; revert c1477; decide
              · skip
                refine g_new X0 hx hZ hown (hw _ (List.mem_of_getElem? (i := 52) rfl)) (hw _ (List.mem_of_getElem? (i := 2) rfl)) (hw _ (List.mem_of_getElem? (i := 1) rfl)) e0 246 (hb hby d9_243) rfl (by decide) (by decide) ?_
                intro T1480 h1480 a1480 g1480 X1480 e1480 E1480 A1480 D1480
                have ne1481 : ca ≠ a1480 := Nat.ne_of_lt (by rw [g1480]; exact Vc.lt)
                have ge1482 : n0 ≤ a1480 := by rw [g1480]; exact Z0
                have sz1483 : h0.size ≤ a1480 := by rw [g1480]; exact (Keep.refl h0 []).1
                have F1484 := O0.ext E1480
                have F1485 := Vc.ext E1480
                have K1486 := (Keep.refl h0 []).ext E1480
                have Z1487 : n0 ≤ h1480.size := Nat.le_trans Z0 E1480.1
                have F1488 : Fld Z h1480 a1480 "java/lang/String" "value" "[B" .null := D1480 (Or.inr (hw _ (List.mem_of_getElem? (i := 4) rfl))) (ty := (.array .byte)) (by decide)
                have F1489 : Fld Z h1480 a1480 "java/lang/String" "coder" "B" (.int (0 : Int32)) := D1480 (Or.inr (hw _ (List.mem_of_getElem? (i := 5) rfl))) (ty := .byte) (by decide)
                refine g_dup X1480 hx 247 (hb hby d9_246) rfl rfl ?_
                refine g_bipush X1480 hx (11 : Int32) 249 (hb hby d9_247) rfl (by decide) ?_
                refine g_newP X1480 hx hZ (aty := .char) (hw _ (List.mem_of_getElem? (i := 8) rfl)) e1480 (by decide) (cap := 11) (by decide) (by decide) 251 (hb hby d9_249) rfl (by decide) (by decide) (ad := "[C") (by decide) ?_
                intro T1490 h1490 k1490 a1490 g1490 X1490 e1490 E1490 V1490 A1490
                have ne1491 : ca ≠ a1490 := Nat.ne_of_lt (by rw [g1490]; exact F1485.lt)
                have ne1492 : a1480 ≠ a1490 := Nat.ne_of_lt (by rw [g1490]; exact A1480.lt)
                have ge1493 : n0 ≤ a1490 := by rw [g1490]; exact Z1487
                have sz1494 : h0.size ≤ a1490 := by rw [g1490]; exact K1486.1
                have F1495 := F1484.ext E1490
                have F1496 := F1485.ext E1490
                have F1497 := A1480.ext E1490
                have F1498 := F1488.ext E1490
                have F1499 := F1489.ext E1490
                have K1500 := K1486.ext E1490
                have Z1501 : n0 ≤ h1490.size := Nat.le_trans Z1487 E1490.1
                have V1490' : Arv Z h1490 a1490 k1490 .char (11 : Int32) [(.int (0 : Int32)), (.int (0 : Int32)), (.int (0 : Int32)), (.int (0 : Int32)), (.int (0 : Int32)), (.int (0 : Int32)), (.int (0 : Int32)), (.int (0 : Int32)), (.int (0 : Int32)), (.int (0 : Int32)), (.int (0 : Int32))] (.int (0 : Int32)) := V1490.pad (pad_rep [] (.int (0 : Int32)) 11)
                refine g_dup X1490 hx 252 (hb hby d9_251) rfl rfl ?_
                refine g_iconst X1490 hx (0 : Int32) 253 (hb hby d9_252) rfl (by decide) ?_
                refine g_aloadN X1490 hx 254 (hb hby d9_253) rfl rfl rfl ?_
                refine g_iconst X1490 hx (0 : Int32) 255 (hb hby d9_254) rfl (by decide) ?_
                refine g_caload X1490 hx hZ e1490 F1496 (by decide) (by decide) (by rw [show ((0 : Int32) : Int32).toNatClampNeg = 0 by decide] <;> rfl) 256 (hb hby d9_255) rfl ?_
                refine g_castore X1490 hx hZ e1490 V1490' 0 (by decide) (by decide) (by show 0 < 11; decide) c0 (own_narc bc0) 257 (hb hby d9_256) rfl ?_
                intro T1502 h1502 X1502 e1502 W1502 V1502
                have F1503 := F1495.wr W1502 ge1493
                have F1504 := F1496.other W1502 ne1491
                have F1505 := F1497.wr W1502
                have F1506 := F1498.other W1502 (Or.inl ne1492)
                have F1507 := F1499.other W1502 (Or.inl ne1492)
                have F1508 := A1490.wr W1502
                have K1510 := K1500.wr W1502 (Or.inr sz1494)
                have N1511 := Fr.snoc X1502 N0 ge1493
                have Z1512 : n0 ≤ h1502.size := by rw [W1502.size]; exact Z1501
                have V1502' : Arv Z h1502 a1490 k1490 .char (11 : Int32) [(.int c0), (.int (0 : Int32)), (.int (0 : Int32)), (.int (0 : Int32)), (.int (0 : Int32)), (.int (0 : Int32)), (.int (0 : Int32)), (.int (0 : Int32)), (.int (0 : Int32)), (.int (0 : Int32)), (.int (0 : Int32))] (.int (0 : Int32)) := V1502
                refine g_dup X1502 hx 258 (hb hby d9_257) rfl rfl ?_
                refine g_iconst X1502 hx (1 : Int32) 259 (hb hby d9_258) rfl (by decide) ?_
                refine g_aloadN X1502 hx 260 (hb hby d9_259) rfl rfl rfl ?_
                refine g_iconst X1502 hx (1 : Int32) 261 (hb hby d9_260) rfl (by decide) ?_
                refine g_caload X1502 hx hZ e1502 F1504 (by decide) (by decide) (by rw [show ((1 : Int32) : Int32).toNatClampNeg = 1 by decide] <;> rfl) 262 (hb hby d9_261) rfl ?_
                refine g_castore X1502 hx hZ e1502 V1502' 1 (by decide) (by decide) (by show 1 < 11; decide) c1 (own_narc bc1) 263 (hb hby d9_262) rfl ?_
                intro T1513 h1513 X1513 e1513 W1513 V1513
                have F1514 := F1503.wr W1513 ge1493
                have F1515 := F1504.other W1513 ne1491
                have F1516 := F1505.wr W1513
                have F1517 := F1506.other W1513 (Or.inl ne1492)
                have F1518 := F1507.other W1513 (Or.inl ne1492)
                have F1519 := F1508.wr W1513
                have K1521 := K1510.wr W1513 (Or.inr sz1494)
                have N1522 := Fr.snoc X1513 N1511 ge1493
                have Z1523 : n0 ≤ h1513.size := by rw [W1513.size]; exact Z1512
                have V1513' : Arv Z h1513 a1490 k1490 .char (11 : Int32) [(.int c0), (.int c1), (.int (0 : Int32)), (.int (0 : Int32)), (.int (0 : Int32)), (.int (0 : Int32)), (.int (0 : Int32)), (.int (0 : Int32)), (.int (0 : Int32)), (.int (0 : Int32)), (.int (0 : Int32))] (.int (0 : Int32)) := V1513
                refine g_dup X1513 hx 264 (hb hby d9_263) rfl rfl ?_
                refine g_iconst X1513 hx (2 : Int32) 265 (hb hby d9_264) rfl (by decide) ?_
                refine g_aloadN X1513 hx 266 (hb hby d9_265) rfl rfl rfl ?_
                refine g_iconst X1513 hx (2 : Int32) 267 (hb hby d9_266) rfl (by decide) ?_
                refine g_caload X1513 hx hZ e1513 F1515 (by decide) (by decide) (by rw [show ((2 : Int32) : Int32).toNatClampNeg = 2 by decide] <;> rfl) 268 (hb hby d9_267) rfl ?_
                refine g_castore X1513 hx hZ e1513 V1513' 2 (by decide) (by decide) (by show 2 < 11; decide) c2 (own_narc bc2) 269 (hb hby d9_268) rfl ?_
                intro T1524 h1524 X1524 e1524 W1524 V1524
                have F1525 := F1514.wr W1524 ge1493
                have F1526 := F1515.other W1524 ne1491
                have F1527 := F1516.wr W1524
                have F1528 := F1517.other W1524 (Or.inl ne1492)
                have F1529 := F1518.other W1524 (Or.inl ne1492)
                have F1530 := F1519.wr W1524
                have K1532 := K1521.wr W1524 (Or.inr sz1494)
                have N1533 := Fr.snoc X1524 N1522 ge1493
                have Z1534 : n0 ≤ h1524.size := by rw [W1524.size]; exact Z1523
                have V1524' : Arv Z h1524 a1490 k1490 .char (11 : Int32) [(.int c0), (.int c1), (.int c2), (.int (0 : Int32)), (.int (0 : Int32)), (.int (0 : Int32)), (.int (0 : Int32)), (.int (0 : Int32)), (.int (0 : Int32)), (.int (0 : Int32)), (.int (0 : Int32))] (.int (0 : Int32)) := V1524
                refine g_dup X1524 hx 270 (hb hby d9_269) rfl rfl ?_
                refine g_iconst X1524 hx (3 : Int32) 271 (hb hby d9_270) rfl (by decide) ?_
                refine g_aloadN X1524 hx 272 (hb hby d9_271) rfl rfl rfl ?_
                refine g_iconst X1524 hx (3 : Int32) 273 (hb hby d9_272) rfl (by decide) ?_
                refine g_caload X1524 hx hZ e1524 F1526 (by decide) (by decide) (by rw [show ((3 : Int32) : Int32).toNatClampNeg = 3 by decide] <;> rfl) 274 (hb hby d9_273) rfl ?_
                refine g_castore X1524 hx hZ e1524 V1524' 3 (by decide) (by decide) (by show 3 < 11; decide) c3 (own_narc bc3) 275 (hb hby d9_274) rfl ?_
                intro T1535 h1535 X1535 e1535 W1535 V1535
                have F1536 := F1525.wr W1535 ge1493
                have F1537 := F1526.other W1535 ne1491
                have F1538 := F1527.wr W1535
                have F1539 := F1528.other W1535 (Or.inl ne1492)
                have F1540 := F1529.other W1535 (Or.inl ne1492)
                have F1541 := F1530.wr W1535
                have K1543 := K1532.wr W1535 (Or.inr sz1494)
                have N1544 := Fr.snoc X1535 N1533 ge1493
                have Z1545 : n0 ≤ h1535.size := by rw [W1535.size]; exact Z1534
                have V1535' : Arv Z h1535 a1490 k1490 .char (11 : Int32) [(.int c0), (.int c1), (.int c2), (.int c3), (.int (0 : Int32)), (.int (0 : Int32)), (.int (0 : Int32)), (.int (0 : Int32)), (.int (0 : Int32)), (.int (0 : Int32)), (.int (0 : Int32))] (.int (0 : Int32)) := V1535
                refine g_dup X1535 hx 276 (hb hby d9_275) rfl rfl ?_
                refine g_iconst X1535 hx (4 : Int32) 277 (hb hby d9_276) rfl (by decide) ?_
                refine g_aloadN X1535 hx 278 (hb hby d9_277) rfl rfl rfl ?_
                refine g_iconst X1535 hx (4 : Int32) 279 (hb hby d9_278) rfl (by decide) ?_
                refine g_caload X1535 hx hZ e1535 F1537 (by decide) (by decide) (by rw [show ((4 : Int32) : Int32).toNatClampNeg = 4 by decide] <;> rfl) 280 (hb hby d9_279) rfl ?_
                refine g_castore X1535 hx hZ e1535 V1535' 4 (by decide) (by decide) (by show 4 < 11; decide) c4 (own_narc bc4) 281 (hb hby d9_280) rfl ?_
                intro T1546 h1546 X1546 e1546 W1546 V1546
                have F1547 := F1536.wr W1546 ge1493
                have F1548 := F1537.other W1546 ne1491
                have F1549 := F1538.wr W1546
                have F1550 := F1539.other W1546 (Or.inl ne1492)
                have F1551 := F1540.other W1546 (Or.inl ne1492)
                have F1552 := F1541.wr W1546
                have K1554 := K1543.wr W1546 (Or.inr sz1494)
                have N1555 := Fr.snoc X1546 N1544 ge1493
                have Z1556 : n0 ≤ h1546.size := by rw [W1546.size]; exact Z1545
                have V1546' : Arv Z h1546 a1490 k1490 .char (11 : Int32) [(.int c0), (.int c1), (.int c2), (.int c3), (.int c4), (.int (0 : Int32)), (.int (0 : Int32)), (.int (0 : Int32)), (.int (0 : Int32)), (.int (0 : Int32)), (.int (0 : Int32))] (.int (0 : Int32)) := V1546
                refine g_dup X1546 hx 282 (hb hby d9_281) rfl rfl ?_
                refine g_iconst X1546 hx (5 : Int32) 283 (hb hby d9_282) rfl (by decide) ?_
                refine g_aloadN X1546 hx 284 (hb hby d9_283) rfl rfl rfl ?_
                refine g_iconst X1546 hx (5 : Int32) 285 (hb hby d9_284) rfl (by decide) ?_
                refine g_caload X1546 hx hZ e1546 F1548 (by decide) (by decide) (by rw [show ((5 : Int32) : Int32).toNatClampNeg = 5 by decide] <;> rfl) 286 (hb hby d9_285) rfl ?_
                refine g_castore X1546 hx hZ e1546 V1546' 5 (by decide) (by decide) (by show 5 < 11; decide) c5 (own_narc bc5) 287 (hb hby d9_286) rfl ?_
                intro T1557 h1557 X1557 e1557 W1557 V1557
                have F1558 := F1547.wr W1557 ge1493
                have F1559 := F1548.other W1557 ne1491
                have F1560 := F1549.wr W1557
                have F1561 := F1550.other W1557 (Or.inl ne1492)
                have F1562 := F1551.other W1557 (Or.inl ne1492)
                have F1563 := F1552.wr W1557
                have K1565 := K1554.wr W1557 (Or.inr sz1494)
                have N1566 := Fr.snoc X1557 N1555 ge1493
                have Z1567 : n0 ≤ h1557.size := by rw [W1557.size]; exact Z1556
                have V1557' : Arv Z h1557 a1490 k1490 .char (11 : Int32) [(.int c0), (.int c1), (.int c2), (.int c3), (.int c4), (.int c5), (.int (0 : Int32)), (.int (0 : Int32)), (.int (0 : Int32)), (.int (0 : Int32)), (.int (0 : Int32))] (.int (0 : Int32)) := V1557
                refine g_dup X1557 hx 288 (hb hby d9_287) rfl rfl ?_
                refine g_bipush X1557 hx (6 : Int32) 290 (hb hby d9_288) rfl (by decide) ?_
                refine g_aloadN X1557 hx 291 (hb hby d9_290) rfl rfl rfl ?_
                refine g_bipush X1557 hx (6 : Int32) 293 (hb hby d9_291) rfl (by decide) ?_
                refine g_caload X1557 hx hZ e1557 F1559 (by decide) (by decide) (by rw [show ((6 : Int32) : Int32).toNatClampNeg = 6 by decide] <;> rfl) 294 (hb hby d9_293) rfl ?_
                refine g_castore X1557 hx hZ e1557 V1557' 6 (by decide) (by decide) (by show 6 < 11; decide) c6 (own_narc bc6) 295 (hb hby d9_294) rfl ?_
                intro T1568 h1568 X1568 e1568 W1568 V1568
                have F1569 := F1558.wr W1568 ge1493
                have F1570 := F1559.other W1568 ne1491
                have F1571 := F1560.wr W1568
                have F1572 := F1561.other W1568 (Or.inl ne1492)
                have F1573 := F1562.other W1568 (Or.inl ne1492)
                have F1574 := F1563.wr W1568
                have K1576 := K1565.wr W1568 (Or.inr sz1494)
                have N1577 := Fr.snoc X1568 N1566 ge1493
                have Z1578 : n0 ≤ h1568.size := by rw [W1568.size]; exact Z1567
                have V1568' : Arv Z h1568 a1490 k1490 .char (11 : Int32) [(.int c0), (.int c1), (.int c2), (.int c3), (.int c4), (.int c5), (.int c6), (.int (0 : Int32)), (.int (0 : Int32)), (.int (0 : Int32)), (.int (0 : Int32))] (.int (0 : Int32)) := V1568
                refine g_dup X1568 hx 296 (hb hby d9_295) rfl rfl ?_
                refine g_bipush X1568 hx (7 : Int32) 298 (hb hby d9_296) rfl (by decide) ?_
                refine g_aloadN X1568 hx 299 (hb hby d9_298) rfl rfl rfl ?_
                refine g_bipush X1568 hx (7 : Int32) 301 (hb hby d9_299) rfl (by decide) ?_
                refine g_caload X1568 hx hZ e1568 F1570 (by decide) (by decide) (by rw [show ((7 : Int32) : Int32).toNatClampNeg = 7 by decide] <;> rfl) 302 (hb hby d9_301) rfl ?_
                refine g_castore X1568 hx hZ e1568 V1568' 7 (by decide) (by decide) (by show 7 < 11; decide) c7 (own_narc bc7) 303 (hb hby d9_302) rfl ?_
                intro T1579 h1579 X1579 e1579 W1579 V1579
                have F1580 := F1569.wr W1579 ge1493
                have F1581 := F1570.other W1579 ne1491
                have F1582 := F1571.wr W1579
                have F1583 := F1572.other W1579 (Or.inl ne1492)
                have F1584 := F1573.other W1579 (Or.inl ne1492)
                have F1585 := F1574.wr W1579
                have K1587 := K1576.wr W1579 (Or.inr sz1494)
                have N1588 := Fr.snoc X1579 N1577 ge1493
                have Z1589 : n0 ≤ h1579.size := by rw [W1579.size]; exact Z1578
                have V1579' : Arv Z h1579 a1490 k1490 .char (11 : Int32) [(.int c0), (.int c1), (.int c2), (.int c3), (.int c4), (.int c5), (.int c6), (.int c7), (.int (0 : Int32)), (.int (0 : Int32)), (.int (0 : Int32))] (.int (0 : Int32)) := V1579
                refine g_dup X1579 hx 304 (hb hby d9_303) rfl rfl ?_
                refine g_bipush X1579 hx (8 : Int32) 306 (hb hby d9_304) rfl (by decide) ?_
                refine g_aloadN X1579 hx 307 (hb hby d9_306) rfl rfl rfl ?_
                refine g_bipush X1579 hx (8 : Int32) 309 (hb hby d9_307) rfl (by decide) ?_
                refine g_caload X1579 hx hZ e1579 F1581 (by decide) (by decide) (by rw [show ((8 : Int32) : Int32).toNatClampNeg = 8 by decide] <;> rfl) 310 (hb hby d9_309) rfl ?_
                refine g_castore X1579 hx hZ e1579 V1579' 8 (by decide) (by decide) (by show 8 < 11; decide) c8 (own_narc bc8) 311 (hb hby d9_310) rfl ?_
                intro T1590 h1590 X1590 e1590 W1590 V1590
                have F1591 := F1580.wr W1590 ge1493
                have F1592 := F1581.other W1590 ne1491
                have F1593 := F1582.wr W1590
                have F1594 := F1583.other W1590 (Or.inl ne1492)
                have F1595 := F1584.other W1590 (Or.inl ne1492)
                have F1596 := F1585.wr W1590
                have K1598 := K1587.wr W1590 (Or.inr sz1494)
                have N1599 := Fr.snoc X1590 N1588 ge1493
                have Z1600 : n0 ≤ h1590.size := by rw [W1590.size]; exact Z1589
                have V1590' : Arv Z h1590 a1490 k1490 .char (11 : Int32) [(.int c0), (.int c1), (.int c2), (.int c3), (.int c4), (.int c5), (.int c6), (.int c7), (.int c8), (.int (0 : Int32)), (.int (0 : Int32))] (.int (0 : Int32)) := V1590
                refine g_dup X1590 hx 312 (hb hby d9_311) rfl rfl ?_
                refine g_bipush X1590 hx (9 : Int32) 314 (hb hby d9_312) rfl (by decide) ?_
                refine g_aloadN X1590 hx 315 (hb hby d9_314) rfl rfl rfl ?_
                refine g_bipush X1590 hx (9 : Int32) 317 (hb hby d9_315) rfl (by decide) ?_
                refine g_caload X1590 hx hZ e1590 F1592 (by decide) (by decide) (by rw [show ((9 : Int32) : Int32).toNatClampNeg = 9 by decide] <;> rfl) 318 (hb hby d9_317) rfl ?_
                refine g_castore X1590 hx hZ e1590 V1590' 9 (by decide) (by decide) (by show 9 < 11; decide) c9 (own_narc bc9) 319 (hb hby d9_318) rfl ?_
                intro T1601 h1601 X1601 e1601 W1601 V1601
                have F1602 := F1591.wr W1601 ge1493
                have F1603 := F1592.other W1601 ne1491
                have F1604 := F1593.wr W1601
                have F1605 := F1594.other W1601 (Or.inl ne1492)
                have F1606 := F1595.other W1601 (Or.inl ne1492)
                have F1607 := F1596.wr W1601
                have K1609 := K1598.wr W1601 (Or.inr sz1494)
                have N1610 := Fr.snoc X1601 N1599 ge1493
                have Z1611 : n0 ≤ h1601.size := by rw [W1601.size]; exact Z1600
                have V1601' : Arv Z h1601 a1490 k1490 .char (11 : Int32) [(.int c0), (.int c1), (.int c2), (.int c3), (.int c4), (.int c5), (.int c6), (.int c7), (.int c8), (.int c9), (.int (0 : Int32))] (.int (0 : Int32)) := V1601
                refine g_dup X1601 hx 320 (hb hby d9_319) rfl rfl ?_
                refine g_bipush X1601 hx (10 : Int32) 322 (hb hby d9_320) rfl (by decide) ?_
                refine g_aloadN X1601 hx 323 (hb hby d9_322) rfl rfl rfl ?_
                refine g_bipush X1601 hx (10 : Int32) 325 (hb hby d9_323) rfl (by decide) ?_
                refine g_caload X1601 hx hZ e1601 F1603 (by decide) (by decide) (by rw [show ((10 : Int32) : Int32).toNatClampNeg = 10 by decide] <;> rfl) 326 (hb hby d9_325) rfl ?_
                refine g_castore X1601 hx hZ e1601 V1601' 10 (by decide) (by decide) (by show 10 < 11; decide) c10 (own_narc bc10) 327 (hb hby d9_326) rfl ?_
                intro T1612 h1612 X1612 e1612 W1612 V1612
                have F1613 := F1602.wr W1612 ge1493
                have F1614 := F1603.other W1612 ne1491
                have F1615 := F1604.wr W1612
                have F1616 := F1605.other W1612 (Or.inl ne1492)
                have F1617 := F1606.other W1612 (Or.inl ne1492)
                have F1618 := F1607.wr W1612
                have K1620 := K1609.wr W1612 (Or.inr sz1494)
                have N1621 := Fr.snoc X1612 N1610 ge1493
                have Z1622 : n0 ≤ h1612.size := by rw [W1612.size]; exact Z1611
                have V1612' : Arv Z h1612 a1490 k1490 .char (11 : Int32) [(.int c0), (.int c1), (.int c2), (.int c3), (.int c4), (.int c5), (.int c6), (.int c7), (.int c8), (.int c9), (.int c10)] (.int (0 : Int32)) := V1612
                refine g_init X1612 hx hZ rfl hown (hw _ (List.mem_of_getElem? (i := 53) rfl)) (hw _ (List.mem_of_getElem? (i := 54) rfl)) (hw _ (List.mem_of_getElem? (i := 1) rfl)) (hw _ (List.mem_of_getElem? (i := 55) rfl)) (by decide) (rmI1_11 l Z a0 hw a1480 a1490 h1612 n0 Z1622 cst hc F1613 SC k1490 c0 c1 c2 c3 c4 c5 c6 c7 c8 c9 c10 bc0 bc1 bc2 bc3 bc4 bc5 bc6 bc7 bc8 bc9 bc10 F1615 ge1482 ne1492 F1617 F1616 V1612') e1612 (a := a1480) (argsL := [(.ref a1490)]) (rest := [(.ref a1480)]) rfl rfl 1 330 rfl (by rw [hml]; rfl) (lenOf own_pd9 rfl) (Nat.le_refl _) (by decide) (by decide) (by decide) (by decide) (hb hby d9_327) ?_
                intro v1623 T1623 L1623 X1623 hQ1623
                obtain ⟨rfl, N1623, K1623, b, kb, gb, sb, c_, v_, Vb⟩ := hQ1623
                have N1624 := Fr.app N1621 N1623
                have F1625 := F1613.keep K1623 (allS ge1482 all0)
                have F1626 := F1614.keep K1623 (ninS ne1481 nin0)
                have F1627 := F1615.keep K1623
                have F1630 := F1618.keep K1623
                have F1631 := V1612'.keep K1623 (ninS (Ne.symm ne1492) nin0)
                have Z1632 : n0 ≤ T1623.heap.size := Nat.le_trans Z1622 K1623.1
                have K1633 := K1620.trans K1623 (allS (Or.inr sz1483) all0)
                show Go p e below _ T1623 (mkF m 330 #[.val (.int (11 : Int32)), .val (.ref ca)] [(.ref a1480)])
                exact g_retA X1623 hx hlk hret rfl rfl rfl (hb hby d9_330) (by decide) (by decide) rfl ⟨a1480, b, kb, 11, [c0.toInt8.toInt32.toInt8.toInt32, c1.toInt8.toInt32.toInt8.toInt32, c2.toInt8.toInt32.toInt8.toInt32, c3.toInt8.toInt32.toInt8.toInt32, c4.toInt8.toInt32.toInt8.toInt32, c5.toInt8.toInt32.toInt8.toInt32, c6.toInt8.toInt32.toInt8.toInt32, c7.toInt8.toInt32.toInt8.toInt32, c8.toInt8.toInt32.toInt8.toInt32, c9.toInt8.toInt32.toInt8.toInt32, c10.toInt8.toInt32.toInt8.toInt32], rfl, N1624, K1633, ge1482, sz1483, F1627, c_, v_, Vb, (by show (11 : Int32).toInt = 11; decide)⟩
            · skip
              exfalso; revert c1474; decide
          · skip
            exfalso; revert c1471; decide
        · skip
          exfalso; revert c1468; decide
      · skip
        exfalso; revert c1465; decide
    · skip
      exfalso; revert c1462; decide
  · skip
    exfalso; revert c1460; decide
def Q_rmMk_12 (Z : State) (n0 : Nat) (h0 : Heap) (v : Option Value) (h : Heap) (L : List Loc) : Prop := ∃ (r vb : Addr) (kb : ClassId) (z : Int32) (xs : List Int32), v = some (.ref r) ∧ Fr n0 L ∧ Keep h0 h [] ∧ n0 ≤ r ∧ h0.size ≤ r ∧ Exa Z h r "java/lang/String" ∧ Fld Z h r "java/lang/String" "coder" "B" (.int 0) ∧ Fld Z h r "java/lang/String" "value" "[B" (.ref vb) ∧ Arv Z h vb kb .byte z (xs.map Value.int) (.int 0) ∧ z.toInt = (xs.length : Int)
theorem ef_rmMk_12 (ca : Addr) (m : MethodId) : entryFrame m #[(.int 12), (.ref ca)] 2 = mkF m 0 #[.val (.int 12), .val (.ref ca)] [] := by first | (simp [entryFrame, mkF, argsToLocals, Value.category]; done) | rfl
theorem rmMk_12 (l : Launch) (Z : State) (a0 : Array Value) (hw : ∀ d ∈ tables_1, d.before a0 Z = true) (ca : Addr) (h0 : Heap) (n0 : Nat) (Z0 : n0 ≤ h0.size) (cst : Int32) (hc : cst ≠ 0) (O0 : Old Z n0 h0) (SC : Sta Z Z.heap "java/lang/String" "COMPACT_STRINGS" "Z" (.int cst)) (kc : ClassId) (c0 c1 c2 c3 c4 c5 c6 c7 c8 c9 c10 c11 : Int32) (bc0 : 0 ≤ c0.toInt ∧ c0.toInt ≤ 255) (bc1 : 0 ≤ c1.toInt ∧ c1.toInt ≤ 255) (bc2 : 0 ≤ c2.toInt ∧ c2.toInt ≤ 255) (bc3 : 0 ≤ c3.toInt ∧ c3.toInt ≤ 255) (bc4 : 0 ≤ c4.toInt ∧ c4.toInt ≤ 255) (bc5 : 0 ≤ c5.toInt ∧ c5.toInt ≤ 255) (bc6 : 0 ≤ c6.toInt ∧ c6.toInt ≤ 255) (bc7 : 0 ≤ c7.toInt ∧ c7.toInt ≤ 255) (bc8 : 0 ≤ c8.toInt ∧ c8.toInt ≤ 255) (bc9 : 0 ≤ c9.toInt ∧ c9.toInt ≤ 255) (bc10 : 0 ≤ c10.toInt ∧ c10.toInt ≤ 255) (bc11 : 0 ≤ c11.toInt ∧ c11.toInt ≤ 255) (Vc : Arv Z h0 ca kc .char 12 [(.int c0), (.int c1), (.int c2), (.int c3), (.int c4), (.int c5), (.int c6), (.int c7), (.int c8), (.int c9), (.int c10), (.int c11)] (.int 0)) :
    MetFree l (⟨"com/example/dispatchd/dispatchd/store/EventSchemaWithLabelPinLaw", "make", "(I[C)Ljava/lang/String;"⟩ : MethodName) (head1 [Jvm.Cond.code (⟨"com/example/dispatchd/dispatchd/store/EventSchemaWithLabelPinLaw", "make", "(I[C)Ljava/lang/String;"⟩ : MethodName) method_3_code 2 (some (.object "java/lang/String"))] ({ frames := 4, cells := 3, slots := 28, locals := 90 } : Room)) (fun as_ U => as_ = #[(.int 12), (.ref ca)] ∧ Z.Warmed39 U.vm ∧ U.heap = h0) (fun _ _ _ _ _ => True) (fun _ U o U' => ∃ v L, o = .returned v ∧ Q_rmMk_12 Z n0 h0 v U'.heap L ∧ FrameEnd U o U' L ({ frames := 4, cells := 3, slots := 28, locals := 90 } : Room).cells ({ frames := 4, cells := 3, slots := 28, locals := 90 } : Room).slots) := by
  refine own_met own_pf19 (ef_rmMk_12 ca) ?_
  intro p e s m below meth c T0 X0 hx hby hml hret hlk hnm hown hZ e0
  have N0 := Fr.nil n0
  refine g_iloadN X0 hx 1 (hb hby d9_0) rfl rfl ?_
  have ll1635 : ((12 : Int32) : Int32).toInt = 12 := by decide
  refine g_if_ne X0 hx 15 4 (hb hby d9_1) (by decide) (by decide) rfl (fun c1634 => ?_) (fun c1634 => ?_)
  · skip
    refine g_iloadN X0 hx 16 (hb hby d9_15) rfl rfl ?_
    refine g_iconst X0 hx (1 : Int32) 17 (hb hby d9_16) rfl (by decide) ?_
    have ll1637 : ((1 : Int32) : Int32).toInt = 1 := by decide
    have ll1638 : ((12 : Int32) : Int32).toInt = 12 := by decide
    refine g_ic_ne X0 hx 27 20 (hb hby d9_17) (by decide) (by decide) rfl (fun c1636 => ?_) (fun c1636 => ?_)
    · skip
      refine g_iloadN X0 hx 28 (hb hby d9_27) rfl rfl ?_
      refine g_iconst X0 hx (4 : Int32) 29 (hb hby d9_28) rfl (by decide) ?_
      have ll1640 : ((4 : Int32) : Int32).toInt = 4 := by decide
      have ll1641 : ((12 : Int32) : Int32).toInt = 12 := by decide
      refine g_ic_ne X0 hx 67 32 (hb hby d9_29) (by decide) (by decide) rfl (fun c1639 => ?_) (fun c1639 => ?_)
      · skip
        refine g_iloadN X0 hx 68 (hb hby d9_67) rfl rfl ?_
        refine g_iconst X0 hx (5 : Int32) 69 (hb hby d9_68) rfl (by decide) ?_
        have ll1643 : ((5 : Int32) : Int32).toInt = 5 := by decide
        have ll1644 : ((12 : Int32) : Int32).toInt = 12 := by decide
        refine g_ic_ne X0 hx 113 72 (hb hby d9_69) (by decide) (by decide) rfl (fun c1642 => ?_) (fun c1642 => ?_)
        · skip
          refine g_iloadN X0 hx 114 (hb hby d9_113) rfl rfl ?_
          refine g_bipush X0 hx (6 : Int32) 116 (hb hby d9_114) rfl (by decide) ?_
          have ll1646 : ((6 : Int32) : Int32).toInt = 6 := by decide
          have ll1647 : ((12 : Int32) : Int32).toInt = 12 := by decide
          refine g_ic_ne X0 hx 167 119 (hb hby d9_116) (by decide) (by decide) rfl (fun c1645 => ?_) (fun c1645 => ?_)
          · skip
            refine g_iloadN X0 hx 168 (hb hby d9_167) rfl rfl ?_
            refine g_bipush X0 hx (8 : Int32) 170 (hb hby d9_168) rfl (by decide) ?_
            have ll1649 : ((8 : Int32) : Int32).toInt = 8 := by decide
            have ll1650 : ((12 : Int32) : Int32).toInt = 12 := by decide
            refine g_ic_ne X0 hx 237 173 (hb hby d9_170) (by decide) (by decide) rfl (fun c1648 => ?_) (fun c1648 => ?_)
            · skip
              refine g_iloadN X0 hx 238 (hb hby d9_237) rfl rfl ?_
              refine g_bipush X0 hx (11 : Int32) 240 (hb hby d9_238) rfl (by decide) ?_
              have ll1652 : ((11 : Int32) : Int32).toInt = 11 := by decide
              have ll1653 : ((12 : Int32) : Int32).toInt = 12 := by decide
              refine g_ic_ne X0 hx 331 243 (hb hby d9_240) (by decide) (by decide) rfl (fun c1651 => ?_) (fun c1651 => ?_)
              · skip
                refine g_new X0 hx hZ hown (hw _ (List.mem_of_getElem? (i := 52) rfl)) (hw _ (List.mem_of_getElem? (i := 2) rfl)) (hw _ (List.mem_of_getElem? (i := 1) rfl)) e0 334 (hb hby d9_331) rfl (by decide) (by decide) ?_
                intro T1654 h1654 a1654 g1654 X1654 e1654 E1654 A1654 D1654
                have ne1655 : ca ≠ a1654 := Nat.ne_of_lt (by rw [g1654]; exact Vc.lt)
                have ge1656 : n0 ≤ a1654 := by rw [g1654]; exact Z0
                have sz1657 : h0.size ≤ a1654 := by rw [g1654]; exact (Keep.refl h0 []).1
                have F1658 := O0.ext E1654
                have F1659 := Vc.ext E1654
                have K1660 := (Keep.refl h0 []).ext E1654
                have Z1661 : n0 ≤ h1654.size := Nat.le_trans Z0 E1654.1
                have F1662 : Fld Z h1654 a1654 "java/lang/String" "value" "[B" .null := D1654 (Or.inr (hw _ (List.mem_of_getElem? (i := 4) rfl))) (ty := (.array .byte)) (by decide)
                have F1663 : Fld Z h1654 a1654 "java/lang/String" "coder" "B" (.int (0 : Int32)) := D1654 (Or.inr (hw _ (List.mem_of_getElem? (i := 5) rfl))) (ty := .byte) (by decide)
                refine g_dup X1654 hx 335 (hb hby d9_334) rfl rfl ?_
                refine g_aloadN X1654 hx 336 (hb hby d9_335) rfl rfl rfl ?_
                refine g_init X1654 hx hZ rfl hown (hw _ (List.mem_of_getElem? (i := 53) rfl)) (hw _ (List.mem_of_getElem? (i := 54) rfl)) (hw _ (List.mem_of_getElem? (i := 1) rfl)) (hw _ (List.mem_of_getElem? (i := 55) rfl)) (by decide) (rmI1_12 l Z a0 hw a1654 ca h1654 n0 Z1661 cst hc F1658 SC kc c0 c1 c2 c3 c4 c5 c6 c7 c8 c9 c10 c11 bc0 bc1 bc2 bc3 bc4 bc5 bc6 bc7 bc8 bc9 bc10 bc11 A1654 ge1656 (Ne.symm ne1655) F1663 F1662 F1659) e1654 (a := a1654) (argsL := [(.ref ca)]) (rest := [(.ref a1654)]) rfl rfl 1 339 rfl (by rw [hml]; rfl) (lenOf own_pd9 rfl) (Nat.le_refl _) (by decide) (by decide) (by decide) (by decide) (hb hby d9_336) ?_
                intro v1664 T1664 L1664 X1664 hQ1664
                obtain ⟨rfl, N1664, K1664, b, kb, gb, sb, c_, v_, Vb⟩ := hQ1664
                have N1665 := Fr.app N0 N1664
                have F1666 := F1658.keep K1664 (allS ge1656 all0)
                have F1667 := F1659.keep K1664 (ninS ne1655 nin0)
                have F1668 := A1654.keep K1664
                have Z1671 : n0 ≤ T1664.heap.size := Nat.le_trans Z1661 K1664.1
                have K1672 := K1660.trans K1664 (allS (Or.inr sz1657) all0)
                show Go p e below _ T1664 (mkF m 339 #[.val (.int (12 : Int32)), .val (.ref ca)] [(.ref a1654)])
                exact g_retA X1664 hx hlk hret rfl rfl rfl (hb hby d9_339) (by decide) (by decide) rfl ⟨a1654, b, kb, 12, [c0.toInt8.toInt32.toInt8.toInt32, c1.toInt8.toInt32.toInt8.toInt32, c2.toInt8.toInt32.toInt8.toInt32, c3.toInt8.toInt32.toInt8.toInt32, c4.toInt8.toInt32.toInt8.toInt32, c5.toInt8.toInt32.toInt8.toInt32, c6.toInt8.toInt32.toInt8.toInt32, c7.toInt8.toInt32.toInt8.toInt32, c8.toInt8.toInt32.toInt8.toInt32, c9.toInt8.toInt32.toInt8.toInt32, c10.toInt8.toInt32.toInt8.toInt32, c11.toInt8.toInt32.toInt8.toInt32], rfl, N1665, K1672, ge1656, sz1657, F1668, c_, v_, Vb, (by show (12 : Int32).toInt = 12; decide)⟩
              · skip
                exfalso; revert c1651; decide
            · skip
              exfalso; revert c1648; decide
          · skip
            exfalso; revert c1645; decide
        · skip
          exfalso; revert c1642; decide
      · skip
        exfalso; revert c1639; decide
    · skip
      exfalso; revert c1636; decide
  · skip
    exfalso; revert c1634; decide
theorem d21_0 : decode jdk_31_method_10_code 0 = .ok (.aload_n 0, 1) := by decide +kernel
theorem d21_1 : decode jdk_31_method_10_code 1 = .ok (.ifnonnull 11, 3) := by decide +kernel
theorem d21_4 : decode jdk_31_method_10_code 4 = .ok (.new 84, 3) := by decide +kernel
theorem d21_7 : decode jdk_31_method_10_code 7 = .ok (.dup, 1) := by decide +kernel
theorem d21_8 : decode jdk_31_method_10_code 8 = .ok (.invokespecial 86, 3) := by decide +kernel
theorem d21_11 : decode jdk_31_method_10_code 11 = .ok (.athrow, 1) := by decide +kernel
theorem d21_12 : decode jdk_31_method_10_code 12 = .ok (.aload_n 0, 1) := by decide +kernel
theorem d21_13 : decode jdk_31_method_10_code 13 = .ok (.areturn, 1) := by decide +kernel
theorem own_pf20 : plainFor (⟨"java/util/Objects", "requireNonNull", "(Ljava/lang/Object;)Ljava/lang/Object;"⟩ : MethodName) = true := plainFor_of_name (by first | (simp [plainName, overriddenIn]; done) | decide +kernel)
def Q_rmRN (ob : Addr) (n0 : Nat) (h0 : Heap) (v : Option Value) (h : Heap) (L : List Loc) : Prop := v = some (.ref ob) ∧ Fr n0 L ∧ h = h0
theorem ef_rmRN (ob : Addr) (m : MethodId) : entryFrame m #[(.ref ob)] 1 = mkF m 0 #[.val (.ref ob)] [] := by first | (simp [entryFrame, mkF, argsToLocals, Value.category]; done) | rfl
theorem rmRN (l : Launch) (Z : State) (a0 : Array Value) (hw : ∀ d ∈ tables_1, d.before a0 Z = true) (ob : Addr) (h0 : Heap) (n0 : Nat) (Z0 : n0 ≤ h0.size)  :
    MetFree l (⟨"java/util/Objects", "requireNonNull", "(Ljava/lang/Object;)Ljava/lang/Object;"⟩ : MethodName) (head1 [Jvm.Cond.code (⟨"java/util/Objects", "requireNonNull", "(Ljava/lang/Object;)Ljava/lang/Object;"⟩ : MethodName) jdk_31_method_10_code 1 (some (.object "java/lang/Object"))] ({ frames := 0, cells := 0, slots := 0, locals := 0 } : Room)) (fun as_ U => as_ = #[(.ref ob)] ∧ Z.Warmed39 U.vm ∧ U.heap = h0) (fun _ _ _ _ _ => True) (fun _ U o U' => ∃ v L, o = .returned v ∧ Q_rmRN ob n0 h0 v U'.heap L ∧ FrameEnd U o U' L ({ frames := 0, cells := 0, slots := 0, locals := 0 } : Room).cells ({ frames := 0, cells := 0, slots := 0, locals := 0 } : Room).slots) := by
  refine own_met own_pf20 (ef_rmRN ob) ?_
  intro p e s m below meth c T0 X0 hx hby hml hret hlk hnm hown hZ e0
  have N0 := Fr.nil n0
  refine g_aloadN X0 hx 1 (hb hby d21_0) rfl rfl rfl ?_
  refine g_ifnonnull_t X0 hx 12 (hb hby d21_1) (by decide) (by decide) ?_
  refine g_aloadN X0 hx 13 (hb hby d21_12) rfl rfl rfl ?_
  exact g_retA X0 hx hlk hret rfl rfl rfl (hb hby d21_13) (by decide) (by decide) e0 ⟨rfl, N0, rfl⟩
theorem d22_0 : decode jdk_32_method_2_code 0 = .ok (.aload_n 0, 1) := by decide +kernel
theorem d22_1 : decode jdk_32_method_2_code 1 = .ok (.invokespecial 7, 3) := by decide +kernel
theorem d22_4 : decode jdk_32_method_2_code 4 = .ok (.aload_n 0, 1) := by decide +kernel
theorem d22_5 : decode jdk_32_method_2_code 5 = .ok (.aload_n 1, 1) := by decide +kernel
theorem d22_6 : decode jdk_32_method_2_code 6 = .ok (.putfield 13, 3) := by decide +kernel
theorem d22_9 : decode jdk_32_method_2_code 9 = .ok (.return_, 1) := by decide +kernel
theorem own_pf21 : plainFor (⟨"java/util/Optional", "<init>", "(Ljava/lang/Object;)V"⟩ : MethodName) = true := plainFor_of_name (by first | (simp [plainName, overriddenIn]; done) | decide +kernel)
def Q_rmOi (Z : State) (q ob : Addr) (n0 : Nat) (h0 : Heap) (v : Option Value) (h : Heap) (L : List Loc) : Prop := v = none ∧ Fr n0 L ∧ Keep h0 h [q] ∧ Fld Z h q "java/util/Optional" "value" "Ljava/lang/Object;" (.ref ob)
theorem ef_rmOi (q ob : Addr) (m : MethodId) : entryFrame m #[(.ref q), (.ref ob)] 2 = mkF m 0 #[.val (.ref q), .val (.ref ob)] [] := by first | (simp [entryFrame, mkF, argsToLocals, Value.category]; done) | rfl
theorem rmOi (l : Launch) (Z : State) (a0 : Array Value) (hw : ∀ d ∈ tables_1, d.before a0 Z = true) (q ob : Addr) (h0 : Heap) (n0 : Nat) (Z0 : n0 ≤ h0.size) (E : Exa Z h0 q "java/util/Optional") (gq : n0 ≤ q) (F0 : Fld Z h0 q "java/util/Optional" "value" "Ljava/lang/Object;" .null) :
    MetFree l (⟨"java/util/Optional", "<init>", "(Ljava/lang/Object;)V"⟩ : MethodName) (head1 [Jvm.Cond.code (⟨"java/util/Optional", "<init>", "(Ljava/lang/Object;)V"⟩ : MethodName) jdk_32_method_2_code 2 none] ({ frames := 1, cells := 0, slots := 0, locals := 12 } : Room)) (fun as_ U => as_ = #[(.ref q), (.ref ob)] ∧ Z.Warmed39 U.vm ∧ U.heap = h0) (fun _ _ _ _ _ => True) (fun _ U o U' => ∃ v L, o = .returned v ∧ Q_rmOi Z q ob n0 h0 v U'.heap L ∧ FrameEnd U o U' L ({ frames := 1, cells := 0, slots := 0, locals := 12 } : Room).cells ({ frames := 1, cells := 0, slots := 0, locals := 12 } : Room).slots) := by
  refine own_met own_pf21 (ef_rmOi q ob) ?_
  intro p e s m below meth c T0 X0 hx hby hml hret hlk hnm hown hZ e0
  have N0 := Fr.nil n0
  refine g_aloadN X0 hx 1 (hb hby d22_0) rfl rfl rfl ?_
  refine g_objinit X0 hx hZ hown (hw _ (List.mem_of_getElem? (i := 119) rfl)) (hw _ (List.mem_of_getElem? (i := 61) rfl)) (hw _ (List.mem_of_getElem? (i := 62) rfl)) e0 0 4 (hb hby d22_1) rfl (by rw [hml]; rfl) (by decide) (Nat.le_refl _) (by decide) ?_
  intro T1673 X1673 e1673
  refine g_aloadN X1673 hx 5 (hb hby d22_4) rfl rfl rfl ?_
  refine g_aloadN X1673 hx 6 (hb hby d22_5) rfl rfl rfl ?_
  refine g_putF X1673 hx hZ hown (hw _ (List.mem_of_getElem? (i := 120) rfl)) Via.refl e1673 F0 E (Or.inr ⟨(hw _ (List.mem_of_getElem? (i := 121) rfl)), rfl, hnm⟩) (hw _ (List.mem_of_getElem? (i := 110) rfl)) (ty := (.object "java/lang/Object")) (by decide) rfl rfl 9 (hb hby d22_6) rfl ?_
  intro T1674 h1674 X1674 e1674 W1674
  have F1675 : Fld Z h1674 q "java/util/Optional" "value" "Ljava/lang/Object;" (.ref ob) := F0.same W1674
  have F1676 := E.wr W1674
  have K1677 := (Keep.refl h0 [q]).wr W1674 (Or.inl (List.mem_of_getElem? (i := 0) rfl))
  have N1678 := Fr.snoc X1674 N0 gq
  have Z1679 : n0 ≤ h1674.size := by rw [W1674.size]; exact Z0
  exact g_retV X1674 hx hlk hret (hb hby d22_9) (by decide) (by decide) e1674 ⟨rfl, N1678, K1677, F1675⟩
theorem d20_0 : decode jdk_32_method_3_code 0 = .ok (.new 2, 3) := by decide +kernel
theorem d20_3 : decode jdk_32_method_3_code 3 = .ok (.dup, 1) := by decide +kernel
theorem d20_4 : decode jdk_32_method_3_code 4 = .ok (.aload_n 0, 1) := by decide +kernel
theorem d20_5 : decode jdk_32_method_3_code 5 = .ok (.invokestatic 17, 3) := by decide +kernel
theorem d20_8 : decode jdk_32_method_3_code 8 = .ok (.invokespecial 23, 3) := by decide +kernel
theorem d20_11 : decode jdk_32_method_3_code 11 = .ok (.areturn, 1) := by decide +kernel
theorem own_pf22 : plainFor (⟨"java/util/Optional", "of", "(Ljava/lang/Object;)Ljava/util/Optional;"⟩ : MethodName) = true := plainFor_of_name (by first | (simp [plainName, overriddenIn]; done) | decide +kernel)
def Q_rmOf (Z : State) (ob : Addr) (n0 : Nat) (h0 : Heap) (v : Option Value) (h : Heap) (L : List Loc) : Prop := ∃ q : Addr, v = some (.ref q) ∧ Fr n0 L ∧ Keep h0 h [] ∧ Exa Z h q "java/util/Optional" ∧ Fld Z h q "java/util/Optional" "value" "Ljava/lang/Object;" (.ref ob)
theorem ef_rmOf (ob : Addr) (m : MethodId) : entryFrame m #[(.ref ob)] 1 = mkF m 0 #[.val (.ref ob)] [] := by first | (simp [entryFrame, mkF, argsToLocals, Value.category]; done) | rfl
theorem rmOf (l : Launch) (Z : State) (a0 : Array Value) (hw : ∀ d ∈ tables_1, d.before a0 Z = true) (ob : Addr) (h0 : Heap) (n0 : Nat) (Z0 : n0 ≤ h0.size)  :
    MetFree l (⟨"java/util/Optional", "of", "(Ljava/lang/Object;)Ljava/util/Optional;"⟩ : MethodName) (head1 [Jvm.Cond.code (⟨"java/util/Optional", "of", "(Ljava/lang/Object;)Ljava/util/Optional;"⟩ : MethodName) jdk_32_method_3_code 1 (some (.object "java/util/Optional"))] ({ frames := 2, cells := 1, slots := 1, locals := 40 } : Room)) (fun as_ U => as_ = #[(.ref ob)] ∧ Z.Warmed39 U.vm ∧ U.heap = h0) (fun _ _ _ _ _ => True) (fun _ U o U' => ∃ v L, o = .returned v ∧ Q_rmOf Z ob n0 h0 v U'.heap L ∧ FrameEnd U o U' L ({ frames := 2, cells := 1, slots := 1, locals := 40 } : Room).cells ({ frames := 2, cells := 1, slots := 1, locals := 40 } : Room).slots) := by
  refine own_met own_pf22 (ef_rmOf ob) ?_
  intro p e s m below meth c T0 X0 hx hby hml hret hlk hnm hown hZ e0
  have N0 := Fr.nil n0
  refine g_new X0 hx hZ hown (hw _ (List.mem_of_getElem? (i := 109) rfl)) (hw _ (List.mem_of_getElem? (i := 110) rfl)) (hw _ (List.mem_of_getElem? (i := 107) rfl)) e0 3 (hb hby d20_0) rfl (by decide) (by decide) ?_
  intro T1680 h1680 a1680 g1680 X1680 e1680 E1680 A1680 D1680
  have ge1681 : n0 ≤ a1680 := by rw [g1680]; exact Z0
  have sz1682 : h0.size ≤ a1680 := by rw [g1680]; exact (Keep.refl h0 []).1
  have K1683 := (Keep.refl h0 []).ext E1680
  have Z1684 : n0 ≤ h1680.size := Nat.le_trans Z0 E1680.1
  have F1685 : Fld Z h1680 a1680 "java/util/Optional" "value" "Ljava/lang/Object;" .null := D1680 (Or.inr (hw _ (List.mem_of_getElem? (i := 121) rfl))) (ty := (.object "java/lang/Object")) (by decide)
  refine g_dup X1680 hx 4 (hb hby d20_3) rfl rfl ?_
  refine g_aloadN X1680 hx 5 (hb hby d20_4) rfl rfl rfl ?_
  refine g_static X1680 hx hZ hown (hw _ (List.mem_of_getElem? (i := 111) rfl)) (hw _ (List.mem_of_getElem? (i := 112) rfl)) (hw _ (List.mem_of_getElem? (i := 113) rfl)) (hw _ (List.mem_of_getElem? (i := 114) rfl)) (by decide) (rmRN l Z a0 hw ob h1680 n0 Z1684) e1680 (argsL := [(.ref ob)]) (rest := [(.ref a1680), (.ref a1680)]) rfl rfl 2 8 rfl (by rw [hml]; rfl) (lenOf own_pd21 rfl) (Nat.le_refl _) (by decide) (by decide) (by decide) (by decide) (hb hby d20_5) ?_
  intro v1686 T1686 L1686 X1686 hQ1686
  obtain ⟨rfl, N1686, q1686⟩ := hQ1686
  have N1687 := Fr.app N0 N1686
  show Go p e below _ T1686 (mkF m 8 #[.val (.ref ob)] [(.ref ob), (.ref a1680), (.ref a1680)])
  refine g_init X1686 hx hZ rfl hown (hw _ (List.mem_of_getElem? (i := 115) rfl)) (hw _ (List.mem_of_getElem? (i := 116) rfl)) (hw _ (List.mem_of_getElem? (i := 107) rfl)) (hw _ (List.mem_of_getElem? (i := 118) rfl)) (by decide) (rmOi l Z a0 hw a1680 ob h1680 n0 Z1684 A1680 ge1681 F1685) q1686 (a := a1680) (argsL := [(.ref ob)]) (rest := [(.ref a1680)]) rfl rfl 1 11 rfl (by rw [hml]; rfl) (lenOf own_pd22 rfl) (Nat.le_refl _) (by decide) (by decide) (by decide) (by decide) (hb hby d20_8) ?_
  intro v1688 T1688 L1688 X1688 hQ1688
  obtain ⟨rfl, N1688, K1688, v_⟩ := hQ1688
  have N1689 := Fr.app N1687 N1688
  have F1690 := A1680.keep K1688
  have Z1692 : n0 ≤ T1688.heap.size := Nat.le_trans Z1684 K1688.1
  have K1693 := K1683.trans K1688 (allS (Or.inr sz1682) all0)
  show Go p e below _ T1688 (mkF m 11 #[.val (.ref ob)] [(.ref a1680)])
  exact g_retA X1688 hx hlk hret rfl rfl rfl (hb hby d20_11) (by decide) (by decide) rfl ⟨a1680, rfl, N1689, K1693, F1690, v_⟩
theorem d24_0 : decode jdk_32_method_6_code 0 = .ok (.aload_n 0, 1) := by decide +kernel
theorem d24_1 : decode jdk_32_method_6_code 1 = .ok (.getfield 13, 3) := by decide +kernel
theorem d24_4 : decode jdk_32_method_6_code 4 = .ok (.ifnull 7, 3) := by decide +kernel
theorem d24_7 : decode jdk_32_method_6_code 7 = .ok (.iconst 1, 1) := by decide +kernel
theorem d24_8 : decode jdk_32_method_6_code 8 = .ok (.goto 4, 3) := by decide +kernel
theorem d24_11 : decode jdk_32_method_6_code 11 = .ok (.iconst 0, 1) := by decide +kernel
theorem d24_12 : decode jdk_32_method_6_code 12 = .ok (.ireturn, 1) := by decide +kernel
theorem own_pf23 : plainFor (⟨"java/util/Optional", "isPresent", "()Z"⟩ : MethodName) = true := plainFor_of_name (by first | (simp [plainName, overriddenIn]; done) | decide +kernel)
def Q_rmIPP (n0 : Nat) (h0 : Heap) (v : Option Value) (h : Heap) (L : List Loc) : Prop := v = some (.int 1) ∧ Fr n0 L ∧ h = h0
theorem ef_rmIPP (q : Addr) (m : MethodId) : entryFrame m #[(.ref q)] 1 = mkF m 0 #[.val (.ref q)] [] := by first | (simp [entryFrame, mkF, argsToLocals, Value.category]; done) | rfl
theorem rmIPP (l : Launch) (Z : State) (a0 : Array Value) (hw : ∀ d ∈ tables_1, d.before a0 Z = true) (q : Addr) (h0 : Heap) (n0 : Nat) (Z0 : n0 ≤ h0.size) (ob : Addr) (F0 : Fld Z h0 q "java/util/Optional" "value" "Ljava/lang/Object;" (.ref ob)) :
    MetFree l (⟨"java/util/Optional", "isPresent", "()Z"⟩ : MethodName) (head1 [Jvm.Cond.code (⟨"java/util/Optional", "isPresent", "()Z"⟩ : MethodName) jdk_32_method_6_code 1 (some .boolean)] ({ frames := 0, cells := 0, slots := 0, locals := 0 } : Room)) (fun as_ U => as_ = #[(.ref q)] ∧ Z.Warmed39 U.vm ∧ U.heap = h0) (fun _ _ _ _ _ => True) (fun _ U o U' => ∃ v L, o = .returned v ∧ Q_rmIPP n0 h0 v U'.heap L ∧ FrameEnd U o U' L ({ frames := 0, cells := 0, slots := 0, locals := 0 } : Room).cells ({ frames := 0, cells := 0, slots := 0, locals := 0 } : Room).slots) := by
  refine own_met own_pf23 (ef_rmIPP q) ?_
  intro p e s m below meth c T0 X0 hx hby hml hret hlk hnm hown hZ e0
  have N0 := Fr.nil n0
  refine g_aloadN X0 hx 1 (hb hby d24_0) rfl rfl rfl ?_
  refine g_getF X0 hx hZ hown (hw _ (List.mem_of_getElem? (i := 120) rfl)) Via.refl e0 F0 4 (hb hby d24_1) rfl ?_
  intro T1694 X1694 e1694
  refine g_ifnull_f X1694 hx 7 (hb hby d24_4) rfl ?_
  refine g_iconst X1694 hx (1 : Int32) 8 (hb hby d24_7) rfl (by decide) ?_
  refine g_goto X1694 hx 12 (hb hby d24_8) (by decide) (by decide) ?_
  exact g_retZ X1694 hx hlk hret (hb hby d24_12) (by decide) (by decide) e1694 ⟨rfl, N0, rfl⟩
def Q_rmIPA (n0 : Nat) (h0 : Heap) (v : Option Value) (h : Heap) (L : List Loc) : Prop := v = some (.int 0) ∧ Fr n0 L ∧ h = h0
theorem ef_rmIPA (q : Addr) (m : MethodId) : entryFrame m #[(.ref q)] 1 = mkF m 0 #[.val (.ref q)] [] := by first | (simp [entryFrame, mkF, argsToLocals, Value.category]; done) | rfl
theorem rmIPA (l : Launch) (Z : State) (a0 : Array Value) (hw : ∀ d ∈ tables_1, d.before a0 Z = true) (q : Addr) (h0 : Heap) (n0 : Nat) (Z0 : n0 ≤ h0.size) (F0 : Fld Z h0 q "java/util/Optional" "value" "Ljava/lang/Object;" .null) :
    MetFree l (⟨"java/util/Optional", "isPresent", "()Z"⟩ : MethodName) (head1 [Jvm.Cond.code (⟨"java/util/Optional", "isPresent", "()Z"⟩ : MethodName) jdk_32_method_6_code 1 (some .boolean)] ({ frames := 0, cells := 0, slots := 0, locals := 0 } : Room)) (fun as_ U => as_ = #[(.ref q)] ∧ Z.Warmed39 U.vm ∧ U.heap = h0) (fun _ _ _ _ _ => True) (fun _ U o U' => ∃ v L, o = .returned v ∧ Q_rmIPA n0 h0 v U'.heap L ∧ FrameEnd U o U' L ({ frames := 0, cells := 0, slots := 0, locals := 0 } : Room).cells ({ frames := 0, cells := 0, slots := 0, locals := 0 } : Room).slots) := by
  refine own_met own_pf23 (ef_rmIPA q) ?_
  intro p e s m below meth c T0 X0 hx hby hml hret hlk hnm hown hZ e0
  have N0 := Fr.nil n0
  refine g_aloadN X0 hx 1 (hb hby d24_0) rfl rfl rfl ?_
  refine g_getF X0 hx hZ hown (hw _ (List.mem_of_getElem? (i := 120) rfl)) Via.refl e0 F0 4 (hb hby d24_1) rfl ?_
  intro T1695 X1695 e1695
  refine g_ifnull_t X1695 hx 11 (hb hby d24_4) (by decide) (by decide) ?_
  refine g_iconst X1695 hx (0 : Int32) 12 (hb hby d24_11) rfl (by decide) ?_
  exact g_retZ X1695 hx hlk hret (hb hby d24_12) (by decide) (by decide) e1695 ⟨rfl, N0, rfl⟩
theorem d25_0 : decode jdk_32_method_5_code 0 = .ok (.aload_n 0, 1) := by decide +kernel
theorem d25_1 : decode jdk_32_method_5_code 1 = .ok (.getfield 13, 3) := by decide +kernel
theorem d25_4 : decode jdk_32_method_5_code 4 = .ok (.ifnonnull 13, 3) := by decide +kernel
theorem d25_7 : decode jdk_32_method_5_code 7 = .ok (.new 26, 3) := by decide +kernel
theorem d25_10 : decode jdk_32_method_5_code 10 = .ok (.dup, 1) := by decide +kernel
theorem d25_11 : decode jdk_32_method_5_code 11 = .ok (.ldc 28, 2) := by decide +kernel
theorem d25_13 : decode jdk_32_method_5_code 13 = .ok (.invokespecial 30, 3) := by decide +kernel
theorem d25_16 : decode jdk_32_method_5_code 16 = .ok (.athrow, 1) := by decide +kernel
theorem d25_17 : decode jdk_32_method_5_code 17 = .ok (.aload_n 0, 1) := by decide +kernel
theorem d25_18 : decode jdk_32_method_5_code 18 = .ok (.getfield 13, 3) := by decide +kernel
theorem d25_21 : decode jdk_32_method_5_code 21 = .ok (.areturn, 1) := by decide +kernel
theorem own_pf24 : plainFor (⟨"java/util/Optional", "get", "()Ljava/lang/Object;"⟩ : MethodName) = true := plainFor_of_name (by first | (simp [plainName, overriddenIn]; done) | decide +kernel)
def Q_rmGt (ob : Addr) (n0 : Nat) (h0 : Heap) (v : Option Value) (h : Heap) (L : List Loc) : Prop := v = some (.ref ob) ∧ Fr n0 L ∧ h = h0
theorem ef_rmGt (q : Addr) (m : MethodId) : entryFrame m #[(.ref q)] 1 = mkF m 0 #[.val (.ref q)] [] := by first | (simp [entryFrame, mkF, argsToLocals, Value.category]; done) | rfl
theorem rmGt (l : Launch) (Z : State) (a0 : Array Value) (hw : ∀ d ∈ tables_1, d.before a0 Z = true) (q : Addr) (h0 : Heap) (n0 : Nat) (Z0 : n0 ≤ h0.size) (ob : Addr) (F0 : Fld Z h0 q "java/util/Optional" "value" "Ljava/lang/Object;" (.ref ob)) :
    MetFree l (⟨"java/util/Optional", "get", "()Ljava/lang/Object;"⟩ : MethodName) (head1 [Jvm.Cond.code (⟨"java/util/Optional", "get", "()Ljava/lang/Object;"⟩ : MethodName) jdk_32_method_5_code 1 (some (.object "java/lang/Object"))] ({ frames := 0, cells := 0, slots := 0, locals := 0 } : Room)) (fun as_ U => as_ = #[(.ref q)] ∧ Z.Warmed39 U.vm ∧ U.heap = h0) (fun _ _ _ _ _ => True) (fun _ U o U' => ∃ v L, o = .returned v ∧ Q_rmGt ob n0 h0 v U'.heap L ∧ FrameEnd U o U' L ({ frames := 0, cells := 0, slots := 0, locals := 0 } : Room).cells ({ frames := 0, cells := 0, slots := 0, locals := 0 } : Room).slots) := by
  refine own_met own_pf24 (ef_rmGt q) ?_
  intro p e s m below meth c T0 X0 hx hby hml hret hlk hnm hown hZ e0
  have N0 := Fr.nil n0
  refine g_aloadN X0 hx 1 (hb hby d25_0) rfl rfl rfl ?_
  refine g_getF X0 hx hZ hown (hw _ (List.mem_of_getElem? (i := 120) rfl)) Via.refl e0 F0 4 (hb hby d25_1) rfl ?_
  intro T1696 X1696 e1696
  refine g_ifnonnull_t X1696 hx 17 (hb hby d25_4) (by decide) (by decide) ?_
  refine g_aloadN X1696 hx 18 (hb hby d25_17) rfl rfl rfl ?_
  refine g_getF X1696 hx hZ hown (hw _ (List.mem_of_getElem? (i := 120) rfl)) Via.refl e1696 F0 21 (hb hby d25_18) rfl ?_
  intro T1697 X1697 e1697
  exact g_retA X1697 hx hlk hret rfl rfl rfl (hb hby d25_21) (by decide) (by decide) e1697 ⟨rfl, N0, rfl⟩
def OldW (Z : State) (cst : Int32) (va ro cl em lr lc vr vc : Addr) (kv kr kc_ : ClassId) (xr xc : List Int32) : Prop := (cst ≠ 0) ∧ (Sta Z Z.heap "java/lang/String" "COMPACT_STRINGS" "Z" (.int cst)) ∧ (Sta Z Z.heap "com/example/dispatchd/dispatchd/store/EventSchema" "$VALUES" "[Lcom/example/dispatchd/dispatchd/store/EventSchema;" (.ref va)) ∧ (Sta Z Z.heap "com/example/dispatchd/dispatchd/store/EventSchema" "ROUTER" "Lcom/example/dispatchd/dispatchd/store/EventSchema;" (.ref ro)) ∧ (Sta Z Z.heap "com/example/dispatchd/dispatchd/store/EventSchema" "CLOUDEVENTS" "Lcom/example/dispatchd/dispatchd/store/EventSchema;" (.ref cl)) ∧ (Sta Z Z.heap "java/util/Optional" "EMPTY" "Ljava/util/Optional;" (.ref em)) ∧ (Exa Z Z.heap va "[Lcom/example/dispatchd/dispatchd/store/EventSchema;") ∧ (Arv Z Z.heap va kv (.object "com/example/dispatchd/dispatchd/store/EventSchema") 2 [.ref ro, .ref cl] .null) ∧ (Exa Z Z.heap ro "com/example/dispatchd/dispatchd/store/EventSchema") ∧ (Fld Z Z.heap ro "com/example/dispatchd/dispatchd/store/EventSchema" "label" "Ljava/lang/String;" (.ref lr)) ∧ (Exa Z Z.heap lr "java/lang/String") ∧ (Fld Z Z.heap lr "java/lang/String" "coder" "B" (.int 0)) ∧ (Fld Z Z.heap lr "java/lang/String" "value" "[B" (.ref vr)) ∧ (Arv Z Z.heap vr kr .byte 5 (xr.map Value.int) (.int 0)) ∧ (xr.length = 5) ∧ (Exa Z Z.heap cl "com/example/dispatchd/dispatchd/store/EventSchema") ∧ (Fld Z Z.heap cl "com/example/dispatchd/dispatchd/store/EventSchema" "label" "Ljava/lang/String;" (.ref lc)) ∧ (Exa Z Z.heap lc "java/lang/String") ∧ (Fld Z Z.heap lc "java/lang/String" "coder" "B" (.int 0)) ∧ (Fld Z Z.heap lc "java/lang/String" "value" "[B" (.ref vc)) ∧ (Arv Z Z.heap vc kc_ .byte 11 (xc.map Value.int) (.int 0)) ∧ (xc.length = 11) ∧ (Exa Z Z.heap em "java/util/Optional") ∧ (Fld Z Z.heap em "java/util/Optional" "value" "Ljava/lang/Object;" .null)
theorem d17_0 : decode prog_15_method_1_code 0 = .ok (.getstatic 10, 3) := by decide +kernel
theorem d17_3 : decode prog_15_method_1_code 3 = .ok (.invokevirtual 14, 3) := by decide +kernel
theorem d17_6 : decode prog_15_method_1_code 6 = .ok (.checkcast 15, 3) := by decide +kernel
theorem d17_9 : decode prog_15_method_1_code 9 = .ok (.areturn, 1) := by decide +kernel
theorem own_pf25 : plainFor (⟨"com/example/dispatchd/dispatchd/store/EventSchema", "values", "()[Lcom/example/dispatchd/dispatchd/store/EventSchema;"⟩ : MethodName) = true := plainFor_of_name (by first | (simp [plainName, overriddenIn]; done) | decide +kernel)
def Q_rmVa (Z : State) (ro cl : Addr) (kv : ClassId) (n0 : Nat) (h0 : Heap) (v : Option Value) (h : Heap) (L : List Loc) : Prop := ∃ b : Addr, v = some (.ref b) ∧ Fr n0 L ∧ Keep h0 h [] ∧ Arv Z h b kv (.object "com/example/dispatchd/dispatchd/store/EventSchema") 2 [.ref ro, .ref cl] .null
theorem ef_rmVa  (m : MethodId) : entryFrame m #[] 0 = mkF m 0 #[] [] := by first | (simp [entryFrame, mkF, argsToLocals, Value.category]; done) | rfl
theorem rmVa (l : Launch) (Z : State) (a0 : Array Value) (hw : ∀ d ∈ tables_1, d.before a0 Z = true)  (h0 : Heap) (n0 : Nat) (Z0 : n0 ≤ h0.size) (cst : Int32) (va ro cl em lr lc vr vc : Addr) (kv kr kc_ : ClassId) (xr xc : List Int32) (WO : OldW Z cst va ro cl em lr lc vr vc kv kr kc_ xr xc) (O0 : Old Z n0 h0) :
    MetFree l (⟨"com/example/dispatchd/dispatchd/store/EventSchema", "values", "()[Lcom/example/dispatchd/dispatchd/store/EventSchema;"⟩ : MethodName) (head1 [Jvm.Cond.code (⟨"com/example/dispatchd/dispatchd/store/EventSchema", "values", "()[Lcom/example/dispatchd/dispatchd/store/EventSchema;"⟩ : MethodName) prog_15_method_1_code 0 (some (.array (.object "com/example/dispatchd/dispatchd/store/EventSchema")))] ({ frames := 1, cells := 1, slots := 2, locals := 20 } : Room)) (fun as_ U => as_ = #[] ∧ Z.Warmed39 U.vm ∧ U.heap = h0) (fun _ _ _ _ _ => True) (fun _ U o U' => ∃ v L, o = .returned v ∧ Q_rmVa Z ro cl kv n0 h0 v U'.heap L ∧ FrameEnd U o U' L ({ frames := 1, cells := 1, slots := 2, locals := 20 } : Room).cells ({ frames := 1, cells := 1, slots := 2, locals := 20 } : Room).slots) := by
  refine own_met own_pf25 (ef_rmVa ) ?_
  intro p e s m below meth c T0 X0 hx hby hml hret hlk hnm hown hZ e0
  have N0 := Fr.nil n0
  obtain ⟨hc, SC, SV, SRo, SCl, SE, zEv, zVv, zEro, zLro, zElr, zClr, zFlr, zVvr, hlxr, zEcl, zLcl, zElc, zClc, zFlc, zVvc, hlxc, zEe, zFe⟩ := WO
  have Ev := zEv.ext O0.2
  have Vv := zVv.ext O0.2
  have Ero := zEro.ext O0.2
  have Lro := zLro.ext O0.2
  have Elr := zElr.ext O0.2
  have Clr := zClr.ext O0.2
  have Flr := zFlr.ext O0.2
  have Vvr := zVvr.ext O0.2
  have Ecl := zEcl.ext O0.2
  have Lcl := zLcl.ext O0.2
  have Elc := zElc.ext O0.2
  have Clc := zClc.ext O0.2
  have Flc := zFlc.ext O0.2
  have Vvc := zVvc.ext O0.2
  have Ee := zEe.ext O0.2
  have Fe := zFe.ext O0.2
  refine g_getS X0 hx hZ hown (hw _ (List.mem_of_getElem? (i := 80) rfl)) Via.refl e0 (Sta.ext O0.2 SV) 3 (hb hby d17_0) rfl ?_
  intro T1698 X1698 e1698
  refine g_clone X1698 hx hZ hown (hw _ (List.mem_of_getElem? (i := 82) rfl)) (hw _ (List.mem_of_getElem? (i := 83) rfl)) (hw _ (List.mem_of_getElem? (i := 87) rfl)) (hw _ (List.mem_of_getElem? (i := 85) rfl)) (hw _ (List.mem_of_getElem? (i := 86) rfl)) (hw _ (List.mem_of_getElem? (i := 88) rfl)) e1698 Vv Ev 0 2 6 (hb hby d17_3) rfl (by rw [hml]; rfl) (by decide) (Nat.le_refl _) (by decide) (by decide) (by decide) (by decide) ?_
  intro T1699 h1699 a1699 g1699 X1699 e1699 E1699 V1699 A1699
  have ne1700 : va ≠ a1699 := Nat.ne_of_lt (by rw [g1699]; exact Ev.lt)
  have ne1701 : ro ≠ a1699 := Nat.ne_of_lt (by rw [g1699]; exact Ero.lt)
  have ne1702 : lr ≠ a1699 := Nat.ne_of_lt (by rw [g1699]; exact Elr.lt)
  have ne1703 : vr ≠ a1699 := Nat.ne_of_lt (by rw [g1699]; exact Vvr.lt)
  have ne1704 : cl ≠ a1699 := Nat.ne_of_lt (by rw [g1699]; exact Ecl.lt)
  have ne1705 : lc ≠ a1699 := Nat.ne_of_lt (by rw [g1699]; exact Elc.lt)
  have ne1706 : vc ≠ a1699 := Nat.ne_of_lt (by rw [g1699]; exact Vvc.lt)
  have ne1707 : em ≠ a1699 := Nat.ne_of_lt (by rw [g1699]; exact Ee.lt)
  have ge1708 : n0 ≤ a1699 := by rw [g1699]; exact Z0
  have sz1709 : h0.size ≤ a1699 := by rw [g1699]; exact (Keep.refl h0 []).1
  have F1710 := O0.ext E1699
  have F1711 := Ev.ext E1699
  have F1712 := Vv.ext E1699
  have F1713 := Ero.ext E1699
  have F1714 := Lro.ext E1699
  have F1715 := Elr.ext E1699
  have F1716 := Clr.ext E1699
  have F1717 := Flr.ext E1699
  have F1718 := Vvr.ext E1699
  have F1719 := Ecl.ext E1699
  have F1720 := Lcl.ext E1699
  have F1721 := Elc.ext E1699
  have F1722 := Clc.ext E1699
  have F1723 := Flc.ext E1699
  have F1724 := Vvc.ext E1699
  have F1725 := Ee.ext E1699
  have F1726 := Fe.ext E1699
  have K1727 := (Keep.refl h0 []).ext E1699
  have Z1728 : n0 ≤ h1699.size := Nat.le_trans Z0 E1699.1
  refine g_cast X1699 hx hZ hown (hw _ (List.mem_of_getElem? (i := 92) rfl)) e1699 (Ins.self A1699) 9 (hb hby d17_6) rfl ?_
  intro T1729 X1729 e1729
  exact g_retA X1729 hx hlk hret rfl rfl rfl (hb hby d17_9) (by decide) (by decide) e1729 ⟨a1699, rfl, N0, K1727, V1699⟩
theorem d26_0 : decode jdk_32_method_1_code 0 = .ok (.getstatic 1, 3) := by decide +kernel
theorem d26_3 : decode jdk_32_method_1_code 3 = .ok (.astore_n 0, 1) := by decide +kernel
theorem d26_4 : decode jdk_32_method_1_code 4 = .ok (.aload_n 0, 1) := by decide +kernel
theorem d26_5 : decode jdk_32_method_1_code 5 = .ok (.areturn, 1) := by decide +kernel
theorem own_pf26 : plainFor (⟨"java/util/Optional", "empty", "()Ljava/util/Optional;"⟩ : MethodName) = true := plainFor_of_name (by first | (simp [plainName, overriddenIn]; done) | decide +kernel)
def Q_rmEm (em : Addr) (n0 : Nat) (h0 : Heap) (v : Option Value) (h : Heap) (L : List Loc) : Prop := v = some (.ref em) ∧ Fr n0 L ∧ h = h0
theorem ef_rmEm  (m : MethodId) : entryFrame m #[] 1 = mkF m 0 #[.unset] [] := by first | (simp [entryFrame, mkF, argsToLocals, Value.category]; done) | rfl
theorem rmEm (l : Launch) (Z : State) (a0 : Array Value) (hw : ∀ d ∈ tables_1, d.before a0 Z = true)  (h0 : Heap) (n0 : Nat) (Z0 : n0 ≤ h0.size) (cst : Int32) (va ro cl em lr lc vr vc : Addr) (kv kr kc_ : ClassId) (xr xc : List Int32) (WO : OldW Z cst va ro cl em lr lc vr vc kv kr kc_ xr xc) (O0 : Old Z n0 h0) :
    MetFree l (⟨"java/util/Optional", "empty", "()Ljava/util/Optional;"⟩ : MethodName) (head1 [Jvm.Cond.code (⟨"java/util/Optional", "empty", "()Ljava/util/Optional;"⟩ : MethodName) jdk_32_method_1_code 1 (some (.object "java/util/Optional"))] ({ frames := 0, cells := 0, slots := 0, locals := 0 } : Room)) (fun as_ U => as_ = #[] ∧ Z.Warmed39 U.vm ∧ U.heap = h0) (fun _ _ _ _ _ => True) (fun _ U o U' => ∃ v L, o = .returned v ∧ Q_rmEm em n0 h0 v U'.heap L ∧ FrameEnd U o U' L ({ frames := 0, cells := 0, slots := 0, locals := 0 } : Room).cells ({ frames := 0, cells := 0, slots := 0, locals := 0 } : Room).slots) := by
  refine own_met own_pf26 (ef_rmEm ) ?_
  intro p e s m below meth c T0 X0 hx hby hml hret hlk hnm hown hZ e0
  have N0 := Fr.nil n0
  obtain ⟨hc, SC, SV, SRo, SCl, SE, zEv, zVv, zEro, zLro, zElr, zClr, zFlr, zVvr, hlxr, zEcl, zLcl, zElc, zClc, zFlc, zVvc, hlxc, zEe, zFe⟩ := WO
  have Ev := zEv.ext O0.2
  have Vv := zVv.ext O0.2
  have Ero := zEro.ext O0.2
  have Lro := zLro.ext O0.2
  have Elr := zElr.ext O0.2
  have Clr := zClr.ext O0.2
  have Flr := zFlr.ext O0.2
  have Vvr := zVvr.ext O0.2
  have Ecl := zEcl.ext O0.2
  have Lcl := zLcl.ext O0.2
  have Elc := zElc.ext O0.2
  have Clc := zClc.ext O0.2
  have Flc := zFlc.ext O0.2
  have Vvc := zVvc.ext O0.2
  have Ee := zEe.ext O0.2
  have Fe := zFe.ext O0.2
  refine g_getS X0 hx hZ hown (hw _ (List.mem_of_getElem? (i := 144) rfl)) Via.refl e0 (Sta.ext O0.2 SE) 3 (hb hby d26_0) rfl ?_
  intro T1730 X1730 e1730
  refine g_astoreN (l' := #[.val (.ref em)]) X1730 hx 4 (hb hby d26_3) rfl rfl rfl ?_
  refine g_aloadN X1730 hx 5 (hb hby d26_4) rfl rfl rfl ?_
  exact g_retA X1730 hx hlk hret rfl rfl rfl (hb hby d26_5) (by decide) (by decide) e1730 ⟨rfl, N0, rfl⟩
theorem d23_0 : decode prog_15_method_4_code 0 = .ok (.aload_n 0, 1) := by decide +kernel
theorem d23_1 : decode prog_15_method_4_code 1 = .ok (.getfield 29, 3) := by decide +kernel
theorem d23_4 : decode prog_15_method_4_code 4 = .ok (.areturn, 1) := by decide +kernel
theorem own_pf27 : plainFor (⟨"com/example/dispatchd/dispatchd/store/EventSchema", "label", "()Ljava/lang/String;"⟩ : MethodName) = true := plainFor_of_name (by first | (simp [plainName, overriddenIn]; done) | decide +kernel)
def Q_rmLb (b : Addr) (n0 : Nat) (h0 : Heap) (v : Option Value) (h : Heap) (L : List Loc) : Prop := v = some (.ref b) ∧ Fr n0 L ∧ h = h0
theorem ef_rmLb (o_ : Addr) (m : MethodId) : entryFrame m #[(.ref o_)] 1 = mkF m 0 #[.val (.ref o_)] [] := by first | (simp [entryFrame, mkF, argsToLocals, Value.category]; done) | rfl
theorem rmLb (l : Launch) (Z : State) (a0 : Array Value) (hw : ∀ d ∈ tables_1, d.before a0 Z = true) (o_ : Addr) (h0 : Heap) (n0 : Nat) (Z0 : n0 ≤ h0.size) (b : Addr) (F0 : Fld Z h0 o_ "com/example/dispatchd/dispatchd/store/EventSchema" "label" "Ljava/lang/String;" (.ref b)) :
    MetFree l (⟨"com/example/dispatchd/dispatchd/store/EventSchema", "label", "()Ljava/lang/String;"⟩ : MethodName) (head1 [Jvm.Cond.code (⟨"com/example/dispatchd/dispatchd/store/EventSchema", "label", "()Ljava/lang/String;"⟩ : MethodName) prog_15_method_4_code 1 (some (.object "java/lang/String"))] ({ frames := 0, cells := 0, slots := 0, locals := 0 } : Room)) (fun as_ U => as_ = #[(.ref o_)] ∧ Z.Warmed39 U.vm ∧ U.heap = h0) (fun _ _ _ _ _ => True) (fun _ U o U' => ∃ v L, o = .returned v ∧ Q_rmLb b n0 h0 v U'.heap L ∧ FrameEnd U o U' L ({ frames := 0, cells := 0, slots := 0, locals := 0 } : Room).cells ({ frames := 0, cells := 0, slots := 0, locals := 0 } : Room).slots) := by
  refine own_met own_pf27 (ef_rmLb o_) ?_
  intro p e s m below meth c T0 X0 hx hby hml hret hlk hnm hown hZ e0
  have N0 := Fr.nil n0
  refine g_aloadN X0 hx 1 (hb hby d23_0) rfl rfl rfl ?_
  refine g_getF X0 hx hZ hown (hw _ (List.mem_of_getElem? (i := 94) rfl)) Via.refl e0 F0 4 (hb hby d23_1) rfl ?_
  intro T1731 X1731 e1731
  exact g_retA X1731 hx hlk hret rfl rfl rfl (hb hby d23_4) (by decide) (by decide) e1731 ⟨rfl, N0, rfl⟩
theorem d16_0 : decode prog_15_method_5_code 0 = .ok (.invokestatic 33, 3) := by decide +kernel
theorem d16_3 : decode prog_15_method_5_code 3 = .ok (.astore_n 1, 1) := by decide +kernel
theorem d16_4 : decode prog_15_method_5_code 4 = .ok (.aload_n 1, 1) := by decide +kernel
theorem d16_5 : decode prog_15_method_5_code 5 = .ok (.arraylength, 1) := by decide +kernel
theorem d16_6 : decode prog_15_method_5_code 6 = .ok (.istore_n 2, 1) := by decide +kernel
theorem d16_7 : decode prog_15_method_5_code 7 = .ok (.iconst 0, 1) := by decide +kernel
theorem d16_8 : decode prog_15_method_5_code 8 = .ok (.istore_n 3, 1) := by decide +kernel
theorem d16_9 : decode prog_15_method_5_code 9 = .ok (.iload_n 3, 1) := by decide +kernel
theorem d16_10 : decode prog_15_method_5_code 10 = .ok (.iload_n 2, 1) := by decide +kernel
theorem d16_11 : decode prog_15_method_5_code 11 = .ok (.if_icmp .ge 32, 3) := by decide +kernel
theorem d16_14 : decode prog_15_method_5_code 14 = .ok (.aload_n 1, 1) := by decide +kernel
theorem d16_15 : decode prog_15_method_5_code 15 = .ok (.iload_n 3, 1) := by decide +kernel
theorem d16_16 : decode prog_15_method_5_code 16 = .ok (.aaload, 1) := by decide +kernel
theorem d16_17 : decode prog_15_method_5_code 17 = .ok (.astore 4, 2) := by decide +kernel
theorem d16_19 : decode prog_15_method_5_code 19 = .ok (.aload 4, 2) := by decide +kernel
theorem d16_21 : decode prog_15_method_5_code 21 = .ok (.getfield 29, 3) := by decide +kernel
theorem d16_24 : decode prog_15_method_5_code 24 = .ok (.aload_n 0, 1) := by decide +kernel
theorem d16_25 : decode prog_15_method_5_code 25 = .ok (.invokevirtual 37, 3) := by decide +kernel
theorem d16_28 : decode prog_15_method_5_code 28 = .ok (.ifCond .eq 9, 3) := by decide +kernel
theorem d16_31 : decode prog_15_method_5_code 31 = .ok (.aload 4, 2) := by decide +kernel
theorem d16_33 : decode prog_15_method_5_code 33 = .ok (.invokestatic 43, 3) := by decide +kernel
theorem d16_36 : decode prog_15_method_5_code 36 = .ok (.areturn, 1) := by decide +kernel
theorem d16_37 : decode prog_15_method_5_code 37 = .ok (.iinc 3 1, 3) := by decide +kernel
theorem d16_40 : decode prog_15_method_5_code 40 = .ok (.goto (-31), 3) := by decide +kernel
theorem d16_43 : decode prog_15_method_5_code 43 = .ok (.invokestatic 49, 3) := by decide +kernel
theorem d16_46 : decode prog_15_method_5_code 46 = .ok (.areturn, 1) := by decide +kernel
theorem own_pf28 : plainFor (⟨"com/example/dispatchd/dispatchd/store/EventSchema", "withLabel", "(Ljava/lang/String;)Ljava/util/Optional;"⟩ : MethodName) = true := plainFor_of_name (by first | (simp [plainName, overriddenIn]; done) | decide +kernel)
def Q_rmWL (Z : State) (ro cl : Addr) (xr xc xs : List Int32) (n0 : Nat) (h0 : Heap) (v : Option Value) (h : Heap) (L : List Loc) : Prop := ∃ q : Addr, v = some (.ref q) ∧ Fr n0 L ∧ Keep h0 h [] ∧ Exa Z h q "java/util/Optional" ∧ Fld Z h q "java/util/Optional" "value" "Ljava/lang/Object;" (if xr = xs then .ref ro else if xc = xs then .ref cl else .null)
theorem ef_rmWL (b : Addr) (m : MethodId) : entryFrame m #[(.ref b)] 5 = mkF m 0 #[.val (.ref b), .unset, .unset, .unset, .unset] [] := by first | (simp [entryFrame, mkF, argsToLocals, Value.category]; done) | rfl
theorem rmWL (l : Launch) (Z : State) (a0 : Array Value) (hw : ∀ d ∈ tables_1, d.before a0 Z = true) (b : Addr) (h0 : Heap) (n0 : Nat) (Z0 : n0 ≤ h0.size) (cst : Int32) (va ro cl em lr lc vr vc : Addr) (kv kr kc_ : ClassId) (xr xc : List Int32) (WO : OldW Z cst va ro cl em lr lc vr vc kv kr kc_ xr xc) (O0 : Old Z n0 h0) (vb : Addr) (kb : ClassId) (z : Int32) (xs : List Int32) (E : Exa Z h0 b "java/lang/String") (Fc : Fld Z h0 b "java/lang/String" "coder" "B" (.int 0)) (Fv : Fld Z h0 b "java/lang/String" "value" "[B" (.ref vb)) (V : Arv Z h0 vb kb .byte z (xs.map Value.int) (.int 0)) (gs : n0 ≤ b) (hl : z.toInt = (xs.length : Int)) :
    MetFree l (⟨"com/example/dispatchd/dispatchd/store/EventSchema", "withLabel", "(Ljava/lang/String;)Ljava/util/Optional;"⟩ : MethodName) (head1 [Jvm.Cond.code (⟨"com/example/dispatchd/dispatchd/store/EventSchema", "withLabel", "(Ljava/lang/String;)Ljava/util/Optional;"⟩ : MethodName) prog_15_method_5_code 5 (some (.object "java/util/Optional"))] ({ frames := 3, cells := 2, slots := 3, locals := 70 } : Room)) (fun as_ U => as_ = #[(.ref b)] ∧ Z.Warmed39 U.vm ∧ U.heap = h0) (fun _ _ _ _ _ => True) (fun _ U o U' => ∃ v L, o = .returned v ∧ Q_rmWL Z ro cl xr xc xs n0 h0 v U'.heap L ∧ FrameEnd U o U' L ({ frames := 3, cells := 2, slots := 3, locals := 70 } : Room).cells ({ frames := 3, cells := 2, slots := 3, locals := 70 } : Room).slots) := by
  refine own_met own_pf28 (ef_rmWL b) ?_
  intro p e s m below meth c T0 X0 hx hby hml hret hlk hnm hown hZ e0
  have N0 := Fr.nil n0
  obtain ⟨hc, SC, SV, SRo, SCl, SE, zEv, zVv, zEro, zLro, zElr, zClr, zFlr, zVvr, hlxr, zEcl, zLcl, zElc, zClc, zFlc, zVvc, hlxc, zEe, zFe⟩ := WO
  have Ev := zEv.ext O0.2
  have Vv := zVv.ext O0.2
  have Ero := zEro.ext O0.2
  have Lro := zLro.ext O0.2
  have Elr := zElr.ext O0.2
  have Clr := zClr.ext O0.2
  have Flr := zFlr.ext O0.2
  have Vvr := zVvr.ext O0.2
  have Ecl := zEcl.ext O0.2
  have Lcl := zLcl.ext O0.2
  have Elc := zElc.ext O0.2
  have Clc := zClc.ext O0.2
  have Flc := zFlc.ext O0.2
  have Vvc := zVvc.ext O0.2
  have Ee := zEe.ext O0.2
  have Fe := zFe.ext O0.2
  have n_lr : b ≠ lr := Ne.symm (Nat.ne_of_lt (Nat.lt_of_lt_of_le (O0.1 ▸ zElr.lt) gs))
  have n_lc : b ≠ lc := Ne.symm (Nat.ne_of_lt (Nat.lt_of_lt_of_le (O0.1 ▸ zElc.lt) gs))
  refine g_static X0 hx hZ hown (hw _ (List.mem_of_getElem? (i := 77) rfl)) (hw _ (List.mem_of_getElem? (i := 78) rfl)) (hw _ (List.mem_of_getElem? (i := 75) rfl)) (hw _ (List.mem_of_getElem? (i := 79) rfl)) (by decide) (rmVa l Z a0 hw h0 n0 Z0 cst va ro cl em lr lc vr vc kv kr kc_ xr xc ⟨hc, SC, SV, SRo, SCl, SE, zEv, zVv, zEro, zLro, zElr, zClr, zFlr, zVvr, hlxr, zEcl, zLcl, zElc, zClc, zFlc, zVvc, hlxc, zEe, zFe⟩ O0) e0 (argsL := []) (rest := []) rfl rfl 0 3 rfl (by rw [hml]; rfl) (lenOf own_pd16 rfl) (Nat.le_refl _) (by decide) (by decide) (by decide) (by decide) (hb hby d16_0) ?_
  intro v1732 T1732 L1732 X1732 hQ1732
  obtain ⟨ar, rfl, N1732, K1732, Va⟩ := hQ1732
  have N1733 := Fr.app N0 N1732
  have F1734 := O0.keep K1732 all0
  have F1735 := Ev.keep K1732
  have F1736 := Vv.keep K1732 nin0
  have F1737 := Ero.keep K1732
  have F1738 := Lro.keep K1732 nin0
  have F1739 := Elr.keep K1732
  have F1740 := Clr.keep K1732 nin0
  have F1741 := Flr.keep K1732 nin0
  have F1742 := Vvr.keep K1732 nin0
  have F1743 := Ecl.keep K1732
  have F1744 := Lcl.keep K1732 nin0
  have F1745 := Elc.keep K1732
  have F1746 := Clc.keep K1732 nin0
  have F1747 := Flc.keep K1732 nin0
  have F1748 := Vvc.keep K1732 nin0
  have F1749 := Ee.keep K1732
  have F1750 := Fe.keep K1732 nin0
  have F1751 := E.keep K1732
  have F1752 := Fc.keep K1732 nin0
  have F1753 := Fv.keep K1732 nin0
  have F1754 := V.keep K1732 nin0
  have Z1755 : n0 ≤ T1732.heap.size := Nat.le_trans Z0 K1732.1
  have K1756 := (Keep.refl h0 []).trans K1732 all0
  show Go p e below _ T1732 (mkF m 3 #[.val (.ref b), .unset, .unset, .unset, .unset] [(.ref ar)])
  refine g_astoreN (l' := #[.val (.ref b), .val (.ref ar), .unset, .unset, .unset]) X1732 hx 4 (hb hby d16_3) rfl rfl rfl ?_
  refine g_aloadN X1732 hx 5 (hb hby d16_4) rfl rfl rfl ?_
  refine g_len X1732 hx hZ rfl Va 6 (hb hby d16_5) rfl ?_
  refine g_istoreN (l' := #[.val (.ref b), .val (.ref ar), .val (.int (2 : Int32)), .unset, .unset]) X1732 hx 7 (hb hby d16_6) rfl rfl ?_
  refine g_iconst X1732 hx (0 : Int32) 8 (hb hby d16_7) rfl (by decide) ?_
  refine g_istoreN (l' := #[.val (.ref b), .val (.ref ar), .val (.int (2 : Int32)), .val (.int (0 : Int32)), .unset]) X1732 hx 9 (hb hby d16_8) rfl rfl ?_
  refine g_iloadN X1732 hx 10 (hb hby d16_9) rfl rfl ?_
  refine g_iloadN X1732 hx 11 (hb hby d16_10) rfl rfl ?_
  have ll1758 : ((2 : Int32) : Int32).toInt = 2 := by decide
  have ll1759 : ((0 : Int32) : Int32).toInt = 0 := by decide
  refine g_ic_ge X1732 hx 43 14 (hb hby d16_11) (by decide) (by decide) rfl (fun c1757 => ?_) (fun c1757 => ?_)
  · skip
    exfalso; revert c1757; decide
  · skip
    refine g_aloadN X1732 hx 15 (hb hby d16_14) rfl rfl rfl ?_
    refine g_iloadN X1732 hx 16 (hb hby d16_15) rfl rfl ?_
    refine g_aaload X1732 hx hZ rfl Va rfl (by decide) (by decide) (by rw [show ((0 : Int32) : Int32).toNatClampNeg = 0 by decide] <;> rfl) 17 (hb hby d16_16) rfl ?_
    refine g_astore (l' := #[.val (.ref b), .val (.ref ar), .val (.int (2 : Int32)), .val (.int (0 : Int32)), .val (.ref ro)]) X1732 hx 19 (hb hby d16_17) rfl rfl rfl ?_
    refine g_aload X1732 hx 21 (hb hby d16_19) rfl rfl rfl ?_
    refine g_getF X1732 hx hZ hown (hw _ (List.mem_of_getElem? (i := 94) rfl)) Via.refl rfl F1738 24 (hb hby d16_21) rfl ?_
    intro T1760 X1760 e1760
    refine g_aloadN X1760 hx 25 (hb hby d16_24) rfl rfl rfl ?_
    refine g_virt X1760 hx hZ (C := "java/lang/String") hown (hw _ (List.mem_of_getElem? (i := 96) rfl)) (hw _ (List.mem_of_getElem? (i := 97) rfl)) (hw _ (List.mem_of_getElem? (i := 99) rfl)) (hw _ (List.mem_of_getElem? (i := 99) rfl)) (hw _ (List.mem_of_getElem? (i := 98) rfl)) (hw _ (List.mem_of_getElem? (i := 1) rfl)) (hw _ (List.mem_of_getElem? (i := 100) rfl)) (by decide) (rmEq l Z a0 hw lr b T1732.heap n0 Z1755 cst hc F1734 SC (Ne.symm n_lr) vr kr 5 xr F1739 F1740 F1741 F1742 vb kb z xs F1751 F1752 F1753 F1754 (by rw [hlxr]; decide) hl) e1760 (b := lr) F1739 (argsL := [(.ref b)]) (rest := []) rfl rfl 0 28 rfl (by rw [hml]; rfl) (lenOf own_pd18 rfl) (Nat.le_refl _) (by decide) (by decide) (by decide) (by decide) (hb hby d16_25) ?_
    intro v1761 T1761 L1761 X1761 hQ1761
    obtain ⟨r_, rfl, hr_, N1761, q1761⟩ := hQ1761
    have N1762 := Fr.app N1733 N1761
    show Go p e below _ T1761 (mkF m 28 #[.val (.ref b), .val (.ref ar), .val (.int (2 : Int32)), .val (.int (0 : Int32)), .val (.ref ro)] [(.int r_)])
    rcases hr_ with ⟨hr1763, rfl⟩ | ⟨hr1763, rfl⟩
    · skip
      have ll1765 : ((1 : Int32) : Int32).toInt = 1 := by decide
      refine g_if_eq X1761 hx 37 31 (hb hby d16_28) (by decide) (by decide) rfl (fun c1764 => ?_) (fun c1764 => ?_)
      · skip
        exfalso; revert c1764; decide
      · skip
        refine g_aload X1761 hx 33 (hb hby d16_31) rfl rfl rfl ?_
        refine g_static X1761 hx hZ hown (hw _ (List.mem_of_getElem? (i := 105) rfl)) (hw _ (List.mem_of_getElem? (i := 106) rfl)) (hw _ (List.mem_of_getElem? (i := 107) rfl)) (hw _ (List.mem_of_getElem? (i := 108) rfl)) (by decide) (rmOf l Z a0 hw ro T1732.heap n0 Z1755) q1761 (argsL := [(.ref ro)]) (rest := []) rfl rfl 0 36 rfl (by rw [hml]; rfl) (lenOf own_pd20 rfl) (Nat.le_refl _) (by decide) (by decide) (by decide) (by decide) (hb hby d16_33) ?_
        intro v1766 T1766 L1766 X1766 hQ1766
        obtain ⟨q, rfl, N1766, K1766, Eq_, Fq_⟩ := hQ1766
        have N1767 := Fr.app N1762 N1766
        have F1768 := F1734.keep K1766 all0
        have F1769 := F1735.keep K1766
        have F1770 := F1736.keep K1766 nin0
        have F1771 := F1737.keep K1766
        have F1772 := F1738.keep K1766 nin0
        have F1773 := F1739.keep K1766
        have F1774 := F1740.keep K1766 nin0
        have F1775 := F1741.keep K1766 nin0
        have F1776 := F1742.keep K1766 nin0
        have F1777 := F1743.keep K1766
        have F1778 := F1744.keep K1766 nin0
        have F1779 := F1745.keep K1766
        have F1780 := F1746.keep K1766 nin0
        have F1781 := F1747.keep K1766 nin0
        have F1782 := F1748.keep K1766 nin0
        have F1783 := F1749.keep K1766
        have F1784 := F1750.keep K1766 nin0
        have F1785 := F1751.keep K1766
        have F1786 := F1752.keep K1766 nin0
        have F1787 := F1753.keep K1766 nin0
        have F1788 := F1754.keep K1766 nin0
        have F1789 := Va.keep K1766 nin0
        have Z1790 : n0 ≤ T1766.heap.size := Nat.le_trans Z1755 K1766.1
        have K1791 := K1756.trans K1766 all0
        show Go p e below _ T1766 (mkF m 36 #[.val (.ref b), .val (.ref ar), .val (.int (2 : Int32)), .val (.int (0 : Int32)), .val (.ref ro)] [(.ref q)])
        exact g_retA X1766 hx hlk hret rfl rfl rfl (hb hby d16_36) (by decide) (by decide) rfl ⟨q, rfl, N1767, K1791, Eq_, by rw [if_pos hr1763]; exact Fq_⟩
    · skip
      have ll1793 : ((0 : Int32) : Int32).toInt = 0 := by decide
      refine g_if_eq X1761 hx 37 31 (hb hby d16_28) (by decide) (by decide) rfl (fun c1792 => ?_) (fun c1792 => ?_)
      · skip
        refine g_iincC X1761 hx (w := (1 : Int32)) (1 : Int32) (by decide) (l' := #[.val (.ref b), .val (.ref ar), .val (.int (2 : Int32)), .val (.int (1 : Int32)), .val (.ref ro)]) 40 (hb hby d16_37) rfl rfl (by decide) rfl ?_
        refine g_goto X1761 hx 9 (hb hby d16_40) (by decide) (by decide) ?_
        refine g_iloadN X1761 hx 10 (hb hby d16_9) rfl rfl ?_
        refine g_iloadN X1761 hx 11 (hb hby d16_10) rfl rfl ?_
        have ll1795 : ((2 : Int32) : Int32).toInt = 2 := by decide
        have ll1796 : ((1 : Int32) : Int32).toInt = 1 := by decide
        refine g_ic_ge X1761 hx 43 14 (hb hby d16_11) (by decide) (by decide) rfl (fun c1794 => ?_) (fun c1794 => ?_)
        · skip
          exfalso; revert c1794; decide
        · skip
          refine g_aloadN X1761 hx 15 (hb hby d16_14) rfl rfl rfl ?_
          refine g_iloadN X1761 hx 16 (hb hby d16_15) rfl rfl ?_
          refine g_aaload X1761 hx hZ q1761 Va rfl (by decide) (by decide) (by rw [show ((1 : Int32) : Int32).toNatClampNeg = 1 by decide] <;> rfl) 17 (hb hby d16_16) rfl ?_
          refine g_astore (l' := #[.val (.ref b), .val (.ref ar), .val (.int (2 : Int32)), .val (.int (1 : Int32)), .val (.ref cl)]) X1761 hx 19 (hb hby d16_17) rfl rfl rfl ?_
          refine g_aload X1761 hx 21 (hb hby d16_19) rfl rfl rfl ?_
          refine g_getF X1761 hx hZ hown (hw _ (List.mem_of_getElem? (i := 94) rfl)) Via.refl q1761 F1744 24 (hb hby d16_21) rfl ?_
          intro T1797 X1797 e1797
          refine g_aloadN X1797 hx 25 (hb hby d16_24) rfl rfl rfl ?_
          refine g_virt X1797 hx hZ (C := "java/lang/String") hown (hw _ (List.mem_of_getElem? (i := 96) rfl)) (hw _ (List.mem_of_getElem? (i := 97) rfl)) (hw _ (List.mem_of_getElem? (i := 99) rfl)) (hw _ (List.mem_of_getElem? (i := 99) rfl)) (hw _ (List.mem_of_getElem? (i := 98) rfl)) (hw _ (List.mem_of_getElem? (i := 1) rfl)) (hw _ (List.mem_of_getElem? (i := 100) rfl)) (by decide) (rmEq l Z a0 hw lc b T1732.heap n0 Z1755 cst hc F1734 SC (Ne.symm n_lc) vc kc_ 11 xc F1745 F1746 F1747 F1748 vb kb z xs F1751 F1752 F1753 F1754 (by rw [hlxc]; decide) hl) e1797 (b := lc) F1745 (argsL := [(.ref b)]) (rest := []) rfl rfl 0 28 rfl (by rw [hml]; rfl) (lenOf own_pd18 rfl) (Nat.le_refl _) (by decide) (by decide) (by decide) (by decide) (hb hby d16_25) ?_
          intro v1798 T1798 L1798 X1798 hQ1798
          obtain ⟨r_, rfl, hr_, N1798, q1798⟩ := hQ1798
          have N1799 := Fr.app N1762 N1798
          show Go p e below _ T1798 (mkF m 28 #[.val (.ref b), .val (.ref ar), .val (.int (2 : Int32)), .val (.int (1 : Int32)), .val (.ref cl)] [(.int r_)])
          rcases hr_ with ⟨hr1800, rfl⟩ | ⟨hr1800, rfl⟩
          · skip
            have ll1802 : ((1 : Int32) : Int32).toInt = 1 := by decide
            refine g_if_eq X1798 hx 37 31 (hb hby d16_28) (by decide) (by decide) rfl (fun c1801 => ?_) (fun c1801 => ?_)
            · skip
              exfalso; revert c1801; decide
            · skip
              refine g_aload X1798 hx 33 (hb hby d16_31) rfl rfl rfl ?_
              refine g_static X1798 hx hZ hown (hw _ (List.mem_of_getElem? (i := 105) rfl)) (hw _ (List.mem_of_getElem? (i := 106) rfl)) (hw _ (List.mem_of_getElem? (i := 107) rfl)) (hw _ (List.mem_of_getElem? (i := 108) rfl)) (by decide) (rmOf l Z a0 hw cl T1732.heap n0 Z1755) q1798 (argsL := [(.ref cl)]) (rest := []) rfl rfl 0 36 rfl (by rw [hml]; rfl) (lenOf own_pd20 rfl) (Nat.le_refl _) (by decide) (by decide) (by decide) (by decide) (hb hby d16_33) ?_
              intro v1803 T1803 L1803 X1803 hQ1803
              obtain ⟨q, rfl, N1803, K1803, Eq_, Fq_⟩ := hQ1803
              have N1804 := Fr.app N1799 N1803
              have F1805 := F1734.keep K1803 all0
              have F1806 := F1735.keep K1803
              have F1807 := F1736.keep K1803 nin0
              have F1808 := F1737.keep K1803
              have F1809 := F1738.keep K1803 nin0
              have F1810 := F1739.keep K1803
              have F1811 := F1740.keep K1803 nin0
              have F1812 := F1741.keep K1803 nin0
              have F1813 := F1742.keep K1803 nin0
              have F1814 := F1743.keep K1803
              have F1815 := F1744.keep K1803 nin0
              have F1816 := F1745.keep K1803
              have F1817 := F1746.keep K1803 nin0
              have F1818 := F1747.keep K1803 nin0
              have F1819 := F1748.keep K1803 nin0
              have F1820 := F1749.keep K1803
              have F1821 := F1750.keep K1803 nin0
              have F1822 := F1751.keep K1803
              have F1823 := F1752.keep K1803 nin0
              have F1824 := F1753.keep K1803 nin0
              have F1825 := F1754.keep K1803 nin0
              have F1826 := Va.keep K1803 nin0
              have Z1827 : n0 ≤ T1803.heap.size := Nat.le_trans Z1755 K1803.1
              have K1828 := K1756.trans K1803 all0
              show Go p e below _ T1803 (mkF m 36 #[.val (.ref b), .val (.ref ar), .val (.int (2 : Int32)), .val (.int (1 : Int32)), .val (.ref cl)] [(.ref q)])
              exact g_retA X1803 hx hlk hret rfl rfl rfl (hb hby d16_36) (by decide) (by decide) rfl ⟨q, rfl, N1804, K1828, Eq_, by rw [if_neg hr1763, if_pos hr1800]; exact Fq_⟩
          · skip
            have ll1830 : ((0 : Int32) : Int32).toInt = 0 := by decide
            refine g_if_eq X1798 hx 37 31 (hb hby d16_28) (by decide) (by decide) rfl (fun c1829 => ?_) (fun c1829 => ?_)
            · skip
              refine g_iincC X1798 hx (w := (1 : Int32)) (2 : Int32) (by decide) (l' := #[.val (.ref b), .val (.ref ar), .val (.int (2 : Int32)), .val (.int (2 : Int32)), .val (.ref cl)]) 40 (hb hby d16_37) rfl rfl (by decide) rfl ?_
              refine g_goto X1798 hx 9 (hb hby d16_40) (by decide) (by decide) ?_
              refine g_iloadN X1798 hx 10 (hb hby d16_9) rfl rfl ?_
              refine g_iloadN X1798 hx 11 (hb hby d16_10) rfl rfl ?_
              have ll1832 : ((2 : Int32) : Int32).toInt = 2 := by decide
              have ll1833 : ((2 : Int32) : Int32).toInt = 2 := by decide
              refine g_ic_ge X1798 hx 43 14 (hb hby d16_11) (by decide) (by decide) rfl (fun c1831 => ?_) (fun c1831 => ?_)
              · skip
                refine g_static X1798 hx hZ hown (hw _ (List.mem_of_getElem? (i := 141) rfl)) (hw _ (List.mem_of_getElem? (i := 142) rfl)) (hw _ (List.mem_of_getElem? (i := 107) rfl)) (hw _ (List.mem_of_getElem? (i := 143) rfl)) (by decide) (rmEm l Z a0 hw T1732.heap n0 Z1755 cst va ro cl em lr lc vr vc kv kr kc_ xr xc ⟨hc, SC, SV, SRo, SCl, SE, zEv, zVv, zEro, zLro, zElr, zClr, zFlr, zVvr, hlxr, zEcl, zLcl, zElc, zClc, zFlc, zVvc, hlxc, zEe, zFe⟩ F1734) q1798 (argsL := []) (rest := []) rfl rfl 0 46 rfl (by rw [hml]; rfl) (lenOf own_pd24 rfl) (Nat.le_refl _) (by decide) (by decide) (by decide) (by decide) (hb hby d16_43) ?_
                intro v1834 T1834 L1834 X1834 hQ1834
                obtain ⟨rfl, N1834, q1834⟩ := hQ1834
                have N1835 := Fr.app N1799 N1834
                show Go p e below _ T1834 (mkF m 46 #[.val (.ref b), .val (.ref ar), .val (.int (2 : Int32)), .val (.int (2 : Int32)), .val (.ref cl)] [(.ref em)])
                exact g_retA X1834 hx hlk hret rfl rfl rfl (hb hby d16_46) (by decide) (by decide) q1834 ⟨em, rfl, N1835, K1756, F1749, by rw [if_neg hr1763, if_neg hr1800]; exact F1750⟩
              · skip
                exfalso; revert c1831; decide
            · skip
              exfalso; revert c1829; decide
      · skip
        exfalso; revert c1792; decide
def Q_rmWN (Z : State) (n0 : Nat) (h0 : Heap) (v : Option Value) (h : Heap) (L : List Loc) : Prop := ∃ q : Addr, v = some (.ref q) ∧ Fr n0 L ∧ Keep h0 h [] ∧ Exa Z h q "java/util/Optional" ∧ Fld Z h q "java/util/Optional" "value" "Ljava/lang/Object;" .null
theorem ef_rmWN  (m : MethodId) : entryFrame m #[.null] 5 = mkF m 0 #[.val .null, .unset, .unset, .unset, .unset] [] := by first | (simp [entryFrame, mkF, argsToLocals, Value.category]; done) | rfl
theorem rmWN (l : Launch) (Z : State) (a0 : Array Value) (hw : ∀ d ∈ tables_1, d.before a0 Z = true)  (h0 : Heap) (n0 : Nat) (Z0 : n0 ≤ h0.size) (cst : Int32) (va ro cl em lr lc vr vc : Addr) (kv kr kc_ : ClassId) (xr xc : List Int32) (WO : OldW Z cst va ro cl em lr lc vr vc kv kr kc_ xr xc) (O0 : Old Z n0 h0) :
    MetFree l (⟨"com/example/dispatchd/dispatchd/store/EventSchema", "withLabel", "(Ljava/lang/String;)Ljava/util/Optional;"⟩ : MethodName) (head1 [Jvm.Cond.code (⟨"com/example/dispatchd/dispatchd/store/EventSchema", "withLabel", "(Ljava/lang/String;)Ljava/util/Optional;"⟩ : MethodName) prog_15_method_5_code 5 (some (.object "java/util/Optional"))] ({ frames := 3, cells := 2, slots := 3, locals := 70 } : Room)) (fun as_ U => as_ = #[.null] ∧ Z.Warmed39 U.vm ∧ U.heap = h0) (fun _ _ _ _ _ => True) (fun _ U o U' => ∃ v L, o = .returned v ∧ Q_rmWN Z n0 h0 v U'.heap L ∧ FrameEnd U o U' L ({ frames := 3, cells := 2, slots := 3, locals := 70 } : Room).cells ({ frames := 3, cells := 2, slots := 3, locals := 70 } : Room).slots) := by
  refine own_met own_pf28 (ef_rmWN ) ?_
  intro p e s m below meth c T0 X0 hx hby hml hret hlk hnm hown hZ e0
  have N0 := Fr.nil n0
  obtain ⟨hc, SC, SV, SRo, SCl, SE, zEv, zVv, zEro, zLro, zElr, zClr, zFlr, zVvr, hlxr, zEcl, zLcl, zElc, zClc, zFlc, zVvc, hlxc, zEe, zFe⟩ := WO
  have Ev := zEv.ext O0.2
  have Vv := zVv.ext O0.2
  have Ero := zEro.ext O0.2
  have Lro := zLro.ext O0.2
  have Elr := zElr.ext O0.2
  have Clr := zClr.ext O0.2
  have Flr := zFlr.ext O0.2
  have Vvr := zVvr.ext O0.2
  have Ecl := zEcl.ext O0.2
  have Lcl := zLcl.ext O0.2
  have Elc := zElc.ext O0.2
  have Clc := zClc.ext O0.2
  have Flc := zFlc.ext O0.2
  have Vvc := zVvc.ext O0.2
  have Ee := zEe.ext O0.2
  have Fe := zFe.ext O0.2
  refine g_static X0 hx hZ hown (hw _ (List.mem_of_getElem? (i := 77) rfl)) (hw _ (List.mem_of_getElem? (i := 78) rfl)) (hw _ (List.mem_of_getElem? (i := 75) rfl)) (hw _ (List.mem_of_getElem? (i := 79) rfl)) (by decide) (rmVa l Z a0 hw h0 n0 Z0 cst va ro cl em lr lc vr vc kv kr kc_ xr xc ⟨hc, SC, SV, SRo, SCl, SE, zEv, zVv, zEro, zLro, zElr, zClr, zFlr, zVvr, hlxr, zEcl, zLcl, zElc, zClc, zFlc, zVvc, hlxc, zEe, zFe⟩ O0) e0 (argsL := []) (rest := []) rfl rfl 0 3 rfl (by rw [hml]; rfl) (lenOf own_pd16 rfl) (Nat.le_refl _) (by decide) (by decide) (by decide) (by decide) (hb hby d16_0) ?_
  intro v1836 T1836 L1836 X1836 hQ1836
  obtain ⟨ar, rfl, N1836, K1836, Va⟩ := hQ1836
  have N1837 := Fr.app N0 N1836
  have F1838 := O0.keep K1836 all0
  have F1839 := Ev.keep K1836
  have F1840 := Vv.keep K1836 nin0
  have F1841 := Ero.keep K1836
  have F1842 := Lro.keep K1836 nin0
  have F1843 := Elr.keep K1836
  have F1844 := Clr.keep K1836 nin0
  have F1845 := Flr.keep K1836 nin0
  have F1846 := Vvr.keep K1836 nin0
  have F1847 := Ecl.keep K1836
  have F1848 := Lcl.keep K1836 nin0
  have F1849 := Elc.keep K1836
  have F1850 := Clc.keep K1836 nin0
  have F1851 := Flc.keep K1836 nin0
  have F1852 := Vvc.keep K1836 nin0
  have F1853 := Ee.keep K1836
  have F1854 := Fe.keep K1836 nin0
  have Z1855 : n0 ≤ T1836.heap.size := Nat.le_trans Z0 K1836.1
  have K1856 := (Keep.refl h0 []).trans K1836 all0
  show Go p e below _ T1836 (mkF m 3 #[.val .null, .unset, .unset, .unset, .unset] [(.ref ar)])
  refine g_astoreN (l' := #[.val .null, .val (.ref ar), .unset, .unset, .unset]) X1836 hx 4 (hb hby d16_3) rfl rfl rfl ?_
  refine g_aloadN X1836 hx 5 (hb hby d16_4) rfl rfl rfl ?_
  refine g_len X1836 hx hZ rfl Va 6 (hb hby d16_5) rfl ?_
  refine g_istoreN (l' := #[.val .null, .val (.ref ar), .val (.int (2 : Int32)), .unset, .unset]) X1836 hx 7 (hb hby d16_6) rfl rfl ?_
  refine g_iconst X1836 hx (0 : Int32) 8 (hb hby d16_7) rfl (by decide) ?_
  refine g_istoreN (l' := #[.val .null, .val (.ref ar), .val (.int (2 : Int32)), .val (.int (0 : Int32)), .unset]) X1836 hx 9 (hb hby d16_8) rfl rfl ?_
  refine g_iloadN X1836 hx 10 (hb hby d16_9) rfl rfl ?_
  refine g_iloadN X1836 hx 11 (hb hby d16_10) rfl rfl ?_
  have ll1858 : ((2 : Int32) : Int32).toInt = 2 := by decide
  have ll1859 : ((0 : Int32) : Int32).toInt = 0 := by decide
  refine g_ic_ge X1836 hx 43 14 (hb hby d16_11) (by decide) (by decide) rfl (fun c1857 => ?_) (fun c1857 => ?_)
  · skip
    exfalso; revert c1857; decide
  · skip
    refine g_aloadN X1836 hx 15 (hb hby d16_14) rfl rfl rfl ?_
    refine g_iloadN X1836 hx 16 (hb hby d16_15) rfl rfl ?_
    refine g_aaload X1836 hx hZ rfl Va rfl (by decide) (by decide) (by rw [show ((0 : Int32) : Int32).toNatClampNeg = 0 by decide] <;> rfl) 17 (hb hby d16_16) rfl ?_
    refine g_astore (l' := #[.val .null, .val (.ref ar), .val (.int (2 : Int32)), .val (.int (0 : Int32)), .val (.ref ro)]) X1836 hx 19 (hb hby d16_17) rfl rfl rfl ?_
    refine g_aload X1836 hx 21 (hb hby d16_19) rfl rfl rfl ?_
    refine g_getF X1836 hx hZ hown (hw _ (List.mem_of_getElem? (i := 94) rfl)) Via.refl rfl F1842 24 (hb hby d16_21) rfl ?_
    intro T1860 X1860 e1860
    refine g_aloadN X1860 hx 25 (hb hby d16_24) rfl rfl rfl ?_
    refine g_virt X1860 hx hZ (C := "java/lang/String") hown (hw _ (List.mem_of_getElem? (i := 96) rfl)) (hw _ (List.mem_of_getElem? (i := 97) rfl)) (hw _ (List.mem_of_getElem? (i := 99) rfl)) (hw _ (List.mem_of_getElem? (i := 99) rfl)) (hw _ (List.mem_of_getElem? (i := 98) rfl)) (hw _ (List.mem_of_getElem? (i := 1) rfl)) (hw _ (List.mem_of_getElem? (i := 100) rfl)) (by decide) (rmEN l Z a0 hw lr T1836.heap n0 Z1855 F1838) e1860 (b := lr) F1843 (argsL := [.null]) (rest := []) rfl rfl 0 28 rfl (by rw [hml]; rfl) (lenOf own_pd18 rfl) (Nat.le_refl _) (by decide) (by decide) (by decide) (by decide) (hb hby d16_25) ?_
    intro v1861 T1861 L1861 X1861 hQ1861
    obtain ⟨rfl, N1861, q1861⟩ := hQ1861
    have N1862 := Fr.app N1837 N1861
    show Go p e below _ T1861 (mkF m 28 #[.val .null, .val (.ref ar), .val (.int (2 : Int32)), .val (.int (0 : Int32)), .val (.ref ro)] [(.int (0 : Int32))])
    have ll1864 : ((0 : Int32) : Int32).toInt = 0 := by decide
    refine g_if_eq X1861 hx 37 31 (hb hby d16_28) (by decide) (by decide) rfl (fun c1863 => ?_) (fun c1863 => ?_)
    · skip
      refine g_iincC X1861 hx (w := (1 : Int32)) (1 : Int32) (by decide) (l' := #[.val .null, .val (.ref ar), .val (.int (2 : Int32)), .val (.int (1 : Int32)), .val (.ref ro)]) 40 (hb hby d16_37) rfl rfl (by decide) rfl ?_
      refine g_goto X1861 hx 9 (hb hby d16_40) (by decide) (by decide) ?_
      refine g_iloadN X1861 hx 10 (hb hby d16_9) rfl rfl ?_
      refine g_iloadN X1861 hx 11 (hb hby d16_10) rfl rfl ?_
      have ll1866 : ((2 : Int32) : Int32).toInt = 2 := by decide
      have ll1867 : ((1 : Int32) : Int32).toInt = 1 := by decide
      refine g_ic_ge X1861 hx 43 14 (hb hby d16_11) (by decide) (by decide) rfl (fun c1865 => ?_) (fun c1865 => ?_)
      · skip
        exfalso; revert c1865; decide
      · skip
        refine g_aloadN X1861 hx 15 (hb hby d16_14) rfl rfl rfl ?_
        refine g_iloadN X1861 hx 16 (hb hby d16_15) rfl rfl ?_
        refine g_aaload X1861 hx hZ q1861 Va rfl (by decide) (by decide) (by rw [show ((1 : Int32) : Int32).toNatClampNeg = 1 by decide] <;> rfl) 17 (hb hby d16_16) rfl ?_
        refine g_astore (l' := #[.val .null, .val (.ref ar), .val (.int (2 : Int32)), .val (.int (1 : Int32)), .val (.ref cl)]) X1861 hx 19 (hb hby d16_17) rfl rfl rfl ?_
        refine g_aload X1861 hx 21 (hb hby d16_19) rfl rfl rfl ?_
        refine g_getF X1861 hx hZ hown (hw _ (List.mem_of_getElem? (i := 94) rfl)) Via.refl q1861 F1848 24 (hb hby d16_21) rfl ?_
        intro T1868 X1868 e1868
        refine g_aloadN X1868 hx 25 (hb hby d16_24) rfl rfl rfl ?_
        refine g_virt X1868 hx hZ (C := "java/lang/String") hown (hw _ (List.mem_of_getElem? (i := 96) rfl)) (hw _ (List.mem_of_getElem? (i := 97) rfl)) (hw _ (List.mem_of_getElem? (i := 99) rfl)) (hw _ (List.mem_of_getElem? (i := 99) rfl)) (hw _ (List.mem_of_getElem? (i := 98) rfl)) (hw _ (List.mem_of_getElem? (i := 1) rfl)) (hw _ (List.mem_of_getElem? (i := 100) rfl)) (by decide) (rmEN l Z a0 hw lc T1836.heap n0 Z1855 F1838) e1868 (b := lc) F1849 (argsL := [.null]) (rest := []) rfl rfl 0 28 rfl (by rw [hml]; rfl) (lenOf own_pd18 rfl) (Nat.le_refl _) (by decide) (by decide) (by decide) (by decide) (hb hby d16_25) ?_
        intro v1869 T1869 L1869 X1869 hQ1869
        obtain ⟨rfl, N1869, q1869⟩ := hQ1869
        have N1870 := Fr.app N1862 N1869
        show Go p e below _ T1869 (mkF m 28 #[.val .null, .val (.ref ar), .val (.int (2 : Int32)), .val (.int (1 : Int32)), .val (.ref cl)] [(.int (0 : Int32))])
        have ll1872 : ((0 : Int32) : Int32).toInt = 0 := by decide
        refine g_if_eq X1869 hx 37 31 (hb hby d16_28) (by decide) (by decide) rfl (fun c1871 => ?_) (fun c1871 => ?_)
        · skip
          refine g_iincC X1869 hx (w := (1 : Int32)) (2 : Int32) (by decide) (l' := #[.val .null, .val (.ref ar), .val (.int (2 : Int32)), .val (.int (2 : Int32)), .val (.ref cl)]) 40 (hb hby d16_37) rfl rfl (by decide) rfl ?_
          refine g_goto X1869 hx 9 (hb hby d16_40) (by decide) (by decide) ?_
          refine g_iloadN X1869 hx 10 (hb hby d16_9) rfl rfl ?_
          refine g_iloadN X1869 hx 11 (hb hby d16_10) rfl rfl ?_
          have ll1874 : ((2 : Int32) : Int32).toInt = 2 := by decide
          have ll1875 : ((2 : Int32) : Int32).toInt = 2 := by decide
          refine g_ic_ge X1869 hx 43 14 (hb hby d16_11) (by decide) (by decide) rfl (fun c1873 => ?_) (fun c1873 => ?_)
          · skip
            refine g_static X1869 hx hZ hown (hw _ (List.mem_of_getElem? (i := 141) rfl)) (hw _ (List.mem_of_getElem? (i := 142) rfl)) (hw _ (List.mem_of_getElem? (i := 107) rfl)) (hw _ (List.mem_of_getElem? (i := 143) rfl)) (by decide) (rmEm l Z a0 hw T1836.heap n0 Z1855 cst va ro cl em lr lc vr vc kv kr kc_ xr xc ⟨hc, SC, SV, SRo, SCl, SE, zEv, zVv, zEro, zLro, zElr, zClr, zFlr, zVvr, hlxr, zEcl, zLcl, zElc, zClc, zFlc, zVvc, hlxc, zEe, zFe⟩ F1838) q1869 (argsL := []) (rest := []) rfl rfl 0 46 rfl (by rw [hml]; rfl) (lenOf own_pd24 rfl) (Nat.le_refl _) (by decide) (by decide) (by decide) (by decide) (hb hby d16_43) ?_
            intro v1876 T1876 L1876 X1876 hQ1876
            obtain ⟨rfl, N1876, q1876⟩ := hQ1876
            have N1877 := Fr.app N1870 N1876
            show Go p e below _ T1876 (mkF m 46 #[.val .null, .val (.ref ar), .val (.int (2 : Int32)), .val (.int (2 : Int32)), .val (.ref cl)] [(.ref em)])
            exact g_retA X1876 hx hlk hret rfl rfl rfl (hb hby d16_46) (by decide) (by decide) q1876 ⟨em, rfl, N1877, K1856, F1853, F1854⟩
          · skip
            exfalso; revert c1873; decide
        · skip
          exfalso; revert c1871; decide
    · skip
      exfalso; revert c1863; decide
def own_EL : List (String × Nat) := [("com/example/dispatchd/dispatchd/store/EventSchemaWithLabelPinLaw", 26), ("com/example/dispatchd/dispatchd/store/EventSchemaWithLabelPinLaw", 28), ("com/example/dispatchd/dispatchd/store/EventSchemaWithLabelPinLaw", 30), ("com/example/dispatchd/dispatchd/store/EventSchemaWithLabelPinLaw", 32), ("java/lang/String", 7)]
theorem own_strw {Z : State} {a0 : Array Value} (hw : ∀ d ∈ tables_1, d.before a0 Z = true) : ∀ d ∈ Bundle.stringAtoms, d.before a0 Z = true := by
  intro d hd
  simp only [Bundle.stringAtoms, List.mem_cons, List.not_mem_nil, or_false] at hd
  rcases hd with rfl | rfl | rfl | rfl | rfl | rfl | rfl
  · exact (hw _ (List.mem_of_getElem? (i := 1) rfl))
  · exact (hw _ (List.mem_of_getElem? (i := 2) rfl))
  · exact (hw _ (List.mem_of_getElem? (i := 3) rfl))
  · exact (hw _ (List.mem_of_getElem? (i := 4) rfl))
  · exact (hw _ (List.mem_of_getElem? (i := 5) rfl))
  · exact (hw _ (List.mem_of_getElem? (i := 6) rfl))
  · exact (hw _ (List.mem_of_getElem? (i := 7) rfl))
theorem own_ew {Z : State} {a0 : Array Value} (hw : ∀ d ∈ tables_1, d.before a0 Z = true) : EW Z a0 own_EL := EW.cons (hw _ (List.mem_of_getElem? (i := 0) rfl)) (by decide +kernel) (EW.cons (hw _ (List.mem_of_getElem? (i := 148) rfl)) (by decide +kernel) (EW.cons (hw _ (List.mem_of_getElem? (i := 145) rfl)) (by decide +kernel) (EW.cons (hw _ (List.mem_of_getElem? (i := 147) rfl)) (by decide +kernel) (EW.cons (hw _ (List.mem_of_getElem? (i := 140) rfl)) (by decide +kernel) (EW.nil)))))
theorem own_arrne {Z : State} {h : Heap} {b a : Addr} {k : ClassId} {vs : List Value} {dv v : Value} {C nm d : String} (V : Arv Z h b k .byte 0 vs dv) (F : Fld Z h a C nm d v) : b ≠ a := fun q => by
  subst q
  obtain ⟨cl, A, -, S, -⟩ := V
  obtain ⟨cell, cf, kk, i, f, h1, h2, -, -, -, -, h7⟩ := F
  cases A.1.symm.trans h1
  have := (Array.getElem?_eq_some_iff.mp h7).1
  have z : (0 : Int32).toNatClampNeg = 0 := rfl
  omega
def Q_rmI4_0 (Z : State) (a : Addr) (n0 : Nat) (h0 : Heap) (v : Option Value) (h : Heap) (L : List Loc) : Prop := v = none ∧ Fr n0 L ∧ Keep h0 h [a] ∧ ∃ (b : Addr) (kb : ClassId), Fld Z h a "java/lang/String" "coder" "B" (.int 0) ∧ Fld Z h a "java/lang/String" "value" "[B" (.ref b) ∧ Arv Z h b kb .byte 0 [] (.int 0)
theorem ef_rmI4_0 (a ca : Addr) (m : MethodId) : entryFrame m #[(.ref a), (.ref ca), (.int 0), (.int 0), .null] 6 = mkF m 0 #[.val (.ref a), .val (.ref ca), .val (.int 0), .val (.int 0), .val .null, .unset] [] := by first | (simp [entryFrame, mkF, argsToLocals, Value.category]; done) | rfl
theorem rmI4_0 (l : Launch) (Z : State) (a0 : Array Value) (hw : ∀ d ∈ tables_1, d.before a0 Z = true) (a ca : Addr) (h0 : Heap) (n0 : Nat) (Z0 : n0 ≤ h0.size) (O0 : Old Z n0 h0) (E : Exa Z h0 a "java/lang/String") (ga : n0 ≤ a) (Fc : Fld Z h0 a "java/lang/String" "coder" "B" (.int 0)) (Fv : Fld Z h0 a "java/lang/String" "value" "[B" .null) :
    MetFree l (⟨"java/lang/String", "<init>", "([CIILjava/lang/Void;)V"⟩ : MethodName) (head1 [Jvm.Cond.code (⟨"java/lang/String", "<init>", "([CIILjava/lang/Void;)V"⟩ : MethodName) jdk_42_method_149_code 6 none] ({ frames := 1, cells := 2, slots := 4, locals := 14 } : Room)) (fun as_ U => as_ = #[(.ref a), (.ref ca), (.int 0), (.int 0), .null] ∧ Z.Warmed39 U.vm ∧ U.heap = h0 ∧ CHv Z own_EL U.vm h0) (fun _ _ _ _ _ => True) (fun _ U o U' => ∃ v L, o = .returned v ∧ Q_rmI4_0 Z a n0 h0 v U'.heap L ∧ ReturnedEndW U o U' L ({ frames := 1, cells := 2, slots := 4, locals := 14 } : Room).cells ({ frames := 1, cells := 2, slots := 4, locals := 14 } : Room).slots) := by
  have own_wS := own_strw hw
  have hEL := own_ew hw
  refine own_metH own_pf10 (ef_rmI4_0 a ca) ?_
  intro p e s m below meth c T0 X0 hx hby hml hret hlk hnm hown hZ e0 hS hC
  have N0 := Fr.nil n0
  have hk : 0 ≤ h0.size := Nat.zero_le _
  refine g_aloadN X0 hx 1 (hb hby d11_0) rfl rfl rfl ?_
  refine g_objinit X0 hx hZ hown (hw _ (List.mem_of_getElem? (i := 60) rfl)) (hw _ (List.mem_of_getElem? (i := 61) rfl)) (hw _ (List.mem_of_getElem? (i := 62) rfl)) e0 0 4 (hb hby d11_1) rfl (by rw [hml]; rfl) (by decide) (Nat.le_refl _) (by decide) ?_
  intro T1878 X1878 e1878
  refine g_iloadN X1878 hx 5 (hb hby d11_4) rfl rfl ?_
  have ll1880 : ((0 : Int32) : Int32).toInt = 0 := by decide
  refine g_if_ne X1878 hx 27 8 (hb hby d11_5) (by decide) (by decide) rfl (fun c1879 => ?_) (fun c1879 => ?_)
  · skip
    exfalso; revert c1879; decide
  · skip
    refine g_aloadN X1878 hx 9 (hb hby d11_8) rfl rfl rfl ?_
    refine g_ldcH X1878 hx hZ hown (hw _ (List.mem_of_getElem? (i := 140) rfl)) own_wS e1878 hS hk hEL (List.mem_of_getElem? (i := 4) rfl) hC (vs := []) (z := 0) ⟨by decide +kernel, by decide +kernel⟩ (by decide) (by decide) 0 (by decide +kernel) (by decide) 11 (hb hby d11_9) rfl (by decide) (by decide) ?_
    intro t1881 T1881 h1881 k1881 vb1881 kb1881 X1881 e1881 E1881 hS hk hZ hown Es1881 Cs1881 Fs1881 Vs1881 hC LT
    have F1882 := O0.ext E1881
    have F1883 := E.ext E1881
    have F1884 := Fc.ext E1881
    have F1885 := Fv.ext E1881
    have K1886 := (Keep.refl h0 [a]).ext E1881
    have Z1887 : n0 ≤ h1881.size := Nat.le_trans Z0 E1881.1
    have nab : t1881 ≠ a := Fld.ne Fs1881 F1885 (fun q => by cases q)
    have nvb : vb1881 ≠ a := own_arrne Vs1881 F1885
    refine g_getF X1881 hx hZ hown (hw _ (List.mem_of_getElem? (i := 18) rfl)) Via.refl e1881 Fs1881 14 (hb hby d11_11) rfl ?_
    intro T1888 X1888 e1888
    refine g_putF X1888 hx hZ hown (hw _ (List.mem_of_getElem? (i := 18) rfl)) Via.refl e1888 F1885 F1883 (Or.inr ⟨(hw _ (List.mem_of_getElem? (i := 4) rfl)), rfl, hnm⟩) (hw _ (List.mem_of_getElem? (i := 2) rfl)) (ty := (.array .byte)) (by decide) rfl rfl 17 (hb hby d11_14) rfl ?_
    intro T1889 h1889 X1889 e1889 W1889
    have F1890 : Fld Z h1889 a "java/lang/String" "value" "[B" (.ref vb1881) := F1885.same W1889
    have F1891 := F1882.wr W1889 ga
    have F1892 := F1883.wr W1889
    have F1893 := F1884.other W1889 (Or.inr (slot_ne (Or.inr (hw _ (List.mem_of_getElem? (i := 5) rfl))) (Or.inr (hw _ (List.mem_of_getElem? (i := 4) rfl))) (by decide) (t := .byte) (t' := (.array .byte)) (by decide) (by decide)))
    have F1894 := Es1881.wr W1889
    have F1895 := Cs1881.other W1889 (Or.inl nab)
    have F1896 := Fs1881.other W1889 (Or.inl nab)
    have F1897 := Vs1881.other W1889 nvb
    have K1898 := K1886.wr W1889 (Or.inl (List.mem_of_getElem? (i := 0) rfl))
    have N1899 := Fr.snoc X1889 N0 ga
    have Z1900 : n0 ≤ h1889.size := by rw [W1889.size]; exact Z1887
    refine g_aloadN X1889 hx 18 (hb hby d11_17) rfl rfl rfl ?_
    refine g_ldcA X1889 hx hZ hown (hw _ (List.mem_of_getElem? (i := 140) rfl)) LT 20 (hb hby d11_18) rfl ?_
    refine g_getF X1889 hx hZ hown (hw _ (List.mem_of_getElem? (i := 25) rfl)) Via.refl e1889 F1895 23 (hb hby d11_20) rfl ?_
    intro T1901 X1901 e1901
    refine g_putF X1901 hx hZ hown (hw _ (List.mem_of_getElem? (i := 25) rfl)) Via.refl e1901 F1893 F1892 (Or.inr ⟨(hw _ (List.mem_of_getElem? (i := 5) rfl)), rfl, hnm⟩) (hw _ (List.mem_of_getElem? (i := 2) rfl)) (ty := .byte) (by decide) rfl rfl 26 (hb hby d11_23) rfl ?_
    intro T1902 h1902 X1902 e1902 W1902
    have F1903 : Fld Z h1902 a "java/lang/String" "coder" "B" (.int (0 : Int32)) := F1893.same W1902
    have F1904 := F1891.wr W1902 ga
    have F1905 := F1892.wr W1902
    have F1906 := F1894.wr W1902
    have F1907 := F1895.other W1902 (Or.inl nab)
    have F1908 := F1896.other W1902 (Or.inl nab)
    have F1909 := F1897.other W1902 nvb
    have F1910 := F1890.other W1902 (Or.inr (slot_ne (Or.inr (hw _ (List.mem_of_getElem? (i := 4) rfl))) (Or.inr (hw _ (List.mem_of_getElem? (i := 5) rfl))) (by decide) (t := (.array .byte)) (t' := .byte) (by decide) (by decide)))
    have K1911 := K1898.wr W1902 (Or.inl (List.mem_of_getElem? (i := 0) rfl))
    have N1912 := Fr.snoc X1902 N1899 ga
    have Z1913 : n0 ≤ h1902.size := by rw [W1902.size]; exact Z1900
    exact g_retVW X1902 hx hlk hret (hb hby d11_26) (by decide) (by decide) e1902 hS (Nat.le_trans hk (by rw [W1902.size, W1889.size]; exact Nat.le_refl _)) ⟨rfl, N1912, K1911, vb1881, kb1881, F1903, F1910, F1909⟩
def Q_rmI1_0 (Z : State) (a : Addr) (n0 : Nat) (h0 : Heap) (v : Option Value) (h : Heap) (L : List Loc) : Prop := v = none ∧ Fr n0 L ∧ Keep h0 h [a] ∧ ∃ (b : Addr) (kb : ClassId), Fld Z h a "java/lang/String" "coder" "B" (.int 0) ∧ Fld Z h a "java/lang/String" "value" "[B" (.ref b) ∧ Arv Z h b kb .byte 0 [] (.int 0)
theorem ef_rmI1_0 (a ca : Addr) (m : MethodId) : entryFrame m #[(.ref a), (.ref ca)] 2 = mkF m 0 #[.val (.ref a), .val (.ref ca)] [] := by first | (simp [entryFrame, mkF, argsToLocals, Value.category]; done) | rfl
theorem rmI1_0 (l : Launch) (Z : State) (a0 : Array Value) (hw : ∀ d ∈ tables_1, d.before a0 Z = true) (a ca : Addr) (h0 : Heap) (n0 : Nat) (Z0 : n0 ≤ h0.size) (O0 : Old Z n0 h0) (E : Exa Z h0 a "java/lang/String") (ga : n0 ≤ a) (Fc : Fld Z h0 a "java/lang/String" "coder" "B" (.int 0)) (Fv : Fld Z h0 a "java/lang/String" "value" "[B" .null) (nac : a ≠ ca) (kc : ClassId) (Vc : Arv Z h0 ca kc .char 0 [] (.int 0)) :
    MetFree l (⟨"java/lang/String", "<init>", "([C)V"⟩ : MethodName) (head1 [Jvm.Cond.code (⟨"java/lang/String", "<init>", "([C)V"⟩ : MethodName) jdk_42_method_3_code 2 none] ({ frames := 2, cells := 2, slots := 4, locals := 40 } : Room)) (fun as_ U => as_ = #[(.ref a), (.ref ca)] ∧ Z.Warmed39 U.vm ∧ U.heap = h0 ∧ CHv Z own_EL U.vm h0) (fun _ _ _ _ _ => True) (fun _ U o U' => ∃ v L, o = .returned v ∧ Q_rmI1_0 Z a n0 h0 v U'.heap L ∧ ReturnedEndW U o U' L ({ frames := 2, cells := 2, slots := 4, locals := 40 } : Room).cells ({ frames := 2, cells := 2, slots := 4, locals := 40 } : Room).slots) := by
  have own_wS := own_strw hw
  have hEL := own_ew hw
  refine own_metH own_pf11 (ef_rmI1_0 a ca) ?_
  intro p e s m below meth c T0 X0 hx hby hml hret hlk hnm hown hZ e0 hS hC
  have N0 := Fr.nil n0
  have hk : 0 ≤ h0.size := Nat.zero_le _
  refine g_aloadN X0 hx 1 (hb hby d10_0) rfl rfl rfl ?_
  refine g_aloadN X0 hx 2 (hb hby d10_1) rfl rfl rfl ?_
  refine g_iconst X0 hx (0 : Int32) 3 (hb hby d10_2) rfl (by decide) ?_
  refine g_aloadN X0 hx 4 (hb hby d10_3) rfl rfl rfl ?_
  refine g_len X0 hx hZ e0 Vc 5 (hb hby d10_4) rfl ?_
  refine g_null X0 hx 6 (hb hby d10_5) rfl ?_
  refine g_initH X0 hx hZ rfl hown (hw _ (List.mem_of_getElem? (i := 56) rfl)) (hw _ (List.mem_of_getElem? (i := 57) rfl)) (hw _ (List.mem_of_getElem? (i := 1) rfl)) (hw _ (List.mem_of_getElem? (i := 59) rfl)) (by decide) (rmI4_0 l Z a0 hw a ca h0 n0 Z0 O0 E ga Fc Fv) e0 hS hk hEL hC (a := a) (argsL := [(.ref ca), (.int (0 : Int32)), (.int (0 : Int32)), .null]) (rest := []) rfl rfl 0 9 rfl (by rw [hml]; rfl) (lenOf own_pd10 rfl) (Nat.le_refl _) (by decide) (by decide) (by decide) (by decide) (hb hby d10_6) ?_
  intro v1914 T1914 L1914 X1914 hS hZ hown hQ1914
  obtain ⟨rfl, N1914, K1914, b, kb, c_, v_, Vb⟩ := hQ1914
  have N1915 := Fr.app N0 N1914
  have F1916 := O0.keep K1914 (allS ga all0)
  have F1917 := E.keep K1914
  have F1920 := Vc.keep K1914 (ninS (Ne.symm nac) nin0)
  have Z1921 : n0 ≤ T1914.heap.size := Nat.le_trans Z0 K1914.1
  have K1922 := (Keep.refl h0 [a]).trans K1914 (allS (Or.inl (List.mem_of_getElem? (i := 0) rfl)) all0)
  show Go p e below _ T1914 (mkF m 9 #[.val (.ref a), .val (.ref ca)] [])
  exact g_retVW X1914 hx hlk hret (hb hby d10_9) (by decide) (by decide) rfl hS (Nat.le_refl _) ⟨rfl, N1915, K1922, b, kb, c_, v_, Vb⟩
def Q_rmMk_0 (Z : State) (n0 : Nat) (h0 : Heap) (v : Option Value) (h : Heap) (L : List Loc) : Prop := ∃ (r vb : Addr) (kb : ClassId) (z : Int32) (xs : List Int32), v = some (.ref r) ∧ Fr n0 L ∧ Keep h0 h [] ∧ n0 ≤ r ∧ h0.size ≤ r ∧ Exa Z h r "java/lang/String" ∧ Fld Z h r "java/lang/String" "coder" "B" (.int 0) ∧ Fld Z h r "java/lang/String" "value" "[B" (.ref vb) ∧ Arv Z h vb kb .byte z (xs.map Value.int) (.int 0) ∧ z.toInt = (xs.length : Int)
theorem ef_rmMk_0 (ca : Addr) (m : MethodId) : entryFrame m #[(.int 0), (.ref ca)] 2 = mkF m 0 #[.val (.int 0), .val (.ref ca)] [] := by first | (simp [entryFrame, mkF, argsToLocals, Value.category]; done) | rfl
theorem rmMk_0 (l : Launch) (Z : State) (a0 : Array Value) (hw : ∀ d ∈ tables_1, d.before a0 Z = true) (ca : Addr) (h0 : Heap) (n0 : Nat) (Z0 : n0 ≤ h0.size) (O0 : Old Z n0 h0) :
    MetFree l (⟨"com/example/dispatchd/dispatchd/store/EventSchemaWithLabelPinLaw", "make", "(I[C)Ljava/lang/String;"⟩ : MethodName) (head1 [Jvm.Cond.code (⟨"com/example/dispatchd/dispatchd/store/EventSchemaWithLabelPinLaw", "make", "(I[C)Ljava/lang/String;"⟩ : MethodName) method_3_code 2 (some (.object "java/lang/String"))] ({ frames := 3, cells := 4, slots := 8, locals := 70 } : Room)) (fun as_ U => as_ = #[(.int 0), (.ref ca)] ∧ Z.Warmed39 U.vm ∧ U.heap = h0 ∧ CHv Z own_EL U.vm h0) (fun _ _ _ _ _ => True) (fun _ U o U' => ∃ v L, o = .returned v ∧ Q_rmMk_0 Z n0 h0 v U'.heap L ∧ ReturnedEndW U o U' L ({ frames := 3, cells := 4, slots := 8, locals := 70 } : Room).cells ({ frames := 3, cells := 4, slots := 8, locals := 70 } : Room).slots) := by
  have own_wS := own_strw hw
  have hEL := own_ew hw
  refine own_metH own_pf19 (ef_rmMk_0 ca) ?_
  intro p e s m below meth c T0 X0 hx hby hml hret hlk hnm hown hZ e0 hS hC
  have N0 := Fr.nil n0
  have hk : 0 ≤ h0.size := Nat.zero_le _
  refine g_iloadN X0 hx 1 (hb hby d9_0) rfl rfl ?_
  have ll1924 : ((0 : Int32) : Int32).toInt = 0 := by decide
  refine g_if_ne X0 hx 15 4 (hb hby d9_1) (by decide) (by decide) rfl (fun c1923 => ?_) (fun c1923 => ?_)
  · skip
    exfalso; revert c1923; decide
  · skip
    refine g_new X0 hx hZ hown (hw _ (List.mem_of_getElem? (i := 52) rfl)) (hw _ (List.mem_of_getElem? (i := 2) rfl)) (hw _ (List.mem_of_getElem? (i := 1) rfl)) e0 7 (hb hby d9_4) rfl (by decide) (by decide) ?_
    intro T1925 h1925 a1925 g1925 X1925 e1925 E1925 A1925 D1925
    have ge1926 : n0 ≤ a1925 := by rw [g1925]; exact Z0
    have sz1927 : h0.size ≤ a1925 := by rw [g1925]; exact (Keep.refl h0 []).1
    have F1928 := O0.ext E1925
    have K1929 := (Keep.refl h0 []).ext E1925
    have Z1930 : n0 ≤ h1925.size := Nat.le_trans Z0 E1925.1
    have F1931 : Fld Z h1925 a1925 "java/lang/String" "value" "[B" .null := D1925 (Or.inr (hw _ (List.mem_of_getElem? (i := 4) rfl))) (ty := (.array .byte)) (by decide)
    have F1932 : Fld Z h1925 a1925 "java/lang/String" "coder" "B" (.int (0 : Int32)) := D1925 (Or.inr (hw _ (List.mem_of_getElem? (i := 5) rfl))) (ty := .byte) (by decide)
    refine g_dup X1925 hx 8 (hb hby d9_7) rfl rfl ?_
    refine g_iconst X1925 hx (0 : Int32) 9 (hb hby d9_8) rfl (by decide) ?_
    refine g_newP X1925 hx hZ (aty := .char) (hw _ (List.mem_of_getElem? (i := 8) rfl)) e1925 (by decide) (cap := 0) (by decide) (by decide) 11 (hb hby d9_9) rfl (by decide) (by decide) (ad := "[C") (by decide) ?_
    intro T1933 h1933 k1933 a1933 g1933 X1933 e1933 E1933 V1933 A1933
    have ne1934 : a1925 ≠ a1933 := Nat.ne_of_lt (by rw [g1933]; exact A1925.lt)
    have ge1935 : n0 ≤ a1933 := by rw [g1933]; exact Z1930
    have sz1936 : h0.size ≤ a1933 := by rw [g1933]; exact K1929.1
    have F1937 := F1928.ext E1933
    have F1938 := A1925.ext E1933
    have F1939 := F1931.ext E1933
    have F1940 := F1932.ext E1933
    have K1941 := K1929.ext E1933
    have Z1942 : n0 ≤ h1933.size := Nat.le_trans Z1930 E1933.1
    have V1933' : Arv Z h1933 a1933 k1933 .char (0 : Int32) [] (.int (0 : Int32)) := V1933.pad (pad_rep [] (.int (0 : Int32)) 0)
    refine g_initH X1933 hx hZ rfl hown (hw _ (List.mem_of_getElem? (i := 53) rfl)) (hw _ (List.mem_of_getElem? (i := 54) rfl)) (hw _ (List.mem_of_getElem? (i := 1) rfl)) (hw _ (List.mem_of_getElem? (i := 55) rfl)) (by decide) (rmI1_0 l Z a0 hw a1925 a1933 h1933 n0 Z1942 F1937 F1938 ge1926 F1940 F1939 ne1934 k1933 V1933') e1933 hS (Nat.zero_le _) hEL (CHv.keep K1941 all0 hC) (a := a1925) (argsL := [(.ref a1933)]) (rest := [(.ref a1925)]) rfl rfl 1 14 rfl (by rw [hml]; rfl) (lenOf own_pd9 rfl) (Nat.le_refl _) (by decide) (by decide) (by decide) (by decide) (hb hby d9_11) ?_
    intro v1943 T1943 L1943 X1943 hS hZ hown hQ1943
    obtain ⟨rfl, N1943, K1943, b, kb, c_, v_, Vb⟩ := hQ1943
    have N1944 := Fr.app N0 N1943
    have F1945 := F1937.keep K1943 (allS ge1926 all0)
    have F1946 := F1938.keep K1943
    have F1949 := A1933.keep K1943
    have F1950 := V1933'.keep K1943 (ninS (Ne.symm ne1934) nin0)
    have Z1951 : n0 ≤ T1943.heap.size := Nat.le_trans Z1942 K1943.1
    have K1952 := K1941.trans K1943 (allS (Or.inr sz1927) all0)
    show Go p e below _ T1943 (mkF m 14 #[.val (.int (0 : Int32)), .val (.ref ca)] [(.ref a1925)])
    exact g_retAW X1943 hx hlk hret rfl rfl rfl (hb hby d9_14) (by decide) (by decide) rfl hS (Nat.le_refl _) ⟨a1925, b, kb, 0, [], rfl, N1944, K1952, ge1926, sz1927, F1946, c_, v_, Vb, (by decide)⟩
theorem rm0_425S {p : Program} {l : Launch} {e : Env} {s : State} {m : MethodId} {args : Array Value} {below : List Frame} {meth : Method} {c : Code} {T0 Z : State} {a0 : Array Value} {h0 hC : Heap} {n0 k0 : Nat} {vm0 : Vm} {L0 : List Loc} {p0 p1 p2 : Int32} {p3 : Int64} {u5 u7 u8 u9 u10 u11 u12 u14 : Int32} {ba ca : Addr} {cst : Int32} {va ro cl em lr lc vr vc : Addr} {kv kr kc_ : ClassId} {xr xc : List Int32} {b vb : Addr} {kb : ClassId} {z : Int32} {xs : List Int32} (X0 : Stand p l e room_1 (s.setVm vm0) m args below meth c T0 L0 10 150) (hx : p.tables.exec = Jvm.exec) (hby : c.code = code) (hml : c.maxLocals = maxLocals) (hret : meth.sig.returnType = ret) (hlk : meth.locks = false) (hown : (s.setVm vm0).vm.findClass "com/example/dispatchd/dispatchd/store/EventSchemaWithLabelPinLaw" = some m.cls) (hZ : Z.Warmed39 (s.setVm vm0).vm) (hw : ∀ d ∈ tables_1, d.before a0 Z = true) (e0 : T0.heap = h0) (Z0 : n0 ≤ h0.size) (N0 : Fr n0 L0) (hS : s.Since vm0 k0) (hk : k0 ≤ hC.size) (KC : Keep hC h0 []) (WO : OldW Z cst va ro cl em lr lc vr vc kv kr kc_ xr xc) (O0 : Old Z n0 h0) (E : Exa Z h0 b "java/lang/String") (Fc : Fld Z h0 b "java/lang/String" "coder" "B" (.int 0)) (Fv : Fld Z h0 b "java/lang/String" "value" "[B" (.ref vb)) (V : Arv Z h0 vb kb .byte z (xs.map Value.int) (.int 0)) (gs : n0 ≤ b) (hl : z.toInt = (xs.length : Int)) :
    Go p e below (EndW s (Q_rm0 n0) 32 5312) T0 (mkF m 425 #[.val (.int p0), .val (.int p1), .val (.int p2), .val (.long p3), .second, .val (.int u5), .val (.ref ba), .val (.int u7), .val (.int u8), .val (.int u9), .val (.int u10), .val (.int u11), .val (.int u12), .val (.ref ca), .val (.int u14), .val (.ref b), .unset, .unset, .unset] []) := by
  obtain ⟨hc, SC, SV, SRo, SCl, SE, zEv, zVv, zEro, zLro, zElr, zClr, zFlr, zVvr, hlxr, zEcl, zLcl, zElc, zClc, zFlc, zVvc, hlxc, zEe, zFe⟩ := WO
  have Ev := zEv.ext O0.2
  have Vv := zVv.ext O0.2
  have Ero := zEro.ext O0.2
  have Lro := zLro.ext O0.2
  have Elr := zElr.ext O0.2
  have Clr := zClr.ext O0.2
  have Flr := zFlr.ext O0.2
  have Vvr := zVvr.ext O0.2
  have Ecl := zEcl.ext O0.2
  have Lcl := zLcl.ext O0.2
  have Elc := zElc.ext O0.2
  have Clc := zClc.ext O0.2
  have Flc := zFlc.ext O0.2
  have Vvc := zVvc.ext O0.2
  have Ee := zEe.ext O0.2
  have Fe := zFe.ext O0.2
  have n_lr : b ≠ lr := Ne.symm (Nat.ne_of_lt (Nat.lt_of_lt_of_le (O0.1 ▸ zElr.lt) gs))
  have n_lc : b ≠ lc := Ne.symm (Nat.ne_of_lt (Nat.lt_of_lt_of_le (O0.1 ▸ zElc.lt) gs))
  refine g_aload X0 hx 427 (hb hby at_425) rfl rfl rfl ?_
  refine g_static X0 hx hZ hown (hw _ (List.mem_of_getElem? (i := 73) rfl)) (hw _ (List.mem_of_getElem? (i := 74) rfl)) (hw _ (List.mem_of_getElem? (i := 75) rfl)) (hw _ (List.mem_of_getElem? (i := 76) rfl)) (by decide) (rmWL l Z a0 hw b h0 n0 Z0 cst va ro cl em lr lc vr vc kv kr kc_ xr xc ⟨hc, SC, SV, SRo, SCl, SE, zEv, zVv, zEro, zLro, zElr, zClr, zFlr, zVvr, hlxr, zEcl, zLcl, zElc, zClc, zFlc, zVvc, hlxc, zEe, zFe⟩ O0 vb kb z xs E Fc Fv V gs hl) e0 (argsL := [(.ref b)]) (rest := []) rfl rfl 0 430 rfl (by rw [hml]; rfl) (lenOf own_pd15 rfl) (Nat.le_refl _) (by decide) (by decide) (by decide) (by decide) (hb hby at_427) ?_
  intro v1953 T1953 L1953 X1953 hQ1953
  obtain ⟨q, rfl, N1953, K1953, Eq_, Fq_⟩ := hQ1953
  have N1954 := Fr.app N0 N1953
  have F1955 := O0.keep K1953 all0
  have F1956 := Ev.keep K1953
  have F1957 := Vv.keep K1953 nin0
  have F1958 := Ero.keep K1953
  have F1959 := Lro.keep K1953 nin0
  have F1960 := Elr.keep K1953
  have F1961 := Clr.keep K1953 nin0
  have F1962 := Flr.keep K1953 nin0
  have F1963 := Vvr.keep K1953 nin0
  have F1964 := Ecl.keep K1953
  have F1965 := Lcl.keep K1953 nin0
  have F1966 := Elc.keep K1953
  have F1967 := Clc.keep K1953 nin0
  have F1968 := Flc.keep K1953 nin0
  have F1969 := Vvc.keep K1953 nin0
  have F1970 := Ee.keep K1953
  have F1971 := Fe.keep K1953 nin0
  have F1972 := E.keep K1953
  have F1973 := Fc.keep K1953 nin0
  have F1974 := Fv.keep K1953 nin0
  have F1975 := V.keep K1953 nin0
  have Z1976 : n0 ≤ T1953.heap.size := Nat.le_trans Z0 K1953.1
  have K1977 := KC.trans K1953 all0
  show Go p e below _ T1953 (mkF m 430 #[.val (.int p0), .val (.int p1), .val (.int p2), .val (.long p3), .second, .val (.int u5), .val (.ref ba), .val (.int u7), .val (.int u8), .val (.int u9), .val (.int u10), .val (.int u11), .val (.int u12), .val (.ref ca), .val (.int u14), .val (.ref b), .unset, .unset, .unset] [(.ref q)])
  refine g_astore (l' := #[.val (.int p0), .val (.int p1), .val (.int p2), .val (.long p3), .second, .val (.int u5), .val (.ref ba), .val (.int u7), .val (.int u8), .val (.int u9), .val (.int u10), .val (.int u11), .val (.int u12), .val (.ref ca), .val (.int u14), .val (.ref b), .val (.ref q), .unset, .unset]) X1953 hx 432 (hb hby at_430) rfl rfl rfl ?_
  refine g_getS X1953 hx hZ hown (hw _ (List.mem_of_getElem? (i := 122) rfl)) Via.refl rfl (Sta.ext F1955.2 SRo) 435 (hb hby at_432) rfl ?_
  intro T1978 X1978 e1978
  refine g_virt X1978 hx hZ (C := "com/example/dispatchd/dispatchd/store/EventSchema") hown (hw _ (List.mem_of_getElem? (i := 123) rfl)) (hw _ (List.mem_of_getElem? (i := 124) rfl)) (hw _ (List.mem_of_getElem? (i := 126) rfl)) (hw _ (List.mem_of_getElem? (i := 126) rfl)) (hw _ (List.mem_of_getElem? (i := 125) rfl)) (hw _ (List.mem_of_getElem? (i := 75) rfl)) (hw _ (List.mem_of_getElem? (i := 127) rfl)) (by decide) (rmLb l Z a0 hw ro T1953.heap n0 Z1976 lr F1959) e1978 (b := ro) F1958 (argsL := []) (rest := []) rfl rfl 0 438 rfl (by rw [hml]; rfl) (lenOf own_pd23 rfl) (Nat.le_refl _) (by decide) (by decide) (by decide) (by decide) (hb hby at_435) ?_
  intro v1979 T1979 L1979 X1979 hQ1979
  obtain ⟨rfl, N1979, q1979⟩ := hQ1979
  have N1980 := Fr.app N1954 N1979
  show Go p e below _ T1979 (mkF m 438 #[.val (.int p0), .val (.int p1), .val (.int p2), .val (.long p3), .second, .val (.int u5), .val (.ref ba), .val (.int u7), .val (.int u8), .val (.int u9), .val (.int u10), .val (.int u11), .val (.int u12), .val (.ref ca), .val (.int u14), .val (.ref b), .val (.ref q), .unset, .unset] [(.ref lr)])
  refine g_aload X1979 hx 440 (hb hby at_438) rfl rfl rfl ?_
  refine g_virt X1979 hx hZ (C := "java/lang/String") hown (hw _ (List.mem_of_getElem? (i := 128) rfl)) (hw _ (List.mem_of_getElem? (i := 97) rfl)) (hw _ (List.mem_of_getElem? (i := 99) rfl)) (hw _ (List.mem_of_getElem? (i := 99) rfl)) (hw _ (List.mem_of_getElem? (i := 98) rfl)) (hw _ (List.mem_of_getElem? (i := 1) rfl)) (hw _ (List.mem_of_getElem? (i := 100) rfl)) (by decide) (rmEq l Z a0 hw lr b T1953.heap n0 Z1976 cst hc F1955 SC (Ne.symm n_lr) vr kr 5 xr F1960 F1961 F1962 F1963 vb kb z xs F1972 F1973 F1974 F1975 (by rw [hlxr]; decide) hl) q1979 (b := lr) F1960 (argsL := [(.ref b)]) (rest := []) rfl rfl 0 443 rfl (by rw [hml]; rfl) (lenOf own_pd18 rfl) (Nat.le_refl _) (by decide) (by decide) (by decide) (by decide) (hb hby at_440) ?_
  intro v1981 T1981 L1981 X1981 hQ1981
  obtain ⟨r_, rfl, hr_, N1981, q1981⟩ := hQ1981
  have N1982 := Fr.app N1980 N1981
  show Go p e below _ T1981 (mkF m 443 #[.val (.int p0), .val (.int p1), .val (.int p2), .val (.long p3), .second, .val (.int u5), .val (.ref ba), .val (.int u7), .val (.int u8), .val (.int u9), .val (.int u10), .val (.int u11), .val (.int u12), .val (.ref ca), .val (.int u14), .val (.ref b), .val (.ref q), .unset, .unset] [(.int r_)])
  rcases hr_ with ⟨hr1983, rfl⟩ | ⟨hr1983, rfl⟩
  · skip
    rw [if_pos hr1983] at Fq_
    refine g_istore (l' := #[.val (.int p0), .val (.int p1), .val (.int p2), .val (.long p3), .second, .val (.int u5), .val (.ref ba), .val (.int u7), .val (.int u8), .val (.int u9), .val (.int u10), .val (.int u11), .val (.int u12), .val (.ref ca), .val (.int u14), .val (.ref b), .val (.ref q), .val (.int (1 : Int32)), .unset]) X1981 hx 445 (hb hby at_443) rfl rfl ?_
    refine g_getS X1981 hx hZ hown (hw _ (List.mem_of_getElem? (i := 129) rfl)) Via.refl q1981 (Sta.ext F1955.2 SCl) 448 (hb hby at_445) rfl ?_
    intro T1984 X1984 e1984
    refine g_virt X1984 hx hZ (C := "com/example/dispatchd/dispatchd/store/EventSchema") hown (hw _ (List.mem_of_getElem? (i := 123) rfl)) (hw _ (List.mem_of_getElem? (i := 124) rfl)) (hw _ (List.mem_of_getElem? (i := 126) rfl)) (hw _ (List.mem_of_getElem? (i := 126) rfl)) (hw _ (List.mem_of_getElem? (i := 125) rfl)) (hw _ (List.mem_of_getElem? (i := 75) rfl)) (hw _ (List.mem_of_getElem? (i := 127) rfl)) (by decide) (rmLb l Z a0 hw cl T1953.heap n0 Z1976 lc F1965) e1984 (b := cl) F1964 (argsL := []) (rest := []) rfl rfl 0 451 rfl (by rw [hml]; rfl) (lenOf own_pd23 rfl) (Nat.le_refl _) (by decide) (by decide) (by decide) (by decide) (hb hby at_448) ?_
    intro v1985 T1985 L1985 X1985 hQ1985
    obtain ⟨rfl, N1985, q1985⟩ := hQ1985
    have N1986 := Fr.app N1982 N1985
    show Go p e below _ T1985 (mkF m 451 #[.val (.int p0), .val (.int p1), .val (.int p2), .val (.long p3), .second, .val (.int u5), .val (.ref ba), .val (.int u7), .val (.int u8), .val (.int u9), .val (.int u10), .val (.int u11), .val (.int u12), .val (.ref ca), .val (.int u14), .val (.ref b), .val (.ref q), .val (.int (1 : Int32)), .unset] [(.ref lc)])
    refine g_aload X1985 hx 453 (hb hby at_451) rfl rfl rfl ?_
    refine g_virt X1985 hx hZ (C := "java/lang/String") hown (hw _ (List.mem_of_getElem? (i := 128) rfl)) (hw _ (List.mem_of_getElem? (i := 97) rfl)) (hw _ (List.mem_of_getElem? (i := 99) rfl)) (hw _ (List.mem_of_getElem? (i := 99) rfl)) (hw _ (List.mem_of_getElem? (i := 98) rfl)) (hw _ (List.mem_of_getElem? (i := 1) rfl)) (hw _ (List.mem_of_getElem? (i := 100) rfl)) (by decide) (rmEq l Z a0 hw lc b T1953.heap n0 Z1976 cst hc F1955 SC (Ne.symm n_lc) vc kc_ 11 xc F1966 F1967 F1968 F1969 vb kb z xs F1972 F1973 F1974 F1975 (by rw [hlxc]; decide) hl) q1985 (b := lc) F1966 (argsL := [(.ref b)]) (rest := []) rfl rfl 0 456 rfl (by rw [hml]; rfl) (lenOf own_pd18 rfl) (Nat.le_refl _) (by decide) (by decide) (by decide) (by decide) (hb hby at_453) ?_
    intro v1987 T1987 L1987 X1987 hQ1987
    obtain ⟨r_, rfl, hr_, N1987, q1987⟩ := hQ1987
    have N1988 := Fr.app N1986 N1987
    show Go p e below _ T1987 (mkF m 456 #[.val (.int p0), .val (.int p1), .val (.int p2), .val (.long p3), .second, .val (.int u5), .val (.ref ba), .val (.int u7), .val (.int u8), .val (.int u9), .val (.int u10), .val (.int u11), .val (.int u12), .val (.ref ca), .val (.int u14), .val (.ref b), .val (.ref q), .val (.int (1 : Int32)), .unset] [(.int r_)])
    rcases hr_ with ⟨hr1989, rfl⟩ | ⟨hr1989, rfl⟩
    · skip
      refine g_istore (l' := #[.val (.int p0), .val (.int p1), .val (.int p2), .val (.long p3), .second, .val (.int u5), .val (.ref ba), .val (.int u7), .val (.int u8), .val (.int u9), .val (.int u10), .val (.int u11), .val (.int u12), .val (.ref ca), .val (.int u14), .val (.ref b), .val (.ref q), .val (.int (1 : Int32)), .val (.int (1 : Int32))]) X1987 hx 458 (hb hby at_456) rfl rfl ?_
      refine g_iload X1987 hx 460 (hb hby at_458) rfl rfl ?_
      have ll1991 : ((1 : Int32) : Int32).toInt = 1 := by decide
      refine g_if_eq X1987 hx 488 463 (hb hby at_460) (by decide) (by decide) rfl (fun c1990 => ?_) (fun c1990 => ?_)
      · skip
        exfalso; revert c1990; decide
      · skip
        refine g_aload X1987 hx 465 (hb hby at_463) rfl rfl rfl ?_
        refine g_virt X1987 hx hZ (C := "java/util/Optional") hown (hw _ (List.mem_of_getElem? (i := 130) rfl)) (hw _ (List.mem_of_getElem? (i := 131) rfl)) (hw _ (List.mem_of_getElem? (i := 133) rfl)) (hw _ (List.mem_of_getElem? (i := 133) rfl)) (hw _ (List.mem_of_getElem? (i := 132) rfl)) (hw _ (List.mem_of_getElem? (i := 107) rfl)) (hw _ (List.mem_of_getElem? (i := 134) rfl)) (by decide) (rmIPP l Z a0 hw q T1953.heap n0 Z1976 ro Fq_) q1987 (b := q) Eq_ (argsL := []) (rest := []) rfl rfl 0 468 rfl (by rw [hml]; rfl) (lenOf own_pd4 rfl) (Nat.le_refl _) (by decide) (by decide) (by decide) (by decide) (hb hby at_465) ?_
        intro v1992 T1992 L1992 X1992 hQ1992
        obtain ⟨rfl, N1992, q1992⟩ := hQ1992
        have N1993 := Fr.app N1988 N1992
        show Go p e below _ T1992 (mkF m 468 #[.val (.int p0), .val (.int p1), .val (.int p2), .val (.long p3), .second, .val (.int u5), .val (.ref ba), .val (.int u7), .val (.int u8), .val (.int u9), .val (.int u10), .val (.int u11), .val (.int u12), .val (.ref ca), .val (.int u14), .val (.ref b), .val (.ref q), .val (.int (1 : Int32)), .val (.int (1 : Int32))] [(.int (1 : Int32))])
        have ll1995 : ((1 : Int32) : Int32).toInt = 1 := by decide
        refine g_if_eq X1992 hx 486 471 (hb hby at_468) (by decide) (by decide) rfl (fun c1994 => ?_) (fun c1994 => ?_)
        · skip
          exfalso; revert c1994; decide
        · skip
          refine g_aload X1992 hx 473 (hb hby at_471) rfl rfl rfl ?_
          refine g_virt X1992 hx hZ (C := "java/util/Optional") hown (hw _ (List.mem_of_getElem? (i := 135) rfl)) (hw _ (List.mem_of_getElem? (i := 136) rfl)) (hw _ (List.mem_of_getElem? (i := 138) rfl)) (hw _ (List.mem_of_getElem? (i := 138) rfl)) (hw _ (List.mem_of_getElem? (i := 137) rfl)) (hw _ (List.mem_of_getElem? (i := 107) rfl)) (hw _ (List.mem_of_getElem? (i := 139) rfl)) (by decide) (rmGt l Z a0 hw q T1953.heap n0 Z1976 ro Fq_) q1992 (b := q) Eq_ (argsL := []) (rest := []) rfl rfl 0 476 rfl (by rw [hml]; rfl) (lenOf own_pd17 rfl) (Nat.le_refl _) (by decide) (by decide) (by decide) (by decide) (hb hby at_473) ?_
          intro v1996 T1996 L1996 X1996 hQ1996
          obtain ⟨rfl, N1996, q1996⟩ := hQ1996
          have N1997 := Fr.app N1993 N1996
          show Go p e below _ T1996 (mkF m 476 #[.val (.int p0), .val (.int p1), .val (.int p2), .val (.long p3), .second, .val (.int u5), .val (.ref ba), .val (.int u7), .val (.int u8), .val (.int u9), .val (.int u10), .val (.int u11), .val (.int u12), .val (.ref ca), .val (.int u14), .val (.ref b), .val (.ref q), .val (.int (1 : Int32)), .val (.int (1 : Int32))] [(.ref ro)])
          refine g_getS X1996 hx hZ hown (hw _ (List.mem_of_getElem? (i := 122) rfl)) Via.refl q1996 (Sta.ext F1955.2 SRo) 479 (hb hby at_476) rfl ?_
          intro T1998 X1998 e1998
          refine g_acmp_ne X1998 hx rfl rfl 486 482 (hb hby at_479) (by decide) (by decide) rfl (fun c1999 => ?_) (fun c1999 => ?_)
          · skip
            exact absurd rfl c1999
          · skip
            refine g_iconst X1998 hx (1 : Int32) 483 (hb hby at_482) rfl (by decide) ?_
            refine g_goto X1998 hx 487 (hb hby at_483) (by decide) (by decide) ?_
            exact g_retZW X1998 hx hlk hret (hb hby at_487) (by decide) (by decide) e1998 hS (Nat.le_trans hk (K1977).1) ⟨rfl, N1997⟩
    · skip
      refine g_istore (l' := #[.val (.int p0), .val (.int p1), .val (.int p2), .val (.long p3), .second, .val (.int u5), .val (.ref ba), .val (.int u7), .val (.int u8), .val (.int u9), .val (.int u10), .val (.int u11), .val (.int u12), .val (.ref ca), .val (.int u14), .val (.ref b), .val (.ref q), .val (.int (1 : Int32)), .val (.int (0 : Int32))]) X1987 hx 458 (hb hby at_456) rfl rfl ?_
      refine g_iload X1987 hx 460 (hb hby at_458) rfl rfl ?_
      have ll2001 : ((1 : Int32) : Int32).toInt = 1 := by decide
      refine g_if_eq X1987 hx 488 463 (hb hby at_460) (by decide) (by decide) rfl (fun c2000 => ?_) (fun c2000 => ?_)
      · skip
        exfalso; revert c2000; decide
      · skip
        refine g_aload X1987 hx 465 (hb hby at_463) rfl rfl rfl ?_
        refine g_virt X1987 hx hZ (C := "java/util/Optional") hown (hw _ (List.mem_of_getElem? (i := 130) rfl)) (hw _ (List.mem_of_getElem? (i := 131) rfl)) (hw _ (List.mem_of_getElem? (i := 133) rfl)) (hw _ (List.mem_of_getElem? (i := 133) rfl)) (hw _ (List.mem_of_getElem? (i := 132) rfl)) (hw _ (List.mem_of_getElem? (i := 107) rfl)) (hw _ (List.mem_of_getElem? (i := 134) rfl)) (by decide) (rmIPP l Z a0 hw q T1953.heap n0 Z1976 ro Fq_) q1987 (b := q) Eq_ (argsL := []) (rest := []) rfl rfl 0 468 rfl (by rw [hml]; rfl) (lenOf own_pd4 rfl) (Nat.le_refl _) (by decide) (by decide) (by decide) (by decide) (hb hby at_465) ?_
        intro v2002 T2002 L2002 X2002 hQ2002
        obtain ⟨rfl, N2002, q2002⟩ := hQ2002
        have N2003 := Fr.app N1988 N2002
        show Go p e below _ T2002 (mkF m 468 #[.val (.int p0), .val (.int p1), .val (.int p2), .val (.long p3), .second, .val (.int u5), .val (.ref ba), .val (.int u7), .val (.int u8), .val (.int u9), .val (.int u10), .val (.int u11), .val (.int u12), .val (.ref ca), .val (.int u14), .val (.ref b), .val (.ref q), .val (.int (1 : Int32)), .val (.int (0 : Int32))] [(.int (1 : Int32))])
        have ll2005 : ((1 : Int32) : Int32).toInt = 1 := by decide
        refine g_if_eq X2002 hx 486 471 (hb hby at_468) (by decide) (by decide) rfl (fun c2004 => ?_) (fun c2004 => ?_)
        · skip
          exfalso; revert c2004; decide
        · skip
          refine g_aload X2002 hx 473 (hb hby at_471) rfl rfl rfl ?_
          refine g_virt X2002 hx hZ (C := "java/util/Optional") hown (hw _ (List.mem_of_getElem? (i := 135) rfl)) (hw _ (List.mem_of_getElem? (i := 136) rfl)) (hw _ (List.mem_of_getElem? (i := 138) rfl)) (hw _ (List.mem_of_getElem? (i := 138) rfl)) (hw _ (List.mem_of_getElem? (i := 137) rfl)) (hw _ (List.mem_of_getElem? (i := 107) rfl)) (hw _ (List.mem_of_getElem? (i := 139) rfl)) (by decide) (rmGt l Z a0 hw q T1953.heap n0 Z1976 ro Fq_) q2002 (b := q) Eq_ (argsL := []) (rest := []) rfl rfl 0 476 rfl (by rw [hml]; rfl) (lenOf own_pd17 rfl) (Nat.le_refl _) (by decide) (by decide) (by decide) (by decide) (hb hby at_473) ?_
          intro v2006 T2006 L2006 X2006 hQ2006
          obtain ⟨rfl, N2006, q2006⟩ := hQ2006
          have N2007 := Fr.app N2003 N2006
          show Go p e below _ T2006 (mkF m 476 #[.val (.int p0), .val (.int p1), .val (.int p2), .val (.long p3), .second, .val (.int u5), .val (.ref ba), .val (.int u7), .val (.int u8), .val (.int u9), .val (.int u10), .val (.int u11), .val (.int u12), .val (.ref ca), .val (.int u14), .val (.ref b), .val (.ref q), .val (.int (1 : Int32)), .val (.int (0 : Int32))] [(.ref ro)])
          refine g_getS X2006 hx hZ hown (hw _ (List.mem_of_getElem? (i := 122) rfl)) Via.refl q2006 (Sta.ext F1955.2 SRo) 479 (hb hby at_476) rfl ?_
          intro T2008 X2008 e2008
          refine g_acmp_ne X2008 hx rfl rfl 486 482 (hb hby at_479) (by decide) (by decide) rfl (fun c2009 => ?_) (fun c2009 => ?_)
          · skip
            exact absurd rfl c2009
          · skip
            refine g_iconst X2008 hx (1 : Int32) 483 (hb hby at_482) rfl (by decide) ?_
            refine g_goto X2008 hx 487 (hb hby at_483) (by decide) (by decide) ?_
            exact g_retZW X2008 hx hlk hret (hb hby at_487) (by decide) (by decide) e2008 hS (Nat.le_trans hk (K1977).1) ⟨rfl, N2007⟩
  · skip
    rw [if_neg hr1983] at Fq_
    refine g_istore (l' := #[.val (.int p0), .val (.int p1), .val (.int p2), .val (.long p3), .second, .val (.int u5), .val (.ref ba), .val (.int u7), .val (.int u8), .val (.int u9), .val (.int u10), .val (.int u11), .val (.int u12), .val (.ref ca), .val (.int u14), .val (.ref b), .val (.ref q), .val (.int (0 : Int32)), .unset]) X1981 hx 445 (hb hby at_443) rfl rfl ?_
    refine g_getS X1981 hx hZ hown (hw _ (List.mem_of_getElem? (i := 129) rfl)) Via.refl q1981 (Sta.ext F1955.2 SCl) 448 (hb hby at_445) rfl ?_
    intro T2010 X2010 e2010
    refine g_virt X2010 hx hZ (C := "com/example/dispatchd/dispatchd/store/EventSchema") hown (hw _ (List.mem_of_getElem? (i := 123) rfl)) (hw _ (List.mem_of_getElem? (i := 124) rfl)) (hw _ (List.mem_of_getElem? (i := 126) rfl)) (hw _ (List.mem_of_getElem? (i := 126) rfl)) (hw _ (List.mem_of_getElem? (i := 125) rfl)) (hw _ (List.mem_of_getElem? (i := 75) rfl)) (hw _ (List.mem_of_getElem? (i := 127) rfl)) (by decide) (rmLb l Z a0 hw cl T1953.heap n0 Z1976 lc F1965) e2010 (b := cl) F1964 (argsL := []) (rest := []) rfl rfl 0 451 rfl (by rw [hml]; rfl) (lenOf own_pd23 rfl) (Nat.le_refl _) (by decide) (by decide) (by decide) (by decide) (hb hby at_448) ?_
    intro v2011 T2011 L2011 X2011 hQ2011
    obtain ⟨rfl, N2011, q2011⟩ := hQ2011
    have N2012 := Fr.app N1982 N2011
    show Go p e below _ T2011 (mkF m 451 #[.val (.int p0), .val (.int p1), .val (.int p2), .val (.long p3), .second, .val (.int u5), .val (.ref ba), .val (.int u7), .val (.int u8), .val (.int u9), .val (.int u10), .val (.int u11), .val (.int u12), .val (.ref ca), .val (.int u14), .val (.ref b), .val (.ref q), .val (.int (0 : Int32)), .unset] [(.ref lc)])
    refine g_aload X2011 hx 453 (hb hby at_451) rfl rfl rfl ?_
    refine g_virt X2011 hx hZ (C := "java/lang/String") hown (hw _ (List.mem_of_getElem? (i := 128) rfl)) (hw _ (List.mem_of_getElem? (i := 97) rfl)) (hw _ (List.mem_of_getElem? (i := 99) rfl)) (hw _ (List.mem_of_getElem? (i := 99) rfl)) (hw _ (List.mem_of_getElem? (i := 98) rfl)) (hw _ (List.mem_of_getElem? (i := 1) rfl)) (hw _ (List.mem_of_getElem? (i := 100) rfl)) (by decide) (rmEq l Z a0 hw lc b T1953.heap n0 Z1976 cst hc F1955 SC (Ne.symm n_lc) vc kc_ 11 xc F1966 F1967 F1968 F1969 vb kb z xs F1972 F1973 F1974 F1975 (by rw [hlxc]; decide) hl) q2011 (b := lc) F1966 (argsL := [(.ref b)]) (rest := []) rfl rfl 0 456 rfl (by rw [hml]; rfl) (lenOf own_pd18 rfl) (Nat.le_refl _) (by decide) (by decide) (by decide) (by decide) (hb hby at_453) ?_
    intro v2013 T2013 L2013 X2013 hQ2013
    obtain ⟨r_, rfl, hr_, N2013, q2013⟩ := hQ2013
    have N2014 := Fr.app N2012 N2013
    show Go p e below _ T2013 (mkF m 456 #[.val (.int p0), .val (.int p1), .val (.int p2), .val (.long p3), .second, .val (.int u5), .val (.ref ba), .val (.int u7), .val (.int u8), .val (.int u9), .val (.int u10), .val (.int u11), .val (.int u12), .val (.ref ca), .val (.int u14), .val (.ref b), .val (.ref q), .val (.int (0 : Int32)), .unset] [(.int r_)])
    rcases hr_ with ⟨hr2015, rfl⟩ | ⟨hr2015, rfl⟩
    · skip
      rw [if_pos hr2015] at Fq_
      refine g_istore (l' := #[.val (.int p0), .val (.int p1), .val (.int p2), .val (.long p3), .second, .val (.int u5), .val (.ref ba), .val (.int u7), .val (.int u8), .val (.int u9), .val (.int u10), .val (.int u11), .val (.int u12), .val (.ref ca), .val (.int u14), .val (.ref b), .val (.ref q), .val (.int (0 : Int32)), .val (.int (1 : Int32))]) X2013 hx 458 (hb hby at_456) rfl rfl ?_
      refine g_iload X2013 hx 460 (hb hby at_458) rfl rfl ?_
      have ll2017 : ((0 : Int32) : Int32).toInt = 0 := by decide
      refine g_if_eq X2013 hx 488 463 (hb hby at_460) (by decide) (by decide) rfl (fun c2016 => ?_) (fun c2016 => ?_)
      · skip
        refine g_iload X2013 hx 490 (hb hby at_488) rfl rfl ?_
        have ll2019 : ((1 : Int32) : Int32).toInt = 1 := by decide
        refine g_if_eq X2013 hx 518 493 (hb hby at_490) (by decide) (by decide) rfl (fun c2018 => ?_) (fun c2018 => ?_)
        · skip
          exfalso; revert c2018; decide
        · skip
          refine g_aload X2013 hx 495 (hb hby at_493) rfl rfl rfl ?_
          refine g_virt X2013 hx hZ (C := "java/util/Optional") hown (hw _ (List.mem_of_getElem? (i := 130) rfl)) (hw _ (List.mem_of_getElem? (i := 131) rfl)) (hw _ (List.mem_of_getElem? (i := 133) rfl)) (hw _ (List.mem_of_getElem? (i := 133) rfl)) (hw _ (List.mem_of_getElem? (i := 132) rfl)) (hw _ (List.mem_of_getElem? (i := 107) rfl)) (hw _ (List.mem_of_getElem? (i := 134) rfl)) (by decide) (rmIPP l Z a0 hw q T1953.heap n0 Z1976 cl Fq_) q2013 (b := q) Eq_ (argsL := []) (rest := []) rfl rfl 0 498 rfl (by rw [hml]; rfl) (lenOf own_pd4 rfl) (Nat.le_refl _) (by decide) (by decide) (by decide) (by decide) (hb hby at_495) ?_
          intro v2020 T2020 L2020 X2020 hQ2020
          obtain ⟨rfl, N2020, q2020⟩ := hQ2020
          have N2021 := Fr.app N2014 N2020
          show Go p e below _ T2020 (mkF m 498 #[.val (.int p0), .val (.int p1), .val (.int p2), .val (.long p3), .second, .val (.int u5), .val (.ref ba), .val (.int u7), .val (.int u8), .val (.int u9), .val (.int u10), .val (.int u11), .val (.int u12), .val (.ref ca), .val (.int u14), .val (.ref b), .val (.ref q), .val (.int (0 : Int32)), .val (.int (1 : Int32))] [(.int (1 : Int32))])
          have ll2023 : ((1 : Int32) : Int32).toInt = 1 := by decide
          refine g_if_eq X2020 hx 516 501 (hb hby at_498) (by decide) (by decide) rfl (fun c2022 => ?_) (fun c2022 => ?_)
          · skip
            exfalso; revert c2022; decide
          · skip
            refine g_aload X2020 hx 503 (hb hby at_501) rfl rfl rfl ?_
            refine g_virt X2020 hx hZ (C := "java/util/Optional") hown (hw _ (List.mem_of_getElem? (i := 135) rfl)) (hw _ (List.mem_of_getElem? (i := 136) rfl)) (hw _ (List.mem_of_getElem? (i := 138) rfl)) (hw _ (List.mem_of_getElem? (i := 138) rfl)) (hw _ (List.mem_of_getElem? (i := 137) rfl)) (hw _ (List.mem_of_getElem? (i := 107) rfl)) (hw _ (List.mem_of_getElem? (i := 139) rfl)) (by decide) (rmGt l Z a0 hw q T1953.heap n0 Z1976 cl Fq_) q2020 (b := q) Eq_ (argsL := []) (rest := []) rfl rfl 0 506 rfl (by rw [hml]; rfl) (lenOf own_pd17 rfl) (Nat.le_refl _) (by decide) (by decide) (by decide) (by decide) (hb hby at_503) ?_
            intro v2024 T2024 L2024 X2024 hQ2024
            obtain ⟨rfl, N2024, q2024⟩ := hQ2024
            have N2025 := Fr.app N2021 N2024
            show Go p e below _ T2024 (mkF m 506 #[.val (.int p0), .val (.int p1), .val (.int p2), .val (.long p3), .second, .val (.int u5), .val (.ref ba), .val (.int u7), .val (.int u8), .val (.int u9), .val (.int u10), .val (.int u11), .val (.int u12), .val (.ref ca), .val (.int u14), .val (.ref b), .val (.ref q), .val (.int (0 : Int32)), .val (.int (1 : Int32))] [(.ref cl)])
            refine g_getS X2024 hx hZ hown (hw _ (List.mem_of_getElem? (i := 129) rfl)) Via.refl q2024 (Sta.ext F1955.2 SCl) 509 (hb hby at_506) rfl ?_
            intro T2026 X2026 e2026
            refine g_acmp_ne X2026 hx rfl rfl 516 512 (hb hby at_509) (by decide) (by decide) rfl (fun c2027 => ?_) (fun c2027 => ?_)
            · skip
              exact absurd rfl c2027
            · skip
              refine g_iconst X2026 hx (1 : Int32) 513 (hb hby at_512) rfl (by decide) ?_
              refine g_goto X2026 hx 517 (hb hby at_513) (by decide) (by decide) ?_
              exact g_retZW X2026 hx hlk hret (hb hby at_517) (by decide) (by decide) e2026 hS (Nat.le_trans hk (K1977).1) ⟨rfl, N2025⟩
      · skip
        exfalso; revert c2016; decide
    · skip
      rw [if_neg hr2015] at Fq_
      refine g_istore (l' := #[.val (.int p0), .val (.int p1), .val (.int p2), .val (.long p3), .second, .val (.int u5), .val (.ref ba), .val (.int u7), .val (.int u8), .val (.int u9), .val (.int u10), .val (.int u11), .val (.int u12), .val (.ref ca), .val (.int u14), .val (.ref b), .val (.ref q), .val (.int (0 : Int32)), .val (.int (0 : Int32))]) X2013 hx 458 (hb hby at_456) rfl rfl ?_
      refine g_iload X2013 hx 460 (hb hby at_458) rfl rfl ?_
      have ll2029 : ((0 : Int32) : Int32).toInt = 0 := by decide
      refine g_if_eq X2013 hx 488 463 (hb hby at_460) (by decide) (by decide) rfl (fun c2028 => ?_) (fun c2028 => ?_)
      · skip
        refine g_iload X2013 hx 490 (hb hby at_488) rfl rfl ?_
        have ll2031 : ((0 : Int32) : Int32).toInt = 0 := by decide
        refine g_if_eq X2013 hx 518 493 (hb hby at_490) (by decide) (by decide) rfl (fun c2030 => ?_) (fun c2030 => ?_)
        · skip
          refine g_aload X2013 hx 520 (hb hby at_518) rfl rfl rfl ?_
          refine g_virt X2013 hx hZ (C := "java/util/Optional") hown (hw _ (List.mem_of_getElem? (i := 130) rfl)) (hw _ (List.mem_of_getElem? (i := 131) rfl)) (hw _ (List.mem_of_getElem? (i := 133) rfl)) (hw _ (List.mem_of_getElem? (i := 133) rfl)) (hw _ (List.mem_of_getElem? (i := 132) rfl)) (hw _ (List.mem_of_getElem? (i := 107) rfl)) (hw _ (List.mem_of_getElem? (i := 134) rfl)) (by decide) (rmIPA l Z a0 hw q T1953.heap n0 Z1976 Fq_) q2013 (b := q) Eq_ (argsL := []) (rest := []) rfl rfl 0 523 rfl (by rw [hml]; rfl) (lenOf own_pd4 rfl) (Nat.le_refl _) (by decide) (by decide) (by decide) (by decide) (hb hby at_520) ?_
          intro v2032 T2032 L2032 X2032 hQ2032
          obtain ⟨rfl, N2032, q2032⟩ := hQ2032
          have N2033 := Fr.app N2014 N2032
          show Go p e below _ T2032 (mkF m 523 #[.val (.int p0), .val (.int p1), .val (.int p2), .val (.long p3), .second, .val (.int u5), .val (.ref ba), .val (.int u7), .val (.int u8), .val (.int u9), .val (.int u10), .val (.int u11), .val (.int u12), .val (.ref ca), .val (.int u14), .val (.ref b), .val (.ref q), .val (.int (0 : Int32)), .val (.int (0 : Int32))] [(.int (0 : Int32))])
          have ll2035 : ((0 : Int32) : Int32).toInt = 0 := by decide
          refine g_if_ne X2032 hx 530 526 (hb hby at_523) (by decide) (by decide) rfl (fun c2034 => ?_) (fun c2034 => ?_)
          · skip
            exfalso; revert c2034; decide
          · skip
            refine g_iconst X2032 hx (1 : Int32) 527 (hb hby at_526) rfl (by decide) ?_
            refine g_goto X2032 hx 531 (hb hby at_527) (by decide) (by decide) ?_
            exact g_retZW X2032 hx hlk hret (hb hby at_531) (by decide) (by decide) q2032 hS (Nat.le_trans hk (K1977).1) ⟨rfl, N2033⟩
        · skip
          exfalso; revert c2030; decide
      · skip
        exfalso; revert c2028; decide
theorem rm0_425N {p : Program} {l : Launch} {e : Env} {s : State} {m : MethodId} {args : Array Value} {below : List Frame} {meth : Method} {c : Code} {T0 Z : State} {a0 : Array Value} {h0 hC : Heap} {n0 k0 : Nat} {vm0 : Vm} {L0 : List Loc} {p0 p1 p2 : Int32} {p3 : Int64} {u5 u7 u8 u9 u10 u11 u12 u14 : Int32} {ba ca : Addr} {cst : Int32} {va ro cl em lr lc vr vc : Addr} {kv kr kc_ : ClassId} {xr xc : List Int32} (X0 : Stand p l e room_1 (s.setVm vm0) m args below meth c T0 L0 10 150) (hx : p.tables.exec = Jvm.exec) (hby : c.code = code) (hml : c.maxLocals = maxLocals) (hret : meth.sig.returnType = ret) (hlk : meth.locks = false) (hown : (s.setVm vm0).vm.findClass "com/example/dispatchd/dispatchd/store/EventSchemaWithLabelPinLaw" = some m.cls) (hZ : Z.Warmed39 (s.setVm vm0).vm) (hw : ∀ d ∈ tables_1, d.before a0 Z = true) (e0 : T0.heap = h0) (Z0 : n0 ≤ h0.size) (N0 : Fr n0 L0) (hS : s.Since vm0 k0) (hk : k0 ≤ hC.size) (KC : Keep hC h0 []) (WO : OldW Z cst va ro cl em lr lc vr vc kv kr kc_ xr xc) (O0 : Old Z n0 h0) :
    Go p e below (EndW s (Q_rm0 n0) 32 5312) T0 (mkF m 425 #[.val (.int p0), .val (.int p1), .val (.int p2), .val (.long p3), .second, .val (.int u5), .val (.ref ba), .val (.int u7), .val (.int u8), .val (.int u9), .val (.int u10), .val (.int u11), .val (.int u12), .val (.ref ca), .val (.int u14), .val .null, .unset, .unset, .unset] []) := by
  obtain ⟨hc, SC, SV, SRo, SCl, SE, zEv, zVv, zEro, zLro, zElr, zClr, zFlr, zVvr, hlxr, zEcl, zLcl, zElc, zClc, zFlc, zVvc, hlxc, zEe, zFe⟩ := WO
  have Ev := zEv.ext O0.2
  have Vv := zVv.ext O0.2
  have Ero := zEro.ext O0.2
  have Lro := zLro.ext O0.2
  have Elr := zElr.ext O0.2
  have Clr := zClr.ext O0.2
  have Flr := zFlr.ext O0.2
  have Vvr := zVvr.ext O0.2
  have Ecl := zEcl.ext O0.2
  have Lcl := zLcl.ext O0.2
  have Elc := zElc.ext O0.2
  have Clc := zClc.ext O0.2
  have Flc := zFlc.ext O0.2
  have Vvc := zVvc.ext O0.2
  have Ee := zEe.ext O0.2
  have Fe := zFe.ext O0.2
  refine g_aload X0 hx 427 (hb hby at_425) rfl rfl rfl ?_
  refine g_static X0 hx hZ hown (hw _ (List.mem_of_getElem? (i := 73) rfl)) (hw _ (List.mem_of_getElem? (i := 74) rfl)) (hw _ (List.mem_of_getElem? (i := 75) rfl)) (hw _ (List.mem_of_getElem? (i := 76) rfl)) (by decide) (rmWN l Z a0 hw h0 n0 Z0 cst va ro cl em lr lc vr vc kv kr kc_ xr xc ⟨hc, SC, SV, SRo, SCl, SE, zEv, zVv, zEro, zLro, zElr, zClr, zFlr, zVvr, hlxr, zEcl, zLcl, zElc, zClc, zFlc, zVvc, hlxc, zEe, zFe⟩ O0) e0 (argsL := [.null]) (rest := []) rfl rfl 0 430 rfl (by rw [hml]; rfl) (lenOf own_pd15 rfl) (Nat.le_refl _) (by decide) (by decide) (by decide) (by decide) (hb hby at_427) ?_
  intro v2036 T2036 L2036 X2036 hQ2036
  obtain ⟨q, rfl, N2036, K2036, Eq_, Fq_⟩ := hQ2036
  have N2037 := Fr.app N0 N2036
  have F2038 := O0.keep K2036 all0
  have F2039 := Ev.keep K2036
  have F2040 := Vv.keep K2036 nin0
  have F2041 := Ero.keep K2036
  have F2042 := Lro.keep K2036 nin0
  have F2043 := Elr.keep K2036
  have F2044 := Clr.keep K2036 nin0
  have F2045 := Flr.keep K2036 nin0
  have F2046 := Vvr.keep K2036 nin0
  have F2047 := Ecl.keep K2036
  have F2048 := Lcl.keep K2036 nin0
  have F2049 := Elc.keep K2036
  have F2050 := Clc.keep K2036 nin0
  have F2051 := Flc.keep K2036 nin0
  have F2052 := Vvc.keep K2036 nin0
  have F2053 := Ee.keep K2036
  have F2054 := Fe.keep K2036 nin0
  have Z2055 : n0 ≤ T2036.heap.size := Nat.le_trans Z0 K2036.1
  have K2056 := KC.trans K2036 all0
  show Go p e below _ T2036 (mkF m 430 #[.val (.int p0), .val (.int p1), .val (.int p2), .val (.long p3), .second, .val (.int u5), .val (.ref ba), .val (.int u7), .val (.int u8), .val (.int u9), .val (.int u10), .val (.int u11), .val (.int u12), .val (.ref ca), .val (.int u14), .val .null, .unset, .unset, .unset] [(.ref q)])
  refine g_astore (l' := #[.val (.int p0), .val (.int p1), .val (.int p2), .val (.long p3), .second, .val (.int u5), .val (.ref ba), .val (.int u7), .val (.int u8), .val (.int u9), .val (.int u10), .val (.int u11), .val (.int u12), .val (.ref ca), .val (.int u14), .val .null, .val (.ref q), .unset, .unset]) X2036 hx 432 (hb hby at_430) rfl rfl rfl ?_
  refine g_getS X2036 hx hZ hown (hw _ (List.mem_of_getElem? (i := 122) rfl)) Via.refl rfl (Sta.ext F2038.2 SRo) 435 (hb hby at_432) rfl ?_
  intro T2057 X2057 e2057
  refine g_virt X2057 hx hZ (C := "com/example/dispatchd/dispatchd/store/EventSchema") hown (hw _ (List.mem_of_getElem? (i := 123) rfl)) (hw _ (List.mem_of_getElem? (i := 124) rfl)) (hw _ (List.mem_of_getElem? (i := 126) rfl)) (hw _ (List.mem_of_getElem? (i := 126) rfl)) (hw _ (List.mem_of_getElem? (i := 125) rfl)) (hw _ (List.mem_of_getElem? (i := 75) rfl)) (hw _ (List.mem_of_getElem? (i := 127) rfl)) (by decide) (rmLb l Z a0 hw ro T2036.heap n0 Z2055 lr F2042) e2057 (b := ro) F2041 (argsL := []) (rest := []) rfl rfl 0 438 rfl (by rw [hml]; rfl) (lenOf own_pd23 rfl) (Nat.le_refl _) (by decide) (by decide) (by decide) (by decide) (hb hby at_435) ?_
  intro v2058 T2058 L2058 X2058 hQ2058
  obtain ⟨rfl, N2058, q2058⟩ := hQ2058
  have N2059 := Fr.app N2037 N2058
  show Go p e below _ T2058 (mkF m 438 #[.val (.int p0), .val (.int p1), .val (.int p2), .val (.long p3), .second, .val (.int u5), .val (.ref ba), .val (.int u7), .val (.int u8), .val (.int u9), .val (.int u10), .val (.int u11), .val (.int u12), .val (.ref ca), .val (.int u14), .val .null, .val (.ref q), .unset, .unset] [(.ref lr)])
  refine g_aload X2058 hx 440 (hb hby at_438) rfl rfl rfl ?_
  refine g_virt X2058 hx hZ (C := "java/lang/String") hown (hw _ (List.mem_of_getElem? (i := 128) rfl)) (hw _ (List.mem_of_getElem? (i := 97) rfl)) (hw _ (List.mem_of_getElem? (i := 99) rfl)) (hw _ (List.mem_of_getElem? (i := 99) rfl)) (hw _ (List.mem_of_getElem? (i := 98) rfl)) (hw _ (List.mem_of_getElem? (i := 1) rfl)) (hw _ (List.mem_of_getElem? (i := 100) rfl)) (by decide) (rmEN l Z a0 hw lr T2036.heap n0 Z2055 F2038) q2058 (b := lr) F2043 (argsL := [.null]) (rest := []) rfl rfl 0 443 rfl (by rw [hml]; rfl) (lenOf own_pd18 rfl) (Nat.le_refl _) (by decide) (by decide) (by decide) (by decide) (hb hby at_440) ?_
  intro v2060 T2060 L2060 X2060 hQ2060
  obtain ⟨rfl, N2060, q2060⟩ := hQ2060
  have N2061 := Fr.app N2059 N2060
  show Go p e below _ T2060 (mkF m 443 #[.val (.int p0), .val (.int p1), .val (.int p2), .val (.long p3), .second, .val (.int u5), .val (.ref ba), .val (.int u7), .val (.int u8), .val (.int u9), .val (.int u10), .val (.int u11), .val (.int u12), .val (.ref ca), .val (.int u14), .val .null, .val (.ref q), .unset, .unset] [(.int (0 : Int32))])
  refine g_istore (l' := #[.val (.int p0), .val (.int p1), .val (.int p2), .val (.long p3), .second, .val (.int u5), .val (.ref ba), .val (.int u7), .val (.int u8), .val (.int u9), .val (.int u10), .val (.int u11), .val (.int u12), .val (.ref ca), .val (.int u14), .val .null, .val (.ref q), .val (.int (0 : Int32)), .unset]) X2060 hx 445 (hb hby at_443) rfl rfl ?_
  refine g_getS X2060 hx hZ hown (hw _ (List.mem_of_getElem? (i := 129) rfl)) Via.refl q2060 (Sta.ext F2038.2 SCl) 448 (hb hby at_445) rfl ?_
  intro T2062 X2062 e2062
  refine g_virt X2062 hx hZ (C := "com/example/dispatchd/dispatchd/store/EventSchema") hown (hw _ (List.mem_of_getElem? (i := 123) rfl)) (hw _ (List.mem_of_getElem? (i := 124) rfl)) (hw _ (List.mem_of_getElem? (i := 126) rfl)) (hw _ (List.mem_of_getElem? (i := 126) rfl)) (hw _ (List.mem_of_getElem? (i := 125) rfl)) (hw _ (List.mem_of_getElem? (i := 75) rfl)) (hw _ (List.mem_of_getElem? (i := 127) rfl)) (by decide) (rmLb l Z a0 hw cl T2036.heap n0 Z2055 lc F2048) e2062 (b := cl) F2047 (argsL := []) (rest := []) rfl rfl 0 451 rfl (by rw [hml]; rfl) (lenOf own_pd23 rfl) (Nat.le_refl _) (by decide) (by decide) (by decide) (by decide) (hb hby at_448) ?_
  intro v2063 T2063 L2063 X2063 hQ2063
  obtain ⟨rfl, N2063, q2063⟩ := hQ2063
  have N2064 := Fr.app N2061 N2063
  show Go p e below _ T2063 (mkF m 451 #[.val (.int p0), .val (.int p1), .val (.int p2), .val (.long p3), .second, .val (.int u5), .val (.ref ba), .val (.int u7), .val (.int u8), .val (.int u9), .val (.int u10), .val (.int u11), .val (.int u12), .val (.ref ca), .val (.int u14), .val .null, .val (.ref q), .val (.int (0 : Int32)), .unset] [(.ref lc)])
  refine g_aload X2063 hx 453 (hb hby at_451) rfl rfl rfl ?_
  refine g_virt X2063 hx hZ (C := "java/lang/String") hown (hw _ (List.mem_of_getElem? (i := 128) rfl)) (hw _ (List.mem_of_getElem? (i := 97) rfl)) (hw _ (List.mem_of_getElem? (i := 99) rfl)) (hw _ (List.mem_of_getElem? (i := 99) rfl)) (hw _ (List.mem_of_getElem? (i := 98) rfl)) (hw _ (List.mem_of_getElem? (i := 1) rfl)) (hw _ (List.mem_of_getElem? (i := 100) rfl)) (by decide) (rmEN l Z a0 hw lc T2036.heap n0 Z2055 F2038) q2063 (b := lc) F2049 (argsL := [.null]) (rest := []) rfl rfl 0 456 rfl (by rw [hml]; rfl) (lenOf own_pd18 rfl) (Nat.le_refl _) (by decide) (by decide) (by decide) (by decide) (hb hby at_453) ?_
  intro v2065 T2065 L2065 X2065 hQ2065
  obtain ⟨rfl, N2065, q2065⟩ := hQ2065
  have N2066 := Fr.app N2064 N2065
  show Go p e below _ T2065 (mkF m 456 #[.val (.int p0), .val (.int p1), .val (.int p2), .val (.long p3), .second, .val (.int u5), .val (.ref ba), .val (.int u7), .val (.int u8), .val (.int u9), .val (.int u10), .val (.int u11), .val (.int u12), .val (.ref ca), .val (.int u14), .val .null, .val (.ref q), .val (.int (0 : Int32)), .unset] [(.int (0 : Int32))])
  refine g_istore (l' := #[.val (.int p0), .val (.int p1), .val (.int p2), .val (.long p3), .second, .val (.int u5), .val (.ref ba), .val (.int u7), .val (.int u8), .val (.int u9), .val (.int u10), .val (.int u11), .val (.int u12), .val (.ref ca), .val (.int u14), .val .null, .val (.ref q), .val (.int (0 : Int32)), .val (.int (0 : Int32))]) X2065 hx 458 (hb hby at_456) rfl rfl ?_
  refine g_iload X2065 hx 460 (hb hby at_458) rfl rfl ?_
  have ll2068 : ((0 : Int32) : Int32).toInt = 0 := by decide
  refine g_if_eq X2065 hx 488 463 (hb hby at_460) (by decide) (by decide) rfl (fun c2067 => ?_) (fun c2067 => ?_)
  · skip
    refine g_iload X2065 hx 490 (hb hby at_488) rfl rfl ?_
    have ll2070 : ((0 : Int32) : Int32).toInt = 0 := by decide
    refine g_if_eq X2065 hx 518 493 (hb hby at_490) (by decide) (by decide) rfl (fun c2069 => ?_) (fun c2069 => ?_)
    · skip
      refine g_aload X2065 hx 520 (hb hby at_518) rfl rfl rfl ?_
      refine g_virt X2065 hx hZ (C := "java/util/Optional") hown (hw _ (List.mem_of_getElem? (i := 130) rfl)) (hw _ (List.mem_of_getElem? (i := 131) rfl)) (hw _ (List.mem_of_getElem? (i := 133) rfl)) (hw _ (List.mem_of_getElem? (i := 133) rfl)) (hw _ (List.mem_of_getElem? (i := 132) rfl)) (hw _ (List.mem_of_getElem? (i := 107) rfl)) (hw _ (List.mem_of_getElem? (i := 134) rfl)) (by decide) (rmIPA l Z a0 hw q T2036.heap n0 Z2055 Fq_) q2065 (b := q) Eq_ (argsL := []) (rest := []) rfl rfl 0 523 rfl (by rw [hml]; rfl) (lenOf own_pd4 rfl) (Nat.le_refl _) (by decide) (by decide) (by decide) (by decide) (hb hby at_520) ?_
      intro v2071 T2071 L2071 X2071 hQ2071
      obtain ⟨rfl, N2071, q2071⟩ := hQ2071
      have N2072 := Fr.app N2066 N2071
      show Go p e below _ T2071 (mkF m 523 #[.val (.int p0), .val (.int p1), .val (.int p2), .val (.long p3), .second, .val (.int u5), .val (.ref ba), .val (.int u7), .val (.int u8), .val (.int u9), .val (.int u10), .val (.int u11), .val (.int u12), .val (.ref ca), .val (.int u14), .val .null, .val (.ref q), .val (.int (0 : Int32)), .val (.int (0 : Int32))] [(.int (0 : Int32))])
      have ll2074 : ((0 : Int32) : Int32).toInt = 0 := by decide
      refine g_if_ne X2071 hx 530 526 (hb hby at_523) (by decide) (by decide) rfl (fun c2073 => ?_) (fun c2073 => ?_)
      · skip
        exfalso; revert c2073; decide
      · skip
        refine g_iconst X2071 hx (1 : Int32) 527 (hb hby at_526) rfl (by decide) ?_
        refine g_goto X2071 hx 531 (hb hby at_527) (by decide) (by decide) ?_
        exact g_retZW X2071 hx hlk hret (hb hby at_531) (by decide) (by decide) q2071 hS (Nat.le_trans hk (K2056).1) ⟨rfl, N2072⟩
    · skip
      exfalso; revert c2069; decide
  · skip
    exfalso; revert c2067; decide
theorem rm0_388_0 {p : Program} {l : Launch} {e : Env} {s : State} {m : MethodId} {args : Array Value} {below : List Frame} {meth : Method} {c : Code} {T0 Z : State} {a0 : Array Value} {h0 hC : Heap} {n0 k0 : Nat} {vm0 : Vm} {L0 : List Loc} {p0 p1 p2 : Int32} {p3 : Int64} {u5 u7 u8 u9 u10 u11 u12 : Int32} {ba ca : Addr} {kc : ClassId} {c0 c1 c2 c3 c4 c5 c6 c7 c8 c9 c10 c11 : Int32} {cst : Int32} {va ro cl em lr lc vr vc : Addr} {kv kr kc_ : ClassId} {xr xc : List Int32} (X0 : Stand p l e room_1 (s.setVm vm0) m args below meth c T0 L0 3 62) (hx : p.tables.exec = Jvm.exec) (hby : c.code = code) (hml : c.maxLocals = maxLocals) (hret : meth.sig.returnType = ret) (hlk : meth.locks = false) (hown : (s.setVm vm0).vm.findClass "com/example/dispatchd/dispatchd/store/EventSchemaWithLabelPinLaw" = some m.cls) (hZ : Z.Warmed39 (s.setVm vm0).vm) (hw : ∀ d ∈ tables_1, d.before a0 Z = true) (e0 : T0.heap = h0) (Z0 : n0 ≤ h0.size) (N0 : Fr n0 L0) (hS : s.Since vm0 k0) (hk : k0 ≤ hC.size) (KC : Keep hC h0 []) (WO : OldW Z cst va ro cl em lr lc vr vc kv kr kc_ xr xc) (O0 : Old Z n0 h0) (bc0 : 0 ≤ c0.toInt ∧ c0.toInt ≤ 255) (bc1 : 0 ≤ c1.toInt ∧ c1.toInt ≤ 255) (bc2 : 0 ≤ c2.toInt ∧ c2.toInt ≤ 255) (bc3 : 0 ≤ c3.toInt ∧ c3.toInt ≤ 255) (bc4 : 0 ≤ c4.toInt ∧ c4.toInt ≤ 255) (bc5 : 0 ≤ c5.toInt ∧ c5.toInt ≤ 255) (bc6 : 0 ≤ c6.toInt ∧ c6.toInt ≤ 255) (bc7 : 0 ≤ c7.toInt ∧ c7.toInt ≤ 255) (bc8 : 0 ≤ c8.toInt ∧ c8.toInt ≤ 255) (bc9 : 0 ≤ c9.toInt ∧ c9.toInt ≤ 255) (bc10 : 0 ≤ c10.toInt ∧ c10.toInt ≤ 255) (bc11 : 0 ≤ c11.toInt ∧ c11.toInt ≤ 255) (Vc : Arv Z h0 ca kc .char 12 [(.int c0), (.int c1), (.int c2), (.int c3), (.int c4), (.int c5), (.int c6), (.int c7), (.int c8), (.int c9), (.int c10), (.int c11)] (.int 0)) (hCv : CHv Z own_EL vm0 hC) :
    Go p e below (EndW s (Q_rm0 n0) 32 5312) T0 (mkF m 388 #[.val (.int p0), .val (.int p1), .val (.int p2), .val (.long p3), .second, .val (.int u5), .val (.ref ba), .val (.int u7), .val (.int u8), .val (.int (0 : Int32)), .val (.int u10), .val (.int u11), .val (.int u12), .val (.ref ca), .unset, .unset, .unset, .unset, .unset] []) := by
  have WO2 := WO
  have hEL := own_ew hw
  obtain ⟨hc, SC, SV, SRo, SCl, SE, zEv, zVv, zEro, zLro, zElr, zClr, zFlr, zVvr, hlxr, zEcl, zLcl, zElc, zClc, zFlc, zVvc, hlxc, zEe, zFe⟩ := WO
  refine g_iloadN X0 hx 389 (hb hby at_388) rfl rfl ?_
  refine g_bipush X0 hx (6 : Int32) 391 (hb hby at_389) rfl (by decide) ?_
  refine g_iushr X0 hx 392 (hb hby at_391) rfl ?_
  refine g_bipush X0 hx (7 : Int32) 394 (hb hby at_392) rfl (by decide) ?_
  refine g_iand X0 hx 395 (hb hby at_394) rfl ?_
  refine g_bipush X0 hx (7 : Int32) 397 (hb hby at_395) rfl (by decide) ?_
  have ll2076 : ((7 : Int32) : Int32).toInt = 7 := by decide
  refine g_ic_ne X0 hx 404 400 (hb hby at_397) (by decide) (by decide) rfl (fun c2075 => ?_) (fun c2075 => ?_)
  · skip
    refine g_iconst X0 hx (0 : Int32) 405 (hb hby at_404) rfl (by decide) ?_
    refine g_istore (l' := #[.val (.int p0), .val (.int p1), .val (.int p2), .val (.long p3), .second, .val (.int u5), .val (.ref ba), .val (.int u7), .val (.int u8), .val (.int (0 : Int32)), .val (.int u10), .val (.int u11), .val (.int u12), .val (.ref ca), .val (.int (0 : Int32)), .unset, .unset, .unset, .unset]) X0 hx 407 (hb hby at_405) rfl rfl ?_
    refine g_iload X0 hx 409 (hb hby at_407) rfl rfl ?_
    have ll2078 : ((0 : Int32) : Int32).toInt = 0 := by decide
    refine g_if_eq X0 hx 416 412 (hb hby at_409) (by decide) (by decide) rfl (fun c2077 => ?_) (fun c2077 => ?_)
    · skip
      refine g_iload X0 hx 418 (hb hby at_416) rfl rfl ?_
      refine g_aload X0 hx 420 (hb hby at_418) rfl rfl rfl ?_
      refine g_staticH X0 hx hZ hown (hw _ (List.mem_of_getElem? (i := 49) rfl)) (hw _ (List.mem_of_getElem? (i := 50) rfl)) (hw _ (List.mem_of_getElem? (i := 11) rfl)) (hw _ (List.mem_of_getElem? (i := 51) rfl)) (by decide) (rmMk_0 l Z a0 hw ca h0 n0 Z0 O0) e0 hS (Nat.le_trans hk (KC).1) hEL (CHv.keep KC all0 hCv) (argsL := [(.int (0 : Int32)), (.ref ca)]) (rest := []) rfl rfl 0 423 rfl (by rw [hml]; rfl) (lenOf own_pd8 rfl) (Nat.le_refl _) (by decide) (by decide) (by decide) (by decide) (hb hby at_420) ?_
      intro v2079 T2079 L2079 X2079 hS hZ hown hQ2079
      obtain ⟨r, vb, kb, z, xs, rfl, N2079, K2079, gr, sr, E_, c_, v_, V_, hl⟩ := hQ2079
      have N2080 := Fr.app N0 N2079
      have F2081 := O0.keep K2079 all0
      have F2082 := Vc.keep K2079 nin0
      have Z2083 : n0 ≤ T2079.heap.size := Nat.le_trans Z0 K2079.1
      have K2084 := KC.trans K2079 all0
      show Go p e below _ T2079 (mkF m 423 #[.val (.int p0), .val (.int p1), .val (.int p2), .val (.long p3), .second, .val (.int u5), .val (.ref ba), .val (.int u7), .val (.int u8), .val (.int (0 : Int32)), .val (.int u10), .val (.int u11), .val (.int u12), .val (.ref ca), .val (.int (0 : Int32)), .unset, .unset, .unset, .unset] [(.ref r)])
      refine g_astore (l' := #[.val (.int p0), .val (.int p1), .val (.int p2), .val (.long p3), .second, .val (.int u5), .val (.ref ba), .val (.int u7), .val (.int u8), .val (.int (0 : Int32)), .val (.int u10), .val (.int u11), .val (.int u12), .val (.ref ca), .val (.int (0 : Int32)), .val (.ref r), .unset, .unset, .unset]) X2079 hx 425 (hb hby at_423) rfl rfl rfl ?_
      exact rm0_425S (hC := T2079.heap) (X2079.more (by decide) (by decide)) hx hby hml hret hlk hown hZ hw rfl Z2083 N2080 hS (Nat.le_refl _) (Keep.refl _ []) WO2 F2081 E_ c_ v_ V_ gr hl
    · skip
      exfalso; revert c2077; decide
  · skip
    refine g_iconst X0 hx (1 : Int32) 401 (hb hby at_400) rfl (by decide) ?_
    refine g_goto X0 hx 405 (hb hby at_401) (by decide) (by decide) ?_
    refine g_istore (l' := #[.val (.int p0), .val (.int p1), .val (.int p2), .val (.long p3), .second, .val (.int u5), .val (.ref ba), .val (.int u7), .val (.int u8), .val (.int (0 : Int32)), .val (.int u10), .val (.int u11), .val (.int u12), .val (.ref ca), .val (.int (1 : Int32)), .unset, .unset, .unset, .unset]) X0 hx 407 (hb hby at_405) rfl rfl ?_
    refine g_iload X0 hx 409 (hb hby at_407) rfl rfl ?_
    have ll2086 : ((1 : Int32) : Int32).toInt = 1 := by decide
    refine g_if_eq X0 hx 416 412 (hb hby at_409) (by decide) (by decide) rfl (fun c2085 => ?_) (fun c2085 => ?_)
    · skip
      exfalso; revert c2085; decide
    · skip
      refine g_null X0 hx 413 (hb hby at_412) rfl ?_
      refine g_goto X0 hx 423 (hb hby at_413) (by decide) (by decide) ?_
      refine g_astore (l' := #[.val (.int p0), .val (.int p1), .val (.int p2), .val (.long p3), .second, .val (.int u5), .val (.ref ba), .val (.int u7), .val (.int u8), .val (.int (0 : Int32)), .val (.int u10), .val (.int u11), .val (.int u12), .val (.ref ca), .val (.int (1 : Int32)), .val .null, .unset, .unset, .unset]) X0 hx 425 (hb hby at_423) rfl rfl rfl ?_
      exact rm0_425N (X0.more (by decide) (by decide)) hx hby hml hret hlk hown hZ hw e0 Z0 N0 hS hk KC WO2 O0
theorem rm0_388_1 {p : Program} {l : Launch} {e : Env} {s : State} {m : MethodId} {args : Array Value} {below : List Frame} {meth : Method} {c : Code} {T0 Z : State} {a0 : Array Value} {h0 hC : Heap} {n0 k0 : Nat} {vm0 : Vm} {L0 : List Loc} {p0 p1 p2 : Int32} {p3 : Int64} {u5 u7 u8 u9 u10 u11 u12 : Int32} {ba ca : Addr} {kc : ClassId} {c0 c1 c2 c3 c4 c5 c6 c7 c8 c9 c10 c11 : Int32} {cst : Int32} {va ro cl em lr lc vr vc : Addr} {kv kr kc_ : ClassId} {xr xc : List Int32} (X0 : Stand p l e room_1 (s.setVm vm0) m args below meth c T0 L0 3 62) (hx : p.tables.exec = Jvm.exec) (hby : c.code = code) (hml : c.maxLocals = maxLocals) (hret : meth.sig.returnType = ret) (hlk : meth.locks = false) (hown : (s.setVm vm0).vm.findClass "com/example/dispatchd/dispatchd/store/EventSchemaWithLabelPinLaw" = some m.cls) (hZ : Z.Warmed39 (s.setVm vm0).vm) (hw : ∀ d ∈ tables_1, d.before a0 Z = true) (e0 : T0.heap = h0) (Z0 : n0 ≤ h0.size) (N0 : Fr n0 L0) (hS : s.Since vm0 k0) (hk : k0 ≤ hC.size) (KC : Keep hC h0 []) (WO : OldW Z cst va ro cl em lr lc vr vc kv kr kc_ xr xc) (O0 : Old Z n0 h0) (bc0 : 0 ≤ c0.toInt ∧ c0.toInt ≤ 255) (bc1 : 0 ≤ c1.toInt ∧ c1.toInt ≤ 255) (bc2 : 0 ≤ c2.toInt ∧ c2.toInt ≤ 255) (bc3 : 0 ≤ c3.toInt ∧ c3.toInt ≤ 255) (bc4 : 0 ≤ c4.toInt ∧ c4.toInt ≤ 255) (bc5 : 0 ≤ c5.toInt ∧ c5.toInt ≤ 255) (bc6 : 0 ≤ c6.toInt ∧ c6.toInt ≤ 255) (bc7 : 0 ≤ c7.toInt ∧ c7.toInt ≤ 255) (bc8 : 0 ≤ c8.toInt ∧ c8.toInt ≤ 255) (bc9 : 0 ≤ c9.toInt ∧ c9.toInt ≤ 255) (bc10 : 0 ≤ c10.toInt ∧ c10.toInt ≤ 255) (bc11 : 0 ≤ c11.toInt ∧ c11.toInt ≤ 255) (Vc : Arv Z h0 ca kc .char 12 [(.int c0), (.int c1), (.int c2), (.int c3), (.int c4), (.int c5), (.int c6), (.int c7), (.int c8), (.int c9), (.int c10), (.int c11)] (.int 0)) (hCv : CHv Z own_EL vm0 hC) :
    Go p e below (EndW s (Q_rm0 n0) 32 5312) T0 (mkF m 388 #[.val (.int p0), .val (.int p1), .val (.int p2), .val (.long p3), .second, .val (.int u5), .val (.ref ba), .val (.int u7), .val (.int u8), .val (.int (1 : Int32)), .val (.int u10), .val (.int u11), .val (.int u12), .val (.ref ca), .unset, .unset, .unset, .unset, .unset] []) := by
  have WO2 := WO
  have hEL := own_ew hw
  obtain ⟨hc, SC, SV, SRo, SCl, SE, zEv, zVv, zEro, zLro, zElr, zClr, zFlr, zVvr, hlxr, zEcl, zLcl, zElc, zClc, zFlc, zVvc, hlxc, zEe, zFe⟩ := WO
  refine g_iloadN X0 hx 389 (hb hby at_388) rfl rfl ?_
  refine g_bipush X0 hx (6 : Int32) 391 (hb hby at_389) rfl (by decide) ?_
  refine g_iushr X0 hx 392 (hb hby at_391) rfl ?_
  refine g_bipush X0 hx (7 : Int32) 394 (hb hby at_392) rfl (by decide) ?_
  refine g_iand X0 hx 395 (hb hby at_394) rfl ?_
  refine g_bipush X0 hx (7 : Int32) 397 (hb hby at_395) rfl (by decide) ?_
  have ll2088 : ((7 : Int32) : Int32).toInt = 7 := by decide
  refine g_ic_ne X0 hx 404 400 (hb hby at_397) (by decide) (by decide) rfl (fun c2087 => ?_) (fun c2087 => ?_)
  · skip
    refine g_iconst X0 hx (0 : Int32) 405 (hb hby at_404) rfl (by decide) ?_
    refine g_istore (l' := #[.val (.int p0), .val (.int p1), .val (.int p2), .val (.long p3), .second, .val (.int u5), .val (.ref ba), .val (.int u7), .val (.int u8), .val (.int (1 : Int32)), .val (.int u10), .val (.int u11), .val (.int u12), .val (.ref ca), .val (.int (0 : Int32)), .unset, .unset, .unset, .unset]) X0 hx 407 (hb hby at_405) rfl rfl ?_
    refine g_iload X0 hx 409 (hb hby at_407) rfl rfl ?_
    have ll2090 : ((0 : Int32) : Int32).toInt = 0 := by decide
    refine g_if_eq X0 hx 416 412 (hb hby at_409) (by decide) (by decide) rfl (fun c2089 => ?_) (fun c2089 => ?_)
    · skip
      refine g_iload X0 hx 418 (hb hby at_416) rfl rfl ?_
      refine g_aload X0 hx 420 (hb hby at_418) rfl rfl rfl ?_
      refine g_static X0 hx hZ hown (hw _ (List.mem_of_getElem? (i := 49) rfl)) (hw _ (List.mem_of_getElem? (i := 50) rfl)) (hw _ (List.mem_of_getElem? (i := 11) rfl)) (hw _ (List.mem_of_getElem? (i := 51) rfl)) (by decide) (rmMk_1 l Z a0 hw ca h0 n0 Z0 cst hc O0 SC kc c0 c1 c2 c3 c4 c5 c6 c7 c8 c9 c10 c11 bc0 bc1 bc2 bc3 bc4 bc5 bc6 bc7 bc8 bc9 bc10 bc11 Vc) e0 (argsL := [(.int (1 : Int32)), (.ref ca)]) (rest := []) rfl rfl 0 423 rfl (by rw [hml]; rfl) (lenOf own_pd8 rfl) (Nat.le_refl _) (by decide) (by decide) (by decide) (by decide) (hb hby at_420) ?_
      intro v2091 T2091 L2091 X2091 hQ2091
      obtain ⟨r, vb, kb, z, xs, rfl, N2091, K2091, gr, sr, E_, c_, v_, V_, hl⟩ := hQ2091
      have N2092 := Fr.app N0 N2091
      have F2093 := O0.keep K2091 all0
      have F2094 := Vc.keep K2091 nin0
      have Z2095 : n0 ≤ T2091.heap.size := Nat.le_trans Z0 K2091.1
      have K2096 := KC.trans K2091 all0
      show Go p e below _ T2091 (mkF m 423 #[.val (.int p0), .val (.int p1), .val (.int p2), .val (.long p3), .second, .val (.int u5), .val (.ref ba), .val (.int u7), .val (.int u8), .val (.int (1 : Int32)), .val (.int u10), .val (.int u11), .val (.int u12), .val (.ref ca), .val (.int (0 : Int32)), .unset, .unset, .unset, .unset] [(.ref r)])
      refine g_astore (l' := #[.val (.int p0), .val (.int p1), .val (.int p2), .val (.long p3), .second, .val (.int u5), .val (.ref ba), .val (.int u7), .val (.int u8), .val (.int (1 : Int32)), .val (.int u10), .val (.int u11), .val (.int u12), .val (.ref ca), .val (.int (0 : Int32)), .val (.ref r), .unset, .unset, .unset]) X2091 hx 425 (hb hby at_423) rfl rfl rfl ?_
      exact rm0_425S (X2091.more (by decide) (by decide)) hx hby hml hret hlk hown hZ hw rfl Z2095 N2092 hS hk K2096 WO2 F2093 E_ c_ v_ V_ gr hl
    · skip
      exfalso; revert c2089; decide
  · skip
    refine g_iconst X0 hx (1 : Int32) 401 (hb hby at_400) rfl (by decide) ?_
    refine g_goto X0 hx 405 (hb hby at_401) (by decide) (by decide) ?_
    refine g_istore (l' := #[.val (.int p0), .val (.int p1), .val (.int p2), .val (.long p3), .second, .val (.int u5), .val (.ref ba), .val (.int u7), .val (.int u8), .val (.int (1 : Int32)), .val (.int u10), .val (.int u11), .val (.int u12), .val (.ref ca), .val (.int (1 : Int32)), .unset, .unset, .unset, .unset]) X0 hx 407 (hb hby at_405) rfl rfl ?_
    refine g_iload X0 hx 409 (hb hby at_407) rfl rfl ?_
    have ll2098 : ((1 : Int32) : Int32).toInt = 1 := by decide
    refine g_if_eq X0 hx 416 412 (hb hby at_409) (by decide) (by decide) rfl (fun c2097 => ?_) (fun c2097 => ?_)
    · skip
      exfalso; revert c2097; decide
    · skip
      refine g_null X0 hx 413 (hb hby at_412) rfl ?_
      refine g_goto X0 hx 423 (hb hby at_413) (by decide) (by decide) ?_
      refine g_astore (l' := #[.val (.int p0), .val (.int p1), .val (.int p2), .val (.long p3), .second, .val (.int u5), .val (.ref ba), .val (.int u7), .val (.int u8), .val (.int (1 : Int32)), .val (.int u10), .val (.int u11), .val (.int u12), .val (.ref ca), .val (.int (1 : Int32)), .val .null, .unset, .unset, .unset]) X0 hx 425 (hb hby at_423) rfl rfl rfl ?_
      exact rm0_425N (X0.more (by decide) (by decide)) hx hby hml hret hlk hown hZ hw e0 Z0 N0 hS hk KC WO2 O0
theorem rm0_388_4 {p : Program} {l : Launch} {e : Env} {s : State} {m : MethodId} {args : Array Value} {below : List Frame} {meth : Method} {c : Code} {T0 Z : State} {a0 : Array Value} {h0 hC : Heap} {n0 k0 : Nat} {vm0 : Vm} {L0 : List Loc} {p0 p1 p2 : Int32} {p3 : Int64} {u5 u7 u8 u9 u10 u11 u12 : Int32} {ba ca : Addr} {kc : ClassId} {c0 c1 c2 c3 c4 c5 c6 c7 c8 c9 c10 c11 : Int32} {cst : Int32} {va ro cl em lr lc vr vc : Addr} {kv kr kc_ : ClassId} {xr xc : List Int32} (X0 : Stand p l e room_1 (s.setVm vm0) m args below meth c T0 L0 3 62) (hx : p.tables.exec = Jvm.exec) (hby : c.code = code) (hml : c.maxLocals = maxLocals) (hret : meth.sig.returnType = ret) (hlk : meth.locks = false) (hown : (s.setVm vm0).vm.findClass "com/example/dispatchd/dispatchd/store/EventSchemaWithLabelPinLaw" = some m.cls) (hZ : Z.Warmed39 (s.setVm vm0).vm) (hw : ∀ d ∈ tables_1, d.before a0 Z = true) (e0 : T0.heap = h0) (Z0 : n0 ≤ h0.size) (N0 : Fr n0 L0) (hS : s.Since vm0 k0) (hk : k0 ≤ hC.size) (KC : Keep hC h0 []) (WO : OldW Z cst va ro cl em lr lc vr vc kv kr kc_ xr xc) (O0 : Old Z n0 h0) (bc0 : 0 ≤ c0.toInt ∧ c0.toInt ≤ 255) (bc1 : 0 ≤ c1.toInt ∧ c1.toInt ≤ 255) (bc2 : 0 ≤ c2.toInt ∧ c2.toInt ≤ 255) (bc3 : 0 ≤ c3.toInt ∧ c3.toInt ≤ 255) (bc4 : 0 ≤ c4.toInt ∧ c4.toInt ≤ 255) (bc5 : 0 ≤ c5.toInt ∧ c5.toInt ≤ 255) (bc6 : 0 ≤ c6.toInt ∧ c6.toInt ≤ 255) (bc7 : 0 ≤ c7.toInt ∧ c7.toInt ≤ 255) (bc8 : 0 ≤ c8.toInt ∧ c8.toInt ≤ 255) (bc9 : 0 ≤ c9.toInt ∧ c9.toInt ≤ 255) (bc10 : 0 ≤ c10.toInt ∧ c10.toInt ≤ 255) (bc11 : 0 ≤ c11.toInt ∧ c11.toInt ≤ 255) (Vc : Arv Z h0 ca kc .char 12 [(.int c0), (.int c1), (.int c2), (.int c3), (.int c4), (.int c5), (.int c6), (.int c7), (.int c8), (.int c9), (.int c10), (.int c11)] (.int 0)) (hCv : CHv Z own_EL vm0 hC) :
    Go p e below (EndW s (Q_rm0 n0) 32 5312) T0 (mkF m 388 #[.val (.int p0), .val (.int p1), .val (.int p2), .val (.long p3), .second, .val (.int u5), .val (.ref ba), .val (.int u7), .val (.int u8), .val (.int (4 : Int32)), .val (.int u10), .val (.int u11), .val (.int u12), .val (.ref ca), .unset, .unset, .unset, .unset, .unset] []) := by
  have WO2 := WO
  have hEL := own_ew hw
  obtain ⟨hc, SC, SV, SRo, SCl, SE, zEv, zVv, zEro, zLro, zElr, zClr, zFlr, zVvr, hlxr, zEcl, zLcl, zElc, zClc, zFlc, zVvc, hlxc, zEe, zFe⟩ := WO
  refine g_iloadN X0 hx 389 (hb hby at_388) rfl rfl ?_
  refine g_bipush X0 hx (6 : Int32) 391 (hb hby at_389) rfl (by decide) ?_
  refine g_iushr X0 hx 392 (hb hby at_391) rfl ?_
  refine g_bipush X0 hx (7 : Int32) 394 (hb hby at_392) rfl (by decide) ?_
  refine g_iand X0 hx 395 (hb hby at_394) rfl ?_
  refine g_bipush X0 hx (7 : Int32) 397 (hb hby at_395) rfl (by decide) ?_
  have ll2100 : ((7 : Int32) : Int32).toInt = 7 := by decide
  refine g_ic_ne X0 hx 404 400 (hb hby at_397) (by decide) (by decide) rfl (fun c2099 => ?_) (fun c2099 => ?_)
  · skip
    refine g_iconst X0 hx (0 : Int32) 405 (hb hby at_404) rfl (by decide) ?_
    refine g_istore (l' := #[.val (.int p0), .val (.int p1), .val (.int p2), .val (.long p3), .second, .val (.int u5), .val (.ref ba), .val (.int u7), .val (.int u8), .val (.int (4 : Int32)), .val (.int u10), .val (.int u11), .val (.int u12), .val (.ref ca), .val (.int (0 : Int32)), .unset, .unset, .unset, .unset]) X0 hx 407 (hb hby at_405) rfl rfl ?_
    refine g_iload X0 hx 409 (hb hby at_407) rfl rfl ?_
    have ll2102 : ((0 : Int32) : Int32).toInt = 0 := by decide
    refine g_if_eq X0 hx 416 412 (hb hby at_409) (by decide) (by decide) rfl (fun c2101 => ?_) (fun c2101 => ?_)
    · skip
      refine g_iload X0 hx 418 (hb hby at_416) rfl rfl ?_
      refine g_aload X0 hx 420 (hb hby at_418) rfl rfl rfl ?_
      refine g_static X0 hx hZ hown (hw _ (List.mem_of_getElem? (i := 49) rfl)) (hw _ (List.mem_of_getElem? (i := 50) rfl)) (hw _ (List.mem_of_getElem? (i := 11) rfl)) (hw _ (List.mem_of_getElem? (i := 51) rfl)) (by decide) (rmMk_4 l Z a0 hw ca h0 n0 Z0 cst hc O0 SC kc c0 c1 c2 c3 c4 c5 c6 c7 c8 c9 c10 c11 bc0 bc1 bc2 bc3 bc4 bc5 bc6 bc7 bc8 bc9 bc10 bc11 Vc) e0 (argsL := [(.int (4 : Int32)), (.ref ca)]) (rest := []) rfl rfl 0 423 rfl (by rw [hml]; rfl) (lenOf own_pd8 rfl) (Nat.le_refl _) (by decide) (by decide) (by decide) (by decide) (hb hby at_420) ?_
      intro v2103 T2103 L2103 X2103 hQ2103
      obtain ⟨r, vb, kb, z, xs, rfl, N2103, K2103, gr, sr, E_, c_, v_, V_, hl⟩ := hQ2103
      have N2104 := Fr.app N0 N2103
      have F2105 := O0.keep K2103 all0
      have F2106 := Vc.keep K2103 nin0
      have Z2107 : n0 ≤ T2103.heap.size := Nat.le_trans Z0 K2103.1
      have K2108 := KC.trans K2103 all0
      show Go p e below _ T2103 (mkF m 423 #[.val (.int p0), .val (.int p1), .val (.int p2), .val (.long p3), .second, .val (.int u5), .val (.ref ba), .val (.int u7), .val (.int u8), .val (.int (4 : Int32)), .val (.int u10), .val (.int u11), .val (.int u12), .val (.ref ca), .val (.int (0 : Int32)), .unset, .unset, .unset, .unset] [(.ref r)])
      refine g_astore (l' := #[.val (.int p0), .val (.int p1), .val (.int p2), .val (.long p3), .second, .val (.int u5), .val (.ref ba), .val (.int u7), .val (.int u8), .val (.int (4 : Int32)), .val (.int u10), .val (.int u11), .val (.int u12), .val (.ref ca), .val (.int (0 : Int32)), .val (.ref r), .unset, .unset, .unset]) X2103 hx 425 (hb hby at_423) rfl rfl rfl ?_
      exact rm0_425S (X2103.more (by decide) (by decide)) hx hby hml hret hlk hown hZ hw rfl Z2107 N2104 hS hk K2108 WO2 F2105 E_ c_ v_ V_ gr hl
    · skip
      exfalso; revert c2101; decide
  · skip
    refine g_iconst X0 hx (1 : Int32) 401 (hb hby at_400) rfl (by decide) ?_
    refine g_goto X0 hx 405 (hb hby at_401) (by decide) (by decide) ?_
    refine g_istore (l' := #[.val (.int p0), .val (.int p1), .val (.int p2), .val (.long p3), .second, .val (.int u5), .val (.ref ba), .val (.int u7), .val (.int u8), .val (.int (4 : Int32)), .val (.int u10), .val (.int u11), .val (.int u12), .val (.ref ca), .val (.int (1 : Int32)), .unset, .unset, .unset, .unset]) X0 hx 407 (hb hby at_405) rfl rfl ?_
    refine g_iload X0 hx 409 (hb hby at_407) rfl rfl ?_
    have ll2110 : ((1 : Int32) : Int32).toInt = 1 := by decide
    refine g_if_eq X0 hx 416 412 (hb hby at_409) (by decide) (by decide) rfl (fun c2109 => ?_) (fun c2109 => ?_)
    · skip
      exfalso; revert c2109; decide
    · skip
      refine g_null X0 hx 413 (hb hby at_412) rfl ?_
      refine g_goto X0 hx 423 (hb hby at_413) (by decide) (by decide) ?_
      refine g_astore (l' := #[.val (.int p0), .val (.int p1), .val (.int p2), .val (.long p3), .second, .val (.int u5), .val (.ref ba), .val (.int u7), .val (.int u8), .val (.int (4 : Int32)), .val (.int u10), .val (.int u11), .val (.int u12), .val (.ref ca), .val (.int (1 : Int32)), .val .null, .unset, .unset, .unset]) X0 hx 425 (hb hby at_423) rfl rfl rfl ?_
      exact rm0_425N (X0.more (by decide) (by decide)) hx hby hml hret hlk hown hZ hw e0 Z0 N0 hS hk KC WO2 O0
theorem rm0_388_5 {p : Program} {l : Launch} {e : Env} {s : State} {m : MethodId} {args : Array Value} {below : List Frame} {meth : Method} {c : Code} {T0 Z : State} {a0 : Array Value} {h0 hC : Heap} {n0 k0 : Nat} {vm0 : Vm} {L0 : List Loc} {p0 p1 p2 : Int32} {p3 : Int64} {u5 u7 u8 u9 u10 u11 u12 : Int32} {ba ca : Addr} {kc : ClassId} {c0 c1 c2 c3 c4 c5 c6 c7 c8 c9 c10 c11 : Int32} {cst : Int32} {va ro cl em lr lc vr vc : Addr} {kv kr kc_ : ClassId} {xr xc : List Int32} (X0 : Stand p l e room_1 (s.setVm vm0) m args below meth c T0 L0 3 62) (hx : p.tables.exec = Jvm.exec) (hby : c.code = code) (hml : c.maxLocals = maxLocals) (hret : meth.sig.returnType = ret) (hlk : meth.locks = false) (hown : (s.setVm vm0).vm.findClass "com/example/dispatchd/dispatchd/store/EventSchemaWithLabelPinLaw" = some m.cls) (hZ : Z.Warmed39 (s.setVm vm0).vm) (hw : ∀ d ∈ tables_1, d.before a0 Z = true) (e0 : T0.heap = h0) (Z0 : n0 ≤ h0.size) (N0 : Fr n0 L0) (hS : s.Since vm0 k0) (hk : k0 ≤ hC.size) (KC : Keep hC h0 []) (WO : OldW Z cst va ro cl em lr lc vr vc kv kr kc_ xr xc) (O0 : Old Z n0 h0) (bc0 : 0 ≤ c0.toInt ∧ c0.toInt ≤ 255) (bc1 : 0 ≤ c1.toInt ∧ c1.toInt ≤ 255) (bc2 : 0 ≤ c2.toInt ∧ c2.toInt ≤ 255) (bc3 : 0 ≤ c3.toInt ∧ c3.toInt ≤ 255) (bc4 : 0 ≤ c4.toInt ∧ c4.toInt ≤ 255) (bc5 : 0 ≤ c5.toInt ∧ c5.toInt ≤ 255) (bc6 : 0 ≤ c6.toInt ∧ c6.toInt ≤ 255) (bc7 : 0 ≤ c7.toInt ∧ c7.toInt ≤ 255) (bc8 : 0 ≤ c8.toInt ∧ c8.toInt ≤ 255) (bc9 : 0 ≤ c9.toInt ∧ c9.toInt ≤ 255) (bc10 : 0 ≤ c10.toInt ∧ c10.toInt ≤ 255) (bc11 : 0 ≤ c11.toInt ∧ c11.toInt ≤ 255) (Vc : Arv Z h0 ca kc .char 12 [(.int c0), (.int c1), (.int c2), (.int c3), (.int c4), (.int c5), (.int c6), (.int c7), (.int c8), (.int c9), (.int c10), (.int c11)] (.int 0)) (hCv : CHv Z own_EL vm0 hC) :
    Go p e below (EndW s (Q_rm0 n0) 32 5312) T0 (mkF m 388 #[.val (.int p0), .val (.int p1), .val (.int p2), .val (.long p3), .second, .val (.int u5), .val (.ref ba), .val (.int u7), .val (.int u8), .val (.int (5 : Int32)), .val (.int u10), .val (.int u11), .val (.int u12), .val (.ref ca), .unset, .unset, .unset, .unset, .unset] []) := by
  have WO2 := WO
  have hEL := own_ew hw
  obtain ⟨hc, SC, SV, SRo, SCl, SE, zEv, zVv, zEro, zLro, zElr, zClr, zFlr, zVvr, hlxr, zEcl, zLcl, zElc, zClc, zFlc, zVvc, hlxc, zEe, zFe⟩ := WO
  refine g_iloadN X0 hx 389 (hb hby at_388) rfl rfl ?_
  refine g_bipush X0 hx (6 : Int32) 391 (hb hby at_389) rfl (by decide) ?_
  refine g_iushr X0 hx 392 (hb hby at_391) rfl ?_
  refine g_bipush X0 hx (7 : Int32) 394 (hb hby at_392) rfl (by decide) ?_
  refine g_iand X0 hx 395 (hb hby at_394) rfl ?_
  refine g_bipush X0 hx (7 : Int32) 397 (hb hby at_395) rfl (by decide) ?_
  have ll2112 : ((7 : Int32) : Int32).toInt = 7 := by decide
  refine g_ic_ne X0 hx 404 400 (hb hby at_397) (by decide) (by decide) rfl (fun c2111 => ?_) (fun c2111 => ?_)
  · skip
    refine g_iconst X0 hx (0 : Int32) 405 (hb hby at_404) rfl (by decide) ?_
    refine g_istore (l' := #[.val (.int p0), .val (.int p1), .val (.int p2), .val (.long p3), .second, .val (.int u5), .val (.ref ba), .val (.int u7), .val (.int u8), .val (.int (5 : Int32)), .val (.int u10), .val (.int u11), .val (.int u12), .val (.ref ca), .val (.int (0 : Int32)), .unset, .unset, .unset, .unset]) X0 hx 407 (hb hby at_405) rfl rfl ?_
    refine g_iload X0 hx 409 (hb hby at_407) rfl rfl ?_
    have ll2114 : ((0 : Int32) : Int32).toInt = 0 := by decide
    refine g_if_eq X0 hx 416 412 (hb hby at_409) (by decide) (by decide) rfl (fun c2113 => ?_) (fun c2113 => ?_)
    · skip
      refine g_iload X0 hx 418 (hb hby at_416) rfl rfl ?_
      refine g_aload X0 hx 420 (hb hby at_418) rfl rfl rfl ?_
      refine g_static X0 hx hZ hown (hw _ (List.mem_of_getElem? (i := 49) rfl)) (hw _ (List.mem_of_getElem? (i := 50) rfl)) (hw _ (List.mem_of_getElem? (i := 11) rfl)) (hw _ (List.mem_of_getElem? (i := 51) rfl)) (by decide) (rmMk_5 l Z a0 hw ca h0 n0 Z0 cst hc O0 SC kc c0 c1 c2 c3 c4 c5 c6 c7 c8 c9 c10 c11 bc0 bc1 bc2 bc3 bc4 bc5 bc6 bc7 bc8 bc9 bc10 bc11 Vc) e0 (argsL := [(.int (5 : Int32)), (.ref ca)]) (rest := []) rfl rfl 0 423 rfl (by rw [hml]; rfl) (lenOf own_pd8 rfl) (Nat.le_refl _) (by decide) (by decide) (by decide) (by decide) (hb hby at_420) ?_
      intro v2115 T2115 L2115 X2115 hQ2115
      obtain ⟨r, vb, kb, z, xs, rfl, N2115, K2115, gr, sr, E_, c_, v_, V_, hl⟩ := hQ2115
      have N2116 := Fr.app N0 N2115
      have F2117 := O0.keep K2115 all0
      have F2118 := Vc.keep K2115 nin0
      have Z2119 : n0 ≤ T2115.heap.size := Nat.le_trans Z0 K2115.1
      have K2120 := KC.trans K2115 all0
      show Go p e below _ T2115 (mkF m 423 #[.val (.int p0), .val (.int p1), .val (.int p2), .val (.long p3), .second, .val (.int u5), .val (.ref ba), .val (.int u7), .val (.int u8), .val (.int (5 : Int32)), .val (.int u10), .val (.int u11), .val (.int u12), .val (.ref ca), .val (.int (0 : Int32)), .unset, .unset, .unset, .unset] [(.ref r)])
      refine g_astore (l' := #[.val (.int p0), .val (.int p1), .val (.int p2), .val (.long p3), .second, .val (.int u5), .val (.ref ba), .val (.int u7), .val (.int u8), .val (.int (5 : Int32)), .val (.int u10), .val (.int u11), .val (.int u12), .val (.ref ca), .val (.int (0 : Int32)), .val (.ref r), .unset, .unset, .unset]) X2115 hx 425 (hb hby at_423) rfl rfl rfl ?_
      exact rm0_425S (X2115.more (by decide) (by decide)) hx hby hml hret hlk hown hZ hw rfl Z2119 N2116 hS hk K2120 WO2 F2117 E_ c_ v_ V_ gr hl
    · skip
      exfalso; revert c2113; decide
  · skip
    refine g_iconst X0 hx (1 : Int32) 401 (hb hby at_400) rfl (by decide) ?_
    refine g_goto X0 hx 405 (hb hby at_401) (by decide) (by decide) ?_
    refine g_istore (l' := #[.val (.int p0), .val (.int p1), .val (.int p2), .val (.long p3), .second, .val (.int u5), .val (.ref ba), .val (.int u7), .val (.int u8), .val (.int (5 : Int32)), .val (.int u10), .val (.int u11), .val (.int u12), .val (.ref ca), .val (.int (1 : Int32)), .unset, .unset, .unset, .unset]) X0 hx 407 (hb hby at_405) rfl rfl ?_
    refine g_iload X0 hx 409 (hb hby at_407) rfl rfl ?_
    have ll2122 : ((1 : Int32) : Int32).toInt = 1 := by decide
    refine g_if_eq X0 hx 416 412 (hb hby at_409) (by decide) (by decide) rfl (fun c2121 => ?_) (fun c2121 => ?_)
    · skip
      exfalso; revert c2121; decide
    · skip
      refine g_null X0 hx 413 (hb hby at_412) rfl ?_
      refine g_goto X0 hx 423 (hb hby at_413) (by decide) (by decide) ?_
      refine g_astore (l' := #[.val (.int p0), .val (.int p1), .val (.int p2), .val (.long p3), .second, .val (.int u5), .val (.ref ba), .val (.int u7), .val (.int u8), .val (.int (5 : Int32)), .val (.int u10), .val (.int u11), .val (.int u12), .val (.ref ca), .val (.int (1 : Int32)), .val .null, .unset, .unset, .unset]) X0 hx 425 (hb hby at_423) rfl rfl rfl ?_
      exact rm0_425N (X0.more (by decide) (by decide)) hx hby hml hret hlk hown hZ hw e0 Z0 N0 hS hk KC WO2 O0
theorem rm0_388_6 {p : Program} {l : Launch} {e : Env} {s : State} {m : MethodId} {args : Array Value} {below : List Frame} {meth : Method} {c : Code} {T0 Z : State} {a0 : Array Value} {h0 hC : Heap} {n0 k0 : Nat} {vm0 : Vm} {L0 : List Loc} {p0 p1 p2 : Int32} {p3 : Int64} {u5 u7 u8 u9 u10 u11 u12 : Int32} {ba ca : Addr} {kc : ClassId} {c0 c1 c2 c3 c4 c5 c6 c7 c8 c9 c10 c11 : Int32} {cst : Int32} {va ro cl em lr lc vr vc : Addr} {kv kr kc_ : ClassId} {xr xc : List Int32} (X0 : Stand p l e room_1 (s.setVm vm0) m args below meth c T0 L0 3 62) (hx : p.tables.exec = Jvm.exec) (hby : c.code = code) (hml : c.maxLocals = maxLocals) (hret : meth.sig.returnType = ret) (hlk : meth.locks = false) (hown : (s.setVm vm0).vm.findClass "com/example/dispatchd/dispatchd/store/EventSchemaWithLabelPinLaw" = some m.cls) (hZ : Z.Warmed39 (s.setVm vm0).vm) (hw : ∀ d ∈ tables_1, d.before a0 Z = true) (e0 : T0.heap = h0) (Z0 : n0 ≤ h0.size) (N0 : Fr n0 L0) (hS : s.Since vm0 k0) (hk : k0 ≤ hC.size) (KC : Keep hC h0 []) (WO : OldW Z cst va ro cl em lr lc vr vc kv kr kc_ xr xc) (O0 : Old Z n0 h0) (bc0 : 0 ≤ c0.toInt ∧ c0.toInt ≤ 255) (bc1 : 0 ≤ c1.toInt ∧ c1.toInt ≤ 255) (bc2 : 0 ≤ c2.toInt ∧ c2.toInt ≤ 255) (bc3 : 0 ≤ c3.toInt ∧ c3.toInt ≤ 255) (bc4 : 0 ≤ c4.toInt ∧ c4.toInt ≤ 255) (bc5 : 0 ≤ c5.toInt ∧ c5.toInt ≤ 255) (bc6 : 0 ≤ c6.toInt ∧ c6.toInt ≤ 255) (bc7 : 0 ≤ c7.toInt ∧ c7.toInt ≤ 255) (bc8 : 0 ≤ c8.toInt ∧ c8.toInt ≤ 255) (bc9 : 0 ≤ c9.toInt ∧ c9.toInt ≤ 255) (bc10 : 0 ≤ c10.toInt ∧ c10.toInt ≤ 255) (bc11 : 0 ≤ c11.toInt ∧ c11.toInt ≤ 255) (Vc : Arv Z h0 ca kc .char 12 [(.int c0), (.int c1), (.int c2), (.int c3), (.int c4), (.int c5), (.int c6), (.int c7), (.int c8), (.int c9), (.int c10), (.int c11)] (.int 0)) (hCv : CHv Z own_EL vm0 hC) :
    Go p e below (EndW s (Q_rm0 n0) 32 5312) T0 (mkF m 388 #[.val (.int p0), .val (.int p1), .val (.int p2), .val (.long p3), .second, .val (.int u5), .val (.ref ba), .val (.int u7), .val (.int u8), .val (.int (6 : Int32)), .val (.int u10), .val (.int u11), .val (.int u12), .val (.ref ca), .unset, .unset, .unset, .unset, .unset] []) := by
  have WO2 := WO
  have hEL := own_ew hw
  obtain ⟨hc, SC, SV, SRo, SCl, SE, zEv, zVv, zEro, zLro, zElr, zClr, zFlr, zVvr, hlxr, zEcl, zLcl, zElc, zClc, zFlc, zVvc, hlxc, zEe, zFe⟩ := WO
  refine g_iloadN X0 hx 389 (hb hby at_388) rfl rfl ?_
  refine g_bipush X0 hx (6 : Int32) 391 (hb hby at_389) rfl (by decide) ?_
  refine g_iushr X0 hx 392 (hb hby at_391) rfl ?_
  refine g_bipush X0 hx (7 : Int32) 394 (hb hby at_392) rfl (by decide) ?_
  refine g_iand X0 hx 395 (hb hby at_394) rfl ?_
  refine g_bipush X0 hx (7 : Int32) 397 (hb hby at_395) rfl (by decide) ?_
  have ll2124 : ((7 : Int32) : Int32).toInt = 7 := by decide
  refine g_ic_ne X0 hx 404 400 (hb hby at_397) (by decide) (by decide) rfl (fun c2123 => ?_) (fun c2123 => ?_)
  · skip
    refine g_iconst X0 hx (0 : Int32) 405 (hb hby at_404) rfl (by decide) ?_
    refine g_istore (l' := #[.val (.int p0), .val (.int p1), .val (.int p2), .val (.long p3), .second, .val (.int u5), .val (.ref ba), .val (.int u7), .val (.int u8), .val (.int (6 : Int32)), .val (.int u10), .val (.int u11), .val (.int u12), .val (.ref ca), .val (.int (0 : Int32)), .unset, .unset, .unset, .unset]) X0 hx 407 (hb hby at_405) rfl rfl ?_
    refine g_iload X0 hx 409 (hb hby at_407) rfl rfl ?_
    have ll2126 : ((0 : Int32) : Int32).toInt = 0 := by decide
    refine g_if_eq X0 hx 416 412 (hb hby at_409) (by decide) (by decide) rfl (fun c2125 => ?_) (fun c2125 => ?_)
    · skip
      refine g_iload X0 hx 418 (hb hby at_416) rfl rfl ?_
      refine g_aload X0 hx 420 (hb hby at_418) rfl rfl rfl ?_
      refine g_static X0 hx hZ hown (hw _ (List.mem_of_getElem? (i := 49) rfl)) (hw _ (List.mem_of_getElem? (i := 50) rfl)) (hw _ (List.mem_of_getElem? (i := 11) rfl)) (hw _ (List.mem_of_getElem? (i := 51) rfl)) (by decide) (rmMk_6 l Z a0 hw ca h0 n0 Z0 cst hc O0 SC kc c0 c1 c2 c3 c4 c5 c6 c7 c8 c9 c10 c11 bc0 bc1 bc2 bc3 bc4 bc5 bc6 bc7 bc8 bc9 bc10 bc11 Vc) e0 (argsL := [(.int (6 : Int32)), (.ref ca)]) (rest := []) rfl rfl 0 423 rfl (by rw [hml]; rfl) (lenOf own_pd8 rfl) (Nat.le_refl _) (by decide) (by decide) (by decide) (by decide) (hb hby at_420) ?_
      intro v2127 T2127 L2127 X2127 hQ2127
      obtain ⟨r, vb, kb, z, xs, rfl, N2127, K2127, gr, sr, E_, c_, v_, V_, hl⟩ := hQ2127
      have N2128 := Fr.app N0 N2127
      have F2129 := O0.keep K2127 all0
      have F2130 := Vc.keep K2127 nin0
      have Z2131 : n0 ≤ T2127.heap.size := Nat.le_trans Z0 K2127.1
      have K2132 := KC.trans K2127 all0
      show Go p e below _ T2127 (mkF m 423 #[.val (.int p0), .val (.int p1), .val (.int p2), .val (.long p3), .second, .val (.int u5), .val (.ref ba), .val (.int u7), .val (.int u8), .val (.int (6 : Int32)), .val (.int u10), .val (.int u11), .val (.int u12), .val (.ref ca), .val (.int (0 : Int32)), .unset, .unset, .unset, .unset] [(.ref r)])
      refine g_astore (l' := #[.val (.int p0), .val (.int p1), .val (.int p2), .val (.long p3), .second, .val (.int u5), .val (.ref ba), .val (.int u7), .val (.int u8), .val (.int (6 : Int32)), .val (.int u10), .val (.int u11), .val (.int u12), .val (.ref ca), .val (.int (0 : Int32)), .val (.ref r), .unset, .unset, .unset]) X2127 hx 425 (hb hby at_423) rfl rfl rfl ?_
      exact rm0_425S (X2127.more (by decide) (by decide)) hx hby hml hret hlk hown hZ hw rfl Z2131 N2128 hS hk K2132 WO2 F2129 E_ c_ v_ V_ gr hl
    · skip
      exfalso; revert c2125; decide
  · skip
    refine g_iconst X0 hx (1 : Int32) 401 (hb hby at_400) rfl (by decide) ?_
    refine g_goto X0 hx 405 (hb hby at_401) (by decide) (by decide) ?_
    refine g_istore (l' := #[.val (.int p0), .val (.int p1), .val (.int p2), .val (.long p3), .second, .val (.int u5), .val (.ref ba), .val (.int u7), .val (.int u8), .val (.int (6 : Int32)), .val (.int u10), .val (.int u11), .val (.int u12), .val (.ref ca), .val (.int (1 : Int32)), .unset, .unset, .unset, .unset]) X0 hx 407 (hb hby at_405) rfl rfl ?_
    refine g_iload X0 hx 409 (hb hby at_407) rfl rfl ?_
    have ll2134 : ((1 : Int32) : Int32).toInt = 1 := by decide
    refine g_if_eq X0 hx 416 412 (hb hby at_409) (by decide) (by decide) rfl (fun c2133 => ?_) (fun c2133 => ?_)
    · skip
      exfalso; revert c2133; decide
    · skip
      refine g_null X0 hx 413 (hb hby at_412) rfl ?_
      refine g_goto X0 hx 423 (hb hby at_413) (by decide) (by decide) ?_
      refine g_astore (l' := #[.val (.int p0), .val (.int p1), .val (.int p2), .val (.long p3), .second, .val (.int u5), .val (.ref ba), .val (.int u7), .val (.int u8), .val (.int (6 : Int32)), .val (.int u10), .val (.int u11), .val (.int u12), .val (.ref ca), .val (.int (1 : Int32)), .val .null, .unset, .unset, .unset]) X0 hx 425 (hb hby at_423) rfl rfl rfl ?_
      exact rm0_425N (X0.more (by decide) (by decide)) hx hby hml hret hlk hown hZ hw e0 Z0 N0 hS hk KC WO2 O0
theorem rm0_388_8 {p : Program} {l : Launch} {e : Env} {s : State} {m : MethodId} {args : Array Value} {below : List Frame} {meth : Method} {c : Code} {T0 Z : State} {a0 : Array Value} {h0 hC : Heap} {n0 k0 : Nat} {vm0 : Vm} {L0 : List Loc} {p0 p1 p2 : Int32} {p3 : Int64} {u5 u7 u8 u9 u10 u11 u12 : Int32} {ba ca : Addr} {kc : ClassId} {c0 c1 c2 c3 c4 c5 c6 c7 c8 c9 c10 c11 : Int32} {cst : Int32} {va ro cl em lr lc vr vc : Addr} {kv kr kc_ : ClassId} {xr xc : List Int32} (X0 : Stand p l e room_1 (s.setVm vm0) m args below meth c T0 L0 3 62) (hx : p.tables.exec = Jvm.exec) (hby : c.code = code) (hml : c.maxLocals = maxLocals) (hret : meth.sig.returnType = ret) (hlk : meth.locks = false) (hown : (s.setVm vm0).vm.findClass "com/example/dispatchd/dispatchd/store/EventSchemaWithLabelPinLaw" = some m.cls) (hZ : Z.Warmed39 (s.setVm vm0).vm) (hw : ∀ d ∈ tables_1, d.before a0 Z = true) (e0 : T0.heap = h0) (Z0 : n0 ≤ h0.size) (N0 : Fr n0 L0) (hS : s.Since vm0 k0) (hk : k0 ≤ hC.size) (KC : Keep hC h0 []) (WO : OldW Z cst va ro cl em lr lc vr vc kv kr kc_ xr xc) (O0 : Old Z n0 h0) (bc0 : 0 ≤ c0.toInt ∧ c0.toInt ≤ 255) (bc1 : 0 ≤ c1.toInt ∧ c1.toInt ≤ 255) (bc2 : 0 ≤ c2.toInt ∧ c2.toInt ≤ 255) (bc3 : 0 ≤ c3.toInt ∧ c3.toInt ≤ 255) (bc4 : 0 ≤ c4.toInt ∧ c4.toInt ≤ 255) (bc5 : 0 ≤ c5.toInt ∧ c5.toInt ≤ 255) (bc6 : 0 ≤ c6.toInt ∧ c6.toInt ≤ 255) (bc7 : 0 ≤ c7.toInt ∧ c7.toInt ≤ 255) (bc8 : 0 ≤ c8.toInt ∧ c8.toInt ≤ 255) (bc9 : 0 ≤ c9.toInt ∧ c9.toInt ≤ 255) (bc10 : 0 ≤ c10.toInt ∧ c10.toInt ≤ 255) (bc11 : 0 ≤ c11.toInt ∧ c11.toInt ≤ 255) (Vc : Arv Z h0 ca kc .char 12 [(.int c0), (.int c1), (.int c2), (.int c3), (.int c4), (.int c5), (.int c6), (.int c7), (.int c8), (.int c9), (.int c10), (.int c11)] (.int 0)) (hCv : CHv Z own_EL vm0 hC) :
    Go p e below (EndW s (Q_rm0 n0) 32 5312) T0 (mkF m 388 #[.val (.int p0), .val (.int p1), .val (.int p2), .val (.long p3), .second, .val (.int u5), .val (.ref ba), .val (.int u7), .val (.int u8), .val (.int (8 : Int32)), .val (.int u10), .val (.int u11), .val (.int u12), .val (.ref ca), .unset, .unset, .unset, .unset, .unset] []) := by
  have WO2 := WO
  have hEL := own_ew hw
  obtain ⟨hc, SC, SV, SRo, SCl, SE, zEv, zVv, zEro, zLro, zElr, zClr, zFlr, zVvr, hlxr, zEcl, zLcl, zElc, zClc, zFlc, zVvc, hlxc, zEe, zFe⟩ := WO
  refine g_iloadN X0 hx 389 (hb hby at_388) rfl rfl ?_
  refine g_bipush X0 hx (6 : Int32) 391 (hb hby at_389) rfl (by decide) ?_
  refine g_iushr X0 hx 392 (hb hby at_391) rfl ?_
  refine g_bipush X0 hx (7 : Int32) 394 (hb hby at_392) rfl (by decide) ?_
  refine g_iand X0 hx 395 (hb hby at_394) rfl ?_
  refine g_bipush X0 hx (7 : Int32) 397 (hb hby at_395) rfl (by decide) ?_
  have ll2136 : ((7 : Int32) : Int32).toInt = 7 := by decide
  refine g_ic_ne X0 hx 404 400 (hb hby at_397) (by decide) (by decide) rfl (fun c2135 => ?_) (fun c2135 => ?_)
  · skip
    refine g_iconst X0 hx (0 : Int32) 405 (hb hby at_404) rfl (by decide) ?_
    refine g_istore (l' := #[.val (.int p0), .val (.int p1), .val (.int p2), .val (.long p3), .second, .val (.int u5), .val (.ref ba), .val (.int u7), .val (.int u8), .val (.int (8 : Int32)), .val (.int u10), .val (.int u11), .val (.int u12), .val (.ref ca), .val (.int (0 : Int32)), .unset, .unset, .unset, .unset]) X0 hx 407 (hb hby at_405) rfl rfl ?_
    refine g_iload X0 hx 409 (hb hby at_407) rfl rfl ?_
    have ll2138 : ((0 : Int32) : Int32).toInt = 0 := by decide
    refine g_if_eq X0 hx 416 412 (hb hby at_409) (by decide) (by decide) rfl (fun c2137 => ?_) (fun c2137 => ?_)
    · skip
      refine g_iload X0 hx 418 (hb hby at_416) rfl rfl ?_
      refine g_aload X0 hx 420 (hb hby at_418) rfl rfl rfl ?_
      refine g_static X0 hx hZ hown (hw _ (List.mem_of_getElem? (i := 49) rfl)) (hw _ (List.mem_of_getElem? (i := 50) rfl)) (hw _ (List.mem_of_getElem? (i := 11) rfl)) (hw _ (List.mem_of_getElem? (i := 51) rfl)) (by decide) (rmMk_8 l Z a0 hw ca h0 n0 Z0 cst hc O0 SC kc c0 c1 c2 c3 c4 c5 c6 c7 c8 c9 c10 c11 bc0 bc1 bc2 bc3 bc4 bc5 bc6 bc7 bc8 bc9 bc10 bc11 Vc) e0 (argsL := [(.int (8 : Int32)), (.ref ca)]) (rest := []) rfl rfl 0 423 rfl (by rw [hml]; rfl) (lenOf own_pd8 rfl) (Nat.le_refl _) (by decide) (by decide) (by decide) (by decide) (hb hby at_420) ?_
      intro v2139 T2139 L2139 X2139 hQ2139
      obtain ⟨r, vb, kb, z, xs, rfl, N2139, K2139, gr, sr, E_, c_, v_, V_, hl⟩ := hQ2139
      have N2140 := Fr.app N0 N2139
      have F2141 := O0.keep K2139 all0
      have F2142 := Vc.keep K2139 nin0
      have Z2143 : n0 ≤ T2139.heap.size := Nat.le_trans Z0 K2139.1
      have K2144 := KC.trans K2139 all0
      show Go p e below _ T2139 (mkF m 423 #[.val (.int p0), .val (.int p1), .val (.int p2), .val (.long p3), .second, .val (.int u5), .val (.ref ba), .val (.int u7), .val (.int u8), .val (.int (8 : Int32)), .val (.int u10), .val (.int u11), .val (.int u12), .val (.ref ca), .val (.int (0 : Int32)), .unset, .unset, .unset, .unset] [(.ref r)])
      refine g_astore (l' := #[.val (.int p0), .val (.int p1), .val (.int p2), .val (.long p3), .second, .val (.int u5), .val (.ref ba), .val (.int u7), .val (.int u8), .val (.int (8 : Int32)), .val (.int u10), .val (.int u11), .val (.int u12), .val (.ref ca), .val (.int (0 : Int32)), .val (.ref r), .unset, .unset, .unset]) X2139 hx 425 (hb hby at_423) rfl rfl rfl ?_
      exact rm0_425S (X2139.more (by decide) (by decide)) hx hby hml hret hlk hown hZ hw rfl Z2143 N2140 hS hk K2144 WO2 F2141 E_ c_ v_ V_ gr hl
    · skip
      exfalso; revert c2137; decide
  · skip
    refine g_iconst X0 hx (1 : Int32) 401 (hb hby at_400) rfl (by decide) ?_
    refine g_goto X0 hx 405 (hb hby at_401) (by decide) (by decide) ?_
    refine g_istore (l' := #[.val (.int p0), .val (.int p1), .val (.int p2), .val (.long p3), .second, .val (.int u5), .val (.ref ba), .val (.int u7), .val (.int u8), .val (.int (8 : Int32)), .val (.int u10), .val (.int u11), .val (.int u12), .val (.ref ca), .val (.int (1 : Int32)), .unset, .unset, .unset, .unset]) X0 hx 407 (hb hby at_405) rfl rfl ?_
    refine g_iload X0 hx 409 (hb hby at_407) rfl rfl ?_
    have ll2146 : ((1 : Int32) : Int32).toInt = 1 := by decide
    refine g_if_eq X0 hx 416 412 (hb hby at_409) (by decide) (by decide) rfl (fun c2145 => ?_) (fun c2145 => ?_)
    · skip
      exfalso; revert c2145; decide
    · skip
      refine g_null X0 hx 413 (hb hby at_412) rfl ?_
      refine g_goto X0 hx 423 (hb hby at_413) (by decide) (by decide) ?_
      refine g_astore (l' := #[.val (.int p0), .val (.int p1), .val (.int p2), .val (.long p3), .second, .val (.int u5), .val (.ref ba), .val (.int u7), .val (.int u8), .val (.int (8 : Int32)), .val (.int u10), .val (.int u11), .val (.int u12), .val (.ref ca), .val (.int (1 : Int32)), .val .null, .unset, .unset, .unset]) X0 hx 425 (hb hby at_423) rfl rfl rfl ?_
      exact rm0_425N (X0.more (by decide) (by decide)) hx hby hml hret hlk hown hZ hw e0 Z0 N0 hS hk KC WO2 O0
theorem rm0_388_11 {p : Program} {l : Launch} {e : Env} {s : State} {m : MethodId} {args : Array Value} {below : List Frame} {meth : Method} {c : Code} {T0 Z : State} {a0 : Array Value} {h0 hC : Heap} {n0 k0 : Nat} {vm0 : Vm} {L0 : List Loc} {p0 p1 p2 : Int32} {p3 : Int64} {u5 u7 u8 u9 u10 u11 u12 : Int32} {ba ca : Addr} {kc : ClassId} {c0 c1 c2 c3 c4 c5 c6 c7 c8 c9 c10 c11 : Int32} {cst : Int32} {va ro cl em lr lc vr vc : Addr} {kv kr kc_ : ClassId} {xr xc : List Int32} (X0 : Stand p l e room_1 (s.setVm vm0) m args below meth c T0 L0 3 62) (hx : p.tables.exec = Jvm.exec) (hby : c.code = code) (hml : c.maxLocals = maxLocals) (hret : meth.sig.returnType = ret) (hlk : meth.locks = false) (hown : (s.setVm vm0).vm.findClass "com/example/dispatchd/dispatchd/store/EventSchemaWithLabelPinLaw" = some m.cls) (hZ : Z.Warmed39 (s.setVm vm0).vm) (hw : ∀ d ∈ tables_1, d.before a0 Z = true) (e0 : T0.heap = h0) (Z0 : n0 ≤ h0.size) (N0 : Fr n0 L0) (hS : s.Since vm0 k0) (hk : k0 ≤ hC.size) (KC : Keep hC h0 []) (WO : OldW Z cst va ro cl em lr lc vr vc kv kr kc_ xr xc) (O0 : Old Z n0 h0) (bc0 : 0 ≤ c0.toInt ∧ c0.toInt ≤ 255) (bc1 : 0 ≤ c1.toInt ∧ c1.toInt ≤ 255) (bc2 : 0 ≤ c2.toInt ∧ c2.toInt ≤ 255) (bc3 : 0 ≤ c3.toInt ∧ c3.toInt ≤ 255) (bc4 : 0 ≤ c4.toInt ∧ c4.toInt ≤ 255) (bc5 : 0 ≤ c5.toInt ∧ c5.toInt ≤ 255) (bc6 : 0 ≤ c6.toInt ∧ c6.toInt ≤ 255) (bc7 : 0 ≤ c7.toInt ∧ c7.toInt ≤ 255) (bc8 : 0 ≤ c8.toInt ∧ c8.toInt ≤ 255) (bc9 : 0 ≤ c9.toInt ∧ c9.toInt ≤ 255) (bc10 : 0 ≤ c10.toInt ∧ c10.toInt ≤ 255) (bc11 : 0 ≤ c11.toInt ∧ c11.toInt ≤ 255) (Vc : Arv Z h0 ca kc .char 12 [(.int c0), (.int c1), (.int c2), (.int c3), (.int c4), (.int c5), (.int c6), (.int c7), (.int c8), (.int c9), (.int c10), (.int c11)] (.int 0)) (hCv : CHv Z own_EL vm0 hC) :
    Go p e below (EndW s (Q_rm0 n0) 32 5312) T0 (mkF m 388 #[.val (.int p0), .val (.int p1), .val (.int p2), .val (.long p3), .second, .val (.int u5), .val (.ref ba), .val (.int u7), .val (.int u8), .val (.int (11 : Int32)), .val (.int u10), .val (.int u11), .val (.int u12), .val (.ref ca), .unset, .unset, .unset, .unset, .unset] []) := by
  have WO2 := WO
  have hEL := own_ew hw
  obtain ⟨hc, SC, SV, SRo, SCl, SE, zEv, zVv, zEro, zLro, zElr, zClr, zFlr, zVvr, hlxr, zEcl, zLcl, zElc, zClc, zFlc, zVvc, hlxc, zEe, zFe⟩ := WO
  refine g_iloadN X0 hx 389 (hb hby at_388) rfl rfl ?_
  refine g_bipush X0 hx (6 : Int32) 391 (hb hby at_389) rfl (by decide) ?_
  refine g_iushr X0 hx 392 (hb hby at_391) rfl ?_
  refine g_bipush X0 hx (7 : Int32) 394 (hb hby at_392) rfl (by decide) ?_
  refine g_iand X0 hx 395 (hb hby at_394) rfl ?_
  refine g_bipush X0 hx (7 : Int32) 397 (hb hby at_395) rfl (by decide) ?_
  have ll2148 : ((7 : Int32) : Int32).toInt = 7 := by decide
  refine g_ic_ne X0 hx 404 400 (hb hby at_397) (by decide) (by decide) rfl (fun c2147 => ?_) (fun c2147 => ?_)
  · skip
    refine g_iconst X0 hx (0 : Int32) 405 (hb hby at_404) rfl (by decide) ?_
    refine g_istore (l' := #[.val (.int p0), .val (.int p1), .val (.int p2), .val (.long p3), .second, .val (.int u5), .val (.ref ba), .val (.int u7), .val (.int u8), .val (.int (11 : Int32)), .val (.int u10), .val (.int u11), .val (.int u12), .val (.ref ca), .val (.int (0 : Int32)), .unset, .unset, .unset, .unset]) X0 hx 407 (hb hby at_405) rfl rfl ?_
    refine g_iload X0 hx 409 (hb hby at_407) rfl rfl ?_
    have ll2150 : ((0 : Int32) : Int32).toInt = 0 := by decide
    refine g_if_eq X0 hx 416 412 (hb hby at_409) (by decide) (by decide) rfl (fun c2149 => ?_) (fun c2149 => ?_)
    · skip
      refine g_iload X0 hx 418 (hb hby at_416) rfl rfl ?_
      refine g_aload X0 hx 420 (hb hby at_418) rfl rfl rfl ?_
      refine g_static X0 hx hZ hown (hw _ (List.mem_of_getElem? (i := 49) rfl)) (hw _ (List.mem_of_getElem? (i := 50) rfl)) (hw _ (List.mem_of_getElem? (i := 11) rfl)) (hw _ (List.mem_of_getElem? (i := 51) rfl)) (by decide) (rmMk_11 l Z a0 hw ca h0 n0 Z0 cst hc O0 SC kc c0 c1 c2 c3 c4 c5 c6 c7 c8 c9 c10 c11 bc0 bc1 bc2 bc3 bc4 bc5 bc6 bc7 bc8 bc9 bc10 bc11 Vc) e0 (argsL := [(.int (11 : Int32)), (.ref ca)]) (rest := []) rfl rfl 0 423 rfl (by rw [hml]; rfl) (lenOf own_pd8 rfl) (Nat.le_refl _) (by decide) (by decide) (by decide) (by decide) (hb hby at_420) ?_
      intro v2151 T2151 L2151 X2151 hQ2151
      obtain ⟨r, vb, kb, z, xs, rfl, N2151, K2151, gr, sr, E_, c_, v_, V_, hl⟩ := hQ2151
      have N2152 := Fr.app N0 N2151
      have F2153 := O0.keep K2151 all0
      have F2154 := Vc.keep K2151 nin0
      have Z2155 : n0 ≤ T2151.heap.size := Nat.le_trans Z0 K2151.1
      have K2156 := KC.trans K2151 all0
      show Go p e below _ T2151 (mkF m 423 #[.val (.int p0), .val (.int p1), .val (.int p2), .val (.long p3), .second, .val (.int u5), .val (.ref ba), .val (.int u7), .val (.int u8), .val (.int (11 : Int32)), .val (.int u10), .val (.int u11), .val (.int u12), .val (.ref ca), .val (.int (0 : Int32)), .unset, .unset, .unset, .unset] [(.ref r)])
      refine g_astore (l' := #[.val (.int p0), .val (.int p1), .val (.int p2), .val (.long p3), .second, .val (.int u5), .val (.ref ba), .val (.int u7), .val (.int u8), .val (.int (11 : Int32)), .val (.int u10), .val (.int u11), .val (.int u12), .val (.ref ca), .val (.int (0 : Int32)), .val (.ref r), .unset, .unset, .unset]) X2151 hx 425 (hb hby at_423) rfl rfl rfl ?_
      exact rm0_425S (X2151.more (by decide) (by decide)) hx hby hml hret hlk hown hZ hw rfl Z2155 N2152 hS hk K2156 WO2 F2153 E_ c_ v_ V_ gr hl
    · skip
      exfalso; revert c2149; decide
  · skip
    refine g_iconst X0 hx (1 : Int32) 401 (hb hby at_400) rfl (by decide) ?_
    refine g_goto X0 hx 405 (hb hby at_401) (by decide) (by decide) ?_
    refine g_istore (l' := #[.val (.int p0), .val (.int p1), .val (.int p2), .val (.long p3), .second, .val (.int u5), .val (.ref ba), .val (.int u7), .val (.int u8), .val (.int (11 : Int32)), .val (.int u10), .val (.int u11), .val (.int u12), .val (.ref ca), .val (.int (1 : Int32)), .unset, .unset, .unset, .unset]) X0 hx 407 (hb hby at_405) rfl rfl ?_
    refine g_iload X0 hx 409 (hb hby at_407) rfl rfl ?_
    have ll2158 : ((1 : Int32) : Int32).toInt = 1 := by decide
    refine g_if_eq X0 hx 416 412 (hb hby at_409) (by decide) (by decide) rfl (fun c2157 => ?_) (fun c2157 => ?_)
    · skip
      exfalso; revert c2157; decide
    · skip
      refine g_null X0 hx 413 (hb hby at_412) rfl ?_
      refine g_goto X0 hx 423 (hb hby at_413) (by decide) (by decide) ?_
      refine g_astore (l' := #[.val (.int p0), .val (.int p1), .val (.int p2), .val (.long p3), .second, .val (.int u5), .val (.ref ba), .val (.int u7), .val (.int u8), .val (.int (11 : Int32)), .val (.int u10), .val (.int u11), .val (.int u12), .val (.ref ca), .val (.int (1 : Int32)), .val .null, .unset, .unset, .unset]) X0 hx 425 (hb hby at_423) rfl rfl rfl ?_
      exact rm0_425N (X0.more (by decide) (by decide)) hx hby hml hret hlk hown hZ hw e0 Z0 N0 hS hk KC WO2 O0
theorem rm0_388_12 {p : Program} {l : Launch} {e : Env} {s : State} {m : MethodId} {args : Array Value} {below : List Frame} {meth : Method} {c : Code} {T0 Z : State} {a0 : Array Value} {h0 hC : Heap} {n0 k0 : Nat} {vm0 : Vm} {L0 : List Loc} {p0 p1 p2 : Int32} {p3 : Int64} {u5 u7 u8 u9 u10 u11 u12 : Int32} {ba ca : Addr} {kc : ClassId} {c0 c1 c2 c3 c4 c5 c6 c7 c8 c9 c10 c11 : Int32} {cst : Int32} {va ro cl em lr lc vr vc : Addr} {kv kr kc_ : ClassId} {xr xc : List Int32} (X0 : Stand p l e room_1 (s.setVm vm0) m args below meth c T0 L0 3 62) (hx : p.tables.exec = Jvm.exec) (hby : c.code = code) (hml : c.maxLocals = maxLocals) (hret : meth.sig.returnType = ret) (hlk : meth.locks = false) (hown : (s.setVm vm0).vm.findClass "com/example/dispatchd/dispatchd/store/EventSchemaWithLabelPinLaw" = some m.cls) (hZ : Z.Warmed39 (s.setVm vm0).vm) (hw : ∀ d ∈ tables_1, d.before a0 Z = true) (e0 : T0.heap = h0) (Z0 : n0 ≤ h0.size) (N0 : Fr n0 L0) (hS : s.Since vm0 k0) (hk : k0 ≤ hC.size) (KC : Keep hC h0 []) (WO : OldW Z cst va ro cl em lr lc vr vc kv kr kc_ xr xc) (O0 : Old Z n0 h0) (bc0 : 0 ≤ c0.toInt ∧ c0.toInt ≤ 255) (bc1 : 0 ≤ c1.toInt ∧ c1.toInt ≤ 255) (bc2 : 0 ≤ c2.toInt ∧ c2.toInt ≤ 255) (bc3 : 0 ≤ c3.toInt ∧ c3.toInt ≤ 255) (bc4 : 0 ≤ c4.toInt ∧ c4.toInt ≤ 255) (bc5 : 0 ≤ c5.toInt ∧ c5.toInt ≤ 255) (bc6 : 0 ≤ c6.toInt ∧ c6.toInt ≤ 255) (bc7 : 0 ≤ c7.toInt ∧ c7.toInt ≤ 255) (bc8 : 0 ≤ c8.toInt ∧ c8.toInt ≤ 255) (bc9 : 0 ≤ c9.toInt ∧ c9.toInt ≤ 255) (bc10 : 0 ≤ c10.toInt ∧ c10.toInt ≤ 255) (bc11 : 0 ≤ c11.toInt ∧ c11.toInt ≤ 255) (Vc : Arv Z h0 ca kc .char 12 [(.int c0), (.int c1), (.int c2), (.int c3), (.int c4), (.int c5), (.int c6), (.int c7), (.int c8), (.int c9), (.int c10), (.int c11)] (.int 0)) (hCv : CHv Z own_EL vm0 hC) :
    Go p e below (EndW s (Q_rm0 n0) 32 5312) T0 (mkF m 388 #[.val (.int p0), .val (.int p1), .val (.int p2), .val (.long p3), .second, .val (.int u5), .val (.ref ba), .val (.int u7), .val (.int u8), .val (.int (12 : Int32)), .val (.int u10), .val (.int u11), .val (.int u12), .val (.ref ca), .unset, .unset, .unset, .unset, .unset] []) := by
  have WO2 := WO
  have hEL := own_ew hw
  obtain ⟨hc, SC, SV, SRo, SCl, SE, zEv, zVv, zEro, zLro, zElr, zClr, zFlr, zVvr, hlxr, zEcl, zLcl, zElc, zClc, zFlc, zVvc, hlxc, zEe, zFe⟩ := WO
  refine g_iloadN X0 hx 389 (hb hby at_388) rfl rfl ?_
  refine g_bipush X0 hx (6 : Int32) 391 (hb hby at_389) rfl (by decide) ?_
  refine g_iushr X0 hx 392 (hb hby at_391) rfl ?_
  refine g_bipush X0 hx (7 : Int32) 394 (hb hby at_392) rfl (by decide) ?_
  refine g_iand X0 hx 395 (hb hby at_394) rfl ?_
  refine g_bipush X0 hx (7 : Int32) 397 (hb hby at_395) rfl (by decide) ?_
  have ll2160 : ((7 : Int32) : Int32).toInt = 7 := by decide
  refine g_ic_ne X0 hx 404 400 (hb hby at_397) (by decide) (by decide) rfl (fun c2159 => ?_) (fun c2159 => ?_)
  · skip
    refine g_iconst X0 hx (0 : Int32) 405 (hb hby at_404) rfl (by decide) ?_
    refine g_istore (l' := #[.val (.int p0), .val (.int p1), .val (.int p2), .val (.long p3), .second, .val (.int u5), .val (.ref ba), .val (.int u7), .val (.int u8), .val (.int (12 : Int32)), .val (.int u10), .val (.int u11), .val (.int u12), .val (.ref ca), .val (.int (0 : Int32)), .unset, .unset, .unset, .unset]) X0 hx 407 (hb hby at_405) rfl rfl ?_
    refine g_iload X0 hx 409 (hb hby at_407) rfl rfl ?_
    have ll2162 : ((0 : Int32) : Int32).toInt = 0 := by decide
    refine g_if_eq X0 hx 416 412 (hb hby at_409) (by decide) (by decide) rfl (fun c2161 => ?_) (fun c2161 => ?_)
    · skip
      refine g_iload X0 hx 418 (hb hby at_416) rfl rfl ?_
      refine g_aload X0 hx 420 (hb hby at_418) rfl rfl rfl ?_
      refine g_static X0 hx hZ hown (hw _ (List.mem_of_getElem? (i := 49) rfl)) (hw _ (List.mem_of_getElem? (i := 50) rfl)) (hw _ (List.mem_of_getElem? (i := 11) rfl)) (hw _ (List.mem_of_getElem? (i := 51) rfl)) (by decide) (rmMk_12 l Z a0 hw ca h0 n0 Z0 cst hc O0 SC kc c0 c1 c2 c3 c4 c5 c6 c7 c8 c9 c10 c11 bc0 bc1 bc2 bc3 bc4 bc5 bc6 bc7 bc8 bc9 bc10 bc11 Vc) e0 (argsL := [(.int (12 : Int32)), (.ref ca)]) (rest := []) rfl rfl 0 423 rfl (by rw [hml]; rfl) (lenOf own_pd8 rfl) (Nat.le_refl _) (by decide) (by decide) (by decide) (by decide) (hb hby at_420) ?_
      intro v2163 T2163 L2163 X2163 hQ2163
      obtain ⟨r, vb, kb, z, xs, rfl, N2163, K2163, gr, sr, E_, c_, v_, V_, hl⟩ := hQ2163
      have N2164 := Fr.app N0 N2163
      have F2165 := O0.keep K2163 all0
      have F2166 := Vc.keep K2163 nin0
      have Z2167 : n0 ≤ T2163.heap.size := Nat.le_trans Z0 K2163.1
      have K2168 := KC.trans K2163 all0
      show Go p e below _ T2163 (mkF m 423 #[.val (.int p0), .val (.int p1), .val (.int p2), .val (.long p3), .second, .val (.int u5), .val (.ref ba), .val (.int u7), .val (.int u8), .val (.int (12 : Int32)), .val (.int u10), .val (.int u11), .val (.int u12), .val (.ref ca), .val (.int (0 : Int32)), .unset, .unset, .unset, .unset] [(.ref r)])
      refine g_astore (l' := #[.val (.int p0), .val (.int p1), .val (.int p2), .val (.long p3), .second, .val (.int u5), .val (.ref ba), .val (.int u7), .val (.int u8), .val (.int (12 : Int32)), .val (.int u10), .val (.int u11), .val (.int u12), .val (.ref ca), .val (.int (0 : Int32)), .val (.ref r), .unset, .unset, .unset]) X2163 hx 425 (hb hby at_423) rfl rfl rfl ?_
      exact rm0_425S (X2163.more (by decide) (by decide)) hx hby hml hret hlk hown hZ hw rfl Z2167 N2164 hS hk K2168 WO2 F2165 E_ c_ v_ V_ gr hl
    · skip
      exfalso; revert c2161; decide
  · skip
    refine g_iconst X0 hx (1 : Int32) 401 (hb hby at_400) rfl (by decide) ?_
    refine g_goto X0 hx 405 (hb hby at_401) (by decide) (by decide) ?_
    refine g_istore (l' := #[.val (.int p0), .val (.int p1), .val (.int p2), .val (.long p3), .second, .val (.int u5), .val (.ref ba), .val (.int u7), .val (.int u8), .val (.int (12 : Int32)), .val (.int u10), .val (.int u11), .val (.int u12), .val (.ref ca), .val (.int (1 : Int32)), .unset, .unset, .unset, .unset]) X0 hx 407 (hb hby at_405) rfl rfl ?_
    refine g_iload X0 hx 409 (hb hby at_407) rfl rfl ?_
    have ll2170 : ((1 : Int32) : Int32).toInt = 1 := by decide
    refine g_if_eq X0 hx 416 412 (hb hby at_409) (by decide) (by decide) rfl (fun c2169 => ?_) (fun c2169 => ?_)
    · skip
      exfalso; revert c2169; decide
    · skip
      refine g_null X0 hx 413 (hb hby at_412) rfl ?_
      refine g_goto X0 hx 423 (hb hby at_413) (by decide) (by decide) ?_
      refine g_astore (l' := #[.val (.int p0), .val (.int p1), .val (.int p2), .val (.long p3), .second, .val (.int u5), .val (.ref ba), .val (.int u7), .val (.int u8), .val (.int (12 : Int32)), .val (.int u10), .val (.int u11), .val (.int u12), .val (.ref ca), .val (.int (1 : Int32)), .val .null, .unset, .unset, .unset]) X0 hx 425 (hb hby at_423) rfl rfl rfl ?_
      exact rm0_425N (X0.more (by decide) (by decide)) hx hby hml hret hlk hown hZ hw e0 Z0 N0 hS hk KC WO2 O0
theorem rm0_202 {p : Program} {l : Launch} {e : Env} {s : State} {m : MethodId} {args : Array Value} {below : List Frame} {meth : Method} {c : Code} {T0 Z : State} {a0 : Array Value} {h0 hC : Heap} {n0 k0 : Nat} {vm0 : Vm} {L0 : List Loc} {p0 p1 p2 : Int32} {p3 : Int64} {u5 u7 u8 u9 u10 u11 u12 : Int32} {ba : Addr} {cst : Int32} {va ro cl em lr lc vr vc : Addr} {kv kr kc_ : ClassId} {xr xc : List Int32} {vb : Addr} {kb : ClassId} {z : Int32} {xs : List Int32} {fm : Option Addr} (X0 : Stand p l e room_1 (s.setVm vm0) m args below meth c T0 L0 2 50) (hx : p.tables.exec = Jvm.exec) (hby : c.code = code) (hml : c.maxLocals = maxLocals) (hret : meth.sig.returnType = ret) (hlk : meth.locks = false) (hown : (s.setVm vm0).vm.findClass "com/example/dispatchd/dispatchd/store/EventSchemaWithLabelPinLaw" = some m.cls) (hZ : Z.Warmed39 (s.setVm vm0).vm) (hw : ∀ d ∈ tables_1, d.before a0 Z = true) (e0 : T0.heap = h0) (Z0 : n0 ≤ h0.size) (N0 : Fr n0 L0) (hS : s.Since vm0 k0) (hk : k0 ≤ hC.size) (KC : Keep hC h0 []) (WO : OldW Z cst va ro cl em lr lc vr vc kv kr kc_ xr xc) (O0 : Old Z n0 h0) (SF : Sta Z Z.heap "jdk/internal/util/Preconditions" "SIOOBE_FORMATTER" "Ljava/util/function/BiFunction;" (own_rv fm)) (E : Exa Z h0 ba "java/lang/String") (Fc : Fld Z h0 ba "java/lang/String" "coder" "B" (.int 0)) (Fv : Fld Z h0 ba "java/lang/String" "value" "[B" (.ref vb)) (V : Arv Z h0 vb kb .byte z (xs.map Value.int) (.int 0)) (h9 : u9 = 0 ∨ u9 = 1 ∨ u9 = 4 ∨ u9 = 5 ∨ u9 = 6 ∨ u9 = 8 ∨ u9 = 11 ∨ u9 = 12) (bcc : 0 ≤ u12.toInt ∧ u12.toInt ≤ 255) (hCv : CHv Z own_EL vm0 hC) :
    Go p e below (EndW s (Q_rm0 n0) 32 5312) T0 (mkF m 202 #[.val (.int p0), .val (.int p1), .val (.int p2), .val (.long p3), .second, .val (.int u5), .val (.ref ba), .val (.int u7), .val (.int u8), .val (.int u9), .val (.int u10), .val (.int u11), .val (.int u12), .unset, .unset, .unset, .unset, .unset, .unset] []) := by
  have WO2 := WO
  obtain ⟨hc, SC, SV, SRo, SCl, SE, zEv, zVv, zEro, zLro, zElr, zClr, zFlr, zVvr, hlxr, zEcl, zLcl, zElc, zClc, zFlc, zVvc, hlxc, zEe, zFe⟩ := WO
  refine g_bipush X0 hx (12 : Int32) 204 (hb hby at_202) rfl (by decide) ?_
  refine g_newP X0 hx hZ (aty := .char) (hw _ (List.mem_of_getElem? (i := 8) rfl)) e0 (by decide) (cap := 12) (by decide) (by decide) 206 (hb hby at_204) rfl (by decide) (by decide) (ad := "[C") (by decide) ?_
  intro T2171 h2171 k2171 a2171 g2171 X2171 e2171 E2171 V2171 A2171
  have ne2172 : ba ≠ a2171 := Nat.ne_of_lt (by rw [g2171]; exact E.lt)
  have ne2173 : vb ≠ a2171 := Nat.ne_of_lt (by rw [g2171]; exact V.lt)
  have ge2174 : n0 ≤ a2171 := by rw [g2171]; exact Z0
  have sz2175 : hC.size ≤ a2171 := by rw [g2171]; exact KC.1
  have F2176 := O0.ext E2171
  have F2177 := E.ext E2171
  have F2178 := Fc.ext E2171
  have F2179 := Fv.ext E2171
  have F2180 := V.ext E2171
  have K2181 := KC.ext E2171
  have Z2182 : n0 ≤ h2171.size := Nat.le_trans Z0 E2171.1
  have V2171' : Arv Z h2171 a2171 k2171 .char (12 : Int32) [(.int (0 : Int32)), (.int (0 : Int32)), (.int (0 : Int32)), (.int (0 : Int32)), (.int (0 : Int32)), (.int (0 : Int32)), (.int (0 : Int32)), (.int (0 : Int32)), (.int (0 : Int32)), (.int (0 : Int32)), (.int (0 : Int32)), (.int (0 : Int32))] (.int (0 : Int32)) := V2171.pad (pad_rep [] (.int (0 : Int32)) 12)
  refine g_dup X2171 hx 207 (hb hby at_206) rfl rfl ?_
  refine g_iconst X2171 hx (0 : Int32) 208 (hb hby at_207) rfl (by decide) ?_
  refine g_iconst X2171 hx (0 : Int32) 209 (hb hby at_208) rfl (by decide) ?_
  refine g_aload X2171 hx 211 (hb hby at_209) rfl rfl rfl ?_
  refine g_iload X2171 hx 213 (hb hby at_211) rfl rfl ?_
  refine g_iload X2171 hx 215 (hb hby at_213) rfl rfl ?_
  refine g_lloadN X2171 hx 216 (hb hby at_215) rfl rfl ?_
  refine g_static X2171 hx hZ hown (hw _ (List.mem_of_getElem? (i := 9) rfl)) (hw _ (List.mem_of_getElem? (i := 10) rfl)) (hw _ (List.mem_of_getElem? (i := 11) rfl)) (hw _ (List.mem_of_getElem? (i := 12) rfl)) (by decide) (rmCh l Z a0 hw (0 : Int32) ba u11 u12 p3 h2171 n0 Z2182 cst hc F2176 SC fm SF vb kb z xs F2177 F2178 F2179 F2180 (by decide) bcc) e2171 (argsL := [(.int (0 : Int32)), (.ref ba), (.int u11), (.int u12), (.long p3)]) (rest := [(.int (0 : Int32)), (.ref a2171), (.ref a2171)]) rfl rfl 3 219 rfl (by rw [hml]; rfl) (lenOf own_pd0 rfl) (Nat.le_refl _) (by decide) (by decide) (by decide) (by decide) (hb hby at_216) ?_
  intro v2183 T2183 L2183 X2183 hQ2183
  obtain ⟨c0, rfl, bc0, N2183, q2183⟩ := hQ2183
  have N2184 := Fr.app N0 N2183
  show Go p e below _ T2183 (mkF m 219 #[.val (.int p0), .val (.int p1), .val (.int p2), .val (.long p3), .second, .val (.int u5), .val (.ref ba), .val (.int u7), .val (.int u8), .val (.int u9), .val (.int u10), .val (.int u11), .val (.int u12), .unset, .unset, .unset, .unset, .unset, .unset] [(.int c0), (.int (0 : Int32)), (.ref a2171), (.ref a2171)])
  refine g_castore X2183 hx hZ q2183 V2171' 0 (by decide) (by decide) (by show 0 < 12; decide) c0 (own_narc bc0) 220 (hb hby at_219) rfl ?_
  intro T2185 h2185 X2185 e2185 W2185 V2185
  have F2186 := F2176.wr W2185 ge2174
  have F2187 := F2177.wr W2185
  have F2188 := F2178.other W2185 (Or.inl ne2172)
  have F2189 := F2179.other W2185 (Or.inl ne2172)
  have F2190 := F2180.other W2185 ne2173
  have F2191 := A2171.wr W2185
  have K2193 := K2181.wr W2185 (Or.inr sz2175)
  have N2194 := Fr.snoc X2185 N2184 ge2174
  have Z2195 : n0 ≤ h2185.size := by rw [W2185.size]; exact Z2182
  have V2185' : Arv Z h2185 a2171 k2171 .char (12 : Int32) [(.int c0), (.int (0 : Int32)), (.int (0 : Int32)), (.int (0 : Int32)), (.int (0 : Int32)), (.int (0 : Int32)), (.int (0 : Int32)), (.int (0 : Int32)), (.int (0 : Int32)), (.int (0 : Int32)), (.int (0 : Int32)), (.int (0 : Int32))] (.int (0 : Int32)) := V2185
  refine g_dup X2185 hx 221 (hb hby at_220) rfl rfl ?_
  refine g_iconst X2185 hx (1 : Int32) 222 (hb hby at_221) rfl (by decide) ?_
  refine g_iconst X2185 hx (1 : Int32) 223 (hb hby at_222) rfl (by decide) ?_
  refine g_aload X2185 hx 225 (hb hby at_223) rfl rfl rfl ?_
  refine g_iload X2185 hx 227 (hb hby at_225) rfl rfl ?_
  refine g_iload X2185 hx 229 (hb hby at_227) rfl rfl ?_
  refine g_lloadN X2185 hx 230 (hb hby at_229) rfl rfl ?_
  refine g_static X2185 hx hZ hown (hw _ (List.mem_of_getElem? (i := 9) rfl)) (hw _ (List.mem_of_getElem? (i := 10) rfl)) (hw _ (List.mem_of_getElem? (i := 11) rfl)) (hw _ (List.mem_of_getElem? (i := 12) rfl)) (by decide) (rmCh l Z a0 hw (1 : Int32) ba u11 u12 p3 h2185 n0 Z2195 cst hc F2186 SC fm SF vb kb z xs F2187 F2188 F2189 F2190 (by decide) bcc) e2185 (argsL := [(.int (1 : Int32)), (.ref ba), (.int u11), (.int u12), (.long p3)]) (rest := [(.int (1 : Int32)), (.ref a2171), (.ref a2171)]) rfl rfl 3 233 rfl (by rw [hml]; rfl) (lenOf own_pd0 rfl) (Nat.le_refl _) (by decide) (by decide) (by decide) (by decide) (hb hby at_230) ?_
  intro v2196 T2196 L2196 X2196 hQ2196
  obtain ⟨c1, rfl, bc1, N2196, q2196⟩ := hQ2196
  have N2197 := Fr.app N2194 N2196
  show Go p e below _ T2196 (mkF m 233 #[.val (.int p0), .val (.int p1), .val (.int p2), .val (.long p3), .second, .val (.int u5), .val (.ref ba), .val (.int u7), .val (.int u8), .val (.int u9), .val (.int u10), .val (.int u11), .val (.int u12), .unset, .unset, .unset, .unset, .unset, .unset] [(.int c1), (.int (1 : Int32)), (.ref a2171), (.ref a2171)])
  refine g_castore X2196 hx hZ q2196 V2185' 1 (by decide) (by decide) (by show 1 < 12; decide) c1 (own_narc bc1) 234 (hb hby at_233) rfl ?_
  intro T2198 h2198 X2198 e2198 W2198 V2198
  have F2199 := F2186.wr W2198 ge2174
  have F2200 := F2187.wr W2198
  have F2201 := F2188.other W2198 (Or.inl ne2172)
  have F2202 := F2189.other W2198 (Or.inl ne2172)
  have F2203 := F2190.other W2198 ne2173
  have F2204 := F2191.wr W2198
  have K2206 := K2193.wr W2198 (Or.inr sz2175)
  have N2207 := Fr.snoc X2198 N2197 ge2174
  have Z2208 : n0 ≤ h2198.size := by rw [W2198.size]; exact Z2195
  have V2198' : Arv Z h2198 a2171 k2171 .char (12 : Int32) [(.int c0), (.int c1), (.int (0 : Int32)), (.int (0 : Int32)), (.int (0 : Int32)), (.int (0 : Int32)), (.int (0 : Int32)), (.int (0 : Int32)), (.int (0 : Int32)), (.int (0 : Int32)), (.int (0 : Int32)), (.int (0 : Int32))] (.int (0 : Int32)) := V2198
  refine g_dup X2198 hx 235 (hb hby at_234) rfl rfl ?_
  refine g_iconst X2198 hx (2 : Int32) 236 (hb hby at_235) rfl (by decide) ?_
  refine g_iconst X2198 hx (2 : Int32) 237 (hb hby at_236) rfl (by decide) ?_
  refine g_aload X2198 hx 239 (hb hby at_237) rfl rfl rfl ?_
  refine g_iload X2198 hx 241 (hb hby at_239) rfl rfl ?_
  refine g_iload X2198 hx 243 (hb hby at_241) rfl rfl ?_
  refine g_lloadN X2198 hx 244 (hb hby at_243) rfl rfl ?_
  refine g_static X2198 hx hZ hown (hw _ (List.mem_of_getElem? (i := 9) rfl)) (hw _ (List.mem_of_getElem? (i := 10) rfl)) (hw _ (List.mem_of_getElem? (i := 11) rfl)) (hw _ (List.mem_of_getElem? (i := 12) rfl)) (by decide) (rmCh l Z a0 hw (2 : Int32) ba u11 u12 p3 h2198 n0 Z2208 cst hc F2199 SC fm SF vb kb z xs F2200 F2201 F2202 F2203 (by decide) bcc) e2198 (argsL := [(.int (2 : Int32)), (.ref ba), (.int u11), (.int u12), (.long p3)]) (rest := [(.int (2 : Int32)), (.ref a2171), (.ref a2171)]) rfl rfl 3 247 rfl (by rw [hml]; rfl) (lenOf own_pd0 rfl) (Nat.le_refl _) (by decide) (by decide) (by decide) (by decide) (hb hby at_244) ?_
  intro v2209 T2209 L2209 X2209 hQ2209
  obtain ⟨c2, rfl, bc2, N2209, q2209⟩ := hQ2209
  have N2210 := Fr.app N2207 N2209
  show Go p e below _ T2209 (mkF m 247 #[.val (.int p0), .val (.int p1), .val (.int p2), .val (.long p3), .second, .val (.int u5), .val (.ref ba), .val (.int u7), .val (.int u8), .val (.int u9), .val (.int u10), .val (.int u11), .val (.int u12), .unset, .unset, .unset, .unset, .unset, .unset] [(.int c2), (.int (2 : Int32)), (.ref a2171), (.ref a2171)])
  refine g_castore X2209 hx hZ q2209 V2198' 2 (by decide) (by decide) (by show 2 < 12; decide) c2 (own_narc bc2) 248 (hb hby at_247) rfl ?_
  intro T2211 h2211 X2211 e2211 W2211 V2211
  have F2212 := F2199.wr W2211 ge2174
  have F2213 := F2200.wr W2211
  have F2214 := F2201.other W2211 (Or.inl ne2172)
  have F2215 := F2202.other W2211 (Or.inl ne2172)
  have F2216 := F2203.other W2211 ne2173
  have F2217 := F2204.wr W2211
  have K2219 := K2206.wr W2211 (Or.inr sz2175)
  have N2220 := Fr.snoc X2211 N2210 ge2174
  have Z2221 : n0 ≤ h2211.size := by rw [W2211.size]; exact Z2208
  have V2211' : Arv Z h2211 a2171 k2171 .char (12 : Int32) [(.int c0), (.int c1), (.int c2), (.int (0 : Int32)), (.int (0 : Int32)), (.int (0 : Int32)), (.int (0 : Int32)), (.int (0 : Int32)), (.int (0 : Int32)), (.int (0 : Int32)), (.int (0 : Int32)), (.int (0 : Int32))] (.int (0 : Int32)) := V2211
  refine g_dup X2211 hx 249 (hb hby at_248) rfl rfl ?_
  refine g_iconst X2211 hx (3 : Int32) 250 (hb hby at_249) rfl (by decide) ?_
  refine g_iconst X2211 hx (3 : Int32) 251 (hb hby at_250) rfl (by decide) ?_
  refine g_aload X2211 hx 253 (hb hby at_251) rfl rfl rfl ?_
  refine g_iload X2211 hx 255 (hb hby at_253) rfl rfl ?_
  refine g_iload X2211 hx 257 (hb hby at_255) rfl rfl ?_
  refine g_lloadN X2211 hx 258 (hb hby at_257) rfl rfl ?_
  refine g_static X2211 hx hZ hown (hw _ (List.mem_of_getElem? (i := 9) rfl)) (hw _ (List.mem_of_getElem? (i := 10) rfl)) (hw _ (List.mem_of_getElem? (i := 11) rfl)) (hw _ (List.mem_of_getElem? (i := 12) rfl)) (by decide) (rmCh l Z a0 hw (3 : Int32) ba u11 u12 p3 h2211 n0 Z2221 cst hc F2212 SC fm SF vb kb z xs F2213 F2214 F2215 F2216 (by decide) bcc) e2211 (argsL := [(.int (3 : Int32)), (.ref ba), (.int u11), (.int u12), (.long p3)]) (rest := [(.int (3 : Int32)), (.ref a2171), (.ref a2171)]) rfl rfl 3 261 rfl (by rw [hml]; rfl) (lenOf own_pd0 rfl) (Nat.le_refl _) (by decide) (by decide) (by decide) (by decide) (hb hby at_258) ?_
  intro v2222 T2222 L2222 X2222 hQ2222
  obtain ⟨c3, rfl, bc3, N2222, q2222⟩ := hQ2222
  have N2223 := Fr.app N2220 N2222
  show Go p e below _ T2222 (mkF m 261 #[.val (.int p0), .val (.int p1), .val (.int p2), .val (.long p3), .second, .val (.int u5), .val (.ref ba), .val (.int u7), .val (.int u8), .val (.int u9), .val (.int u10), .val (.int u11), .val (.int u12), .unset, .unset, .unset, .unset, .unset, .unset] [(.int c3), (.int (3 : Int32)), (.ref a2171), (.ref a2171)])
  refine g_castore X2222 hx hZ q2222 V2211' 3 (by decide) (by decide) (by show 3 < 12; decide) c3 (own_narc bc3) 262 (hb hby at_261) rfl ?_
  intro T2224 h2224 X2224 e2224 W2224 V2224
  have F2225 := F2212.wr W2224 ge2174
  have F2226 := F2213.wr W2224
  have F2227 := F2214.other W2224 (Or.inl ne2172)
  have F2228 := F2215.other W2224 (Or.inl ne2172)
  have F2229 := F2216.other W2224 ne2173
  have F2230 := F2217.wr W2224
  have K2232 := K2219.wr W2224 (Or.inr sz2175)
  have N2233 := Fr.snoc X2224 N2223 ge2174
  have Z2234 : n0 ≤ h2224.size := by rw [W2224.size]; exact Z2221
  have V2224' : Arv Z h2224 a2171 k2171 .char (12 : Int32) [(.int c0), (.int c1), (.int c2), (.int c3), (.int (0 : Int32)), (.int (0 : Int32)), (.int (0 : Int32)), (.int (0 : Int32)), (.int (0 : Int32)), (.int (0 : Int32)), (.int (0 : Int32)), (.int (0 : Int32))] (.int (0 : Int32)) := V2224
  refine g_dup X2224 hx 263 (hb hby at_262) rfl rfl ?_
  refine g_iconst X2224 hx (4 : Int32) 264 (hb hby at_263) rfl (by decide) ?_
  refine g_iconst X2224 hx (4 : Int32) 265 (hb hby at_264) rfl (by decide) ?_
  refine g_aload X2224 hx 267 (hb hby at_265) rfl rfl rfl ?_
  refine g_iload X2224 hx 269 (hb hby at_267) rfl rfl ?_
  refine g_iload X2224 hx 271 (hb hby at_269) rfl rfl ?_
  refine g_lloadN X2224 hx 272 (hb hby at_271) rfl rfl ?_
  refine g_static X2224 hx hZ hown (hw _ (List.mem_of_getElem? (i := 9) rfl)) (hw _ (List.mem_of_getElem? (i := 10) rfl)) (hw _ (List.mem_of_getElem? (i := 11) rfl)) (hw _ (List.mem_of_getElem? (i := 12) rfl)) (by decide) (rmCh l Z a0 hw (4 : Int32) ba u11 u12 p3 h2224 n0 Z2234 cst hc F2225 SC fm SF vb kb z xs F2226 F2227 F2228 F2229 (by decide) bcc) e2224 (argsL := [(.int (4 : Int32)), (.ref ba), (.int u11), (.int u12), (.long p3)]) (rest := [(.int (4 : Int32)), (.ref a2171), (.ref a2171)]) rfl rfl 3 275 rfl (by rw [hml]; rfl) (lenOf own_pd0 rfl) (Nat.le_refl _) (by decide) (by decide) (by decide) (by decide) (hb hby at_272) ?_
  intro v2235 T2235 L2235 X2235 hQ2235
  obtain ⟨c4, rfl, bc4, N2235, q2235⟩ := hQ2235
  have N2236 := Fr.app N2233 N2235
  show Go p e below _ T2235 (mkF m 275 #[.val (.int p0), .val (.int p1), .val (.int p2), .val (.long p3), .second, .val (.int u5), .val (.ref ba), .val (.int u7), .val (.int u8), .val (.int u9), .val (.int u10), .val (.int u11), .val (.int u12), .unset, .unset, .unset, .unset, .unset, .unset] [(.int c4), (.int (4 : Int32)), (.ref a2171), (.ref a2171)])
  refine g_castore X2235 hx hZ q2235 V2224' 4 (by decide) (by decide) (by show 4 < 12; decide) c4 (own_narc bc4) 276 (hb hby at_275) rfl ?_
  intro T2237 h2237 X2237 e2237 W2237 V2237
  have F2238 := F2225.wr W2237 ge2174
  have F2239 := F2226.wr W2237
  have F2240 := F2227.other W2237 (Or.inl ne2172)
  have F2241 := F2228.other W2237 (Or.inl ne2172)
  have F2242 := F2229.other W2237 ne2173
  have F2243 := F2230.wr W2237
  have K2245 := K2232.wr W2237 (Or.inr sz2175)
  have N2246 := Fr.snoc X2237 N2236 ge2174
  have Z2247 : n0 ≤ h2237.size := by rw [W2237.size]; exact Z2234
  have V2237' : Arv Z h2237 a2171 k2171 .char (12 : Int32) [(.int c0), (.int c1), (.int c2), (.int c3), (.int c4), (.int (0 : Int32)), (.int (0 : Int32)), (.int (0 : Int32)), (.int (0 : Int32)), (.int (0 : Int32)), (.int (0 : Int32)), (.int (0 : Int32))] (.int (0 : Int32)) := V2237
  refine g_dup X2237 hx 277 (hb hby at_276) rfl rfl ?_
  refine g_iconst X2237 hx (5 : Int32) 278 (hb hby at_277) rfl (by decide) ?_
  refine g_iconst X2237 hx (5 : Int32) 279 (hb hby at_278) rfl (by decide) ?_
  refine g_aload X2237 hx 281 (hb hby at_279) rfl rfl rfl ?_
  refine g_iload X2237 hx 283 (hb hby at_281) rfl rfl ?_
  refine g_iload X2237 hx 285 (hb hby at_283) rfl rfl ?_
  refine g_lloadN X2237 hx 286 (hb hby at_285) rfl rfl ?_
  refine g_static X2237 hx hZ hown (hw _ (List.mem_of_getElem? (i := 9) rfl)) (hw _ (List.mem_of_getElem? (i := 10) rfl)) (hw _ (List.mem_of_getElem? (i := 11) rfl)) (hw _ (List.mem_of_getElem? (i := 12) rfl)) (by decide) (rmCh l Z a0 hw (5 : Int32) ba u11 u12 p3 h2237 n0 Z2247 cst hc F2238 SC fm SF vb kb z xs F2239 F2240 F2241 F2242 (by decide) bcc) e2237 (argsL := [(.int (5 : Int32)), (.ref ba), (.int u11), (.int u12), (.long p3)]) (rest := [(.int (5 : Int32)), (.ref a2171), (.ref a2171)]) rfl rfl 3 289 rfl (by rw [hml]; rfl) (lenOf own_pd0 rfl) (Nat.le_refl _) (by decide) (by decide) (by decide) (by decide) (hb hby at_286) ?_
  intro v2248 T2248 L2248 X2248 hQ2248
  obtain ⟨c5, rfl, bc5, N2248, q2248⟩ := hQ2248
  have N2249 := Fr.app N2246 N2248
  show Go p e below _ T2248 (mkF m 289 #[.val (.int p0), .val (.int p1), .val (.int p2), .val (.long p3), .second, .val (.int u5), .val (.ref ba), .val (.int u7), .val (.int u8), .val (.int u9), .val (.int u10), .val (.int u11), .val (.int u12), .unset, .unset, .unset, .unset, .unset, .unset] [(.int c5), (.int (5 : Int32)), (.ref a2171), (.ref a2171)])
  refine g_castore X2248 hx hZ q2248 V2237' 5 (by decide) (by decide) (by show 5 < 12; decide) c5 (own_narc bc5) 290 (hb hby at_289) rfl ?_
  intro T2250 h2250 X2250 e2250 W2250 V2250
  have F2251 := F2238.wr W2250 ge2174
  have F2252 := F2239.wr W2250
  have F2253 := F2240.other W2250 (Or.inl ne2172)
  have F2254 := F2241.other W2250 (Or.inl ne2172)
  have F2255 := F2242.other W2250 ne2173
  have F2256 := F2243.wr W2250
  have K2258 := K2245.wr W2250 (Or.inr sz2175)
  have N2259 := Fr.snoc X2250 N2249 ge2174
  have Z2260 : n0 ≤ h2250.size := by rw [W2250.size]; exact Z2247
  have V2250' : Arv Z h2250 a2171 k2171 .char (12 : Int32) [(.int c0), (.int c1), (.int c2), (.int c3), (.int c4), (.int c5), (.int (0 : Int32)), (.int (0 : Int32)), (.int (0 : Int32)), (.int (0 : Int32)), (.int (0 : Int32)), (.int (0 : Int32))] (.int (0 : Int32)) := V2250
  refine g_dup X2250 hx 291 (hb hby at_290) rfl rfl ?_
  refine g_bipush X2250 hx (6 : Int32) 293 (hb hby at_291) rfl (by decide) ?_
  refine g_bipush X2250 hx (6 : Int32) 295 (hb hby at_293) rfl (by decide) ?_
  refine g_aload X2250 hx 297 (hb hby at_295) rfl rfl rfl ?_
  refine g_iload X2250 hx 299 (hb hby at_297) rfl rfl ?_
  refine g_iload X2250 hx 301 (hb hby at_299) rfl rfl ?_
  refine g_lloadN X2250 hx 302 (hb hby at_301) rfl rfl ?_
  refine g_static X2250 hx hZ hown (hw _ (List.mem_of_getElem? (i := 9) rfl)) (hw _ (List.mem_of_getElem? (i := 10) rfl)) (hw _ (List.mem_of_getElem? (i := 11) rfl)) (hw _ (List.mem_of_getElem? (i := 12) rfl)) (by decide) (rmCh l Z a0 hw (6 : Int32) ba u11 u12 p3 h2250 n0 Z2260 cst hc F2251 SC fm SF vb kb z xs F2252 F2253 F2254 F2255 (by decide) bcc) e2250 (argsL := [(.int (6 : Int32)), (.ref ba), (.int u11), (.int u12), (.long p3)]) (rest := [(.int (6 : Int32)), (.ref a2171), (.ref a2171)]) rfl rfl 3 305 rfl (by rw [hml]; rfl) (lenOf own_pd0 rfl) (Nat.le_refl _) (by decide) (by decide) (by decide) (by decide) (hb hby at_302) ?_
  intro v2261 T2261 L2261 X2261 hQ2261
  obtain ⟨c6, rfl, bc6, N2261, q2261⟩ := hQ2261
  have N2262 := Fr.app N2259 N2261
  show Go p e below _ T2261 (mkF m 305 #[.val (.int p0), .val (.int p1), .val (.int p2), .val (.long p3), .second, .val (.int u5), .val (.ref ba), .val (.int u7), .val (.int u8), .val (.int u9), .val (.int u10), .val (.int u11), .val (.int u12), .unset, .unset, .unset, .unset, .unset, .unset] [(.int c6), (.int (6 : Int32)), (.ref a2171), (.ref a2171)])
  refine g_castore X2261 hx hZ q2261 V2250' 6 (by decide) (by decide) (by show 6 < 12; decide) c6 (own_narc bc6) 306 (hb hby at_305) rfl ?_
  intro T2263 h2263 X2263 e2263 W2263 V2263
  have F2264 := F2251.wr W2263 ge2174
  have F2265 := F2252.wr W2263
  have F2266 := F2253.other W2263 (Or.inl ne2172)
  have F2267 := F2254.other W2263 (Or.inl ne2172)
  have F2268 := F2255.other W2263 ne2173
  have F2269 := F2256.wr W2263
  have K2271 := K2258.wr W2263 (Or.inr sz2175)
  have N2272 := Fr.snoc X2263 N2262 ge2174
  have Z2273 : n0 ≤ h2263.size := by rw [W2263.size]; exact Z2260
  have V2263' : Arv Z h2263 a2171 k2171 .char (12 : Int32) [(.int c0), (.int c1), (.int c2), (.int c3), (.int c4), (.int c5), (.int c6), (.int (0 : Int32)), (.int (0 : Int32)), (.int (0 : Int32)), (.int (0 : Int32)), (.int (0 : Int32))] (.int (0 : Int32)) := V2263
  refine g_dup X2263 hx 307 (hb hby at_306) rfl rfl ?_
  refine g_bipush X2263 hx (7 : Int32) 309 (hb hby at_307) rfl (by decide) ?_
  refine g_bipush X2263 hx (7 : Int32) 311 (hb hby at_309) rfl (by decide) ?_
  refine g_aload X2263 hx 313 (hb hby at_311) rfl rfl rfl ?_
  refine g_iload X2263 hx 315 (hb hby at_313) rfl rfl ?_
  refine g_iload X2263 hx 317 (hb hby at_315) rfl rfl ?_
  refine g_lloadN X2263 hx 318 (hb hby at_317) rfl rfl ?_
  refine g_static X2263 hx hZ hown (hw _ (List.mem_of_getElem? (i := 9) rfl)) (hw _ (List.mem_of_getElem? (i := 10) rfl)) (hw _ (List.mem_of_getElem? (i := 11) rfl)) (hw _ (List.mem_of_getElem? (i := 12) rfl)) (by decide) (rmCh l Z a0 hw (7 : Int32) ba u11 u12 p3 h2263 n0 Z2273 cst hc F2264 SC fm SF vb kb z xs F2265 F2266 F2267 F2268 (by decide) bcc) e2263 (argsL := [(.int (7 : Int32)), (.ref ba), (.int u11), (.int u12), (.long p3)]) (rest := [(.int (7 : Int32)), (.ref a2171), (.ref a2171)]) rfl rfl 3 321 rfl (by rw [hml]; rfl) (lenOf own_pd0 rfl) (Nat.le_refl _) (by decide) (by decide) (by decide) (by decide) (hb hby at_318) ?_
  intro v2274 T2274 L2274 X2274 hQ2274
  obtain ⟨c7, rfl, bc7, N2274, q2274⟩ := hQ2274
  have N2275 := Fr.app N2272 N2274
  show Go p e below _ T2274 (mkF m 321 #[.val (.int p0), .val (.int p1), .val (.int p2), .val (.long p3), .second, .val (.int u5), .val (.ref ba), .val (.int u7), .val (.int u8), .val (.int u9), .val (.int u10), .val (.int u11), .val (.int u12), .unset, .unset, .unset, .unset, .unset, .unset] [(.int c7), (.int (7 : Int32)), (.ref a2171), (.ref a2171)])
  refine g_castore X2274 hx hZ q2274 V2263' 7 (by decide) (by decide) (by show 7 < 12; decide) c7 (own_narc bc7) 322 (hb hby at_321) rfl ?_
  intro T2276 h2276 X2276 e2276 W2276 V2276
  have F2277 := F2264.wr W2276 ge2174
  have F2278 := F2265.wr W2276
  have F2279 := F2266.other W2276 (Or.inl ne2172)
  have F2280 := F2267.other W2276 (Or.inl ne2172)
  have F2281 := F2268.other W2276 ne2173
  have F2282 := F2269.wr W2276
  have K2284 := K2271.wr W2276 (Or.inr sz2175)
  have N2285 := Fr.snoc X2276 N2275 ge2174
  have Z2286 : n0 ≤ h2276.size := by rw [W2276.size]; exact Z2273
  have V2276' : Arv Z h2276 a2171 k2171 .char (12 : Int32) [(.int c0), (.int c1), (.int c2), (.int c3), (.int c4), (.int c5), (.int c6), (.int c7), (.int (0 : Int32)), (.int (0 : Int32)), (.int (0 : Int32)), (.int (0 : Int32))] (.int (0 : Int32)) := V2276
  refine g_dup X2276 hx 323 (hb hby at_322) rfl rfl ?_
  refine g_bipush X2276 hx (8 : Int32) 325 (hb hby at_323) rfl (by decide) ?_
  refine g_bipush X2276 hx (8 : Int32) 327 (hb hby at_325) rfl (by decide) ?_
  refine g_aload X2276 hx 329 (hb hby at_327) rfl rfl rfl ?_
  refine g_iload X2276 hx 331 (hb hby at_329) rfl rfl ?_
  refine g_iload X2276 hx 333 (hb hby at_331) rfl rfl ?_
  refine g_lloadN X2276 hx 334 (hb hby at_333) rfl rfl ?_
  refine g_static X2276 hx hZ hown (hw _ (List.mem_of_getElem? (i := 9) rfl)) (hw _ (List.mem_of_getElem? (i := 10) rfl)) (hw _ (List.mem_of_getElem? (i := 11) rfl)) (hw _ (List.mem_of_getElem? (i := 12) rfl)) (by decide) (rmCh l Z a0 hw (8 : Int32) ba u11 u12 p3 h2276 n0 Z2286 cst hc F2277 SC fm SF vb kb z xs F2278 F2279 F2280 F2281 (by decide) bcc) e2276 (argsL := [(.int (8 : Int32)), (.ref ba), (.int u11), (.int u12), (.long p3)]) (rest := [(.int (8 : Int32)), (.ref a2171), (.ref a2171)]) rfl rfl 3 337 rfl (by rw [hml]; rfl) (lenOf own_pd0 rfl) (Nat.le_refl _) (by decide) (by decide) (by decide) (by decide) (hb hby at_334) ?_
  intro v2287 T2287 L2287 X2287 hQ2287
  obtain ⟨c8, rfl, bc8, N2287, q2287⟩ := hQ2287
  have N2288 := Fr.app N2285 N2287
  show Go p e below _ T2287 (mkF m 337 #[.val (.int p0), .val (.int p1), .val (.int p2), .val (.long p3), .second, .val (.int u5), .val (.ref ba), .val (.int u7), .val (.int u8), .val (.int u9), .val (.int u10), .val (.int u11), .val (.int u12), .unset, .unset, .unset, .unset, .unset, .unset] [(.int c8), (.int (8 : Int32)), (.ref a2171), (.ref a2171)])
  refine g_castore X2287 hx hZ q2287 V2276' 8 (by decide) (by decide) (by show 8 < 12; decide) c8 (own_narc bc8) 338 (hb hby at_337) rfl ?_
  intro T2289 h2289 X2289 e2289 W2289 V2289
  have F2290 := F2277.wr W2289 ge2174
  have F2291 := F2278.wr W2289
  have F2292 := F2279.other W2289 (Or.inl ne2172)
  have F2293 := F2280.other W2289 (Or.inl ne2172)
  have F2294 := F2281.other W2289 ne2173
  have F2295 := F2282.wr W2289
  have K2297 := K2284.wr W2289 (Or.inr sz2175)
  have N2298 := Fr.snoc X2289 N2288 ge2174
  have Z2299 : n0 ≤ h2289.size := by rw [W2289.size]; exact Z2286
  have V2289' : Arv Z h2289 a2171 k2171 .char (12 : Int32) [(.int c0), (.int c1), (.int c2), (.int c3), (.int c4), (.int c5), (.int c6), (.int c7), (.int c8), (.int (0 : Int32)), (.int (0 : Int32)), (.int (0 : Int32))] (.int (0 : Int32)) := V2289
  refine g_dup X2289 hx 339 (hb hby at_338) rfl rfl ?_
  refine g_bipush X2289 hx (9 : Int32) 341 (hb hby at_339) rfl (by decide) ?_
  refine g_bipush X2289 hx (9 : Int32) 343 (hb hby at_341) rfl (by decide) ?_
  refine g_aload X2289 hx 345 (hb hby at_343) rfl rfl rfl ?_
  refine g_iload X2289 hx 347 (hb hby at_345) rfl rfl ?_
  refine g_iload X2289 hx 349 (hb hby at_347) rfl rfl ?_
  refine g_lloadN X2289 hx 350 (hb hby at_349) rfl rfl ?_
  refine g_static X2289 hx hZ hown (hw _ (List.mem_of_getElem? (i := 9) rfl)) (hw _ (List.mem_of_getElem? (i := 10) rfl)) (hw _ (List.mem_of_getElem? (i := 11) rfl)) (hw _ (List.mem_of_getElem? (i := 12) rfl)) (by decide) (rmCh l Z a0 hw (9 : Int32) ba u11 u12 p3 h2289 n0 Z2299 cst hc F2290 SC fm SF vb kb z xs F2291 F2292 F2293 F2294 (by decide) bcc) e2289 (argsL := [(.int (9 : Int32)), (.ref ba), (.int u11), (.int u12), (.long p3)]) (rest := [(.int (9 : Int32)), (.ref a2171), (.ref a2171)]) rfl rfl 3 353 rfl (by rw [hml]; rfl) (lenOf own_pd0 rfl) (Nat.le_refl _) (by decide) (by decide) (by decide) (by decide) (hb hby at_350) ?_
  intro v2300 T2300 L2300 X2300 hQ2300
  obtain ⟨c9, rfl, bc9, N2300, q2300⟩ := hQ2300
  have N2301 := Fr.app N2298 N2300
  show Go p e below _ T2300 (mkF m 353 #[.val (.int p0), .val (.int p1), .val (.int p2), .val (.long p3), .second, .val (.int u5), .val (.ref ba), .val (.int u7), .val (.int u8), .val (.int u9), .val (.int u10), .val (.int u11), .val (.int u12), .unset, .unset, .unset, .unset, .unset, .unset] [(.int c9), (.int (9 : Int32)), (.ref a2171), (.ref a2171)])
  refine g_castore X2300 hx hZ q2300 V2289' 9 (by decide) (by decide) (by show 9 < 12; decide) c9 (own_narc bc9) 354 (hb hby at_353) rfl ?_
  intro T2302 h2302 X2302 e2302 W2302 V2302
  have F2303 := F2290.wr W2302 ge2174
  have F2304 := F2291.wr W2302
  have F2305 := F2292.other W2302 (Or.inl ne2172)
  have F2306 := F2293.other W2302 (Or.inl ne2172)
  have F2307 := F2294.other W2302 ne2173
  have F2308 := F2295.wr W2302
  have K2310 := K2297.wr W2302 (Or.inr sz2175)
  have N2311 := Fr.snoc X2302 N2301 ge2174
  have Z2312 : n0 ≤ h2302.size := by rw [W2302.size]; exact Z2299
  have V2302' : Arv Z h2302 a2171 k2171 .char (12 : Int32) [(.int c0), (.int c1), (.int c2), (.int c3), (.int c4), (.int c5), (.int c6), (.int c7), (.int c8), (.int c9), (.int (0 : Int32)), (.int (0 : Int32))] (.int (0 : Int32)) := V2302
  refine g_dup X2302 hx 355 (hb hby at_354) rfl rfl ?_
  refine g_bipush X2302 hx (10 : Int32) 357 (hb hby at_355) rfl (by decide) ?_
  refine g_bipush X2302 hx (10 : Int32) 359 (hb hby at_357) rfl (by decide) ?_
  refine g_aload X2302 hx 361 (hb hby at_359) rfl rfl rfl ?_
  refine g_iload X2302 hx 363 (hb hby at_361) rfl rfl ?_
  refine g_iload X2302 hx 365 (hb hby at_363) rfl rfl ?_
  refine g_lloadN X2302 hx 366 (hb hby at_365) rfl rfl ?_
  refine g_static X2302 hx hZ hown (hw _ (List.mem_of_getElem? (i := 9) rfl)) (hw _ (List.mem_of_getElem? (i := 10) rfl)) (hw _ (List.mem_of_getElem? (i := 11) rfl)) (hw _ (List.mem_of_getElem? (i := 12) rfl)) (by decide) (rmCh l Z a0 hw (10 : Int32) ba u11 u12 p3 h2302 n0 Z2312 cst hc F2303 SC fm SF vb kb z xs F2304 F2305 F2306 F2307 (by decide) bcc) e2302 (argsL := [(.int (10 : Int32)), (.ref ba), (.int u11), (.int u12), (.long p3)]) (rest := [(.int (10 : Int32)), (.ref a2171), (.ref a2171)]) rfl rfl 3 369 rfl (by rw [hml]; rfl) (lenOf own_pd0 rfl) (Nat.le_refl _) (by decide) (by decide) (by decide) (by decide) (hb hby at_366) ?_
  intro v2313 T2313 L2313 X2313 hQ2313
  obtain ⟨c10, rfl, bc10, N2313, q2313⟩ := hQ2313
  have N2314 := Fr.app N2311 N2313
  show Go p e below _ T2313 (mkF m 369 #[.val (.int p0), .val (.int p1), .val (.int p2), .val (.long p3), .second, .val (.int u5), .val (.ref ba), .val (.int u7), .val (.int u8), .val (.int u9), .val (.int u10), .val (.int u11), .val (.int u12), .unset, .unset, .unset, .unset, .unset, .unset] [(.int c10), (.int (10 : Int32)), (.ref a2171), (.ref a2171)])
  refine g_castore X2313 hx hZ q2313 V2302' 10 (by decide) (by decide) (by show 10 < 12; decide) c10 (own_narc bc10) 370 (hb hby at_369) rfl ?_
  intro T2315 h2315 X2315 e2315 W2315 V2315
  have F2316 := F2303.wr W2315 ge2174
  have F2317 := F2304.wr W2315
  have F2318 := F2305.other W2315 (Or.inl ne2172)
  have F2319 := F2306.other W2315 (Or.inl ne2172)
  have F2320 := F2307.other W2315 ne2173
  have F2321 := F2308.wr W2315
  have K2323 := K2310.wr W2315 (Or.inr sz2175)
  have N2324 := Fr.snoc X2315 N2314 ge2174
  have Z2325 : n0 ≤ h2315.size := by rw [W2315.size]; exact Z2312
  have V2315' : Arv Z h2315 a2171 k2171 .char (12 : Int32) [(.int c0), (.int c1), (.int c2), (.int c3), (.int c4), (.int c5), (.int c6), (.int c7), (.int c8), (.int c9), (.int c10), (.int (0 : Int32))] (.int (0 : Int32)) := V2315
  refine g_dup X2315 hx 371 (hb hby at_370) rfl rfl ?_
  refine g_bipush X2315 hx (11 : Int32) 373 (hb hby at_371) rfl (by decide) ?_
  refine g_bipush X2315 hx (11 : Int32) 375 (hb hby at_373) rfl (by decide) ?_
  refine g_aload X2315 hx 377 (hb hby at_375) rfl rfl rfl ?_
  refine g_iload X2315 hx 379 (hb hby at_377) rfl rfl ?_
  refine g_iload X2315 hx 381 (hb hby at_379) rfl rfl ?_
  refine g_lloadN X2315 hx 382 (hb hby at_381) rfl rfl ?_
  refine g_static X2315 hx hZ hown (hw _ (List.mem_of_getElem? (i := 9) rfl)) (hw _ (List.mem_of_getElem? (i := 10) rfl)) (hw _ (List.mem_of_getElem? (i := 11) rfl)) (hw _ (List.mem_of_getElem? (i := 12) rfl)) (by decide) (rmCh l Z a0 hw (11 : Int32) ba u11 u12 p3 h2315 n0 Z2325 cst hc F2316 SC fm SF vb kb z xs F2317 F2318 F2319 F2320 (by decide) bcc) e2315 (argsL := [(.int (11 : Int32)), (.ref ba), (.int u11), (.int u12), (.long p3)]) (rest := [(.int (11 : Int32)), (.ref a2171), (.ref a2171)]) rfl rfl 3 385 rfl (by rw [hml]; rfl) (lenOf own_pd0 rfl) (Nat.le_refl _) (by decide) (by decide) (by decide) (by decide) (hb hby at_382) ?_
  intro v2326 T2326 L2326 X2326 hQ2326
  obtain ⟨c11, rfl, bc11, N2326, q2326⟩ := hQ2326
  have N2327 := Fr.app N2324 N2326
  show Go p e below _ T2326 (mkF m 385 #[.val (.int p0), .val (.int p1), .val (.int p2), .val (.long p3), .second, .val (.int u5), .val (.ref ba), .val (.int u7), .val (.int u8), .val (.int u9), .val (.int u10), .val (.int u11), .val (.int u12), .unset, .unset, .unset, .unset, .unset, .unset] [(.int c11), (.int (11 : Int32)), (.ref a2171), (.ref a2171)])
  refine g_castore X2326 hx hZ q2326 V2315' 11 (by decide) (by decide) (by show 11 < 12; decide) c11 (own_narc bc11) 386 (hb hby at_385) rfl ?_
  intro T2328 h2328 X2328 e2328 W2328 V2328
  have F2329 := F2316.wr W2328 ge2174
  have F2330 := F2317.wr W2328
  have F2331 := F2318.other W2328 (Or.inl ne2172)
  have F2332 := F2319.other W2328 (Or.inl ne2172)
  have F2333 := F2320.other W2328 ne2173
  have F2334 := F2321.wr W2328
  have K2336 := K2323.wr W2328 (Or.inr sz2175)
  have N2337 := Fr.snoc X2328 N2327 ge2174
  have Z2338 : n0 ≤ h2328.size := by rw [W2328.size]; exact Z2325
  have V2328' : Arv Z h2328 a2171 k2171 .char (12 : Int32) [(.int c0), (.int c1), (.int c2), (.int c3), (.int c4), (.int c5), (.int c6), (.int c7), (.int c8), (.int c9), (.int c10), (.int c11)] (.int (0 : Int32)) := V2328
  refine g_astore (l' := #[.val (.int p0), .val (.int p1), .val (.int p2), .val (.long p3), .second, .val (.int u5), .val (.ref ba), .val (.int u7), .val (.int u8), .val (.int u9), .val (.int u10), .val (.int u11), .val (.int u12), .val (.ref a2171), .unset, .unset, .unset, .unset, .unset]) X2328 hx 388 (hb hby at_386) rfl rfl rfl ?_
  rcases h9 with rfl | rfl | rfl | rfl | rfl | rfl | rfl | rfl
  · exact rm0_388_0 (u9 := 0) X2328 hx hby hml hret hlk hown hZ hw e2328 Z2338 N2337 hS hk K2336 WO2 F2329 bc0 bc1 bc2 bc3 bc4 bc5 bc6 bc7 bc8 bc9 bc10 bc11 V2328' hCv
  · exact rm0_388_1 (u9 := 0) X2328 hx hby hml hret hlk hown hZ hw e2328 Z2338 N2337 hS hk K2336 WO2 F2329 bc0 bc1 bc2 bc3 bc4 bc5 bc6 bc7 bc8 bc9 bc10 bc11 V2328' hCv
  · exact rm0_388_4 (u9 := 0) X2328 hx hby hml hret hlk hown hZ hw e2328 Z2338 N2337 hS hk K2336 WO2 F2329 bc0 bc1 bc2 bc3 bc4 bc5 bc6 bc7 bc8 bc9 bc10 bc11 V2328' hCv
  · exact rm0_388_5 (u9 := 0) X2328 hx hby hml hret hlk hown hZ hw e2328 Z2338 N2337 hS hk K2336 WO2 F2329 bc0 bc1 bc2 bc3 bc4 bc5 bc6 bc7 bc8 bc9 bc10 bc11 V2328' hCv
  · exact rm0_388_6 (u9 := 0) X2328 hx hby hml hret hlk hown hZ hw e2328 Z2338 N2337 hS hk K2336 WO2 F2329 bc0 bc1 bc2 bc3 bc4 bc5 bc6 bc7 bc8 bc9 bc10 bc11 V2328' hCv
  · exact rm0_388_8 (u9 := 0) X2328 hx hby hml hret hlk hown hZ hw e2328 Z2338 N2337 hS hk K2336 WO2 F2329 bc0 bc1 bc2 bc3 bc4 bc5 bc6 bc7 bc8 bc9 bc10 bc11 V2328' hCv
  · exact rm0_388_11 (u9 := 0) X2328 hx hby hml hret hlk hown hZ hw e2328 Z2338 N2337 hS hk K2336 WO2 F2329 bc0 bc1 bc2 bc3 bc4 bc5 bc6 bc7 bc8 bc9 bc10 bc11 V2328' hCv
  · exact rm0_388_12 (u9 := 0) X2328 hx hby hml hret hlk hown hZ hw e2328 Z2338 N2337 hS hk K2336 WO2 F2329 bc0 bc1 bc2 bc3 bc4 bc5 bc6 bc7 bc8 bc9 bc10 bc11 V2328' hCv
theorem rm0_161 {p : Program} {l : Launch} {e : Env} {s : State} {m : MethodId} {args : Array Value} {below : List Frame} {meth : Method} {c : Code} {T0 Z : State} {a0 : Array Value} {h0 hC : Heap} {n0 k0 : Nat} {vm0 : Vm} {L0 : List Loc} {p0 p1 p2 : Int32} {p3 : Int64} {u5 u7 u8 u9 : Int32} {ba : Addr} {cst : Int32} {va ro cl em lr lc vr vc : Addr} {kv kr kc_ : ClassId} {xr xc : List Int32} {vb : Addr} {kb : ClassId} {z : Int32} {xs : List Int32} {fm : Option Addr} (X0 : Stand p l e room_1 (s.setVm vm0) m args below meth c T0 L0 2 50) (hx : p.tables.exec = Jvm.exec) (hby : c.code = code) (hml : c.maxLocals = maxLocals) (hret : meth.sig.returnType = ret) (hlk : meth.locks = false) (hown : (s.setVm vm0).vm.findClass "com/example/dispatchd/dispatchd/store/EventSchemaWithLabelPinLaw" = some m.cls) (hZ : Z.Warmed39 (s.setVm vm0).vm) (hw : ∀ d ∈ tables_1, d.before a0 Z = true) (e0 : T0.heap = h0) (Z0 : n0 ≤ h0.size) (N0 : Fr n0 L0) (hS : s.Since vm0 k0) (hk : k0 ≤ hC.size) (KC : Keep hC h0 []) (WO : OldW Z cst va ro cl em lr lc vr vc kv kr kc_ xr xc) (O0 : Old Z n0 h0) (SF : Sta Z Z.heap "jdk/internal/util/Preconditions" "SIOOBE_FORMATTER" "Ljava/util/function/BiFunction;" (own_rv fm)) (E : Exa Z h0 ba "java/lang/String") (Fc : Fld Z h0 ba "java/lang/String" "coder" "B" (.int 0)) (Fv : Fld Z h0 ba "java/lang/String" "value" "[B" (.ref vb)) (V : Arv Z h0 vb kb .byte z (xs.map Value.int) (.int 0)) (h9 : u9 = 0 ∨ u9 = 1 ∨ u9 = 4 ∨ u9 = 5 ∨ u9 = 6 ∨ u9 = 8 ∨ u9 = 11 ∨ u9 = 12) (hCv : CHv Z own_EL vm0 hC) :
    Go p e below (EndW s (Q_rm0 n0) 32 5312) T0 (mkF m 161 #[.val (.int p0), .val (.int p1), .val (.int p2), .val (.long p3), .second, .val (.int u5), .val (.ref ba), .val (.int u7), .val (.int u8), .val (.int u9), .unset, .unset, .unset, .unset, .unset, .unset, .unset, .unset, .unset] []) := by
  refine g_iloadN X0 hx 162 (hb hby at_161) rfl rfl ?_
  refine g_iconst X0 hx (5 : Int32) 163 (hb hby at_162) rfl (by decide) ?_
  refine g_iushr X0 hx 164 (hb hby at_163) rfl ?_
  refine g_iconst X0 hx (1 : Int32) 165 (hb hby at_164) rfl (by decide) ?_
  refine g_iand X0 hx 166 (hb hby at_165) rfl ?_
  refine g_if_eq X0 hx 173 169 (hb hby at_166) (by decide) (by decide) rfl (fun c2339 => ?_) (fun c2339 => ?_)
  · skip
    refine g_iconst X0 hx (0 : Int32) 174 (hb hby at_173) rfl (by decide) ?_
    refine g_istore (l' := #[.val (.int p0), .val (.int p1), .val (.int p2), .val (.long p3), .second, .val (.int u5), .val (.ref ba), .val (.int u7), .val (.int u8), .val (.int u9), .val (.int (0 : Int32)), .unset, .unset, .unset, .unset, .unset, .unset, .unset, .unset]) X0 hx 176 (hb hby at_174) rfl rfl ?_
    refine g_iload X0 hx 178 (hb hby at_176) rfl rfl ?_
    have ll2341 : ((0 : Int32) : Int32).toInt = 0 := by decide
    refine g_if_eq X0 hx 191 181 (hb hby at_178) (by decide) (by decide) rfl (fun c2340 => ?_) (fun c2340 => ?_)
    · skip
      refine g_iconst X0 hx (-1 : Int32) 192 (hb hby at_191) rfl (by decide) ?_
      refine g_istore (l' := #[.val (.int p0), .val (.int p1), .val (.int p2), .val (.long p3), .second, .val (.int u5), .val (.ref ba), .val (.int u7), .val (.int u8), .val (.int u9), .val (.int (0 : Int32)), .val (.int (-1 : Int32)), .unset, .unset, .unset, .unset, .unset, .unset, .unset]) X0 hx 194 (hb hby at_192) rfl rfl ?_
      refine g_iloadN X0 hx 195 (hb hby at_194) rfl rfl ?_
      refine g_sipush X0 hx (255 : Int32) 198 (hb hby at_195) rfl (by decide) ?_
      refine g_iand X0 hx 199 (hb hby at_198) rfl ?_
      refine g_i2c X0 hx 200 (hb hby at_199) rfl ?_
      refine g_istore (l' := #[.val (.int p0), .val (.int p1), .val (.int p2), .val (.long p3), .second, .val (.int u5), .val (.ref ba), .val (.int u7), .val (.int u8), .val (.int u9), .val (.int (0 : Int32)), .val (.int (-1 : Int32)), .val (.int ((p2 &&& (255 : Int32)).toUInt32.toUInt16.toUInt32.toInt32)), .unset, .unset, .unset, .unset, .unset, .unset]) X0 hx 202 (hb hby at_200) rfl rfl ?_
      exact rm0_202 X0 hx hby hml hret hlk hown hZ hw e0 Z0 N0 hS hk KC WO O0 SF E Fc Fv V h9 (by rw [own_i2c (own_255 p2)]; exact own_255 p2) hCv
    · skip
      exfalso; revert c2340; decide
  · skip
    refine g_iconst X0 hx (1 : Int32) 170 (hb hby at_169) rfl (by decide) ?_
    refine g_goto X0 hx 174 (hb hby at_170) (by decide) (by decide) ?_
    refine g_istore (l' := #[.val (.int p0), .val (.int p1), .val (.int p2), .val (.long p3), .second, .val (.int u5), .val (.ref ba), .val (.int u7), .val (.int u8), .val (.int u9), .val (.int (1 : Int32)), .unset, .unset, .unset, .unset, .unset, .unset, .unset, .unset]) X0 hx 176 (hb hby at_174) rfl rfl ?_
    refine g_iload X0 hx 178 (hb hby at_176) rfl rfl ?_
    have ll2343 : ((1 : Int32) : Int32).toInt = 1 := by decide
    refine g_if_eq X0 hx 191 181 (hb hby at_178) (by decide) (by decide) rfl (fun c2342 => ?_) (fun c2342 => ?_)
    · skip
      exfalso; revert c2342; decide
    · skip
      refine g_iloadN X0 hx 182 (hb hby at_181) rfl rfl ?_
      refine g_ldcI X0 hx 184 hZ hown (hw _ (List.mem_of_getElem? (i := 146) rfl)) (hb hby at_182) rfl ?_
      refine g_iand X0 hx 185 (hb hby at_184) rfl ?_
      refine g_bipush X0 hx (12 : Int32) 187 (hb hby at_185) rfl (by decide) ?_
      refine g_irem X0 hx 188 (hb hby at_187) rfl (by decide) ?_
      refine g_goto X0 hx 192 (hb hby at_188) (by decide) (by decide) ?_
      refine g_istore (l' := #[.val (.int p0), .val (.int p1), .val (.int p2), .val (.long p3), .second, .val (.int u5), .val (.ref ba), .val (.int u7), .val (.int u8), .val (.int u9), .val (.int (1 : Int32)), .val (.int ((p1 &&& (2147483647 : Int32)) % (12 : Int32))), .unset, .unset, .unset, .unset, .unset, .unset, .unset]) X0 hx 194 (hb hby at_192) rfl rfl ?_
      refine g_iloadN X0 hx 195 (hb hby at_194) rfl rfl ?_
      refine g_sipush X0 hx (255 : Int32) 198 (hb hby at_195) rfl (by decide) ?_
      refine g_iand X0 hx 199 (hb hby at_198) rfl ?_
      refine g_i2c X0 hx 200 (hb hby at_199) rfl ?_
      refine g_istore (l' := #[.val (.int p0), .val (.int p1), .val (.int p2), .val (.long p3), .second, .val (.int u5), .val (.ref ba), .val (.int u7), .val (.int u8), .val (.int u9), .val (.int (1 : Int32)), .val (.int ((p1 &&& (2147483647 : Int32)) % (12 : Int32))), .val (.int ((p2 &&& (255 : Int32)).toUInt32.toUInt16.toUInt32.toInt32)), .unset, .unset, .unset, .unset, .unset, .unset]) X0 hx 202 (hb hby at_200) rfl rfl ?_
      exact rm0_202 X0 hx hby hml hret hlk hown hZ hw e0 Z0 N0 hS hk KC WO O0 SF E Fc Fv V h9 (by rw [own_i2c (own_255 p2)]; exact own_255 p2) hCv
theorem rm0_62 {p : Program} {l : Launch} {e : Env} {s : State} {m : MethodId} {args : Array Value} {below : List Frame} {meth : Method} {c : Code} {T0 Z : State} {a0 : Array Value} {h0 hC : Heap} {n0 k0 : Nat} {vm0 : Vm} {L0 : List Loc} {p0 p1 p2 : Int32} {p3 : Int64} {u5 u7 : Int32} {ba : Addr} {cst : Int32} {va ro cl em lr lc vr vc : Addr} {kv kr kc_ : ClassId} {xr xc : List Int32} {vb : Addr} {kb : ClassId} {z : Int32} {xs : List Int32} {fm : Option Addr} (X0 : Stand p l e room_1 (s.setVm vm0) m args below meth c T0 L0 2 50) (hx : p.tables.exec = Jvm.exec) (hby : c.code = code) (hml : c.maxLocals = maxLocals) (hret : meth.sig.returnType = ret) (hlk : meth.locks = false) (hown : (s.setVm vm0).vm.findClass "com/example/dispatchd/dispatchd/store/EventSchemaWithLabelPinLaw" = some m.cls) (hZ : Z.Warmed39 (s.setVm vm0).vm) (hw : ∀ d ∈ tables_1, d.before a0 Z = true) (e0 : T0.heap = h0) (Z0 : n0 ≤ h0.size) (N0 : Fr n0 L0) (hS : s.Since vm0 k0) (hk : k0 ≤ hC.size) (KC : Keep hC h0 []) (WO : OldW Z cst va ro cl em lr lc vr vc kv kr kc_ xr xc) (O0 : Old Z n0 h0) (SF : Sta Z Z.heap "jdk/internal/util/Preconditions" "SIOOBE_FORMATTER" "Ljava/util/function/BiFunction;" (own_rv fm)) (E : Exa Z h0 ba "java/lang/String") (Fc : Fld Z h0 ba "java/lang/String" "coder" "B" (.int 0)) (Fv : Fld Z h0 ba "java/lang/String" "value" "[B" (.ref vb)) (V : Arv Z h0 vb kb .byte z (xs.map Value.int) (.int 0)) (h7 : u7 = 5 ∨ u7 = 11 ∨ u7 = 6 ∨ u7 = 8) (hCv : CHv Z own_EL vm0 hC) :
    Go p e below (EndW s (Q_rm0 n0) 32 5312) T0 (mkF m 62 #[.val (.int p0), .val (.int p1), .val (.int p2), .val (.long p3), .second, .val (.int u5), .val (.ref ba), .val (.int u7), .unset, .unset, .unset, .unset, .unset, .unset, .unset, .unset, .unset, .unset, .unset] []) := by
  refine g_iloadN X0 hx 63 (hb hby at_62) rfl rfl ?_
  refine g_iconst X0 hx (2 : Int32) 64 (hb hby at_63) rfl (by decide) ?_
  refine g_iushr X0 hx 65 (hb hby at_64) rfl ?_
  refine g_bipush X0 hx (7 : Int32) 67 (hb hby at_65) rfl (by decide) ?_
  refine g_iand X0 hx 68 (hb hby at_67) rfl ?_
  refine g_istore (l' := #[.val (.int p0), .val (.int p1), .val (.int p2), .val (.long p3), .second, .val (.int u5), .val (.ref ba), .val (.int u7), .val (.int (((p0.toUInt32 >>> ((2 : Int32) &&& 31).toUInt32).toInt32) &&& (7 : Int32))), .unset, .unset, .unset, .unset, .unset, .unset, .unset, .unset, .unset, .unset]) X0 hx 70 (hb hby at_68) rfl rfl ?_
  refine g_iload X0 hx 72 (hb hby at_70) rfl rfl ?_
  generalize hu8 : (((p0.toUInt32 >>> ((2 : Int32) &&& 31).toUInt32).toInt32) &&& (7 : Int32)) = u8
  refine g_if_ne X0 hx 82 75 (hb hby at_72) (by decide) (by decide) rfl (fun c2344 => ?_) (fun c2344 => ?_)
  · skip
    refine g_iload X0 hx 84 (hb hby at_82) rfl rfl ?_
    refine g_iconst X0 hx (1 : Int32) 85 (hb hby at_84) rfl (by decide) ?_
    have ll2346 : ((1 : Int32) : Int32).toInt = 1 := by decide
    refine g_ic_ne X0 hx 94 88 (hb hby at_85) (by decide) (by decide) rfl (fun c2345 => ?_) (fun c2345 => ?_)
    · skip
      refine g_iload X0 hx 96 (hb hby at_94) rfl rfl ?_
      refine g_iconst X0 hx (2 : Int32) 97 (hb hby at_96) rfl (by decide) ?_
      have ll2348 : ((2 : Int32) : Int32).toInt = 2 := by decide
      refine g_ic_ne X0 hx 106 100 (hb hby at_97) (by decide) (by decide) rfl (fun c2347 => ?_) (fun c2347 => ?_)
      · skip
        refine g_iload X0 hx 108 (hb hby at_106) rfl rfl ?_
        refine g_iconst X0 hx (3 : Int32) 109 (hb hby at_108) rfl (by decide) ?_
        have ll2350 : ((3 : Int32) : Int32).toInt = 3 := by decide
        refine g_ic_ne X0 hx 118 112 (hb hby at_109) (by decide) (by decide) rfl (fun c2349 => ?_) (fun c2349 => ?_)
        · skip
          refine g_iload X0 hx 120 (hb hby at_118) rfl rfl ?_
          refine g_iconst X0 hx (4 : Int32) 121 (hb hby at_120) rfl (by decide) ?_
          have ll2352 : ((4 : Int32) : Int32).toInt = 4 := by decide
          refine g_ic_ne X0 hx 130 124 (hb hby at_121) (by decide) (by decide) rfl (fun c2351 => ?_) (fun c2351 => ?_)
          · skip
            refine g_iload X0 hx 132 (hb hby at_130) rfl rfl ?_
            refine g_iconst X0 hx (5 : Int32) 133 (hb hby at_132) rfl (by decide) ?_
            have ll2354 : ((5 : Int32) : Int32).toInt = 5 := by decide
            refine g_ic_ne X0 hx 143 136 (hb hby at_133) (by decide) (by decide) rfl (fun c2353 => ?_) (fun c2353 => ?_)
            · skip
              refine g_iload X0 hx 145 (hb hby at_143) rfl rfl ?_
              refine g_bipush X0 hx (6 : Int32) 147 (hb hby at_145) rfl (by decide) ?_
              have ll2356 : ((6 : Int32) : Int32).toInt = 6 := by decide
              refine g_ic_ne X0 hx 157 150 (hb hby at_147) (by decide) (by decide) rfl (fun c2355 => ?_) (fun c2355 => ?_)
              · skip
                refine g_bipush X0 hx (12 : Int32) 159 (hb hby at_157) rfl (by decide) ?_
                refine g_istore (l' := #[.val (.int p0), .val (.int p1), .val (.int p2), .val (.long p3), .second, .val (.int u5), .val (.ref ba), .val (.int u7), .val (.int u8), .val (.int (12 : Int32)), .unset, .unset, .unset, .unset, .unset, .unset, .unset, .unset, .unset]) X0 hx 161 (hb hby at_159) rfl rfl ?_
                exact rm0_161 X0 hx hby hml hret hlk hown hZ hw e0 Z0 N0 hS hk KC WO O0 SF E Fc Fv V (by decide) hCv
              · skip
                refine g_bipush X0 hx (11 : Int32) 152 (hb hby at_150) rfl (by decide) ?_
                refine g_istore (l' := #[.val (.int p0), .val (.int p1), .val (.int p2), .val (.long p3), .second, .val (.int u5), .val (.ref ba), .val (.int u7), .val (.int u8), .val (.int (11 : Int32)), .unset, .unset, .unset, .unset, .unset, .unset, .unset, .unset, .unset]) X0 hx 154 (hb hby at_152) rfl rfl ?_
                refine g_goto X0 hx 161 (hb hby at_154) (by decide) (by decide) ?_
                exact rm0_161 X0 hx hby hml hret hlk hown hZ hw e0 Z0 N0 hS hk KC WO O0 SF E Fc Fv V (by decide) hCv
            · skip
              refine g_bipush X0 hx (6 : Int32) 138 (hb hby at_136) rfl (by decide) ?_
              refine g_istore (l' := #[.val (.int p0), .val (.int p1), .val (.int p2), .val (.long p3), .second, .val (.int u5), .val (.ref ba), .val (.int u7), .val (.int u8), .val (.int (6 : Int32)), .unset, .unset, .unset, .unset, .unset, .unset, .unset, .unset, .unset]) X0 hx 140 (hb hby at_138) rfl rfl ?_
              refine g_goto X0 hx 161 (hb hby at_140) (by decide) (by decide) ?_
              exact rm0_161 X0 hx hby hml hret hlk hown hZ hw e0 Z0 N0 hS hk KC WO O0 SF E Fc Fv V (by decide) hCv
          · skip
            refine g_iconst X0 hx (5 : Int32) 125 (hb hby at_124) rfl (by decide) ?_
            refine g_istore (l' := #[.val (.int p0), .val (.int p1), .val (.int p2), .val (.long p3), .second, .val (.int u5), .val (.ref ba), .val (.int u7), .val (.int u8), .val (.int (5 : Int32)), .unset, .unset, .unset, .unset, .unset, .unset, .unset, .unset, .unset]) X0 hx 127 (hb hby at_125) rfl rfl ?_
            refine g_goto X0 hx 161 (hb hby at_127) (by decide) (by decide) ?_
            exact rm0_161 X0 hx hby hml hret hlk hown hZ hw e0 Z0 N0 hS hk KC WO O0 SF E Fc Fv V (by decide) hCv
        · skip
          refine g_iconst X0 hx (4 : Int32) 113 (hb hby at_112) rfl (by decide) ?_
          refine g_istore (l' := #[.val (.int p0), .val (.int p1), .val (.int p2), .val (.long p3), .second, .val (.int u5), .val (.ref ba), .val (.int u7), .val (.int u8), .val (.int (4 : Int32)), .unset, .unset, .unset, .unset, .unset, .unset, .unset, .unset, .unset]) X0 hx 115 (hb hby at_113) rfl rfl ?_
          refine g_goto X0 hx 161 (hb hby at_115) (by decide) (by decide) ?_
          exact rm0_161 X0 hx hby hml hret hlk hown hZ hw e0 Z0 N0 hS hk KC WO O0 SF E Fc Fv V (by decide) hCv
      · skip
        refine g_iconst X0 hx (1 : Int32) 101 (hb hby at_100) rfl (by decide) ?_
        refine g_istore (l' := #[.val (.int p0), .val (.int p1), .val (.int p2), .val (.long p3), .second, .val (.int u5), .val (.ref ba), .val (.int u7), .val (.int u8), .val (.int (1 : Int32)), .unset, .unset, .unset, .unset, .unset, .unset, .unset, .unset, .unset]) X0 hx 103 (hb hby at_101) rfl rfl ?_
        refine g_goto X0 hx 161 (hb hby at_103) (by decide) (by decide) ?_
        exact rm0_161 X0 hx hby hml hret hlk hown hZ hw e0 Z0 N0 hS hk KC WO O0 SF E Fc Fv V (by decide) hCv
    · skip
      refine g_iconst X0 hx (0 : Int32) 89 (hb hby at_88) rfl (by decide) ?_
      refine g_istore (l' := #[.val (.int p0), .val (.int p1), .val (.int p2), .val (.long p3), .second, .val (.int u5), .val (.ref ba), .val (.int u7), .val (.int u8), .val (.int (0 : Int32)), .unset, .unset, .unset, .unset, .unset, .unset, .unset, .unset, .unset]) X0 hx 91 (hb hby at_89) rfl rfl ?_
      refine g_goto X0 hx 161 (hb hby at_91) (by decide) (by decide) ?_
      exact rm0_161 X0 hx hby hml hret hlk hown hZ hw e0 Z0 N0 hS hk KC WO O0 SF E Fc Fv V (by decide) hCv
  · skip
    refine g_iload X0 hx 77 (hb hby at_75) rfl rfl ?_
    refine g_istore (l' := #[.val (.int p0), .val (.int p1), .val (.int p2), .val (.long p3), .second, .val (.int u5), .val (.ref ba), .val (.int u7), .val (.int u8), .val (.int u7), .unset, .unset, .unset, .unset, .unset, .unset, .unset, .unset, .unset]) X0 hx 79 (hb hby at_77) rfl rfl ?_
    refine g_goto X0 hx 161 (hb hby at_79) (by decide) (by decide) ?_
    exact rm0_161 X0 hx hby hml hret hlk hown hZ hw e0 Z0 N0 hS hk KC WO O0 SF E Fc Fv V (by rcases h7 with rfl | rfl | rfl | rfl <;> decide) hCv
theorem own_pfx : plainFor x = true := plainFor_of_name (show plainName "com/example/dispatchd/dispatchd/store/EventSchemaWithLabelPinLaw" = true by first | (simp [plainName, overriddenIn]; done) | decide +kernel)
theorem ef_rm0 (p0 : Int32) (p1 : Int32) (p2 : Int32) (p3 : Int64) (m : MethodId) : entryFrame m #[(.int p0), (.int p1), (.int p2), (.long p3)] maxLocals = mkF m 0 #[.val (.int p0), .val (.int p1), .val (.int p2), .val (.long p3), .second, .unset, .unset, .unset, .unset, .unset, .unset, .unset, .unset, .unset, .unset, .unset, .unset, .unset, .unset] [] := by first | (simp [entryFrame, mkF, argsToLocals, Value.category, maxLocals]; done) | rfl
theorem rm0 (l : Launch) (Z : State) (a0 : Array Value) (hw : ∀ d ∈ tables_1, d.before a0 Z = true) (ws : List Jvm.Cond) (p0 : Int32) (p1 : Int32) (p2 : Int32) (p3 : Int64) (h0 : Heap) (n0 : Nat) (Z0 : n0 ≤ h0.size) (cst : Int32) (va ro cl em lr lc vr vc : Addr) (kv kr kc_ : ClassId) (xr xc : List Int32) (WO : OldW Z cst va ro cl em lr lc vr vc kv kr kc_ xr xc) (O0 : Old Z n0 h0) (fm : Option Addr) (SF : Sta Z Z.heap "jdk/internal/util/Preconditions" "SIOOBE_FORMATTER" "Ljava/util/function/BiFunction;" (own_rv fm)) :
    MetFree l x (head1 (Jvm.Cond.code x code maxLocals ret :: ws) room_1) (fun as_ U => as_ = #[(.int p0), (.int p1), (.int p2), (.long p3)] ∧ Z.Warmed39 U.vm ∧ U.heap = h0 ∧ CHv Z own_EL U.vm h0) (fun _ _ _ _ _ => True) (fun _ U o U' => ∃ v L, o = .returned v ∧ Q_rm0 n0 v U'.heap L ∧ ReturnedEndW U o U' L 32 5312) := by
  have own_wS := own_strw hw
  have hEL := own_ew hw
  refine own_metH own_pfx (ef_rm0 p0 p1 p2 p3) ?_
  intro p e s m below meth c T0 X0 hx hby hml hret hlk hnm hown hZ e0 hS hC
  have N0 := Fr.nil n0
  refine g_iloadN X0 hx 1 (hb hby at_0) rfl rfl ?_
  refine g_iconst X0 hx (3 : Int32) 2 (hb hby at_1) rfl (by decide) ?_
  refine g_iand X0 hx 3 (hb hby at_2) rfl ?_
  refine g_istore (l' := #[.val (.int p0), .val (.int p1), .val (.int p2), .val (.long p3), .second, .val (.int (p0 &&& (3 : Int32))), .unset, .unset, .unset, .unset, .unset, .unset, .unset, .unset, .unset, .unset, .unset, .unset, .unset]) X0 hx 5 (hb hby at_3) rfl rfl ?_
  refine g_iload X0 hx 7 (hb hby at_5) rfl rfl ?_
  refine g_if_ne X0 hx 20 10 (hb hby at_7) (by decide) (by decide) rfl (fun c2357 => ?_) (fun c2357 => ?_)
  · skip
    refine g_iload X0 hx 22 (hb hby at_20) rfl rfl ?_
    refine g_iconst X0 hx (1 : Int32) 23 (hb hby at_22) rfl (by decide) ?_
    have ll2359 : ((1 : Int32) : Int32).toInt = 1 := by decide
    refine g_ic_ne X0 hx 37 26 (hb hby at_23) (by decide) (by decide) rfl (fun c2358 => ?_) (fun c2358 => ?_)
    · skip
      refine g_iload X0 hx 39 (hb hby at_37) rfl rfl ?_
      refine g_iconst X0 hx (2 : Int32) 40 (hb hby at_39) rfl (by decide) ?_
      have ll2361 : ((2 : Int32) : Int32).toInt = 2 := by decide
      refine g_ic_ne X0 hx 54 43 (hb hby at_40) (by decide) (by decide) rfl (fun c2360 => ?_) (fun c2360 => ?_)
      · skip
        refine g_ldcH X0 hx hZ hown (hw _ (List.mem_of_getElem? (i := 147) rfl)) own_wS e0 hS (Nat.zero_le _) hEL (List.mem_of_getElem? (i := 3) rfl) hC (vs := []) (z := 0) ⟨by decide +kernel, by decide +kernel⟩ (by decide) (by decide) 0 (by decide +kernel) (by decide) 56 (hb hby at_54) rfl (by decide) (by decide) ?_
        intro t2362 T2362 h2362 k2362 vb2362 kb2362 X2362 e2362 E2362 hS hk hZ hown Es2362 Cs2362 Fs2362 Vs2362 hC LT
        have F2363 := O0.ext E2362
        have Z2364 : n0 ≤ h2362.size := Nat.le_trans Z0 E2362.1
        refine g_astore (l' := #[.val (.int p0), .val (.int p1), .val (.int p2), .val (.long p3), .second, .val (.int (p0 &&& (3 : Int32))), .val (.ref t2362), .unset, .unset, .unset, .unset, .unset, .unset, .unset, .unset, .unset, .unset, .unset, .unset]) X2362 hx 58 (hb hby at_56) rfl rfl rfl ?_
        refine g_bipush X2362 hx (8 : Int32) 60 (hb hby at_58) rfl (by decide) ?_
        refine g_istore (l' := #[.val (.int p0), .val (.int p1), .val (.int p2), .val (.long p3), .second, .val (.int (p0 &&& (3 : Int32))), .val (.ref t2362), .val (.int (8 : Int32)), .unset, .unset, .unset, .unset, .unset, .unset, .unset, .unset, .unset, .unset, .unset]) X2362 hx 62 (hb hby at_60) rfl rfl ?_
        exact rm0_62 (X2362.more (by decide) (by decide)) hx hby hml hret hlk hown hZ hw e2362 Z2364 N0 hS hk (Keep.refl _ []) WO F2363 (xs := []) SF Es2362 Cs2362 Fs2362 Vs2362 (by decide) hC
      · skip
        refine g_ldcH X0 hx hZ hown (hw _ (List.mem_of_getElem? (i := 145) rfl)) own_wS e0 hS (Nat.zero_le _) hEL (List.mem_of_getElem? (i := 2) rfl) hC (vs := [(.int 101), (.int 118), (.int 101), (.int 110), (.int 116), (.int 115)]) (z := 6) ⟨by decide +kernel, by decide +kernel⟩ (by decide) (by decide) 24 (by decide +kernel) (by decide) 45 (hb hby at_43) rfl (by decide) (by decide) ?_
        intro t2365 T2365 h2365 k2365 vb2365 kb2365 X2365 e2365 E2365 hS hk hZ hown Es2365 Cs2365 Fs2365 Vs2365 hC LT
        have F2366 := O0.ext E2365
        have Z2367 : n0 ≤ h2365.size := Nat.le_trans Z0 E2365.1
        refine g_astore (l' := #[.val (.int p0), .val (.int p1), .val (.int p2), .val (.long p3), .second, .val (.int (p0 &&& (3 : Int32))), .val (.ref t2365), .unset, .unset, .unset, .unset, .unset, .unset, .unset, .unset, .unset, .unset, .unset, .unset]) X2365 hx 47 (hb hby at_45) rfl rfl rfl ?_
        refine g_bipush X2365 hx (6 : Int32) 49 (hb hby at_47) rfl (by decide) ?_
        refine g_istore (l' := #[.val (.int p0), .val (.int p1), .val (.int p2), .val (.long p3), .second, .val (.int (p0 &&& (3 : Int32))), .val (.ref t2365), .val (.int (6 : Int32)), .unset, .unset, .unset, .unset, .unset, .unset, .unset, .unset, .unset, .unset, .unset]) X2365 hx 51 (hb hby at_49) rfl rfl ?_
        refine g_goto X2365 hx 62 (hb hby at_51) (by decide) (by decide) ?_
        exact rm0_62 (X2365.more (by decide) (by decide)) hx hby hml hret hlk hown hZ hw e2365 Z2367 N0 hS hk (Keep.refl _ []) WO F2366 (xs := [101, 118, 101, 110, 116, 115]) SF Es2365 Cs2365 Fs2365 Vs2365 (by decide) hC
    · skip
      refine g_ldcH X0 hx hZ hown (hw _ (List.mem_of_getElem? (i := 148) rfl)) own_wS e0 hS (Nat.zero_le _) hEL (List.mem_of_getElem? (i := 1) rfl) hC (vs := [(.int 99), (.int 108), (.int 111), (.int 117), (.int 100), (.int 101), (.int 118), (.int 101), (.int 110), (.int 116), (.int 115)]) (z := 11) ⟨by decide +kernel, by decide +kernel⟩ (by decide) (by decide) 44 (by decide +kernel) (by decide) 28 (hb hby at_26) rfl (by decide) (by decide) ?_
      intro t2368 T2368 h2368 k2368 vb2368 kb2368 X2368 e2368 E2368 hS hk hZ hown Es2368 Cs2368 Fs2368 Vs2368 hC LT
      have F2369 := O0.ext E2368
      have Z2370 : n0 ≤ h2368.size := Nat.le_trans Z0 E2368.1
      refine g_astore (l' := #[.val (.int p0), .val (.int p1), .val (.int p2), .val (.long p3), .second, .val (.int (p0 &&& (3 : Int32))), .val (.ref t2368), .unset, .unset, .unset, .unset, .unset, .unset, .unset, .unset, .unset, .unset, .unset, .unset]) X2368 hx 30 (hb hby at_28) rfl rfl rfl ?_
      refine g_bipush X2368 hx (11 : Int32) 32 (hb hby at_30) rfl (by decide) ?_
      refine g_istore (l' := #[.val (.int p0), .val (.int p1), .val (.int p2), .val (.long p3), .second, .val (.int (p0 &&& (3 : Int32))), .val (.ref t2368), .val (.int (11 : Int32)), .unset, .unset, .unset, .unset, .unset, .unset, .unset, .unset, .unset, .unset, .unset]) X2368 hx 34 (hb hby at_32) rfl rfl ?_
      refine g_goto X2368 hx 62 (hb hby at_34) (by decide) (by decide) ?_
      exact rm0_62 (X2368.more (by decide) (by decide)) hx hby hml hret hlk hown hZ hw e2368 Z2370 N0 hS hk (Keep.refl _ []) WO F2369 (xs := [99, 108, 111, 117, 100, 101, 118, 101, 110, 116, 115]) SF Es2368 Cs2368 Fs2368 Vs2368 (by decide) hC
  · skip
    refine g_ldcH X0 hx hZ hown (hw _ (List.mem_of_getElem? (i := 0) rfl)) own_wS e0 hS (Nat.zero_le _) hEL (List.mem_of_getElem? (i := 0) rfl) hC (vs := [(.int 101), (.int 118), (.int 101), (.int 110), (.int 116)]) (z := 5) ⟨by decide +kernel, by decide +kernel⟩ (by decide) (by decide) 20 (by decide +kernel) (by decide) 12 (hb hby at_10) rfl (by decide) (by decide) ?_
    intro t2371 T2371 h2371 k2371 vb2371 kb2371 X2371 e2371 E2371 hS hk hZ hown Es2371 Cs2371 Fs2371 Vs2371 hC LT
    have F2372 := O0.ext E2371
    have Z2373 : n0 ≤ h2371.size := Nat.le_trans Z0 E2371.1
    refine g_astore (l' := #[.val (.int p0), .val (.int p1), .val (.int p2), .val (.long p3), .second, .val (.int (p0 &&& (3 : Int32))), .val (.ref t2371), .unset, .unset, .unset, .unset, .unset, .unset, .unset, .unset, .unset, .unset, .unset, .unset]) X2371 hx 14 (hb hby at_12) rfl rfl rfl ?_
    refine g_iconst X2371 hx (5 : Int32) 15 (hb hby at_14) rfl (by decide) ?_
    refine g_istore (l' := #[.val (.int p0), .val (.int p1), .val (.int p2), .val (.long p3), .second, .val (.int (p0 &&& (3 : Int32))), .val (.ref t2371), .val (.int (5 : Int32)), .unset, .unset, .unset, .unset, .unset, .unset, .unset, .unset, .unset, .unset, .unset]) X2371 hx 17 (hb hby at_15) rfl rfl ?_
    refine g_goto X2371 hx 62 (hb hby at_17) (by decide) (by decide) ?_
    exact rm0_62 (X2371.more (by decide) (by decide)) hx hby hml hret hlk hown hZ hw e2371 Z2373 N0 hS hk (Keep.refl _ []) WO F2372 (xs := [101, 118, 101, 110, 116]) SF Es2371 Cs2371 Fs2371 Vs2371 (by decide) hC
theorem own_len {Z : State} {a0 : Array Value} {t : Term} {em : Addr} {cl : Cell} {v : Value} (ev : t.eval a0 Z none [] Z = some (.ref em)) (at_ : Z.arrayAt? em = some cl) (q : (Term.length t).eval a0 Z none [] Z = some v) : cl.slots.size < 2 ^ 31 := by
  refine Decidable.byContradiction fun hn => ?_
  have hn' : ¬ cl.slots.size < 2147483648 := hn
  simp [Term.eval, ev, at_, hn'] at q
theorem own_size {Z : State} {a0 : Array Value} {t : Term} {a : Addr} {cl : Cell} {ty : FieldType} {z : Int32} (ev : t.eval a0 Z none [] Z = some (.ref a)) (A : Arr Z Z.heap a cl ty) (w : (Jvm.Cond.eq (Jvm.Term.length t) (Jvm.Term.int z)).value a0 Z none Z [] = some true) (n : Nat) (hz : z.toInt = n) : cl.slots.size = n := by
  have q := eqv_i (F := Jvm.Term.int z) (Term.int_eval z) w
  have at_ := Arr.fin (Vm.Alike.refl _) A
  have h2 := own_len ev at_ q
  have h3 : cl.slots.size.toInt32 = z := Value.int.inj (Option.some.inj ((len_f ev at_ h2).symm.trans q))
  have h4 := len_toInt h2
  rw [h3] at h4
  omega
theorem own_arvS {Z : State} {a : Addr} {cl : Cell} {ty : FieldType} {dv : Value} (A : Arr Z Z.heap a cl ty) (n : Nat) (S : cl.slots.size = n) (z : Int32) (hz : z.toNatClampNeg = n) (hz' : ¬ z < 0) (vs : List Value) (hl : vs.length = n) (H : HasL cl 0 vs) (hf : ∀ v ∈ vs, fits ty v = true) : Arv Z Z.heap a cl.cls ty z vs dv := by
  refine ⟨cl, A, rfl, S.trans hz.symm, hz', fun j hj => ?_, fun j hj => ?_⟩
  · have := HasL.at (dv := dv) vs 0 H j (by omega)
    rwa [Nat.zero_add] at this
  · have hj' : j < vs.length := by omega
    rw [List.getD_eq_getElem?_getD, List.getElem?_eq_getElem hj']
    exact hf _ (List.getElem_mem hj')
theorem own_eqR {Z : State} {a0 : Array Value} {X F : Term} {y : Addr} (hF : F.eval a0 Z none [] Z = some (.ref y)) (h : (Jvm.Cond.eq X F).value a0 Z none Z [] = some true) : X.eval a0 Z none [] Z = some (.ref y) := by
  obtain ⟨x, y', e1, e2, k1, k2⟩ := cmp_v (Or.inl h)
  cases hF.symm.trans e2
  have hx : x.isRef = true := k2.2
  exact e1.trans (congrArg some (gotT (eq_R e1 hF hx rfl) h))
theorem own_el {Z : State} {a0 : Array Value} {t : Term} {a : Addr} {cl : Cell} {ty : FieldType} {z : Int32} {v : Value} (ev : t.eval a0 Z none [] Z = some (.ref a)) (A : Arr Z Z.heap a cl ty) (h : (Term.elem t (Jvm.Term.int z)).eval a0 Z none [] Z = some v) (i : Nat) (hi : z.toNatClampNeg = i) : cl.slots[i]? = some v := hi ▸ (elem_in h ev (Term.int_eval z) A.1).2
theorem own_old {Z : State} {a0 : Array Value} (hw : ∀ d ∈ tables_1, d.before a0 Z = true) (hn : narrow_1.value a0 Z none Z [] = some true) (hr : rest_1_c.value a0 Z none Z [] = some true) : ∃ (cst : Int32) (va ro cl em lr lc vr vc : Addr) (kv kr kc_ : ClassId) (xr xc : List Int32), OldW Z cst va ro cl em lr lc vr vc kv kr kc_ xr xc ∧ ∃ fm : Option Addr, Sta Z Z.heap "jdk/internal/util/Preconditions" "SIOOBE_FORMATTER" "Ljava/util/function/BiFunction;" (own_rv fm) := by
  obtain ⟨u0, v0⟩ := and_e (show rest_1_c.value a0 Z none Z [] = some true from hr)
  obtain ⟨u1, v1⟩ := and_e v0
  obtain ⟨u2, v2⟩ := and_e v1
  obtain ⟨u3, v3⟩ := and_e v2
  obtain ⟨u4, v4⟩ := and_e v3
  obtain ⟨u5, v5⟩ := and_e v4
  obtain ⟨u6, v6⟩ := and_e v5
  obtain ⟨u7, v7⟩ := and_e v6
  obtain ⟨u8, v8⟩ := and_e v7
  obtain ⟨u9, v9⟩ := and_e v8
  obtain ⟨u10, v10⟩ := and_e v9
  obtain ⟨u11, v11⟩ := and_e v10
  obtain ⟨u12, v12⟩ := and_e v11
  obtain ⟨n0, m0⟩ := and_e (show narrow_1.value a0 Z none Z [] = some true from hn)
  obtain ⟨n1, m1⟩ := and_e m0
  obtain ⟨n2, m2⟩ := and_e m1
  obtain ⟨n3, m3⟩ := and_e m2
  obtain ⟨n4, m4⟩ := and_e m3
  obtain ⟨n5, m5⟩ := and_e m4
  obtain ⟨n6, m6⟩ := and_e m5
  obtain ⟨n7, m7⟩ := and_e m6
  obtain ⟨n8, m8⟩ := and_e m7
  obtain ⟨n9, m9⟩ := and_e m8
  obtain ⟨n10, m10⟩ := and_e m9
  obtain ⟨n11, m11⟩ := and_e m10
  obtain ⟨n12, m12⟩ := and_e m11
  obtain ⟨n13, m13⟩ := and_e m12
  obtain ⟨n14, m14⟩ := and_e m13
  obtain ⟨n15, m15⟩ := and_e m14
  obtain ⟨n16, m16⟩ := and_e m15
  obtain ⟨n17, m17⟩ := and_e m16
  obtain ⟨n18, m18⟩ := and_e m17
  obtain ⟨n19, m19⟩ := and_e m18
  obtain ⟨n20, m20⟩ := and_e m19
  obtain ⟨n21, m21⟩ := and_e m20
  obtain ⟨n22, m22⟩ := and_e m21
  obtain ⟨n23, m23⟩ := and_e m22
  obtain ⟨n24, m24⟩ := and_e m23
  obtain ⟨n25, m25⟩ := and_e m24
  obtain ⟨n26, m26⟩ := and_e m25
  obtain ⟨n27, m27⟩ := and_e m26
  obtain ⟨n28, m28⟩ := and_e m27
  obtain ⟨n29, m29⟩ := and_e m28
  have n30 := m29
  obtain ⟨cst, ec⟩ := is_v u1
  have hc : cst ≠ 0 := fun q => by subst q; simp [Cond.value, ec, Term.int_eval] at u2
  have SC := Sta.start ec (Or.inl (Cond.before_iff.mpr u0))
  obtain ⟨fv, ef, rf⟩ := isR_v u8
  obtain ⟨fm, rfl⟩ : ∃ fm, fv = own_rv fm := by
    rcases ref_cases rf with rfl | ⟨q, rfl⟩
    · exact ⟨none, rfl⟩
    · exact ⟨some q, rfl⟩
  have SF := Sta.start ef (Or.inl (Cond.before_iff.mpr u7))
  obtain ⟨em, ee⟩ := exa_v u11
  have SE := Sta.start ee (Or.inl (Cond.before_iff.mpr u10))
  have zEe := Exa.start ee u11
  have zFe := Fld.start ((fld_at ee).symm.trans (null_v u12))
  obtain ⟨va, ev⟩ := exa_v n1
  have SV := Sta.start ev (Or.inr ⟨(hw _ (List.mem_of_getElem? (i := 75) rfl)), (hw _ (List.mem_of_getElem? (i := 81) rfl))⟩)
  have zEv := Exa.start ev n1
  obtain ⟨cv, Av⟩ := Arr.start ev n0
  obtain ⟨ro, er⟩ := exa_v n3
  have SRo := Sta.start er (Or.inr ⟨(hw _ (List.mem_of_getElem? (i := 75) rfl)), (hw _ (List.mem_of_getElem? (i := 89) rfl))⟩)
  have zEro := Exa.start er n3
  obtain ⟨cl, ecl⟩ := exa_v n5
  have SCl := Sta.start ecl (Or.inr ⟨(hw _ (List.mem_of_getElem? (i := 75) rfl)), (hw _ (List.mem_of_getElem? (i := 90) rfl))⟩)
  have zEcl := Exa.start ecl n5
  have zVv : Arv Z Z.heap va cv.cls (.object "com/example/dispatchd/dispatchd/store/EventSchema") 2 [.ref ro, .ref cl] .null := own_arvS Av 2 (own_size ev Av n2 2 (by decide)) 2 (by decide) (by decide) _ rfl ⟨own_el ev Av (own_eqR er n4) 0 (by decide), own_el ev Av (own_eqR ecl n6) 1 (by decide), trivial⟩ (by simp [fits])
  obtain ⟨lr, elr⟩ := exa_v n7
  have zLro := Fld.start ((fld_at er).symm.trans elr)
  have zElr := Exa.start elr n7
  have zClr := Fld.start ((fld_at elr).symm.trans (eqv_i (Term.int_eval 0) n8))
  obtain ⟨vr, evr⟩ := arr_v n9
  have zFlr := Fld.start ((fld_at elr).symm.trans evr)
  obtain ⟨cr, Avr⟩ := Arr.start evr n9
  have zVvr : Arv Z Z.heap vr cr.cls .byte 5 (([101, 118, 101, 110, 116] : List Int32).map Value.int) (.int 0) := own_arvS Avr 5 (own_size evr Avr n10 5 (by decide)) 5 (by decide) (by decide) _ rfl ⟨own_el evr Avr (eqv_i (Term.int_eval _) n15) 0 (by decide), own_el evr Avr (eqv_i (Term.int_eval _) n16) 1 (by decide), own_el evr Avr (eqv_i (Term.int_eval _) n17) 2 (by decide), own_el evr Avr (eqv_i (Term.int_eval _) n18) 3 (by decide), own_el evr Avr (eqv_i (Term.int_eval _) n19) 4 (by decide), trivial⟩ (by decide)
  obtain ⟨lc, elc⟩ := exa_v n11
  have zLcl := Fld.start ((fld_at ecl).symm.trans elc)
  have zElc := Exa.start elc n11
  have zClc := Fld.start ((fld_at elc).symm.trans (eqv_i (Term.int_eval 0) n12))
  obtain ⟨vc, evc⟩ := arr_v n13
  have zFlc := Fld.start ((fld_at elc).symm.trans evc)
  obtain ⟨cc, Avc⟩ := Arr.start evc n13
  have zVvc : Arv Z Z.heap vc cc.cls .byte 11 (([99, 108, 111, 117, 100, 101, 118, 101, 110, 116, 115] : List Int32).map Value.int) (.int 0) := own_arvS Avc 11 (own_size evc Avc n14 11 (by decide)) 11 (by decide) (by decide) _ rfl ⟨own_el evc Avc (eqv_i (Term.int_eval _) n20) 0 (by decide), own_el evc Avc (eqv_i (Term.int_eval _) n21) 1 (by decide), own_el evc Avc (eqv_i (Term.int_eval _) n22) 2 (by decide), own_el evc Avc (eqv_i (Term.int_eval _) n23) 3 (by decide), own_el evc Avc (eqv_i (Term.int_eval _) n24) 4 (by decide), own_el evc Avc (eqv_i (Term.int_eval _) n25) 5 (by decide), own_el evc Avc (eqv_i (Term.int_eval _) n26) 6 (by decide), own_el evc Avc (eqv_i (Term.int_eval _) n27) 7 (by decide), own_el evc Avc (eqv_i (Term.int_eval _) n28) 8 (by decide), own_el evc Avc (eqv_i (Term.int_eval _) n29) 9 (by decide), own_el evc Avc (eqv_i (Term.int_eval _) n30) 10 (by decide), trivial⟩ (by decide)
  exact ⟨cst, va, ro, cl, em, lr, lc, vr, vc, cv.cls, cr.cls, cc.cls, [101, 118, 101, 110, 116], [99, 108, 111, 117, 100, 101, 118, 101, 110, 116, 115], ⟨hc, SC, SV, SRo, SCl, SE, zEv, zVv, zEro, zLro, zElr, zClr, zFlr, zVvr, rfl, zEcl, zLcl, zElc, zClc, zFlc, zVvc, rfl, zEe, zFe⟩, fm, SF⟩
theorem own_chv {Z : State} {a0 : Array Value} (hw : ∀ d ∈ tables_1, d.before a0 Z = true) (hh : Jvm.Pilot.@@N@@.Jvm.D.constsHeld consts_1 Z) (hr : rest_1_c.value a0 Z none Z [] = some true) : CHv Z own_EL Z.vm Z.heap := by
  obtain ⟨u0, v0⟩ := and_e (show rest_1_c.value a0 Z none Z [] = some true from hr)
  obtain ⟨u1, v1⟩ := and_e v0
  obtain ⟨u2, v2⟩ := and_e v1
  exact CHv.start (own_ew hw) (fun q hq => hh q hq) (Cond.before_iff.mpr u2) (hw _ (List.mem_of_getElem? (i := 3) rfl)) (hw _ (List.mem_of_getElem? (i := 2) rfl))
theorem comes_1 {Post : Tables → Env → Array Value → State → Outcome → State → Prop} (hpost : ∀ tb e args s v u, (limb_1_1.after args s (.returned v) u = true ∧ limb_1_2.after args s (.returned v) u = true ∧ True) → ReturnedEndW s (.returned v) u (Jvm.fieldLocs frame_1_writes args s ++ Jvm.arrayLocs frame_1_arrays args s ++ Jvm.staticLocs frame_1_statics s) 32 5312 → Post tb e args s (.returned v) u) :
    ArmFor flags0 classFile x code maxLocals ret World_1 tables_1 room_1 Calls_1 rest_1 Pre_1 Post := by
  intro l hfl _ _ p e ha hc hk s m args below hf hA hF happ hP
  obtain ⟨hcalls, hrest, hpre⟩ := hP
  obtain ⟨-, -, -, hnamed, -, -, -, hat⟩ := (Spec.applies_iff hf).mp happ
  obtain ⟨hg, hn⟩ := and_e (Cond.before_iff.mp (show (Jvm.Cond.and given_1 narrow_1).before args s = true from hpre))
  obtain ⟨h1, g0⟩ := and_e hg
  obtain ⟨t0, g1⟩ := and_e g0
  obtain ⟨t1, g2⟩ := and_e g1
  obtain ⟨t2, g3⟩ := and_e g2
  have t3 := g3
  obtain ⟨w0, w1, w2, w3, rfl⟩ : ∃ w0 w1 w2 w3 : Value, args = #[w0, w1, w2, w3] := by
    have hs : args.size = 4 := by simpa [Cond.value, given_1] using h1
    obtain ⟨L⟩ := args
    match L, hs with
    | [w0, w1, w2, w3], _ => exact ⟨w0, w1, w2, w3, rfl⟩
  have hw := fun d (hd : d ∈ tables_1) => atoms_spec (ws := Jvm.Cond.code x code maxLocals ret :: tables_1) hat d (List.mem_cons_of_mem _ hd)
  have hr_ : rest_1_c.value _ s none s [] = some true := Cond.before_iff.mp (show rest_1_c.before _ s = true from hrest)
  obtain ⟨cst, va, ro, cl, em, lr, lc, vr, vc, kv, kr, kc_, xr, xc, WO, fm, SF⟩ := own_old hw hn hr_
  have hCv0 := own_chv hw hcalls.1 hr_
  obtain ⟨i0, e0⟩ := is_v t0
  obtain rfl : w0 = (.int i0) := Option.some.inj e0
  obtain ⟨i1, e1⟩ := is_v t1
  obtain rfl : w1 = (.int i1) := Option.some.inj e1
  obtain ⟨i2, e2⟩ := is_v t2
  obtain rfl : w2 = (.int i2) := Option.some.inj e2
  obtain ⟨i3, e3⟩ := isL_v t3
  obtain rfl : w3 = (.long i3) := Option.some.inj e3
  obtain ⟨n, o, h1, h2, h3, _, L, rfl, ⟨rfl, N⟩, hq⟩ := rm0 l s _ hw tables_1 i0 i1 i2 i3 s.heap s.heap.size (Nat.le_refl _) cst va ro cl em lr lc vr vc kv kr kc_ xr xc WO (Old.start s) fm SF p e ha hc hk s m _ below hf ((Spec.applies_iff_loose hf).mp happ).1 ⟨rfl, State.Warmed39.refl s, rfl, hCv0⟩ trivial
  refine ⟨n, _, h1, h2, h3, hpost _ _ _ _ _ _ ⟨Cond.after_iff.mpr rfl, Cond.after_iff.mpr (eq_i res_at (Term.int_eval (1)) rfl), trivial⟩ ⟨hq.1, hq.2.1, hq.2.2.1, (hq.2.2.2.sift fun y hy => Or.inr (N y hy)).mono (by decide) (by decide)⟩⟩
theorem main_1_1 : Claimed_1_1 := comes_1 fun _ _ _ _ _ _ h hF => ⟨h.1, hF⟩
theorem main_1_2 : Claimed_1_2 := comes_1 fun _ _ _ _ _ _ h hF => ⟨h.2.1, hF⟩
end Jvm.Pilot.@@N@@
namespace Jvm.Pilot.@@N@@
open Jvm Jvm.ClassFile Sem Op Lib Jvm.Free Jvm.Stand Jvm.Pilot.@@N@@.Jvm.D
/-! MADE BY PROGRAM (witnessworld.py) out of the Statement's table words and the real class files: 23 classes; the members and pool entries that the words name. The judged class is class 1, her method 3. -/
namespace start1
open Jvm.ClassFile
def u (s : String) : CpInfo := .utf8 (stringToUtf16 s)
/-- a pool by its gaps: so many unusable entries, then the entry; so many at the end -/
def gap : Nat → List CpInfo → List CpInfo
  | 0, r => r
  | n + 1, r => .unusable :: gap n r
def poolList (es : List (Nat × CpInfo)) (last : Nat) : List CpInfo := es.foldr (fun e r => gap e.1 (e.2 :: r)) (gap last [])
def pool (es : List (Nat × CpInfo)) (last : Nat) : Array CpInfo := ⟨poolList es last⟩
def fileOf (pool : Array CpInfo) (this : Nat) (attrs : Array Attribute := #[]) (ms : Array MethodInfo := #[]) (fl : Nat := 33) (sup : Nat := 0) (ifs : Array Nat := #[]) (fds : Array FieldInfo := #[]) : ClassFile where
  minorVersion := 0
  majorVersion := 65
  constantPool := pool
  accessFlags := fl
  thisClass := this
  superClass := sup
  interfaces := ifs
  fields := fds
  methods := ms
  attributes := attrs
def plain (name : String) (sup : Option ClassId) : Class where
  name := name
  kind := .ordinary
  loader := none
  accessFlags := 33
  super := sup
  interfaces := #[]
  cf := none
  fields := #[]
  methods := #[]
  instanceTypes := #[]
  staticTypes := #[]
  resolved := #[]
  callSites := []
  init := .initialized
  statics := none
  mirror := none

def pool0 : Array CpInfo := pool [(5, u "<init>"), (0, u "()V"), (1, .class_ 10), (1, u "java/lang/Object"), (85, u "clone"), (0, u "()Ljava/lang/Object;")] 26

def k0c0 : Code := { maxStack := 0, maxLocals := 1, code := object_method_1_code, exceptionTable := #[], attributes := #[] }
def k0m0 : Method := { name := "<init>", desc := "()V", sig := { parameters := [], returnType := none }, accessFlags := 1, code := some k0c0 }
def k0m1 : Method := { name := "clone", desc := "()Ljava/lang/Object;", sig := { parameters := [], returnType := some (.object "java/lang/Object") }, accessFlags := 260, code := none }
/-- java/lang/Object -/
def k0 : Class := { plain "java/lang/Object" none with
  accessFlags := 33
  interfaces := #[]
  cf := some (fileOf pool0 8 #[] #[{ accessFlags := 1, nameIndex := 5, descriptorIndex := 6, attributes := #[] }, { accessFlags := 260, nameIndex := 96, descriptorIndex := 97, attributes := #[] }] 33 0 #[] #[])
  fields := #[]
  methods := #[k0m0, k0m1]
  instanceTypes := #[]
  staticTypes := #[]
  resolved := Array.replicate 124 none
  statics := none }

def pool1 : Array CpInfo := pool [(2, .class_ 4), (1, u "java/lang/Object"), (0, u "<init>"), (0, u "()V"), (0, .methodref 8 9), (0, .class_ 10), (0, .nameAndType 11 12), (0, u "java/lang/String"), (0, u "length"), (0, u "()I"), (0, .methodref 8 14), (0, .nameAndType 15 16), (0, u "charAt"), (0, u "(I)C"), (0, .long 255), (1, .methodref 8 20), (0, .nameAndType 5 21), (0, u "([C)V"), (0, .methodref 8 23), (0, .nameAndType 24 25), (0, u "valueOf"), (0, u "(C)Ljava/lang/String;"), (0, .string 27), (0, u "event"), (0, .string 29), (0, u "cloudevents"), (0, .string 31), (0, u "events"), (0, .string 33), (0, u ""), (0, .integer 2147483647), (0, .methodref 36 37), (0, .class_ 38), (0, .nameAndType 39 40), (0, u "com/example/dispatchd/dispatchd/store/EventSchemaWithLabelPinLaw"), (0, u "ch"), (0, u "(ILjava/lang/String;ICJ)C"), (0, .methodref 36 42), (0, .nameAndType 43 44), (0, u "make"), (0, u "(I[C)Ljava/lang/String;"), (0, .methodref 46 47), (0, .class_ 48), (0, .nameAndType 49 50), (0, u "com/example/dispatchd/dispatchd/store/EventSchema"), (0, u "withLabel"), (0, u "(Ljava/lang/String;)Ljava/util/Optional;"), (0, .fieldref 46 52), (0, .nameAndType 53 54), (0, u "ROUTER"), (0, u "Lcom/example/dispatchd/dispatchd/store/EventSchema;"), (0, .methodref 46 56), (0, .nameAndType 57 58), (0, u "label"), (0, u "()Ljava/lang/String;"), (0, .methodref 8 60), (0, .nameAndType 61 62), (0, u "equals"), (0, u "(Ljava/lang/Object;)Z"), (0, .fieldref 46 64), (0, .nameAndType 65 54), (0, u "CLOUDEVENTS"), (0, .methodref 67 68), (0, .class_ 69), (0, .nameAndType 70 71), (0, u "java/util/Optional"), (0, u "isPresent"), (0, u "()Z"), (0, .methodref 67 73), (0, .nameAndType 74 75), (0, u "get"), (0, u "()Ljava/lang/Object;"), (3, u "law"), (0, u "(IIIJ)Z")] 4

def k1m0 : Method := { name := "<init>", desc := "()V", sig := { parameters := [], returnType := none }, accessFlags := 1, code := none }
def k1c1 : Code := { maxStack := 5, maxLocals := 6, code := method_2_code, exceptionTable := #[], attributes := #[] }
def k1m1 : Method := { name := "ch", desc := "(ILjava/lang/String;ICJ)C", sig := { parameters := [.int, (.object "java/lang/String"), .int, .char, .long], returnType := some .char }, accessFlags := 10, code := some k1c1 }
def k1c2 : Code := { maxStack := 7, maxLocals := 2, code := method_3_code, exceptionTable := #[], attributes := #[] }
def k1m2 : Method := { name := "make", desc := "(I[C)Ljava/lang/String;", sig := { parameters := [.int, (.array .char)], returnType := some (.object "java/lang/String") }, accessFlags := 10, code := some k1c2 }
def k1c3 : Code := { maxStack := 9, maxLocals := 19, code := code, exceptionTable := #[], attributes := #[] }
def k1m3 : Method := { name := "law", desc := "(IIIJ)Z", sig := { parameters := [.int, .int, .int, .long], returnType := some .boolean }, accessFlags := 9, code := some k1c3 }
/-- com/example/dispatchd/dispatchd/store/EventSchemaWithLabelPinLaw -/
def k1 : Class := { plain "com/example/dispatchd/dispatchd/store/EventSchemaWithLabelPinLaw" (some 0) with
  accessFlags := 49
  interfaces := #[]
  cf := some (fileOf pool1 36 #[] #[{ accessFlags := 1, nameIndex := 5, descriptorIndex := 6, attributes := #[] }, { accessFlags := 10, nameIndex := 39, descriptorIndex := 40, attributes := #[] }, { accessFlags := 10, nameIndex := 43, descriptorIndex := 44, attributes := #[] }, { accessFlags := 9, nameIndex := 79, descriptorIndex := 80, attributes := #[] }] 49 2 #[] #[])
  fields := #[]
  methods := #[k1m0, k1m1, k1m2, k1m3]
  instanceTypes := #[]
  staticTypes := #[]
  resolved := Array.replicate 85 none
  statics := none }

def pool2 : Array CpInfo := pool [(1, .class_ 2), (0, u "java/io/Serializable"), (0, .class_ 4), (0, u "java/lang/Object")] 2

/-- java/io/Serializable -/
def k2 : Class := { plain "java/io/Serializable" (some 0) with
  accessFlags := 1537
  interfaces := #[]
  cf := some (fileOf pool2 1 #[] #[] 1537 3 #[] #[])
  fields := #[]
  methods := #[]
  instanceTypes := #[]
  staticTypes := #[]
  resolved := Array.replicate 7 none
  statics := none }

def pool3 : Array CpInfo := pool [(1, .class_ 2), (0, u "java/lang/Comparable"), (0, .class_ 4), (0, u "java/lang/Object")] 7

/-- java/lang/Comparable -/
def k3 : Class := { plain "java/lang/Comparable" (some 0) with
  accessFlags := 1537
  interfaces := #[]
  cf := some (fileOf pool3 1 #[] #[] 1537 3 #[] #[])
  fields := #[]
  methods := #[]
  instanceTypes := #[]
  staticTypes := #[]
  resolved := Array.replicate 12 none
  statics := none }

def pool4 : Array CpInfo := pool [(2, .class_ 4), (1, u "java/lang/CharSequence"), (42, .class_ 48), (0, u "java/lang/CharSequence$1CodePointIterator"), (10, .class_ 60), (0, u "java/lang/CharSequence$1CharIterator"), (5, .class_ 67), (0, u "java/lang/Object")] 63

/-- java/lang/CharSequence -/
def k4 : Class := { plain "java/lang/CharSequence" (some 0) with
  accessFlags := 1537
  interfaces := #[]
  cf := some (fileOf pool4 2 #[.nestMembers #[47, 59]] #[] 1537 66 #[] #[])
  fields := #[]
  methods := #[]
  instanceTypes := #[]
  staticTypes := #[]
  resolved := Array.replicate 131 none
  statics := none }

def pool5 : Array CpInfo := pool [(1, .class_ 2), (0, u "java/lang/constant/Constable"), (0, .class_ 4), (0, u "java/lang/Object")] 6

/-- java/lang/constant/Constable -/
def k5 : Class := { plain "java/lang/constant/Constable" (some 0) with
  accessFlags := 1537
  interfaces := #[]
  cf := some (fileOf pool5 1 #[] #[] 1537 3 #[] #[])
  fields := #[]
  methods := #[]
  instanceTypes := #[]
  staticTypes := #[]
  resolved := Array.replicate 11 none
  statics := none }

def pool6 : Array CpInfo := pool [(1, .class_ 2), (0, u "java/lang/constant/ConstantDesc"), (0, .class_ 4), (0, u "java/lang/Object")] 32

/-- java/lang/constant/ConstantDesc -/
def k6 : Class := { plain "java/lang/constant/ConstantDesc" (some 0) with
  accessFlags := 1537
  interfaces := #[]
  cf := some (fileOf pool6 1 #[] #[] 1537 3 #[] #[])
  fields := #[]
  methods := #[]
  instanceTypes := #[]
  staticTypes := #[]
  resolved := Array.replicate 37 none
  statics := none }

def pool7 : Array CpInfo := pool [(1, .methodref 2 3), (0, .class_ 4), (0, .nameAndType 5 6), (0, u "java/lang/Object"), (0, u "<init>"), (0, u "()V"), (0, .string 8), (0, u ""), (0, .fieldref 10 11), (0, .class_ 12), (0, .nameAndType 13 14), (0, u "java/lang/String"), (0, u "value"), (0, u "[B"), (0, .fieldref 10 16), (0, .nameAndType 17 18), (0, u "coder"), (0, u "B"), (2, u "hash"), (0, u "I"), (2, u "hashIsZero"), (0, u "Z"), (0, .methodref 10 28), (0, .nameAndType 5 29), (0, u "([CIILjava/lang/Void;)V"), (8, .fieldref 10 39), (0, .nameAndType 40 26), (0, u "COMPACT_STRINGS"), (1, .class_ 44), (1, u "java/lang/StringUTF16"), (0, u "compress"), (1, .methodref 42 48), (0, .nameAndType 49 50), (0, u "coderFromArrayLen"), (0, u "([BI)B"), (2, u "toBytes"), (53, .class_ 109), (1, u "java/lang/StringLatin1"), (32, u "()Z"), (34, .methodref 42 178), (0, .nameAndType 45 179), (0, u "([CII)[B"), (29, .methodref 10 210), (0, .nameAndType 5 211), (0, u "([BB)V"), (122, u "()I"), (0, .methodref 10 336), (0, .nameAndType 17 337), (0, u "()B"), (25, u "([BI)C"), (5, u "(C)Z"), (21, u "(II)V"), (35, u "(I)C"), (64, .methodref 10 493), (0, .nameAndType 494 142), (0, u "isLatin1"), (0, .methodref 107 496), (0, .nameAndType 497 363), (0, u "charAt"), (3, u "checkIndex"), (5, u "length"), (33, .methodref 107 542), (0, .nameAndType 543 544), (0, u "equals"), (0, u "([B[B)Z"), (28, u "(Ljava/lang/Object;)Z"), (1, .class_ 576), (0, u "java/lang/CharSequence"), (22, u "CASE_INSENSITIVE_ORDER"), (0, u "Ljava/util/Comparator;"), (181, u "valueOf"), (0, u "(C)Ljava/lang/String;"), (226, u "([C)V"), (4, .methodref 107 1016), (0, .nameAndType 1017 369), (0, u "canEncode"), (0, .methodref 107 1019), (0, .nameAndType 53 1020), (0, u "(C)[B"), (32, .fieldref 1054 1055), (0, .class_ 1056), (0, .nameAndType 1057 1058), (0, u "jdk/internal/util/Preconditions"), (0, u "SIOOBE_FORMATTER"), (0, u "Ljava/util/function/BiFunction;"), (0, .methodref 1054 1060), (0, .nameAndType 501 1061), (0, u "(IILjava/util/function/BiFunction;)I"), (39, u "serialPersistentFields"), (0, u "[Ljava/io/ObjectStreamField;"), (0, .class_ 1104), (0, u "java/lang/String$CaseInsensitiveComparator"), (1, .class_ 1107), (0, u "java/io/Serializable"), (0, .class_ 1109), (0, u "java/lang/Comparable"), (0, .class_ 1111), (0, u "java/lang/constant/Constable"), (0, .class_ 1113), (0, u "java/lang/constant/ConstantDesc"), (2, u "serialVersionUID"), (0, u "J"), (3, u "REPL"), (0, u "C"), (2, u "LATIN1"), (1, u "UTF16")] 323

def k7m0 : Method := { name := "<init>", desc := "()V", sig := { parameters := [], returnType := none }, accessFlags := 1, code := none }
def k7c1 : Code := { maxStack := 5, maxLocals := 2, code := jdk_42_method_3_code, exceptionTable := #[], attributes := #[] }
def k7m1 : Method := { name := "<init>", desc := "([C)V", sig := { parameters := [(.array .char)], returnType := none }, accessFlags := 1, code := some k7c1 }
def k7c2 : Code := { maxStack := 2, maxLocals := 1, code := jdk_42_method_54_code, exceptionTable := #[], attributes := #[] }
def k7m2 : Method := { name := "length", desc := "()I", sig := { parameters := [], returnType := some .int }, accessFlags := 1, code := some k7c2 }
def k7c3 : Code := { maxStack := 2, maxLocals := 2, code := jdk_42_method_56_code, exceptionTable := #[], attributes := #[] }
def k7m3 : Method := { name := "charAt", desc := "(I)C", sig := { parameters := [.int], returnType := some .char }, accessFlags := 1, code := some k7c3 }
def k7c4 : Code := { maxStack := 2, maxLocals := 3, code := jdk_42_method_66_code, exceptionTable := #[], attributes := #[] }
def k7m4 : Method := { name := "equals", desc := "(Ljava/lang/Object;)Z", sig := { parameters := [(.object "java/lang/Object")], returnType := some .boolean }, accessFlags := 1, code := some k7c4 }
def k7c5 : Code := { maxStack := 4, maxLocals := 1, code := jdk_42_method_139_code, exceptionTable := #[], attributes := #[] }
def k7m5 : Method := { name := "valueOf", desc := "(C)Ljava/lang/String;", sig := { parameters := [.char], returnType := some (.object "java/lang/String") }, accessFlags := 9, code := some k7c5 }
def k7c6 : Code := { maxStack := 4, maxLocals := 6, code := jdk_42_method_149_code, exceptionTable := #[], attributes := #[] }
def k7m6 : Method := { name := "<init>", desc := "([CIILjava/lang/Void;)V", sig := { parameters := [(.array .char), .int, .int, (.object "java/lang/Void")], returnType := none }, accessFlags := 2, code := some k7c6 }
def k7c7 : Code := { maxStack := 2, maxLocals := 3, code := jdk_42_method_151_code, exceptionTable := #[], attributes := #[] }
def k7m7 : Method := { name := "<init>", desc := "([BB)V", sig := { parameters := [(.array .byte), .byte], returnType := none }, accessFlags := 0, code := some k7c7 }
def k7c8 : Code := { maxStack := 1, maxLocals := 1, code := jdk_42_method_152_code, exceptionTable := #[], attributes := #[] }
def k7m8 : Method := { name := "coder", desc := "()B", sig := { parameters := [], returnType := some .byte }, accessFlags := 0, code := some k7c8 }
def k7c9 : Code := { maxStack := 1, maxLocals := 1, code := jdk_42_method_154_code, exceptionTable := #[], attributes := #[] }
def k7m9 : Method := { name := "isLatin1", desc := "()Z", sig := { parameters := [], returnType := some .boolean }, accessFlags := 0, code := some k7c9 }
def k7c10 : Code := { maxStack := 3, maxLocals := 2, code := jdk_42_method_155_code, exceptionTable := #[], attributes := #[] }
def k7m10 : Method := { name := "checkIndex", desc := "(II)V", sig := { parameters := [.int, .int], returnType := none }, accessFlags := 8, code := some k7c10 }
/-- java/lang/String -/
def k7 : Class := { plain "java/lang/String" (some 0) with
  accessFlags := 49
  interfaces := #[2, 3, 4, 5, 6]
  cf := some (fileOf pool7 10 #[.nestMembers #[1103]] #[{ accessFlags := 1, nameIndex := 5, descriptorIndex := 6, attributes := #[] }, { accessFlags := 1, nameIndex := 5, descriptorIndex := 1010, attributes := #[] }, { accessFlags := 1, nameIndex := 507, descriptorIndex := 334, attributes := #[] }, { accessFlags := 1, nameIndex := 497, descriptorIndex := 427, attributes := #[] }, { accessFlags := 1, nameIndex := 543, descriptorIndex := 573, attributes := #[] }, { accessFlags := 9, nameIndex := 782, descriptorIndex := 783, attributes := #[] }, { accessFlags := 2, nameIndex := 5, descriptorIndex := 29, attributes := #[] }, { accessFlags := 0, nameIndex := 5, descriptorIndex := 211, attributes := #[] }, { accessFlags := 0, nameIndex := 17, descriptorIndex := 337, attributes := #[] }, { accessFlags := 0, nameIndex := 494, descriptorIndex := 142, attributes := #[] }, { accessFlags := 8, nameIndex := 501, descriptorIndex := 391, attributes := #[] }] 49 2 #[1106, 1108, 575, 1110, 1112] #[{ accessFlags := 18, nameIndex := 13, descriptorIndex := 14, attributes := #[] }, { accessFlags := 18, nameIndex := 17, descriptorIndex := 18, attributes := #[] }, { accessFlags := 2, nameIndex := 21, descriptorIndex := 22, attributes := #[] }, { accessFlags := 2, nameIndex := 25, descriptorIndex := 26, attributes := #[] }, { accessFlags := 26, nameIndex := 1116, descriptorIndex := 1117, attributes := #[] }, { accessFlags := 24, nameIndex := 40, descriptorIndex := 26, attributes := #[] }, { accessFlags := 26, nameIndex := 1101, descriptorIndex := 1102, attributes := #[] }, { accessFlags := 26, nameIndex := 1121, descriptorIndex := 1122, attributes := #[] }, { accessFlags := 25, nameIndex := 599, descriptorIndex := 600, attributes := #[] }, { accessFlags := 24, nameIndex := 1125, descriptorIndex := 18, attributes := #[] }, { accessFlags := 24, nameIndex := 1127, descriptorIndex := 18, attributes := #[] }])
  fields := #[{ name := "value", type := (.array .byte), accessFlags := 18, slot := 0, constantValue := 0 }, { name := "coder", type := .byte, accessFlags := 18, slot := 1, constantValue := 0 }, { name := "hash", type := .int, accessFlags := 2, slot := 2, constantValue := 0 }, { name := "hashIsZero", type := .boolean, accessFlags := 2, slot := 3, constantValue := 0 }, { name := "serialVersionUID", type := .long, accessFlags := 26, slot := 0, constantValue := 0 }, { name := "COMPACT_STRINGS", type := .boolean, accessFlags := 24, slot := 1, constantValue := 0 }, { name := "serialPersistentFields", type := (.array (.object "java/io/ObjectStreamField")), accessFlags := 26, slot := 2, constantValue := 0 }, { name := "REPL", type := .char, accessFlags := 26, slot := 3, constantValue := 0 }, { name := "CASE_INSENSITIVE_ORDER", type := (.object "java/util/Comparator"), accessFlags := 25, slot := 4, constantValue := 0 }, { name := "LATIN1", type := .byte, accessFlags := 24, slot := 5, constantValue := 0 }, { name := "UTF16", type := .byte, accessFlags := 24, slot := 6, constantValue := 0 }]
  methods := #[k7m0, k7m1, k7m2, k7m3, k7m4, k7m5, k7m6, k7m7, k7m8, k7m9, k7m10]
  instanceTypes := #[(.array .byte), .byte, .int, .boolean]
  staticTypes := #[.long, .boolean, (.array (.object "java/io/ObjectStreamField")), .char, (.object "java/util/Comparator"), .byte, .byte]
  resolved := Array.replicate 1451 none
  statics := some 0 }

def pool8 : Array CpInfo := pool [(1, .class_ 2), (0, u "java/lang/String"), (1, .class_ 6), (1, u "java/lang/Object"), (0, u "<init>"), (0, u "()V"), (0, .methodref 1 10), (0, .nameAndType 11 12), (0, u "checkIndex"), (0, u "(II)V"), (1, .class_ 16), (1, u "java/lang/StringLatin1"), (36, u "([BI)C"), (36, u "canEncode"), (14, u "(C)Z"), (15, u "$assertionsDisabled"), (0, u "Z"), (98, .class_ 223), (1, u "java/lang/StringLatin1$LinesSpliterator"), (28, u "charAt"), (28, u "equals"), (0, u "([B[B)Z"), (97, u "toBytes"), (1, u "(C)[B"), (7, .class_ 391), (0, u "java/lang/StringLatin1$CharsSpliterator")] 3

def k8m0 : Method := { name := "<init>", desc := "()V", sig := { parameters := [], returnType := none }, accessFlags := 0, code := none }
def k8c1 : Code := { maxStack := 2, maxLocals := 2, code := jdk_43_method_2_code, exceptionTable := #[], attributes := #[] }
def k8m1 : Method := { name := "charAt", desc := "([BI)C", sig := { parameters := [(.array .byte), .int], returnType := some .char }, accessFlags := 9, code := some k8c1 }
def k8c2 : Code := { maxStack := 2, maxLocals := 1, code := jdk_43_method_3_code, exceptionTable := #[], attributes := #[] }
def k8m2 : Method := { name := "canEncode", desc := "(C)Z", sig := { parameters := [.char], returnType := some .boolean }, accessFlags := 9, code := some k8c2 }
def k8c3 : Code := { maxStack := 3, maxLocals := 3, code := jdk_43_method_13_code, exceptionTable := #[], attributes := #[] }
def k8m3 : Method := { name := "equals", desc := "([B[B)Z", sig := { parameters := [(.array .byte), (.array .byte)], returnType := some .boolean }, accessFlags := 9, code := some k8c3 }
def k8c4 : Code := { maxStack := 4, maxLocals := 1, code := jdk_43_method_46_code, exceptionTable := #[], attributes := #[] }
def k8m4 : Method := { name := "toBytes", desc := "(C)[B", sig := { parameters := [.char], returnType := some (.array .byte) }, accessFlags := 9, code := some k8c4 }
/-- java/lang/StringLatin1 -/
def k8 : Class := { plain "java/lang/StringLatin1" (some 0) with
  accessFlags := 48
  interfaces := #[]
  cf := some (fileOf pool8 14 #[.nestMembers #[390, 221]] #[{ accessFlags := 0, nameIndex := 7, descriptorIndex := 8, attributes := #[] }, { accessFlags := 9, nameIndex := 252, descriptorIndex := 53, attributes := #[] }, { accessFlags := 9, nameIndex := 90, descriptorIndex := 105, attributes := #[] }, { accessFlags := 9, nameIndex := 281, descriptorIndex := 282, attributes := #[] }, { accessFlags := 9, nameIndex := 380, descriptorIndex := 382, attributes := #[] }] 48 4 #[] #[{ accessFlags := 4120, nameIndex := 121, descriptorIndex := 122, attributes := #[] }])
  fields := #[{ name := "$assertionsDisabled", type := .boolean, accessFlags := 4120, slot := 0, constantValue := 0 }]
  methods := #[k8m0, k8m1, k8m2, k8m3, k8m4]
  instanceTypes := #[]
  staticTypes := #[.boolean]
  resolved := Array.replicate 395 none
  statics := none }

def pool9 : Array CpInfo := pool [(2, .class_ 4), (1, u "java/lang/Object"), (0, u "<init>"), (0, u "()V"), (17, .class_ 26), (1, u "jdk/internal/util/Preconditions"), (6, u "checkIndex"), (21, .class_ 56), (0, u "jdk/internal/util/Preconditions$4"), (57, .class_ 115), (0, u "jdk/internal/util/Preconditions$1"), (7, u "SIOOBE_FORMATTER"), (0, u "Ljava/util/function/BiFunction;"), (0, .class_ 126), (0, u "jdk/internal/util/Preconditions$2"), (3, u "AIOOBE_FORMATTER"), (0, .class_ 132), (0, u "jdk/internal/util/Preconditions$3"), (3, u "IOOBE_FORMATTER"), (41, u "(IILjava/util/function/BiFunction;)I")] 15

def k9m0 : Method := { name := "<init>", desc := "()V", sig := { parameters := [], returnType := none }, accessFlags := 1, code := none }
def k9c1 : Code := { maxStack := 3, maxLocals := 3, code := jdk_41_method_11_code, exceptionTable := #[], attributes := #[] }
def k9m1 : Method := { name := "checkIndex", desc := "(IILjava/util/function/BiFunction;)I", sig := { parameters := [.int, .int, (.object "java/util/function/BiFunction")], returnType := some .int }, accessFlags := 9, code := some k9c1 }
/-- jdk/internal/util/Preconditions -/
def k9 : Class := { plain "jdk/internal/util/Preconditions" (some 0) with
  accessFlags := 33
  interfaces := #[]
  cf := some (fileOf pool9 24 #[.nestMembers #[55, 131, 125, 114]] #[{ accessFlags := 1, nameIndex := 5, descriptorIndex := 6, attributes := #[] }, { accessFlags := 9, nameIndex := 33, descriptorIndex := 178, attributes := #[] }] 33 2 #[] #[{ accessFlags := 25, nameIndex := 123, descriptorIndex := 124, attributes := #[] }, { accessFlags := 25, nameIndex := 130, descriptorIndex := 124, attributes := #[] }, { accessFlags := 25, nameIndex := 136, descriptorIndex := 124, attributes := #[] }])
  fields := #[{ name := "SIOOBE_FORMATTER", type := (.object "java/util/function/BiFunction"), accessFlags := 25, slot := 0, constantValue := 0 }, { name := "AIOOBE_FORMATTER", type := (.object "java/util/function/BiFunction"), accessFlags := 25, slot := 1, constantValue := 0 }, { name := "IOOBE_FORMATTER", type := (.object "java/util/function/BiFunction"), accessFlags := 25, slot := 2, constantValue := 0 }]
  methods := #[k9m0, k9m1]
  instanceTypes := #[]
  staticTypes := #[(.object "java/util/function/BiFunction"), (.object "java/util/function/BiFunction"), (.object "java/util/function/BiFunction")]
  resolved := Array.replicate 194 none
  statics := some 1 }

def pool10 : Array CpInfo := pool [(6, .class_ 8), (1, u "java/lang/Object"), (0, u "<init>"), (0, u "()V"), (1, .class_ 14), (1, u "java/lang/StringUTF16"), (31, u "$assertionsDisabled"), (0, u "Z"), (13, u "HI_BYTE_SHIFT"), (0, u "I"), (2, u "LO_BYTE_SHIFT"), (49, .methodref 12 116), (0, .nameAndType 117 118), (0, u "compress"), (0, u "([CI[BII)I"), (3, u "([CII)[B"), (138, u "coderFromArrayLen"), (0, u "([BI)B"), (106, .class_ 371), (1, u "java/lang/StringUTF16$LinesSpliterator"), (58, u "MAX_LENGTH"), (196, .class_ 628), (0, u "java/lang/StringUTF16$CodePointsSpliterator"), (0, .class_ 630), (0, u "java/lang/StringUTF16$CharsSpliterator")] 4

def k10m0 : Method := { name := "<init>", desc := "()V", sig := { parameters := [], returnType := none }, accessFlags := 0, code := none }
def k10c1 : Code := { maxStack := 2, maxLocals := 2, code := jdk_52_method_15_code, exceptionTable := #[], attributes := #[] }
def k10m1 : Method := { name := "coderFromArrayLen", desc := "([BI)B", sig := { parameters := [(.array .byte), .int], returnType := some .byte }, accessFlags := 8, code := some k10c1 }
def k10c2 : Code := { maxStack := 5, maxLocals := 6, code := jdk_52_method_16_code, exceptionTable := #[], attributes := #[] }
def k10m2 : Method := { name := "compress", desc := "([CII)[B", sig := { parameters := [(.array .char), .int, .int], returnType := some (.array .byte) }, accessFlags := 9, code := some k10c2 }
def k10c3 : Code := { maxStack := 3, maxLocals := 7, code := jdk_52_method_21_code, exceptionTable := #[], attributes := #[] }
def k10m3 : Method := { name := "compress", desc := "([CI[BII)I", sig := { parameters := [(.array .char), .int, (.array .byte), .int, .int], returnType := some .int }, accessFlags := 9, code := some k10c3 }
/-- java/lang/StringUTF16 -/
def k10 : Class := { plain "java/lang/StringUTF16" (some 0) with
  accessFlags := 48
  interfaces := #[]
  cf := some (fileOf pool10 12 #[.nestMembers #[627, 629, 369]] #[{ accessFlags := 0, nameIndex := 9, descriptorIndex := 10, attributes := #[] }, { accessFlags := 8, nameIndex := 261, descriptorIndex := 262, attributes := #[] }, { accessFlags := 9, nameIndex := 117, descriptorIndex := 122, attributes := #[] }, { accessFlags := 9, nameIndex := 117, descriptorIndex := 118, attributes := #[] }] 48 6 #[] #[{ accessFlags := 26, nameIndex := 61, descriptorIndex := 62, attributes := #[] }, { accessFlags := 26, nameIndex := 65, descriptorIndex := 62, attributes := #[] }, { accessFlags := 24, nameIndex := 430, descriptorIndex := 62, attributes := #[] }, { accessFlags := 4120, nameIndex := 46, descriptorIndex := 47, attributes := #[] }])
  fields := #[{ name := "HI_BYTE_SHIFT", type := .int, accessFlags := 26, slot := 0, constantValue := 0 }, { name := "LO_BYTE_SHIFT", type := .int, accessFlags := 26, slot := 1, constantValue := 0 }, { name := "MAX_LENGTH", type := .int, accessFlags := 24, slot := 2, constantValue := 0 }, { name := "$assertionsDisabled", type := .boolean, accessFlags := 4120, slot := 3, constantValue := 0 }]
  methods := #[k10m0, k10m1, k10m2, k10m3]
  instanceTypes := #[]
  staticTypes := #[.int, .int, .int, .boolean]
  resolved := Array.replicate 635 none
  statics := none }

def pool11 : Array CpInfo := pool [(2, .class_ 4), (1, u "java/lang/Enum"), (0, u "name"), (0, u "Ljava/lang/String;"), (2, u "ordinal"), (0, u "I"), (1, .class_ 14), (1, u "java/lang/Object"), (4, u "hash"), (86, .class_ 108), (1, u "java/lang/Enum$EnumDesc"), (2, .class_ 112), (0, u "java/lang/constant/Constable"), (0, .class_ 114), (0, u "java/lang/Comparable"), (0, .class_ 116), (0, u "java/io/Serializable")] 87

/-- java/lang/Enum -/
def k11 : Class := { plain "java/lang/Enum" (some 0) with
  accessFlags := 1057
  interfaces := #[5, 3, 2]
  cf := some (fileOf pool11 2 #[.nestMembers #[106]] #[] 1057 12 #[111, 113, 115] #[{ accessFlags := 18, nameIndex := 5, descriptorIndex := 6, attributes := #[] }, { accessFlags := 18, nameIndex := 9, descriptorIndex := 10, attributes := #[] }, { accessFlags := 2, nameIndex := 19, descriptorIndex := 10, attributes := #[] }])
  fields := #[{ name := "name", type := (.object "java/lang/String"), accessFlags := 18, slot := 0, constantValue := 0 }, { name := "ordinal", type := .int, accessFlags := 18, slot := 1, constantValue := 0 }, { name := "hash", type := .int, accessFlags := 2, slot := 2, constantValue := 0 }]
  methods := #[]
  instanceTypes := #[(.object "java/lang/String"), .int, .int]
  staticTypes := #[]
  resolved := Array.replicate 204 none
  statics := none }

def pool12 : Array CpInfo := pool [(1, .class_ 2), (0, u "com/example/dispatchd/dispatchd/store/EventSchema"), (2, u "ROUTER"), (0, u "Lcom/example/dispatchd/dispatchd/store/EventSchema;"), (2, u "CLOUDEVENTS"), (0, .fieldref 1 11), (0, .nameAndType 12 13), (0, u "$VALUES"), (0, u "[Lcom/example/dispatchd/dispatchd/store/EventSchema;"), (0, .methodref 15 16), (0, .class_ 13), (0, .nameAndType 17 18), (0, u "clone"), (0, u "()Ljava/lang/Object;"), (1, .class_ 22), (1, u "java/lang/Enum"), (6, .fieldref 1 30), (0, .nameAndType 31 32), (0, u "label"), (0, u "Ljava/lang/String;"), (0, .methodref 1 34), (0, .nameAndType 35 36), (0, u "values"), (0, u "()[Lcom/example/dispatchd/dispatchd/store/EventSchema;"), (0, .methodref 38 39), (0, .class_ 40), (0, .nameAndType 41 42), (0, u "java/lang/String"), (0, u "equals"), (0, u "(Ljava/lang/Object;)Z"), (0, .methodref 44 45), (0, .class_ 46), (0, .nameAndType 47 48), (0, u "java/util/Optional"), (0, u "of"), (0, u "(Ljava/lang/Object;)Ljava/util/Optional;"), (0, .methodref 44 50), (0, .nameAndType 51 52), (0, u "empty"), (0, u "()Ljava/util/Optional;"), (18, u "()Ljava/lang/String;"), (0, u "withLabel"), (0, u "(Ljava/lang/String;)Ljava/util/Optional;")] 7

def k12c0 : Code := { maxStack := 1, maxLocals := 0, code := prog_15_method_1_code, exceptionTable := #[], attributes := #[] }
def k12m0 : Method := { name := "values", desc := "()[Lcom/example/dispatchd/dispatchd/store/EventSchema;", sig := { parameters := [], returnType := some (.array (.object "com/example/dispatchd/dispatchd/store/EventSchema")) }, accessFlags := 9, code := some k12c0 }
def k12c1 : Code := { maxStack := 1, maxLocals := 1, code := prog_15_method_4_code, exceptionTable := #[], attributes := #[] }
def k12m1 : Method := { name := "label", desc := "()Ljava/lang/String;", sig := { parameters := [], returnType := some (.object "java/lang/String") }, accessFlags := 1, code := some k12c1 }
def k12c2 : Code := { maxStack := 2, maxLocals := 5, code := prog_15_method_5_code, exceptionTable := #[], attributes := #[] }
def k12m2 : Method := { name := "withLabel", desc := "(Ljava/lang/String;)Ljava/util/Optional;", sig := { parameters := [(.object "java/lang/String")], returnType := some (.object "java/util/Optional") }, accessFlags := 9, code := some k12c2 }
/-- com/example/dispatchd/dispatchd/store/EventSchema -/
def k12 : Class := { plain "com/example/dispatchd/dispatchd/store/EventSchema" (some 11) with
  accessFlags := 16433
  interfaces := #[]
  cf := some (fileOf pool12 1 #[] #[{ accessFlags := 9, nameIndex := 35, descriptorIndex := 36, attributes := #[] }, { accessFlags := 1, nameIndex := 31, descriptorIndex := 71, attributes := #[] }, { accessFlags := 9, nameIndex := 72, descriptorIndex := 73, attributes := #[] }] 16433 20 #[] #[{ accessFlags := 16409, nameIndex := 5, descriptorIndex := 6, attributes := #[] }, { accessFlags := 16409, nameIndex := 9, descriptorIndex := 6, attributes := #[] }, { accessFlags := 18, nameIndex := 31, descriptorIndex := 32, attributes := #[] }, { accessFlags := 4122, nameIndex := 12, descriptorIndex := 13, attributes := #[] }])
  fields := #[{ name := "ROUTER", type := (.object "com/example/dispatchd/dispatchd/store/EventSchema"), accessFlags := 16409, slot := 0, constantValue := 0 }, { name := "CLOUDEVENTS", type := (.object "com/example/dispatchd/dispatchd/store/EventSchema"), accessFlags := 16409, slot := 1, constantValue := 0 }, { name := "label", type := (.object "java/lang/String"), accessFlags := 18, slot := 3, constantValue := 0 }, { name := "$VALUES", type := (.array (.object "com/example/dispatchd/dispatchd/store/EventSchema")), accessFlags := 4122, slot := 2, constantValue := 0 }]
  methods := #[k12m0, k12m1, k12m2]
  instanceTypes := #[(.object "java/lang/String"), .int, .int, (.object "java/lang/String")]
  staticTypes := #[(.object "com/example/dispatchd/dispatchd/store/EventSchema"), (.object "com/example/dispatchd/dispatchd/store/EventSchema"), (.array (.object "com/example/dispatchd/dispatchd/store/EventSchema"))]
  resolved := Array.replicate 81 none
  statics := some 4 }

def pool13 : Array CpInfo := pool [(1, .class_ 2), (0, u "java/lang/Cloneable"), (0, .class_ 4), (0, u "java/lang/Object")] 2

/-- java/lang/Cloneable -/
def k13 : Class := { plain "java/lang/Cloneable" (some 0) with
  accessFlags := 1537
  interfaces := #[]
  cf := some (fileOf pool13 1 #[] #[] 1537 3 #[] #[])
  fields := #[]
  methods := #[]
  instanceTypes := #[]
  staticTypes := #[]
  resolved := Array.replicate 7 none
  statics := none }

def pool14 : Array CpInfo := pool [(1, .fieldref 2 3), (0, .class_ 4), (0, .nameAndType 5 6), (0, u "java/util/Optional"), (0, u "EMPTY"), (0, u "Ljava/util/Optional;"), (0, .methodref 8 9), (0, .class_ 10), (0, .nameAndType 11 12), (0, u "java/lang/Object"), (0, u "<init>"), (0, u "()V"), (0, .fieldref 2 14), (0, .nameAndType 15 16), (0, u "value"), (0, u "Ljava/lang/Object;"), (0, .methodref 18 19), (0, .class_ 20), (0, .nameAndType 21 22), (0, u "java/util/Objects"), (0, u "requireNonNull"), (0, u "(Ljava/lang/Object;)Ljava/lang/Object;"), (0, .methodref 2 24), (0, .nameAndType 11 25), (0, u "(Ljava/lang/Object;)V"), (20, u "()Z"), (8, u "empty"), (0, u "()Ljava/util/Optional;"), (8, u "(Ljava/lang/Object;)Ljava/util/Optional;"), (2, u "isPresent"), (4, u "get"), (0, u "()Ljava/lang/Object;"), (7, u "of")] 104

def k14c0 : Code := { maxStack := 1, maxLocals := 1, code := jdk_32_method_1_code, exceptionTable := #[], attributes := #[] }
def k14m0 : Method := { name := "empty", desc := "()Ljava/util/Optional;", sig := { parameters := [], returnType := some (.object "java/util/Optional") }, accessFlags := 9, code := some k14c0 }
def k14c1 : Code := { maxStack := 2, maxLocals := 2, code := jdk_32_method_2_code, exceptionTable := #[], attributes := #[] }
def k14m1 : Method := { name := "<init>", desc := "(Ljava/lang/Object;)V", sig := { parameters := [(.object "java/lang/Object")], returnType := none }, accessFlags := 2, code := some k14c1 }
def k14c2 : Code := { maxStack := 3, maxLocals := 1, code := jdk_32_method_3_code, exceptionTable := #[], attributes := #[] }
def k14m2 : Method := { name := "of", desc := "(Ljava/lang/Object;)Ljava/util/Optional;", sig := { parameters := [(.object "java/lang/Object")], returnType := some (.object "java/util/Optional") }, accessFlags := 9, code := some k14c2 }
def k14c3 : Code := { maxStack := 3, maxLocals := 1, code := jdk_32_method_5_code, exceptionTable := #[], attributes := #[] }
def k14m3 : Method := { name := "get", desc := "()Ljava/lang/Object;", sig := { parameters := [], returnType := some (.object "java/lang/Object") }, accessFlags := 1, code := some k14c3 }
def k14c4 : Code := { maxStack := 1, maxLocals := 1, code := jdk_32_method_6_code, exceptionTable := #[], attributes := #[] }
def k14m4 : Method := { name := "isPresent", desc := "()Z", sig := { parameters := [], returnType := some .boolean }, accessFlags := 1, code := some k14c4 }
/-- java/util/Optional -/
def k14 : Class := { plain "java/util/Optional" (some 0) with
  accessFlags := 49
  interfaces := #[]
  cf := some (fileOf pool14 2 #[] #[{ accessFlags := 9, nameIndex := 55, descriptorIndex := 56, attributes := #[] }, { accessFlags := 2, nameIndex := 11, descriptorIndex := 25, attributes := #[] }, { accessFlags := 9, nameIndex := 82, descriptorIndex := 65, attributes := #[] }, { accessFlags := 1, nameIndex := 73, descriptorIndex := 74, attributes := #[] }, { accessFlags := 1, nameIndex := 68, descriptorIndex := 46, attributes := #[] }] 49 8 #[] #[{ accessFlags := 26, nameIndex := 5, descriptorIndex := 6, attributes := #[] }, { accessFlags := 18, nameIndex := 15, descriptorIndex := 16, attributes := #[] }])
  fields := #[{ name := "EMPTY", type := (.object "java/util/Optional"), accessFlags := 26, slot := 0, constantValue := 0 }, { name := "value", type := (.object "java/lang/Object"), accessFlags := 18, slot := 0, constantValue := 0 }]
  methods := #[k14m0, k14m1, k14m2, k14m3, k14m4]
  instanceTypes := #[(.object "java/lang/Object")]
  staticTypes := #[(.object "java/util/Optional")]
  resolved := Array.replicate 187 none
  statics := some 2 }

def pool15 : Array CpInfo := pool [(2, .class_ 4), (1, u "java/lang/Object"), (0, u "<init>"), (0, u "()V"), (35, .class_ 44), (1, u "java/util/Objects"), (0, u "requireNonNull"), (0, u "(Ljava/lang/Object;)Ljava/lang/Object;")] 137

def k15m0 : Method := { name := "<init>", desc := "()V", sig := { parameters := [], returnType := none }, accessFlags := 2, code := none }
def k15c1 : Code := { maxStack := 2, maxLocals := 1, code := jdk_31_method_10_code, exceptionTable := #[], attributes := #[] }
def k15m1 : Method := { name := "requireNonNull", desc := "(Ljava/lang/Object;)Ljava/lang/Object;", sig := { parameters := [(.object "java/lang/Object")], returnType := some (.object "java/lang/Object") }, accessFlags := 9, code := some k15c1 }
/-- java/util/Objects -/
def k15 : Class := { plain "java/util/Objects" (some 0) with
  accessFlags := 49
  interfaces := #[]
  cf := some (fileOf pool15 42 #[] #[{ accessFlags := 2, nameIndex := 5, descriptorIndex := 6, attributes := #[] }, { accessFlags := 9, nameIndex := 45, descriptorIndex := 46, attributes := #[] }] 49 2 #[] #[])
  fields := #[]
  methods := #[k15m0, k15m1]
  instanceTypes := #[]
  staticTypes := #[]
  resolved := Array.replicate 184 none
  statics := none }

def pool16 : Array CpInfo := pool [(9, u "<init>"), (6, .class_ 18), (1, u "java/lang/Object"), (0, u "()V"), (1, .class_ 23), (1, u "jdk/internal/util/ArraysSupport"), (0, u "LOG2_ARRAY_LONG_INDEX_SCALE"), (0, u "I"), (2, u "U"), (0, u "Ljdk/internal/misc/Unsafe;"), (8, u "BIG_ENDIAN"), (0, u "Z"), (8, u "LOG2_BYTE_BIT_SIZE"), (4, u "LOG2_ARRAY_INT_INDEX_SCALE"), (54, u "JLA"), (0, u "Ljdk/internal/access/JavaLangAccess;"), (11, u "LOG2_ARRAY_BOOLEAN_INDEX_SCALE"), (9, u "LOG2_ARRAY_BYTE_INDEX_SCALE"), (5, u "LOG2_ARRAY_CHAR_INDEX_SCALE"), (5, u "LOG2_ARRAY_SHORT_INDEX_SCALE"), (18, u "LOG2_ARRAY_FLOAT_INDEX_SCALE"), (24, u "LOG2_ARRAY_DOUBLE_INDEX_SCALE"), (89, u "T_BOOLEAN"), (2, u "T_CHAR"), (1, u "T_FLOAT"), (1, u "T_DOUBLE"), (1, u "T_BYTE"), (1, u "T_SHORT"), (1, u "T_INT"), (1, u "T_LONG"), (1, u "SOFT_MAX_ARRAY_LENGTH")] 83

def k16m0 : Method := { name := "<init>", desc := "()V", sig := { parameters := [], returnType := none }, accessFlags := 2, code := none }
/-- jdk/internal/util/ArraysSupport -/
def k16 : Class := { plain "jdk/internal/util/ArraysSupport" (some 0) with
  accessFlags := 33
  interfaces := #[]
  cf := some (fileOf pool16 21 #[] #[{ accessFlags := 2, nameIndex := 9, descriptorIndex := 19, attributes := #[] }] 33 16 #[] #[{ accessFlags := 24, nameIndex := 28, descriptorIndex := 29, attributes := #[] }, { accessFlags := 26, nameIndex := 38, descriptorIndex := 39, attributes := #[] }, { accessFlags := 25, nameIndex := 121, descriptorIndex := 25, attributes := #[] }, { accessFlags := 25, nameIndex := 131, descriptorIndex := 25, attributes := #[] }, { accessFlags := 25, nameIndex := 137, descriptorIndex := 25, attributes := #[] }, { accessFlags := 25, nameIndex := 143, descriptorIndex := 25, attributes := #[] }, { accessFlags := 25, nameIndex := 53, descriptorIndex := 25, attributes := #[] }, { accessFlags := 25, nameIndex := 24, descriptorIndex := 25, attributes := #[] }, { accessFlags := 25, nameIndex := 162, descriptorIndex := 25, attributes := #[] }, { accessFlags := 25, nameIndex := 187, descriptorIndex := 25, attributes := #[] }, { accessFlags := 26, nameIndex := 48, descriptorIndex := 25, attributes := #[] }, { accessFlags := 25, nameIndex := 277, descriptorIndex := 25, attributes := #[] }, { accessFlags := 25, nameIndex := 280, descriptorIndex := 25, attributes := #[] }, { accessFlags := 25, nameIndex := 282, descriptorIndex := 25, attributes := #[] }, { accessFlags := 25, nameIndex := 284, descriptorIndex := 25, attributes := #[] }, { accessFlags := 25, nameIndex := 286, descriptorIndex := 25, attributes := #[] }, { accessFlags := 25, nameIndex := 288, descriptorIndex := 25, attributes := #[] }, { accessFlags := 25, nameIndex := 290, descriptorIndex := 25, attributes := #[] }, { accessFlags := 25, nameIndex := 292, descriptorIndex := 25, attributes := #[] }, { accessFlags := 26, nameIndex := 108, descriptorIndex := 109, attributes := #[] }, { accessFlags := 25, nameIndex := 294, descriptorIndex := 25, attributes := #[] }])
  fields := #[{ name := "U", type := (.object "jdk/internal/misc/Unsafe"), accessFlags := 24, slot := 0, constantValue := 0 }, { name := "BIG_ENDIAN", type := .boolean, accessFlags := 26, slot := 1, constantValue := 0 }, { name := "LOG2_ARRAY_BOOLEAN_INDEX_SCALE", type := .int, accessFlags := 25, slot := 2, constantValue := 0 }, { name := "LOG2_ARRAY_BYTE_INDEX_SCALE", type := .int, accessFlags := 25, slot := 3, constantValue := 0 }, { name := "LOG2_ARRAY_CHAR_INDEX_SCALE", type := .int, accessFlags := 25, slot := 4, constantValue := 0 }, { name := "LOG2_ARRAY_SHORT_INDEX_SCALE", type := .int, accessFlags := 25, slot := 5, constantValue := 0 }, { name := "LOG2_ARRAY_INT_INDEX_SCALE", type := .int, accessFlags := 25, slot := 6, constantValue := 0 }, { name := "LOG2_ARRAY_LONG_INDEX_SCALE", type := .int, accessFlags := 25, slot := 7, constantValue := 0 }, { name := "LOG2_ARRAY_FLOAT_INDEX_SCALE", type := .int, accessFlags := 25, slot := 8, constantValue := 0 }, { name := "LOG2_ARRAY_DOUBLE_INDEX_SCALE", type := .int, accessFlags := 25, slot := 9, constantValue := 0 }, { name := "LOG2_BYTE_BIT_SIZE", type := .int, accessFlags := 26, slot := 10, constantValue := 0 }, { name := "T_BOOLEAN", type := .int, accessFlags := 25, slot := 11, constantValue := 0 }, { name := "T_CHAR", type := .int, accessFlags := 25, slot := 12, constantValue := 0 }, { name := "T_FLOAT", type := .int, accessFlags := 25, slot := 13, constantValue := 0 }, { name := "T_DOUBLE", type := .int, accessFlags := 25, slot := 14, constantValue := 0 }, { name := "T_BYTE", type := .int, accessFlags := 25, slot := 15, constantValue := 0 }, { name := "T_SHORT", type := .int, accessFlags := 25, slot := 16, constantValue := 0 }, { name := "T_INT", type := .int, accessFlags := 25, slot := 17, constantValue := 0 }, { name := "T_LONG", type := .int, accessFlags := 25, slot := 18, constantValue := 0 }, { name := "JLA", type := (.object "jdk/internal/access/JavaLangAccess"), accessFlags := 26, slot := 19, constantValue := 0 }, { name := "SOFT_MAX_ARRAY_LENGTH", type := .int, accessFlags := 25, slot := 20, constantValue := 0 }]
  methods := #[k16m0]
  instanceTypes := #[]
  staticTypes := #[(.object "jdk/internal/misc/Unsafe"), .boolean, .int, .int, .int, .int, .int, .int, .int, .int, .int, .int, .int, .int, .int, .int, .int, .int, .int, (.object "jdk/internal/access/JavaLangAccess"), .int]
  resolved := Array.replicate 378 none
  statics := none }

/-- the primitive byte -/
def k17 : Class := { plain "byte" none with kind := .primitive 'B', accessFlags := 0x411 }
/-- [B -/
def k18 : Class := { plain "[B" (some 0) with kind := .array 17 .byte, interfaces := #[13, 2], accessFlags := 1041 }

/-- the primitive char -/
def k19 : Class := { plain "char" none with kind := .primitive 'C', accessFlags := 0x411 }
/-- [C -/
def k20 : Class := { plain "[C" (some 0) with kind := .array 19 .char, interfaces := #[13, 2], accessFlags := 1041 }

/-- the primitive int -/
def k21 : Class := { plain "int" none with kind := .primitive 'I', accessFlags := 0x411 }
/-- [I -/
def k22 : Class := { plain "[I" (some 0) with kind := .array 21 .int, interfaces := #[13, 2], accessFlags := 1041 }

/-- [Lcom/example/dispatchd/dispatchd/store/EventSchema; -/
def k23 : Class := { plain "[Lcom/example/dispatchd/dispatchd/store/EventSchema;" (some 0) with kind := .array 12 (.object "com/example/dispatchd/dispatchd/store/EventSchema"), interfaces := #[13, 2], accessFlags := 1041 }

def heap : Heap := #[{ cls := 7, slots := #[.long 0, .int 1, .null, .int 0, .null, .int 0, .int 0], vm := .statics 7 },
  { cls := 9, slots := #[.null, .null, .null], vm := .statics 9 },
  { cls := 14, slots := #[.ref 3], vm := .statics 14 },
  { cls := 14, slots := #[.null], vm := .none },
  { cls := 12, slots := #[.ref 5, .ref 6, .ref 7], vm := .statics 12 },
  { cls := 12, slots := #[.null, .int 0, .int 0, .ref 8], vm := .none },
  { cls := 12, slots := #[.null, .int 1, .int 0, .ref 10], vm := .none },
  { cls := 23, slots := #[.ref 5, .ref 6], vm := .none },
  { cls := 7, slots := #[.ref 9, .int 0, .int 0, .int 0], vm := .none },
  { cls := 18, slots := #[.int 101, .int 118, .int 101, .int 110, .int 116], vm := .none },
  { cls := 7, slots := #[.ref 11, .int 0, .int 0, .int 0], vm := .none },
  { cls := 18, slots := #[.int 99, .int 108, .int 111, .int 117, .int 100, .int 101, .int 118, .int 101, .int 110, .int 116, .int 115], vm := .none }]
def classes : Array Class := #[k0, k1, k2, k3, k4, k5, k6, k7, k8, k9, k10, k11, k12, k13, k14, k15, k16, k17, k18, k19, k20, k21, k22, k23]
def interned : List (Array UInt16 × Addr) := []
def slotsUsed : Nat := 49
def theMethod : MethodId := ⟨1, 3⟩
def args0 : Array Value := #[.int 5, .int 3, .int 4, .long 7]
def aboutOver (below : List Frame) : State where
  vm := { classes := classes, interned := interned.toArray }
  heap := heap
  slotsUsed := slotsUsed
  threads := #[{ frames := .invoking theMethod args0 :: below }]
def below0 : List Frame := [.native { method := ⟨0, 0⟩, args := #[] }]
def about1 : State := aboutOver below0
def p0 : Program := .bare "" "" ""
def e0 : Env := launch0.env 0 0 0
theorem w_frames : about1.frames = Frame.invoking theMethod args0 :: below0 := rfl
set_option maxRecDepth 65536 in
theorem w_args : argsFit about1.vm theMethod args0 = true := by decide +kernel
set_option maxRecDepth 65536 in
theorem w_heap : heapFits about1 = true := by decide +kernel
set_option maxRecDepth 65536 in
theorem w_runnable : about1.curStatus? = some .runnable := by decide +kernel
set_option maxRecDepth 65536 in
theorem w_alone : about1.alone = true := by decide +kernel
set_option maxRecDepth 65536 in
theorem w_named : about1.methodNamed? x = some theMethod := by decide +kernel
set_option maxRecDepth 65536 in
theorem w_hears : about1.hears theMethod below0 = true := by decide +kernel
set_option maxRecDepth 65536 in
theorem w_ripe : about1.ripe theMethod args0 below0 = true := by decide +kernel
theorem w_running : about1.status = .running := rfl
set_option maxRecDepth 65536 in
theorem w_room : about1.hasRoom e0.platform room_1 = true :=
  launch0.hasRoom_least _ room_1 (by decide +kernel) (by decide +kernel) (by decide +kernel) (by decide +kernel) (by decide +kernel) (by decide +kernel)
theorem allAtoms_all (ts : List Jvm.Cond) (a : Array Jvm.Value) (st : Jvm.State) : (allAtoms ts).before a st = ts.all (fun c => c.before a st) := by
  induction ts with
  | nil => rfl
  | cons c t ih =>
    show (Jvm.Cond.and c (allAtoms t)).before a st = _
    rw [Jvm.Cond.before_and, ih, List.all_cons]
def words1 : List Jvm.Cond := Jvm.Cond.code x code maxLocals ret :: tables_1
/-- a 'code' word, met by the world's own term for the bytes: nothing is compared byte by byte -/
theorem code_word {y : MethodName} {bytes : ByteArray} {mx : Nat} {rt : Option FieldType} {a : Array Value} {s : State} {m : MethodId} {meth : Method} {c : Code} (h1 : s.methodNamed? y = some m) (h2 : s.vm.method? m = some meth) (h3 : meth.code = some c) (h4 : c.code = bytes)
    (h5 : (c.maxLocals == mx && c.exceptionTable.isEmpty && decide (c.maxStack ≤ mostOperands) && decide (meth.sig.returnType = rt) && !meth.locks && decide (parseMethodDescriptor y.desc = some meth.sig)) = true) : (Jvm.Cond.code y bytes mx rt).before a s = true := by
  simp only [Bool.and_eq_true, beq_iff_eq, Bool.not_eq_true', decide_eq_true_eq] at h5
  obtain ⟨⟨⟨⟨⟨g1, g2⟩, g3⟩, g4⟩, g5⟩, g6⟩ := h5
  simp [Cond.before, Cond.holds, Cond.value, h1, h2, h3, h4, g1, g2, g3, g4, g5, g6]
def isCode : Jvm.Cond → Bool
  | .code _ _ _ _ => true
  | _ => false
theorem all_split {L : List Jvm.Cond} {P : Jvm.Cond → Bool} (h1 : L.all (fun c => isCode c || P c) = true) (h2 : ∀ c ∈ L.filter isCode, P c = true) : L.all P = true := by
  refine List.all_eq_true.mpr fun c hc => ?_
  have h := List.all_eq_true.mp h1 c hc
  rcases Bool.eq_false_or_eq_true (isCode c) with hi | hi
  · exact h2 c (List.mem_filter.mpr ⟨hc, hi⟩)
  · simpa [hi] using h
set_option maxRecDepth 65536 in
theorem w_c0 : (Jvm.Cond.code x code maxLocals ret).before args0 about1 = true := code_word (m := ⟨1, 3⟩) (meth := k1m3) (c := k1c3) (by decide +kernel) rfl rfl rfl (by decide +kernel)
set_option maxRecDepth 65536 in
theorem w_c1 : (Jvm.Cond.code ({ cls := "com/example/dispatchd/dispatchd/store/EventSchemaWithLabelPinLaw", name := "ch", desc := "(ILjava/lang/String;ICJ)C" } : Jvm.MethodName) method_2_code (6 : Nat) (Option.some Jvm.ClassFile.FieldType.char)).before args0 about1 = true := code_word (m := ⟨1, 1⟩) (meth := k1m1) (c := k1c1) (by decide +kernel) rfl rfl rfl (by decide +kernel)
set_option maxRecDepth 65536 in
theorem w_c2 : (Jvm.Cond.code ({ cls := "java/lang/String", name := "length", desc := "()I" } : Jvm.MethodName) jdk_42_method_54_code (1 : Nat) (Option.some Jvm.ClassFile.FieldType.int)).before args0 about1 = true := code_word (m := ⟨7, 2⟩) (meth := k7m2) (c := k7c2) (by decide +kernel) rfl rfl rfl (by decide +kernel)
set_option maxRecDepth 65536 in
theorem w_c3 : (Jvm.Cond.code ({ cls := "java/lang/String", name := "coder", desc := "()B" } : Jvm.MethodName) jdk_42_method_152_code (1 : Nat) (Option.some Jvm.ClassFile.FieldType.byte)).before args0 about1 = true := code_word (m := ⟨7, 8⟩) (meth := k7m8) (c := k7c8) (by decide +kernel) rfl rfl rfl (by decide +kernel)
set_option maxRecDepth 65536 in
theorem w_c4 : (Jvm.Cond.code ({ cls := "java/lang/String", name := "charAt", desc := "(I)C" } : Jvm.MethodName) jdk_42_method_56_code (2 : Nat) (Option.some Jvm.ClassFile.FieldType.char)).before args0 about1 = true := code_word (m := ⟨7, 3⟩) (meth := k7m3) (c := k7c3) (by decide +kernel) rfl rfl rfl (by decide +kernel)
set_option maxRecDepth 65536 in
theorem w_c5 : (Jvm.Cond.code ({ cls := "java/lang/String", name := "isLatin1", desc := "()Z" } : Jvm.MethodName) jdk_42_method_154_code (1 : Nat) (Option.some Jvm.ClassFile.FieldType.boolean)).before args0 about1 = true := code_word (m := ⟨7, 9⟩) (meth := k7m9) (c := k7c9) (by decide +kernel) rfl rfl rfl (by decide +kernel)
set_option maxRecDepth 65536 in
theorem w_c6 : (Jvm.Cond.code ({ cls := "java/lang/StringLatin1", name := "charAt", desc := "([BI)C" } : Jvm.MethodName) jdk_43_method_2_code (2 : Nat) (Option.some Jvm.ClassFile.FieldType.char)).before args0 about1 = true := code_word (m := ⟨8, 1⟩) (meth := k8m1) (c := k8c1) (by decide +kernel) rfl rfl rfl (by decide +kernel)
set_option maxRecDepth 65536 in
theorem w_c7 : (Jvm.Cond.code ({ cls := "java/lang/String", name := "checkIndex", desc := "(II)V" } : Jvm.MethodName) jdk_42_method_155_code (2 : Nat) (Option.none : Option Jvm.ClassFile.FieldType)).before args0 about1 = true := code_word (m := ⟨7, 10⟩) (meth := k7m10) (c := k7c10) (by decide +kernel) rfl rfl rfl (by decide +kernel)
set_option maxRecDepth 65536 in
theorem w_c8 : (Jvm.Cond.code ({ cls := "jdk/internal/util/Preconditions", name := "checkIndex", desc := "(IILjava/util/function/BiFunction;)I" } : Jvm.MethodName) jdk_41_method_11_code (3 : Nat) (Option.some Jvm.ClassFile.FieldType.int)).before args0 about1 = true := code_word (m := ⟨9, 1⟩) (meth := k9m1) (c := k9c1) (by decide +kernel) rfl rfl rfl (by decide +kernel)
set_option maxRecDepth 65536 in
theorem w_c9 : (Jvm.Cond.code ({ cls := "com/example/dispatchd/dispatchd/store/EventSchemaWithLabelPinLaw", name := "make", desc := "(I[C)Ljava/lang/String;" } : Jvm.MethodName) method_3_code (2 : Nat) (Option.some (Jvm.ClassFile.FieldType.object "java/lang/String"))).before args0 about1 = true := code_word (m := ⟨1, 2⟩) (meth := k1m2) (c := k1c2) (by decide +kernel) rfl rfl rfl (by decide +kernel)
set_option maxRecDepth 65536 in
theorem w_c10 : (Jvm.Cond.code ({ cls := "java/lang/String", name := "<init>", desc := "([C)V" } : Jvm.MethodName) jdk_42_method_3_code (2 : Nat) (Option.none : Option Jvm.ClassFile.FieldType)).before args0 about1 = true := code_word (m := ⟨7, 1⟩) (meth := k7m1) (c := k7c1) (by decide +kernel) rfl rfl rfl (by decide +kernel)
set_option maxRecDepth 65536 in
theorem w_c11 : (Jvm.Cond.code ({ cls := "java/lang/String", name := "<init>", desc := "([CIILjava/lang/Void;)V" } : Jvm.MethodName) jdk_42_method_149_code (6 : Nat) (Option.none : Option Jvm.ClassFile.FieldType)).before args0 about1 = true := code_word (m := ⟨7, 6⟩) (meth := k7m6) (c := k7c6) (by decide +kernel) rfl rfl rfl (by decide +kernel)
set_option maxRecDepth 65536 in
theorem w_c12 : (Jvm.Cond.code ({ cls := "java/lang/Object", name := "<init>", desc := "()V" } : Jvm.MethodName) object_method_1_code (1 : Nat) (Option.none : Option Jvm.ClassFile.FieldType)).before args0 about1 = true := code_word (m := ⟨0, 0⟩) (meth := k0m0) (c := k0c0) (by decide +kernel) rfl rfl rfl (by decide +kernel)
set_option maxRecDepth 65536 in
theorem w_c13 : (Jvm.Cond.code ({ cls := "java/lang/StringUTF16", name := "compress", desc := "([CII)[B" } : Jvm.MethodName) jdk_52_method_16_code (6 : Nat) (Option.some (Jvm.ClassFile.FieldType.array Jvm.ClassFile.FieldType.byte))).before args0 about1 = true := code_word (m := ⟨10, 2⟩) (meth := k10m2) (c := k10c2) (by decide +kernel) rfl rfl rfl (by decide +kernel)
set_option maxRecDepth 65536 in
theorem w_c14 : (Jvm.Cond.code ({ cls := "java/lang/StringUTF16", name := "compress", desc := "([CI[BII)I" } : Jvm.MethodName) jdk_52_method_21_code (7 : Nat) (Option.some Jvm.ClassFile.FieldType.int)).before args0 about1 = true := code_word (m := ⟨10, 3⟩) (meth := k10m3) (c := k10c3) (by decide +kernel) rfl rfl rfl (by decide +kernel)
set_option maxRecDepth 65536 in
theorem w_c15 : (Jvm.Cond.code ({ cls := "java/lang/StringUTF16", name := "coderFromArrayLen", desc := "([BI)B" } : Jvm.MethodName) jdk_52_method_15_code (2 : Nat) (Option.some Jvm.ClassFile.FieldType.byte)).before args0 about1 = true := code_word (m := ⟨10, 1⟩) (meth := k10m1) (c := k10c1) (by decide +kernel) rfl rfl rfl (by decide +kernel)
set_option maxRecDepth 65536 in
theorem w_c16 : (Jvm.Cond.code ({ cls := "com/example/dispatchd/dispatchd/store/EventSchema", name := "withLabel", desc := "(Ljava/lang/String;)Ljava/util/Optional;" } : Jvm.MethodName) prog_15_method_5_code (5 : Nat) (Option.some (Jvm.ClassFile.FieldType.object "java/util/Optional"))).before args0 about1 = true := code_word (m := ⟨12, 2⟩) (meth := k12m2) (c := k12c2) (by decide +kernel) rfl rfl rfl (by decide +kernel)
set_option maxRecDepth 65536 in
theorem w_c17 : (Jvm.Cond.code ({ cls := "com/example/dispatchd/dispatchd/store/EventSchema", name := "values", desc := "()[Lcom/example/dispatchd/dispatchd/store/EventSchema;" } : Jvm.MethodName) prog_15_method_1_code (0 : Nat) (Option.some (Jvm.ClassFile.FieldType.array (Jvm.ClassFile.FieldType.object "com/example/dispatchd/dispatchd/store/EventSchema")))).before args0 about1 = true := code_word (m := ⟨12, 0⟩) (meth := k12m0) (c := k12c0) (by decide +kernel) rfl rfl rfl (by decide +kernel)
set_option maxRecDepth 65536 in
theorem w_c18 : (Jvm.Cond.code ({ cls := "java/lang/String", name := "equals", desc := "(Ljava/lang/Object;)Z" } : Jvm.MethodName) jdk_42_method_66_code (3 : Nat) (Option.some Jvm.ClassFile.FieldType.boolean)).before args0 about1 = true := code_word (m := ⟨7, 4⟩) (meth := k7m4) (c := k7c4) (by decide +kernel) rfl rfl rfl (by decide +kernel)
set_option maxRecDepth 65536 in
theorem w_c19 : (Jvm.Cond.code ({ cls := "java/lang/StringLatin1", name := "equals", desc := "([B[B)Z" } : Jvm.MethodName) jdk_43_method_13_code (3 : Nat) (Option.some Jvm.ClassFile.FieldType.boolean)).before args0 about1 = true := code_word (m := ⟨8, 3⟩) (meth := k8m3) (c := k8c3) (by decide +kernel) rfl rfl rfl (by decide +kernel)
set_option maxRecDepth 65536 in
theorem w_c20 : (Jvm.Cond.code ({ cls := "java/util/Optional", name := "of", desc := "(Ljava/lang/Object;)Ljava/util/Optional;" } : Jvm.MethodName) jdk_32_method_3_code (1 : Nat) (Option.some (Jvm.ClassFile.FieldType.object "java/util/Optional"))).before args0 about1 = true := code_word (m := ⟨14, 2⟩) (meth := k14m2) (c := k14c2) (by decide +kernel) rfl rfl rfl (by decide +kernel)
set_option maxRecDepth 65536 in
theorem w_c21 : (Jvm.Cond.code ({ cls := "java/util/Objects", name := "requireNonNull", desc := "(Ljava/lang/Object;)Ljava/lang/Object;" } : Jvm.MethodName) jdk_31_method_10_code (1 : Nat) (Option.some (Jvm.ClassFile.FieldType.object "java/lang/Object"))).before args0 about1 = true := code_word (m := ⟨15, 1⟩) (meth := k15m1) (c := k15c1) (by decide +kernel) rfl rfl rfl (by decide +kernel)
set_option maxRecDepth 65536 in
theorem w_c22 : (Jvm.Cond.code ({ cls := "java/util/Optional", name := "<init>", desc := "(Ljava/lang/Object;)V" } : Jvm.MethodName) jdk_32_method_2_code (2 : Nat) (Option.none : Option Jvm.ClassFile.FieldType)).before args0 about1 = true := code_word (m := ⟨14, 1⟩) (meth := k14m1) (c := k14c1) (by decide +kernel) rfl rfl rfl (by decide +kernel)
set_option maxRecDepth 65536 in
theorem w_c23 : (Jvm.Cond.code ({ cls := "com/example/dispatchd/dispatchd/store/EventSchema", name := "label", desc := "()Ljava/lang/String;" } : Jvm.MethodName) prog_15_method_4_code (1 : Nat) (Option.some (Jvm.ClassFile.FieldType.object "java/lang/String"))).before args0 about1 = true := code_word (m := ⟨12, 1⟩) (meth := k12m1) (c := k12c1) (by decide +kernel) rfl rfl rfl (by decide +kernel)
set_option maxRecDepth 65536 in
theorem w_c24 : (Jvm.Cond.code ({ cls := "java/util/Optional", name := "isPresent", desc := "()Z" } : Jvm.MethodName) jdk_32_method_6_code (1 : Nat) (Option.some Jvm.ClassFile.FieldType.boolean)).before args0 about1 = true := code_word (m := ⟨14, 4⟩) (meth := k14m4) (c := k14c4) (by decide +kernel) rfl rfl rfl (by decide +kernel)
set_option maxRecDepth 65536 in
theorem w_c25 : (Jvm.Cond.code ({ cls := "java/util/Optional", name := "get", desc := "()Ljava/lang/Object;" } : Jvm.MethodName) jdk_32_method_5_code (1 : Nat) (Option.some (Jvm.ClassFile.FieldType.object "java/lang/Object"))).before args0 about1 = true := code_word (m := ⟨14, 3⟩) (meth := k14m3) (c := k14c3) (by decide +kernel) rfl rfl rfl (by decide +kernel)
set_option maxRecDepth 65536 in
theorem w_c26 : (Jvm.Cond.code ({ cls := "java/util/Optional", name := "empty", desc := "()Ljava/util/Optional;" } : Jvm.MethodName) jdk_32_method_1_code (1 : Nat) (Option.some (Jvm.ClassFile.FieldType.object "java/util/Optional"))).before args0 about1 = true := code_word (m := ⟨14, 0⟩) (meth := k14m0) (c := k14c0) (by decide +kernel) rfl rfl rfl (by decide +kernel)
set_option maxRecDepth 65536 in
theorem w_c27 : (Jvm.Cond.code ({ cls := "java/lang/String", name := "valueOf", desc := "(C)Ljava/lang/String;" } : Jvm.MethodName) jdk_42_method_139_code (1 : Nat) (Option.some (Jvm.ClassFile.FieldType.object "java/lang/String"))).before args0 about1 = true := code_word (m := ⟨7, 5⟩) (meth := k7m5) (c := k7c5) (by decide +kernel) rfl rfl rfl (by decide +kernel)
set_option maxRecDepth 65536 in
theorem w_c28 : (Jvm.Cond.code ({ cls := "java/lang/StringLatin1", name := "canEncode", desc := "(C)Z" } : Jvm.MethodName) jdk_43_method_3_code (1 : Nat) (Option.some Jvm.ClassFile.FieldType.boolean)).before args0 about1 = true := code_word (m := ⟨8, 2⟩) (meth := k8m2) (c := k8c2) (by decide +kernel) rfl rfl rfl (by decide +kernel)
set_option maxRecDepth 65536 in
theorem w_c29 : (Jvm.Cond.code ({ cls := "java/lang/StringLatin1", name := "toBytes", desc := "(C)[B" } : Jvm.MethodName) jdk_43_method_46_code (1 : Nat) (Option.some (Jvm.ClassFile.FieldType.array Jvm.ClassFile.FieldType.byte))).before args0 about1 = true := code_word (m := ⟨8, 4⟩) (meth := k8m4) (c := k8c4) (by decide +kernel) rfl rfl rfl (by decide +kernel)
set_option maxRecDepth 65536 in
theorem w_c30 : (Jvm.Cond.code ({ cls := "java/lang/String", name := "<init>", desc := "([BB)V" } : Jvm.MethodName) jdk_42_method_151_code (3 : Nat) (Option.none : Option Jvm.ClassFile.FieldType)).before args0 about1 = true := code_word (m := ⟨7, 7⟩) (meth := k7m7) (c := k7c7) (by decide +kernel) rfl rfl rfl (by decide +kernel)
def codes1 : List Jvm.Cond := [Jvm.Cond.code x code maxLocals ret, Jvm.Cond.code ({ cls := "com/example/dispatchd/dispatchd/store/EventSchemaWithLabelPinLaw", name := "ch", desc := "(ILjava/lang/String;ICJ)C" } : Jvm.MethodName) method_2_code (6 : Nat) (Option.some Jvm.ClassFile.FieldType.char), Jvm.Cond.code ({ cls := "java/lang/String", name := "length", desc := "()I" } : Jvm.MethodName) jdk_42_method_54_code (1 : Nat) (Option.some Jvm.ClassFile.FieldType.int), Jvm.Cond.code ({ cls := "java/lang/String", name := "coder", desc := "()B" } : Jvm.MethodName) jdk_42_method_152_code (1 : Nat) (Option.some Jvm.ClassFile.FieldType.byte), Jvm.Cond.code ({ cls := "java/lang/String", name := "charAt", desc := "(I)C" } : Jvm.MethodName) jdk_42_method_56_code (2 : Nat) (Option.some Jvm.ClassFile.FieldType.char), Jvm.Cond.code ({ cls := "java/lang/String", name := "isLatin1", desc := "()Z" } : Jvm.MethodName) jdk_42_method_154_code (1 : Nat) (Option.some Jvm.ClassFile.FieldType.boolean), Jvm.Cond.code ({ cls := "java/lang/StringLatin1", name := "charAt", desc := "([BI)C" } : Jvm.MethodName) jdk_43_method_2_code (2 : Nat) (Option.some Jvm.ClassFile.FieldType.char), Jvm.Cond.code ({ cls := "java/lang/String", name := "checkIndex", desc := "(II)V" } : Jvm.MethodName) jdk_42_method_155_code (2 : Nat) (Option.none : Option Jvm.ClassFile.FieldType), Jvm.Cond.code ({ cls := "jdk/internal/util/Preconditions", name := "checkIndex", desc := "(IILjava/util/function/BiFunction;)I" } : Jvm.MethodName) jdk_41_method_11_code (3 : Nat) (Option.some Jvm.ClassFile.FieldType.int), Jvm.Cond.code ({ cls := "com/example/dispatchd/dispatchd/store/EventSchemaWithLabelPinLaw", name := "make", desc := "(I[C)Ljava/lang/String;" } : Jvm.MethodName) method_3_code (2 : Nat) (Option.some (Jvm.ClassFile.FieldType.object "java/lang/String")), Jvm.Cond.code ({ cls := "java/lang/String", name := "<init>", desc := "([C)V" } : Jvm.MethodName) jdk_42_method_3_code (2 : Nat) (Option.none : Option Jvm.ClassFile.FieldType), Jvm.Cond.code ({ cls := "java/lang/String", name := "<init>", desc := "([CIILjava/lang/Void;)V" } : Jvm.MethodName) jdk_42_method_149_code (6 : Nat) (Option.none : Option Jvm.ClassFile.FieldType), Jvm.Cond.code ({ cls := "java/lang/Object", name := "<init>", desc := "()V" } : Jvm.MethodName) object_method_1_code (1 : Nat) (Option.none : Option Jvm.ClassFile.FieldType), Jvm.Cond.code ({ cls := "java/lang/StringUTF16", name := "compress", desc := "([CII)[B" } : Jvm.MethodName) jdk_52_method_16_code (6 : Nat) (Option.some (Jvm.ClassFile.FieldType.array Jvm.ClassFile.FieldType.byte)), Jvm.Cond.code ({ cls := "java/lang/StringUTF16", name := "compress", desc := "([CI[BII)I" } : Jvm.MethodName) jdk_52_method_21_code (7 : Nat) (Option.some Jvm.ClassFile.FieldType.int), Jvm.Cond.code ({ cls := "java/lang/StringUTF16", name := "coderFromArrayLen", desc := "([BI)B" } : Jvm.MethodName) jdk_52_method_15_code (2 : Nat) (Option.some Jvm.ClassFile.FieldType.byte), Jvm.Cond.code ({ cls := "com/example/dispatchd/dispatchd/store/EventSchema", name := "withLabel", desc := "(Ljava/lang/String;)Ljava/util/Optional;" } : Jvm.MethodName) prog_15_method_5_code (5 : Nat) (Option.some (Jvm.ClassFile.FieldType.object "java/util/Optional")), Jvm.Cond.code ({ cls := "com/example/dispatchd/dispatchd/store/EventSchema", name := "values", desc := "()[Lcom/example/dispatchd/dispatchd/store/EventSchema;" } : Jvm.MethodName) prog_15_method_1_code (0 : Nat) (Option.some (Jvm.ClassFile.FieldType.array (Jvm.ClassFile.FieldType.object "com/example/dispatchd/dispatchd/store/EventSchema"))), Jvm.Cond.code ({ cls := "java/lang/String", name := "equals", desc := "(Ljava/lang/Object;)Z" } : Jvm.MethodName) jdk_42_method_66_code (3 : Nat) (Option.some Jvm.ClassFile.FieldType.boolean), Jvm.Cond.code ({ cls := "java/lang/StringLatin1", name := "equals", desc := "([B[B)Z" } : Jvm.MethodName) jdk_43_method_13_code (3 : Nat) (Option.some Jvm.ClassFile.FieldType.boolean), Jvm.Cond.code ({ cls := "java/util/Optional", name := "of", desc := "(Ljava/lang/Object;)Ljava/util/Optional;" } : Jvm.MethodName) jdk_32_method_3_code (1 : Nat) (Option.some (Jvm.ClassFile.FieldType.object "java/util/Optional")), Jvm.Cond.code ({ cls := "java/util/Objects", name := "requireNonNull", desc := "(Ljava/lang/Object;)Ljava/lang/Object;" } : Jvm.MethodName) jdk_31_method_10_code (1 : Nat) (Option.some (Jvm.ClassFile.FieldType.object "java/lang/Object")), Jvm.Cond.code ({ cls := "java/util/Optional", name := "<init>", desc := "(Ljava/lang/Object;)V" } : Jvm.MethodName) jdk_32_method_2_code (2 : Nat) (Option.none : Option Jvm.ClassFile.FieldType), Jvm.Cond.code ({ cls := "com/example/dispatchd/dispatchd/store/EventSchema", name := "label", desc := "()Ljava/lang/String;" } : Jvm.MethodName) prog_15_method_4_code (1 : Nat) (Option.some (Jvm.ClassFile.FieldType.object "java/lang/String")), Jvm.Cond.code ({ cls := "java/util/Optional", name := "isPresent", desc := "()Z" } : Jvm.MethodName) jdk_32_method_6_code (1 : Nat) (Option.some Jvm.ClassFile.FieldType.boolean), Jvm.Cond.code ({ cls := "java/util/Optional", name := "get", desc := "()Ljava/lang/Object;" } : Jvm.MethodName) jdk_32_method_5_code (1 : Nat) (Option.some (Jvm.ClassFile.FieldType.object "java/lang/Object")), Jvm.Cond.code ({ cls := "java/util/Optional", name := "empty", desc := "()Ljava/util/Optional;" } : Jvm.MethodName) jdk_32_method_1_code (1 : Nat) (Option.some (Jvm.ClassFile.FieldType.object "java/util/Optional")), Jvm.Cond.code ({ cls := "java/lang/String", name := "valueOf", desc := "(C)Ljava/lang/String;" } : Jvm.MethodName) jdk_42_method_139_code (1 : Nat) (Option.some (Jvm.ClassFile.FieldType.object "java/lang/String")), Jvm.Cond.code ({ cls := "java/lang/StringLatin1", name := "canEncode", desc := "(C)Z" } : Jvm.MethodName) jdk_43_method_3_code (1 : Nat) (Option.some Jvm.ClassFile.FieldType.boolean), Jvm.Cond.code ({ cls := "java/lang/StringLatin1", name := "toBytes", desc := "(C)[B" } : Jvm.MethodName) jdk_43_method_46_code (1 : Nat) (Option.some (Jvm.ClassFile.FieldType.array Jvm.ClassFile.FieldType.byte)), Jvm.Cond.code ({ cls := "java/lang/String", name := "<init>", desc := "([BB)V" } : Jvm.MethodName) jdk_42_method_151_code (3 : Nat) (Option.none : Option Jvm.ClassFile.FieldType)]
set_option maxRecDepth 65536 in
theorem codes_eq : words1.filter isCode = codes1 := rfl
theorem w_codes : ∀ c ∈ words1.filter isCode, c.before args0 about1 = true := by
  rw [codes_eq]
  intro c hc
  simp only [codes1, List.mem_cons, List.not_mem_nil, or_false] at hc
  rcases hc with rfl | rfl | rfl | rfl | rfl | rfl | rfl | rfl | rfl | rfl | rfl | rfl | rfl | rfl | rfl | rfl | rfl | rfl | rfl | rfl | rfl | rfl | rfl | rfl | rfl | rfl | rfl | rfl | rfl | rfl | rfl
  · exact w_c0
  · exact w_c1
  · exact w_c2
  · exact w_c3
  · exact w_c4
  · exact w_c5
  · exact w_c6
  · exact w_c7
  · exact w_c8
  · exact w_c9
  · exact w_c10
  · exact w_c11
  · exact w_c12
  · exact w_c13
  · exact w_c14
  · exact w_c15
  · exact w_c16
  · exact w_c17
  · exact w_c18
  · exact w_c19
  · exact w_c20
  · exact w_c21
  · exact w_c22
  · exact w_c23
  · exact w_c24
  · exact w_c25
  · exact w_c26
  · exact w_c27
  · exact w_c28
  · exact w_c29
  · exact w_c30
set_option maxRecDepth 65536 in
theorem w_t1 : (words1.take 24).all (fun c => isCode c || c.before args0 about1) = true := by decide +kernel
set_option maxRecDepth 65536 in
theorem w_t2 : ((words1.drop 24).take 24).all (fun c => isCode c || c.before args0 about1) = true := by decide +kernel
set_option maxRecDepth 65536 in
theorem w_t3 : (((words1.drop 24).drop 24).take 24).all (fun c => isCode c || c.before args0 about1) = true := by decide +kernel
set_option maxRecDepth 65536 in
theorem w_t4 : ((((words1.drop 24).drop 24).drop 24).take 24).all (fun c => isCode c || c.before args0 about1) = true := by decide +kernel
set_option maxRecDepth 65536 in
theorem w_t5 : (((((words1.drop 24).drop 24).drop 24).drop 24).take 24).all (fun c => isCode c || c.before args0 about1) = true := by decide +kernel
set_option maxRecDepth 65536 in
theorem w_t6 : ((((((words1.drop 24).drop 24).drop 24).drop 24).drop 24).take 24).all (fun c => isCode c || c.before args0 about1) = true := by decide +kernel
set_option maxRecDepth 65536 in
theorem w_t7 : ((((((words1.drop 24).drop 24).drop 24).drop 24).drop 24).drop 24).all (fun c => isCode c || c.before args0 about1) = true := by decide +kernel
theorem w_tables : (allAtoms (Jvm.Cond.code x code maxLocals ret :: tables_1)).before args0 about1 = true := by
  rw [allAtoms_all]
  show words1.all (fun c => c.before args0 about1) = true
  refine all_split ?_ w_codes
  rw [← List.take_append_drop 24 words1, List.all_append, w_t1, ← List.take_append_drop 24 (words1.drop 24), List.all_append, w_t2, ← List.take_append_drop 24 ((words1.drop 24).drop 24), List.all_append, w_t3, ← List.take_append_drop 24 (((words1.drop 24).drop 24).drop 24), List.all_append, w_t4, ← List.take_append_drop 24 ((((words1.drop 24).drop 24).drop 24).drop 24), List.all_append, w_t5, ← List.take_append_drop 24 (((((words1.drop 24).drop 24).drop 24).drop 24).drop 24), List.all_append, w_t6, w_t7]
  rfl
set_option maxRecDepth 65536 in
theorem w_rest : rest_1_c.before args0 about1 = true := by decide +kernel
set_option maxRecDepth 65536 in
theorem w_case : (Jvm.Cond.and given_1 narrow_1).before args0 about1 = true := by decide +kernel
set_option maxRecDepth 65536 in
theorem w_consts : constsHeld consts_1 about1 := Jvm.Lit.constsHeldB_iff.mp (by decide +kernel)
theorem w_applies : (headSpec (Jvm.Cond.code x code maxLocals ret :: tables_1) room_1).applies x e0.platform about1 = true :=
  (Spec.applies_iff w_frames).mpr ⟨w_running, w_runnable, w_alone, w_named, w_hears, w_ripe, w_room, w_tables⟩
theorem atStart : AtStart classFile x code maxLocals ret World_1 tables_1 room_1 Calls_1 rest_1 Pre_1 launch0 p0 e0 about1 theMethod args0 below0 :=
  ⟨lists_1, trivial, launch0.admits_env _ _ _, launch0.least_env, fairChoices_fair.cas, fairChoices_fair.clock, w_frames, w_args, w_heap, w_applies, ⟨w_consts, trivial⟩, w_rest, w_case⟩
end start1
theorem witness_1 : WitnessClaimed_1 := ⟨start1.p0, start1.e0, start1.about1, start1.theMethod, start1.args0, start1.below0, start1.atStart⟩
end Jvm.Pilot.@@N@@
