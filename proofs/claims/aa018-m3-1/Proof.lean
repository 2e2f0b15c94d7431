import JvmDerived
import JvmDerived.Pilot.@@N@@Statement
import JvmDerived.Pilot.@@N@@Code
set_option linter.unusedVariables false
set_option linter.unusedSimpArgs false
namespace Jvm.Pilot.@@N@@
open Jvm Jvm.ClassFile Sem Op Lib Jvm.Free Jvm.Stand Jvm.LawKit Jvm.RoadKit Bundle Jvm.Pilot.@@N@@.Jvm.D
section OwnKit
variable {p : Program} {l : Launch} {e : Env} {R : Room} {s : State} {m : MethodId} {args : Array Value} {below : List Frame} {meth : Method} {c : Code} {T : State} {locs : List Loc} {cells slots : Nat} {Z : State} {a0 : Array Value} {h h' : Heap} {Ev : State → Outcome → Prop}
def Go (p : Program) (e : Env) (below : List Frame) (Ev : State → Outcome → Prop) (T : State) (g : JFrame) : Prop :=
  ∃ (U : State) (o : Outcome), Steps p.tables e below (T.setTop g) U ∧ U.status = .running ∧ Ended U below o ∧ Ev U o
theorem Go.on {T T' : State} {g g' : JFrame} (K : Go p e below Ev T' g') (st : ∀ t, Steps p.tables e below (T'.setTop g') t → Steps p.tables e below (T.setTop g) t) : Go p e below Ev T g := by
  obtain ⟨U, o, h1, h2⟩ := K
  exact ⟨U, o, st _ h1, h2⟩
/-- what a body leaves -/
abbrev EndQ (s : State) (Q : Option Value → Heap → List Loc → Prop) (K N : Nat) : State → Outcome → Prop := fun U o => ∃ (v : Option Value) (L : List Loc), o = .returned v ∧ Q v U.heap L ∧ FrameEnd s o U L K N
theorem own_met {x : MethodName} {code : ByteArray} {ml : Nat} {ret : Option FieldType} {ws : List Jvm.Cond} {rm : Room} {as : Array Value} {h0 : Heap} {Q : Option Value → Heap → List Loc → Prop} {K N : Nat} {Ls : Array Slot} (hpn : plainFor x = true) (hef : ∀ m, entryFrame m as ml = mkF m 0 Ls [])
    (body : ∀ (p : Program) (e : Env) (s : State) (m : MethodId) (below : List Frame) (meth : Method) (c : Code) (T : State), Stand p l e rm s m as below meth c T [] 0 0 → p.tables.exec = Jvm.exec → c.code = code → c.maxLocals = ml → meth.sig.returnType = ret → meth.locks = false → meth.name = x.name → s.vm.findClass x.cls = some m.cls → Z.Warmed39 s.vm → T.heap = h0 → Go p e below (EndQ s Q K N) T (mkF m 0 Ls [])) :
    MetFree l x (head1 (Jvm.Cond.code x code ml ret :: ws) rm) (fun a U => a = as ∧ Z.Warmed39 U.vm ∧ U.heap = h0) (fun _ _ _ _ _ => True) (fun _ U o U' => ∃ v L, o = .returned v ∧ Q v U'.heap L ∧ FrameEnd U o U' L K N) := by
  refine MetFree.of_bodySF hpn hisR ?_
  intro p e s m args below meth c s₁ Bd hml0 hP hK
  obtain ⟨rfl, hZ, hh⟩ := hP
  have e0 : s₁.heap = h0 := by rw [← hh, Bd.state]; rfl
  obtain ⟨U, o, h1, h2, h3, h4⟩ := body p e s m below meth c s₁ (Stand.of_body Bd) Bd.exec Bd.bytes hml0 Bd.returns (BodyLoose.notSynchronized Bd) (name_of_methodNamed Bd.named Bd.method).1 (findClass_of_methodNamed Bd.named) hZ e0
  rw [← hef m] at h1
  exact ⟨U, o, h1, h2, h3, h4⟩
theorem g_leave (X : Stand p l e R s m args below meth c T locs cells slots) (hlk : meth.locks = false) {Q : Option Value → Heap → List Loc → Prop} {K N : Nat} {g : JFrame} {v : Option Value} (hv : meth.sig.returnType = none → v = none) (hK : cells ≤ K) (hN : slots ≤ N) (eT : T.heap = h) (hQ : Q v h locs)
    (hst : ∀ fs, (∀ (f : JFrame) (acts : List Action), f.method = m → f.locked = none → f.entered = [] → (doReturn e (T.setTop f) acts v).1 = T.setFrames fs) → Steps p.tables e below (T.setTop g) (T.setFrames fs)) : Go p e below (EndQ s Q K N) T g := by
  obtain ⟨fs, hr, hrun, hended, hW, hsame⟩ := X.leave (v := v) hv hlk
  exact ⟨_, _, hst fs hr, hrun, hended, _, _, rfl, by rw [show (T.setFrames fs).heap = T.heap from rfl, eT]; exact hQ, ⟨_, rfl⟩, hW, hsame.mono hK hN⟩
theorem g_retI (X : Stand p l e R s m args below meth c T locs cells slots) (hx : p.tables.exec = Jvm.exec) (hlk : meth.locks = false) {Q : Option Value → Heap → List Loc → Prop} {K N : Nat} {pc : Nat} {Ls : Array Slot} {z : Int32} {rest : List Value} (hret : meth.sig.returnType = some .int) (hd : decode c.code pc = .ok (.ireturn, 1)) (hK : cells ≤ K) (hN : slots ≤ N) (eT : T.heap = h) (hQ : Q (some (.int z)) h locs) : Go p e below (EndQ s Q K N) T (mkF m pc Ls (.int z :: rest)) :=
  g_leave X hlk (fun q => by rw [hret] at q; cases q) hK hN eT hQ (fun fs hr => retOut X hx hret rfl (Or.inl ⟨rfl, Or.inl rfl, _, rfl⟩) hd hr)
theorem g_retZ (X : Stand p l e R s m args below meth c T locs cells slots) (hx : p.tables.exec = Jvm.exec) (hlk : meth.locks = false) {Q : Option Value → Heap → List Loc → Prop} {K N : Nat} {pc : Nat} {Ls : Array Slot} {z : Int32} {rest : List Value} (hret : meth.sig.returnType = some .boolean) (hd : decode c.code pc = .ok (.ireturn, 1)) (hK : cells ≤ K) (hN : slots ≤ N) (eT : T.heap = h) (hQ : Q (some (.int (nar .boolean z))) h locs) : Go p e below (EndQ s Q K N) T (mkF m pc Ls (.int z :: rest)) :=
  g_leave X hlk (fun q => by rw [hret] at q; cases q) hK hN eT hQ (fun fs hr => retN X hx (t := .boolean) hret (by simp) hd hr)
theorem g_retD (X : Stand p l e R s m args below meth c T locs cells slots) (hx : p.tables.exec = Jvm.exec) (hlk : meth.locks = false) {Q : Option Value → Heap → List Loc → Prop} {K N : Nat} {pc : Nat} {Ls : Array Slot} {z : UInt64} {rest : List Value} (hret : meth.sig.returnType = some .double) (hd : decode c.code pc = .ok (.dreturn, 1)) (hK : cells ≤ K) (hN : slots ≤ N) (eT : T.heap = h) (hQ : Q (some (.double z)) h locs) : Go p e below (EndQ s Q K N) T (mkF m pc Ls (.double z :: rest)) :=
  g_leave X hlk (fun q => by rw [hret] at q; cases q) hK hN eT hQ (fun fs hr => retOut X hx hret rfl (Or.inr (Or.inr (Or.inl ⟨rfl, rfl, _, rfl⟩))) hd hr)
theorem g_retJ (X : Stand p l e R s m args below meth c T locs cells slots) (hx : p.tables.exec = Jvm.exec) (hlk : meth.locks = false) {Q : Option Value → Heap → List Loc → Prop} {K N : Nat} {pc : Nat} {Ls : Array Slot} {z : Int64} {rest : List Value} (hret : meth.sig.returnType = some .long) (hd : decode c.code pc = .ok (.lreturn, 1)) (hK : cells ≤ K) (hN : slots ≤ N) (eT : T.heap = h) (hQ : Q (some (.long z)) h locs) : Go p e below (EndQ s Q K N) T (mkF m pc Ls (.long z :: rest)) :=
  g_leave X hlk (fun q => by rw [hret] at q; cases q) hK hN eT hQ (fun fs hr => retOut X hx hret rfl (Or.inr (Or.inl ⟨rfl, rfl, _, rfl⟩)) hd hr)
theorem g_retA (X : Stand p l e R s m args below meth c T locs cells slots) (hx : p.tables.exec = Jvm.exec) (hlk : meth.locks = false) {Q : Option Value → Heap → List Loc → Prop} {K N : Nat} {pc : Nat} {Ls : Array Slot} {w : Value} {rest : List Value} {t : FieldType} (hret : meth.sig.returnType = some t) (ht : t.isReference = true) (hw : w.isRef = true) (hn : narrow t w = w) (hd : decode c.code pc = .ok (.areturn, 1)) (hK : cells ≤ K) (hN : slots ≤ N) (eT : T.heap = h) (hQ : Q (some w) h locs) : Go p e below (EndQ s Q K N) T (mkF m pc Ls (w :: rest)) :=
  g_leave X hlk (fun q => by rw [hret] at q; cases q) hK hN eT hQ (fun fs hr => retOut X hx hret hn (Or.inr (Or.inr (Or.inr (Or.inr ⟨rfl, ht, hw⟩)))) hd hr)
theorem g_retV (X : Stand p l e R s m args below meth c T locs cells slots) (hx : p.tables.exec = Jvm.exec) (hlk : meth.locks = false) {Q : Option Value → Heap → List Loc → Prop} {K N : Nat} {pc : Nat} {Ls : Array Slot} (hret : meth.sig.returnType = none) (hd : decode c.code pc = .ok (.return_, 1)) (hK : cells ≤ K) (hN : slots ≤ N) (eT : T.heap = h) (hQ : Q none h locs) : Go p e below (EndQ s Q K N) T (mkF m pc Ls []) :=
  g_leave X hlk (fun _ => rfl) hK hN eT hQ (fun fs hr => X.returnOut hx hret hd hr)
theorem g_iloadN (X : Stand p l e R s m args below meth c T locs cells slots) (hx : p.tables.exec = Jvm.exec) {pc : Nat} {Ls : Array Slot} {st : List Value} {k : Fin 4} {v : Int32} (q : Nat) (hd : decode c.code pc = .ok (.iload_n k, 1)) (hq : pc + 1 = q) (hl : Ls[k.val]? = some (.val (.int v))) (K : Go p e below Ev T (mkF m q Ls (.int v :: st))) : Go p e below Ev T (mkF m pc Ls st) := by
  subst hq
  exact K.on fun _ k => XS.iloadN X.here hx rfl hd hl k
theorem g_iload (X : Stand p l e R s m args below meth c T locs cells slots) (hx : p.tables.exec = Jvm.exec) {pc : Nat} {Ls : Array Slot} {st : List Value} {k : Nat} {v : Int32} (q : Nat) (hd : decode c.code pc = .ok (.iload k, 2)) (hq : pc + 2 = q) (hl : Ls[k]? = some (.val (.int v))) (K : Go p e below Ev T (mkF m q Ls (.int v :: st))) : Go p e below Ev T (mkF m pc Ls st) := by
  subst hq
  exact K.on fun _ k => XS.iload X.here hx rfl hd hl k
theorem g_istoreN (X : Stand p l e R s m args below meth c T locs cells slots) (hx : p.tables.exec = Jvm.exec) {pc : Nat} {Ls : Array Slot} {st : List Value} {k : Fin 4} {v : Int32} {l' : Array Slot} (q : Nat) (hd : decode c.code pc = .ok (.istore_n k, 1)) (hq : pc + 1 = q) (hl : storeLocals Ls k.val (.int v) = some l') (K : Go p e below Ev T (mkF m q l' st)) : Go p e below Ev T (mkF m pc Ls (.int v :: st)) := by
  subst hq
  exact K.on fun _ k => XS.istoreN X.here hx rfl hd rfl hl k
theorem g_istore (X : Stand p l e R s m args below meth c T locs cells slots) (hx : p.tables.exec = Jvm.exec) {pc : Nat} {Ls : Array Slot} {st : List Value} {k : Nat} {v : Int32} {l' : Array Slot} (q : Nat) (hd : decode c.code pc = .ok (.istore k, 2)) (hq : pc + 2 = q) (hl : storeLocals Ls k (.int v) = some l') (K : Go p e below Ev T (mkF m q l' st)) : Go p e below Ev T (mkF m pc Ls (.int v :: st)) := by
  subst hq
  exact K.on fun _ k => XS.istore X.here hx rfl hd rfl hl k
theorem g_lloadN (X : Stand p l e R s m args below meth c T locs cells slots) (hx : p.tables.exec = Jvm.exec) {pc : Nat} {Ls : Array Slot} {st : List Value} {k : Fin 4} {v : Int64} (q : Nat) (hd : decode c.code pc = .ok (.lload_n k, 1)) (hq : pc + 1 = q) (hl : Ls[k.val]? = some (.val (.long v))) (K : Go p e below Ev T (mkF m q Ls (.long v :: st))) : Go p e below Ev T (mkF m pc Ls st) := by
  subst hq
  exact K.on fun _ k => XS.lloadN X.here hx rfl hd hl k
theorem g_lload (X : Stand p l e R s m args below meth c T locs cells slots) (hx : p.tables.exec = Jvm.exec) {pc : Nat} {Ls : Array Slot} {st : List Value} {k : Nat} {v : Int64} (q : Nat) (hd : decode c.code pc = .ok (.lload k, 2)) (hq : pc + 2 = q) (hl : Ls[k]? = some (.val (.long v))) (K : Go p e below Ev T (mkF m q Ls (.long v :: st))) : Go p e below Ev T (mkF m pc Ls st) := by
  subst hq
  exact K.on fun _ k => XS.lload X.here hx rfl hd hl k
theorem g_lstoreN (X : Stand p l e R s m args below meth c T locs cells slots) (hx : p.tables.exec = Jvm.exec) {pc : Nat} {Ls : Array Slot} {st : List Value} {k : Fin 4} {v : Int64} {l' : Array Slot} (q : Nat) (hd : decode c.code pc = .ok (.lstore_n k, 1)) (hq : pc + 1 = q) (hl : storeLocals Ls k.val (.long v) = some l') (K : Go p e below Ev T (mkF m q l' st)) : Go p e below Ev T (mkF m pc Ls (.long v :: st)) := by
  subst hq
  exact K.on fun _ k => XS.lstoreN X.here hx rfl hd rfl hl k
theorem g_lstore (X : Stand p l e R s m args below meth c T locs cells slots) (hx : p.tables.exec = Jvm.exec) {pc : Nat} {Ls : Array Slot} {st : List Value} {k : Nat} {v : Int64} {l' : Array Slot} (q : Nat) (hd : decode c.code pc = .ok (.lstore k, 2)) (hq : pc + 2 = q) (hl : storeLocals Ls k (.long v) = some l') (K : Go p e below Ev T (mkF m q l' st)) : Go p e below Ev T (mkF m pc Ls (.long v :: st)) := by
  subst hq
  exact K.on fun _ k => XS.lstore X.here hx rfl hd rfl hl k
theorem g_dloadN (X : Stand p l e R s m args below meth c T locs cells slots) (hx : p.tables.exec = Jvm.exec) {pc : Nat} {Ls : Array Slot} {st : List Value} {k : Fin 4} {v : UInt64} (q : Nat) (hd : decode c.code pc = .ok (.dload_n k, 1)) (hq : pc + 1 = q) (hl : Ls[k.val]? = some (.val (.double v))) (K : Go p e below Ev T (mkF m q Ls (.double v :: st))) : Go p e below Ev T (mkF m pc Ls st) := by
  subst hq
  exact K.on fun _ k => XS.dloadN X.here hx rfl hd hl k
theorem g_dload (X : Stand p l e R s m args below meth c T locs cells slots) (hx : p.tables.exec = Jvm.exec) {pc : Nat} {Ls : Array Slot} {st : List Value} {k : Nat} {v : UInt64} (q : Nat) (hd : decode c.code pc = .ok (.dload k, 2)) (hq : pc + 2 = q) (hl : Ls[k]? = some (.val (.double v))) (K : Go p e below Ev T (mkF m q Ls (.double v :: st))) : Go p e below Ev T (mkF m pc Ls st) := by
  subst hq
  exact K.on fun _ k => XS.dload X.here hx rfl hd hl k
theorem g_dstoreN (X : Stand p l e R s m args below meth c T locs cells slots) (hx : p.tables.exec = Jvm.exec) {pc : Nat} {Ls : Array Slot} {st : List Value} {k : Fin 4} {v : UInt64} {l' : Array Slot} (q : Nat) (hd : decode c.code pc = .ok (.dstore_n k, 1)) (hq : pc + 1 = q) (hl : storeLocals Ls k.val (.double v) = some l') (K : Go p e below Ev T (mkF m q l' st)) : Go p e below Ev T (mkF m pc Ls (.double v :: st)) := by
  subst hq
  exact K.on fun _ k => XS.dstoreN X.here hx rfl hd rfl hl k
theorem g_dstore (X : Stand p l e R s m args below meth c T locs cells slots) (hx : p.tables.exec = Jvm.exec) {pc : Nat} {Ls : Array Slot} {st : List Value} {k : Nat} {v : UInt64} {l' : Array Slot} (q : Nat) (hd : decode c.code pc = .ok (.dstore k, 2)) (hq : pc + 2 = q) (hl : storeLocals Ls k (.double v) = some l') (K : Go p e below Ev T (mkF m q l' st)) : Go p e below Ev T (mkF m pc Ls (.double v :: st)) := by
  subst hq
  exact K.on fun _ k => XS.dstore X.here hx rfl hd rfl hl k
theorem g_aloadN (X : Stand p l e R s m args below meth c T locs cells slots) (hx : p.tables.exec = Jvm.exec) {pc : Nat} {Ls : Array Slot} {st : List Value} {k : Fin 4} {v : Value} (q : Nat) (hd : decode c.code pc = .ok (.aload_n k, 1)) (hq : pc + 1 = q) (hl : Ls[k.val]? = some (.val v)) (hv : v.isRef = true) (K : Go p e below Ev T (mkF m q Ls (v :: st))) : Go p e below Ev T (mkF m pc Ls st) := by
  subst hq
  exact K.on fun _ k => XS.aloadN X.here hx rfl hd hl hv k
theorem g_aload (X : Stand p l e R s m args below meth c T locs cells slots) (hx : p.tables.exec = Jvm.exec) {pc : Nat} {Ls : Array Slot} {st : List Value} {k : Nat} {v : Value} (q : Nat) (hd : decode c.code pc = .ok (.aload k, 2)) (hq : pc + 2 = q) (hl : Ls[k]? = some (.val v)) (hv : v.isRef = true) (K : Go p e below Ev T (mkF m q Ls (v :: st))) : Go p e below Ev T (mkF m pc Ls st) := by
  subst hq
  exact K.on fun _ k => XS.aload X.here hx rfl hd hl hv k
theorem g_astoreN (X : Stand p l e R s m args below meth c T locs cells slots) (hx : p.tables.exec = Jvm.exec) {pc : Nat} {Ls : Array Slot} {st : List Value} {k : Fin 4} {v : Value} {l' : Array Slot} (q : Nat) (hd : decode c.code pc = .ok (.astore_n k, 1)) (hq : pc + 1 = q) (hv : v.isRef = true) (hl : storeLocals Ls k.val v = some l') (K : Go p e below Ev T (mkF m q l' st)) : Go p e below Ev T (mkF m pc Ls (v :: st)) := by
  subst hq
  exact K.on fun _ k => XS.astoreN X.here hx rfl hd rfl hv hl k
theorem g_astore (X : Stand p l e R s m args below meth c T locs cells slots) (hx : p.tables.exec = Jvm.exec) {pc : Nat} {Ls : Array Slot} {st : List Value} {k : Nat} {v : Value} {l' : Array Slot} (q : Nat) (hd : decode c.code pc = .ok (.astore k, 2)) (hq : pc + 2 = q) (hv : v.isRef = true) (hl : storeLocals Ls k v = some l') (K : Go p e below Ev T (mkF m q l' st)) : Go p e below Ev T (mkF m pc Ls (v :: st)) := by
  subst hq
  exact K.on fun _ k => XS.astore X.here hx rfl hd rfl hv hl k
theorem g_iconst (X : Stand p l e R s m args below meth c T locs cells slots) (hx : p.tables.exec = Jvm.exec) {pc : Nat} {Ls : Array Slot} {st : List Value} {i : Int} (v : Int32) (q : Nat) (hd : decode c.code pc = .ok (.iconst i, 1)) (hq : pc + 1 = q) (hv : Int32.ofInt i = v) (K : Go p e below Ev T (mkF m q Ls (.int v :: st))) : Go p e below Ev T (mkF m pc Ls st) := by
  subst hq
  exact K.on fun _ k => XT.iconstV X.here hx rfl v hd hv k
theorem g_bipush (X : Stand p l e R s m args below meth c T locs cells slots) (hx : p.tables.exec = Jvm.exec) {pc : Nat} {Ls : Array Slot} {st : List Value} {i : Int} (v : Int32) (q : Nat) (hd : decode c.code pc = .ok (.bipush i, 2)) (hq : pc + 2 = q) (hv : (Int8.ofInt i).toInt32 = v) (K : Go p e below Ev T (mkF m q Ls (.int v :: st))) : Go p e below Ev T (mkF m pc Ls st) := by
  subst hq
  exact K.on fun _ k => XT.bipushV X.here hx rfl v hd hv k
theorem g_sipush (X : Stand p l e R s m args below meth c T locs cells slots) (hx : p.tables.exec = Jvm.exec) {pc : Nat} {Ls : Array Slot} {st : List Value} {i : Int} (v : Int32) (q : Nat) (hd : decode c.code pc = .ok (.sipush i, 3)) (hq : pc + 3 = q) (hv : (Int16.ofInt i).toInt32 = v) (K : Go p e below Ev T (mkF m q Ls (.int v :: st))) : Go p e below Ev T (mkF m pc Ls st) := by
  subst hq
  exact K.on fun _ k => XT.sipushV X.here hx rfl v hd hv k
theorem g_lconst (X : Stand p l e R s m args below meth c T locs cells slots) (hx : p.tables.exec = Jvm.exec) {pc : Nat} {Ls : Array Slot} {st : List Value} {i : Fin 2} (v : Int64) (q : Nat) (hd : decode c.code pc = .ok (.lconst i, 1)) (hq : pc + 1 = q) (hv : Int64.ofNat i = v) (K : Go p e below Ev T (mkF m q Ls (.long v :: st))) : Go p e below Ev T (mkF m pc Ls st) := by
  subst hq
  exact K.on fun _ k => XT.lconstV X.here hx rfl v hd hv k
theorem g_dconst0 (X : Stand p l e R s m args below meth c T locs cells slots) (hx : p.tables.exec = Jvm.exec) {pc : Nat} {Ls : Array Slot} {st : List Value}  (q : Nat) (hd : decode c.code pc = .ok (.dconst 0, 1)) (hq : pc + 1 = q)  (K : Go p e below Ev T (mkF m q Ls (.double 0 :: st))) : Go p e below Ev T (mkF m pc Ls st) := by
  subst hq
  exact K.on fun _ k => XS.dconst0 X.here hx rfl hd rfl k
theorem g_dconst1 (X : Stand p l e R s m args below meth c T locs cells slots) (hx : p.tables.exec = Jvm.exec) {pc : Nat} {Ls : Array Slot} {st : List Value}  (q : Nat) (hd : decode c.code pc = .ok (.dconst 1, 1)) (hq : pc + 1 = q)  (K : Go p e below Ev T (mkF m q Ls (.double 4607182418800017408 :: st))) : Go p e below Ev T (mkF m pc Ls st) := by
  subst hq
  exact K.on fun _ k => XS.dconst1 X.here hx rfl hd rfl k
theorem g_null (X : Stand p l e R s m args below meth c T locs cells slots) (hx : p.tables.exec = Jvm.exec) {pc : Nat} {Ls : Array Slot} {st : List Value}  (q : Nat) (hd : decode c.code pc = .ok (.aconst_null, 1)) (hq : pc + 1 = q)  (K : Go p e below Ev T (mkF m q Ls (.null :: st))) : Go p e below Ev T (mkF m pc Ls st) := by
  subst hq
  exact K.on fun _ k => XS.aconstNull X.here hx rfl hd k
theorem g_iinc (X : Stand p l e R s m args below meth c T locs cells slots) (hx : p.tables.exec = Jvm.exec) {pc : Nat} {Ls : Array Slot} {st : List Value} {k : Nat} {i : Int} {v w : Int32} {l' : Array Slot} (q : Nat) (hd : decode c.code pc = .ok (.iinc k i, 3)) (hq : pc + 3 = q) (hl : Ls[k]? = some (.val (.int v))) (hv : Int32.ofInt i = w) (hl' : storeLocals Ls k (.int (v + w)) = some l') (K : Go p e below Ev T (mkF m q l' st)) : Go p e below Ev T (mkF m pc Ls st) := by
  subst hq
  exact K.on fun _ k => XT.iincV X.here hx rfl w hd hv hl hl' k
theorem g_iadd (X : Stand p l e R s m args below meth c T locs cells slots) (hx : p.tables.exec = Jvm.exec) {pc : Nat} {Ls : Array Slot} {st : List Value} {x y : Int32} (q : Nat) (hd : decode c.code pc = .ok (.iadd, 1)) (hq : pc + 1 = q)  (K : Go p e below Ev T (mkF m q Ls (.int (x + y) :: st))) : Go p e below Ev T (mkF m pc Ls (.int y :: .int x :: st)) := by
  subst hq
  exact K.on fun _ k => XS.iadd X.here hx rfl hd rfl k
theorem g_ladd (X : Stand p l e R s m args below meth c T locs cells slots) (hx : p.tables.exec = Jvm.exec) {pc : Nat} {Ls : Array Slot} {st : List Value} {x y : Int64} (q : Nat) (hd : decode c.code pc = .ok (.ladd, 1)) (hq : pc + 1 = q)  (K : Go p e below Ev T (mkF m q Ls (.long (x + y) :: st))) : Go p e below Ev T (mkF m pc Ls (.long y :: .long x :: st)) := by
  subst hq
  exact K.on fun _ k => XS.ladd X.here hx rfl hd rfl k
theorem g_isub (X : Stand p l e R s m args below meth c T locs cells slots) (hx : p.tables.exec = Jvm.exec) {pc : Nat} {Ls : Array Slot} {st : List Value} {x y : Int32} (q : Nat) (hd : decode c.code pc = .ok (.isub, 1)) (hq : pc + 1 = q)  (K : Go p e below Ev T (mkF m q Ls (.int (x - y) :: st))) : Go p e below Ev T (mkF m pc Ls (.int y :: .int x :: st)) := by
  subst hq
  exact K.on fun _ k => XS.isub X.here hx rfl hd rfl k
theorem g_lsub (X : Stand p l e R s m args below meth c T locs cells slots) (hx : p.tables.exec = Jvm.exec) {pc : Nat} {Ls : Array Slot} {st : List Value} {x y : Int64} (q : Nat) (hd : decode c.code pc = .ok (.lsub, 1)) (hq : pc + 1 = q)  (K : Go p e below Ev T (mkF m q Ls (.long (x - y) :: st))) : Go p e below Ev T (mkF m pc Ls (.long y :: .long x :: st)) := by
  subst hq
  exact K.on fun _ k => XS.lsub X.here hx rfl hd rfl k
theorem g_imul (X : Stand p l e R s m args below meth c T locs cells slots) (hx : p.tables.exec = Jvm.exec) {pc : Nat} {Ls : Array Slot} {st : List Value} {x y : Int32} (q : Nat) (hd : decode c.code pc = .ok (.imul, 1)) (hq : pc + 1 = q)  (K : Go p e below Ev T (mkF m q Ls (.int (x * y) :: st))) : Go p e below Ev T (mkF m pc Ls (.int y :: .int x :: st)) := by
  subst hq
  exact K.on fun _ k => XS.imul X.here hx rfl hd rfl k
theorem g_lmul (X : Stand p l e R s m args below meth c T locs cells slots) (hx : p.tables.exec = Jvm.exec) {pc : Nat} {Ls : Array Slot} {st : List Value} {x y : Int64} (q : Nat) (hd : decode c.code pc = .ok (.lmul, 1)) (hq : pc + 1 = q)  (K : Go p e below Ev T (mkF m q Ls (.long (x * y) :: st))) : Go p e below Ev T (mkF m pc Ls (.long y :: .long x :: st)) := by
  subst hq
  exact K.on fun _ k => XS.lmul X.here hx rfl hd rfl k
theorem g_iand (X : Stand p l e R s m args below meth c T locs cells slots) (hx : p.tables.exec = Jvm.exec) {pc : Nat} {Ls : Array Slot} {st : List Value} {x y : Int32} (q : Nat) (hd : decode c.code pc = .ok (.iand, 1)) (hq : pc + 1 = q)  (K : Go p e below Ev T (mkF m q Ls (.int (x &&& y) :: st))) : Go p e below Ev T (mkF m pc Ls (.int y :: .int x :: st)) := by
  subst hq
  exact K.on fun _ k => XS.iand X.here hx rfl hd rfl k
theorem g_land (X : Stand p l e R s m args below meth c T locs cells slots) (hx : p.tables.exec = Jvm.exec) {pc : Nat} {Ls : Array Slot} {st : List Value} {x y : Int64} (q : Nat) (hd : decode c.code pc = .ok (.land, 1)) (hq : pc + 1 = q)  (K : Go p e below Ev T (mkF m q Ls (.long (x &&& y) :: st))) : Go p e below Ev T (mkF m pc Ls (.long y :: .long x :: st)) := by
  subst hq
  exact K.on fun _ k => XS.land X.here hx rfl hd rfl k
theorem g_ior (X : Stand p l e R s m args below meth c T locs cells slots) (hx : p.tables.exec = Jvm.exec) {pc : Nat} {Ls : Array Slot} {st : List Value} {x y : Int32} (q : Nat) (hd : decode c.code pc = .ok (.ior, 1)) (hq : pc + 1 = q)  (K : Go p e below Ev T (mkF m q Ls (.int (x ||| y) :: st))) : Go p e below Ev T (mkF m pc Ls (.int y :: .int x :: st)) := by
  subst hq
  exact K.on fun _ k => XS.ior X.here hx rfl hd rfl k
theorem g_lor (X : Stand p l e R s m args below meth c T locs cells slots) (hx : p.tables.exec = Jvm.exec) {pc : Nat} {Ls : Array Slot} {st : List Value} {x y : Int64} (q : Nat) (hd : decode c.code pc = .ok (.lor, 1)) (hq : pc + 1 = q)  (K : Go p e below Ev T (mkF m q Ls (.long (x ||| y) :: st))) : Go p e below Ev T (mkF m pc Ls (.long y :: .long x :: st)) := by
  subst hq
  exact K.on fun _ k => XS.lor X.here hx rfl hd rfl k
theorem g_ixor (X : Stand p l e R s m args below meth c T locs cells slots) (hx : p.tables.exec = Jvm.exec) {pc : Nat} {Ls : Array Slot} {st : List Value} {x y : Int32} (q : Nat) (hd : decode c.code pc = .ok (.ixor, 1)) (hq : pc + 1 = q)  (K : Go p e below Ev T (mkF m q Ls (.int (x ^^^ y) :: st))) : Go p e below Ev T (mkF m pc Ls (.int y :: .int x :: st)) := by
  subst hq
  exact K.on fun _ k => XS.ixor X.here hx rfl hd rfl k
theorem g_lxor (X : Stand p l e R s m args below meth c T locs cells slots) (hx : p.tables.exec = Jvm.exec) {pc : Nat} {Ls : Array Slot} {st : List Value} {x y : Int64} (q : Nat) (hd : decode c.code pc = .ok (.lxor, 1)) (hq : pc + 1 = q)  (K : Go p e below Ev T (mkF m q Ls (.long (x ^^^ y) :: st))) : Go p e below Ev T (mkF m pc Ls (.long y :: .long x :: st)) := by
  subst hq
  exact K.on fun _ k => XS.lxor X.here hx rfl hd rfl k
theorem g_idiv (X : Stand p l e R s m args below meth c T locs cells slots) (hx : p.tables.exec = Jvm.exec) {pc : Nat} {Ls : Array Slot} {st : List Value} {x y : Int32} (q : Nat) (hd : decode c.code pc = .ok (.idiv, 1)) (hq : pc + 1 = q) (hy : y ≠ 0) (K : Go p e below Ev T (mkF m q Ls (.int (x / y) :: st))) : Go p e below Ev T (mkF m pc Ls (.int y :: .int x :: st)) := by
  subst hq
  exact K.on fun _ k => XS.idiv X.here hx rfl hd rfl hy k
theorem g_ineg (X : Stand p l e R s m args below meth c T locs cells slots) (hx : p.tables.exec = Jvm.exec) {pc : Nat} {Ls : Array Slot} {st : List Value} {x : Int32} (q : Nat) (hd : decode c.code pc = .ok (.ineg, 1)) (hq : pc + 1 = q)  (K : Go p e below Ev T (mkF m q Ls (.int (-x) :: st))) : Go p e below Ev T (mkF m pc Ls (.int x :: st)) := by
  subst hq
  exact K.on fun _ k => XS.ineg X.here hx rfl hd rfl k
theorem g_ldiv (X : Stand p l e R s m args below meth c T locs cells slots) (hx : p.tables.exec = Jvm.exec) {pc : Nat} {Ls : Array Slot} {st : List Value} {x y : Int64} (q : Nat) (hd : decode c.code pc = .ok (.ldiv, 1)) (hq : pc + 1 = q) (hy : y ≠ 0) (K : Go p e below Ev T (mkF m q Ls (.long (x / y) :: st))) : Go p e below Ev T (mkF m pc Ls (.long y :: .long x :: st)) := by
  subst hq
  exact K.on fun _ k => XS.ldiv X.here hx rfl hd rfl hy k
theorem g_lneg (X : Stand p l e R s m args below meth c T locs cells slots) (hx : p.tables.exec = Jvm.exec) {pc : Nat} {Ls : Array Slot} {st : List Value} {x : Int64} (q : Nat) (hd : decode c.code pc = .ok (.lneg, 1)) (hq : pc + 1 = q)  (K : Go p e below Ev T (mkF m q Ls (.long (-x) :: st))) : Go p e below Ev T (mkF m pc Ls (.long x :: st)) := by
  subst hq
  exact K.on fun _ k => XS.lneg X.here hx rfl hd rfl k
theorem g_irem (X : Stand p l e R s m args below meth c T locs cells slots) (hx : p.tables.exec = Jvm.exec) {pc : Nat} {Ls : Array Slot} {st : List Value} {x y : Int32} (q : Nat) (hd : decode c.code pc = .ok (.irem, 1)) (hq : pc + 1 = q) (hy : y ≠ 0) (K : Go p e below Ev T (mkF m q Ls (.int (x % y) :: st))) : Go p e below Ev T (mkF m pc Ls (.int y :: .int x :: st)) := by
  subst hq
  exact K.on fun _ k => iremM X hx rfl hd rfl hy k
theorem g_lrem (X : Stand p l e R s m args below meth c T locs cells slots) (hx : p.tables.exec = Jvm.exec) {pc : Nat} {Ls : Array Slot} {st : List Value} {x y : Int64} (q : Nat) (hd : decode c.code pc = .ok (.lrem, 1)) (hq : pc + 1 = q) (hy : y ≠ 0) (K : Go p e below Ev T (mkF m q Ls (.long (x - (x / y) * y) :: st))) : Go p e below Ev T (mkF m pc Ls (.long y :: .long x :: st)) := by
  subst hq
  exact K.on fun _ k => XS.lrem X.here hx rfl hd rfl hy k
theorem g_ishl (X : Stand p l e R s m args below meth c T locs cells slots) (hx : p.tables.exec = Jvm.exec) {pc : Nat} {Ls : Array Slot} {st : List Value} {x y : Int32} (q : Nat) (hd : decode c.code pc = .ok (.ishl, 1)) (hq : pc + 1 = q)  (K : Go p e below Ev T (mkF m q Ls (.int (x <<< (y &&& 31)) :: st))) : Go p e below Ev T (mkF m pc Ls (.int y :: .int x :: st)) := by
  subst hq
  exact K.on fun _ k => XS.ishl X.here hx rfl hd rfl k
theorem g_ishr (X : Stand p l e R s m args below meth c T locs cells slots) (hx : p.tables.exec = Jvm.exec) {pc : Nat} {Ls : Array Slot} {st : List Value} {x y : Int32} (q : Nat) (hd : decode c.code pc = .ok (.ishr, 1)) (hq : pc + 1 = q)  (K : Go p e below Ev T (mkF m q Ls (.int (x >>> (y &&& 31)) :: st))) : Go p e below Ev T (mkF m pc Ls (.int y :: .int x :: st)) := by
  subst hq
  exact K.on fun _ k => XS.ishr X.here hx rfl hd rfl k
theorem g_iushr (X : Stand p l e R s m args below meth c T locs cells slots) (hx : p.tables.exec = Jvm.exec) {pc : Nat} {Ls : Array Slot} {st : List Value} {x y : Int32} (q : Nat) (hd : decode c.code pc = .ok (.iushr, 1)) (hq : pc + 1 = q)  (K : Go p e below Ev T (mkF m q Ls (.int ((x.toUInt32 >>> (y &&& 31).toUInt32).toInt32) :: st))) : Go p e below Ev T (mkF m pc Ls (.int y :: .int x :: st)) := by
  subst hq
  exact K.on fun _ k => XS.iushr X.here hx rfl hd rfl k
theorem g_lshl (X : Stand p l e R s m args below meth c T locs cells slots) (hx : p.tables.exec = Jvm.exec) {pc : Nat} {Ls : Array Slot} {st : List Value} {x : Int64} {y : Int32} (q : Nat) (hd : decode c.code pc = .ok (.lshl, 1)) (hq : pc + 1 = q)  (K : Go p e below Ev T (mkF m q Ls (.long (x <<< (y &&& 0x3f).toInt64) :: st))) : Go p e below Ev T (mkF m pc Ls (.int y :: .long x :: st)) := by
  subst hq
  exact K.on fun _ k => XS.lshl X.here hx rfl hd rfl k
theorem g_lshr (X : Stand p l e R s m args below meth c T locs cells slots) (hx : p.tables.exec = Jvm.exec) {pc : Nat} {Ls : Array Slot} {st : List Value} {x : Int64} {y : Int32} (q : Nat) (hd : decode c.code pc = .ok (.lshr, 1)) (hq : pc + 1 = q)  (K : Go p e below Ev T (mkF m q Ls (.long (x >>> (y &&& 0x3f).toInt64) :: st))) : Go p e below Ev T (mkF m pc Ls (.int y :: .long x :: st)) := by
  subst hq
  exact K.on fun _ k => XS.lshr X.here hx rfl hd rfl k
theorem g_lushr (X : Stand p l e R s m args below meth c T locs cells slots) (hx : p.tables.exec = Jvm.exec) {pc : Nat} {Ls : Array Slot} {st : List Value} {x : Int64} {y : Int32} (q : Nat) (hd : decode c.code pc = .ok (.lushr, 1)) (hq : pc + 1 = q)  (K : Go p e below Ev T (mkF m q Ls (.long ((x.toUInt64 >>> (y &&& 0x3f).toInt64.toUInt64).toInt64) :: st))) : Go p e below Ev T (mkF m pc Ls (.int y :: .long x :: st)) := by
  subst hq
  exact K.on fun _ k => XS.lushr X.here hx rfl hd rfl k
theorem g_i2l (X : Stand p l e R s m args below meth c T locs cells slots) (hx : p.tables.exec = Jvm.exec) {pc : Nat} {Ls : Array Slot} {st : List Value} {x : Int32} (q : Nat) (hd : decode c.code pc = .ok (.i2l, 1)) (hq : pc + 1 = q)  (K : Go p e below Ev T (mkF m q Ls (.long (x.toInt64) :: st))) : Go p e below Ev T (mkF m pc Ls (.int x :: st)) := by
  subst hq
  exact K.on fun _ k => XS.i2l X.here hx rfl hd rfl k
theorem g_l2i (X : Stand p l e R s m args below meth c T locs cells slots) (hx : p.tables.exec = Jvm.exec) {pc : Nat} {Ls : Array Slot} {st : List Value} {x : Int64} (q : Nat) (hd : decode c.code pc = .ok (.l2i, 1)) (hq : pc + 1 = q)  (K : Go p e below Ev T (mkF m q Ls (.int (x.toInt32) :: st))) : Go p e below Ev T (mkF m pc Ls (.long x :: st)) := by
  subst hq
  exact K.on fun _ k => XS.l2i X.here hx rfl hd rfl k
theorem g_i2b (X : Stand p l e R s m args below meth c T locs cells slots) (hx : p.tables.exec = Jvm.exec) {pc : Nat} {Ls : Array Slot} {st : List Value} {x : Int32} (q : Nat) (hd : decode c.code pc = .ok (.i2b, 1)) (hq : pc + 1 = q)  (K : Go p e below Ev T (mkF m q Ls (.int (x.toInt8.toInt32) :: st))) : Go p e below Ev T (mkF m pc Ls (.int x :: st)) := by
  subst hq
  exact K.on fun _ k => XS.i2b X.here hx rfl hd rfl k
theorem g_i2s (X : Stand p l e R s m args below meth c T locs cells slots) (hx : p.tables.exec = Jvm.exec) {pc : Nat} {Ls : Array Slot} {st : List Value} {x : Int32} (q : Nat) (hd : decode c.code pc = .ok (.i2s, 1)) (hq : pc + 1 = q)  (K : Go p e below Ev T (mkF m q Ls (.int (x.toInt16.toInt32) :: st))) : Go p e below Ev T (mkF m pc Ls (.int x :: st)) := by
  subst hq
  exact K.on fun _ k => XS.i2s X.here hx rfl hd rfl k
theorem g_i2c (X : Stand p l e R s m args below meth c T locs cells slots) (hx : p.tables.exec = Jvm.exec) {pc : Nat} {Ls : Array Slot} {st : List Value} {x : Int32} (q : Nat) (hd : decode c.code pc = .ok (.i2c, 1)) (hq : pc + 1 = q)  (K : Go p e below Ev T (mkF m q Ls (.int (x.toUInt32.toUInt16.toUInt32.toInt32) :: st))) : Go p e below Ev T (mkF m pc Ls (.int x :: st)) := by
  subst hq
  exact K.on fun _ k => XS.i2c X.here hx rfl hd rfl k
theorem g_lcmp (X : Stand p l e R s m args below meth c T locs cells slots) (hx : p.tables.exec = Jvm.exec) {pc : Nat} {Ls : Array Slot} {st : List Value} {x y : Int64} (q : Nat) (hd : decode c.code pc = .ok (.lcmp, 1)) (hq : pc + 1 = q)  (K : Go p e below Ev T (mkF m q Ls (.int (lcmpW x y) :: st))) : Go p e below Ev T (mkF m pc Ls (.long y :: .long x :: st)) := by
  subst hq
  exact K.on fun _ k => XS.lcmp X.here hx rfl hd rfl k
theorem g_i2d (X : Stand p l e R s m args below meth c T locs cells slots) (hx : p.tables.exec = Jvm.exec) {pc : Nat} {Ls : Array Slot} {st : List Value} {x : Int32} (q : Nat) (hd : decode c.code pc = .ok (.i2d, 1)) (hq : pc + 1 = q)  (K : Go p e below Ev T (mkF m q Ls (.double (FP.i2d x) :: st))) : Go p e below Ev T (mkF m pc Ls (.int x :: st)) := by
  subst hq
  exact K.on fun _ k => XS.i2dS X.here hx rfl hd rfl rfl k
theorem g_l2d (X : Stand p l e R s m args below meth c T locs cells slots) (hx : p.tables.exec = Jvm.exec) {pc : Nat} {Ls : Array Slot} {st : List Value} {x : Int64} (q : Nat) (hd : decode c.code pc = .ok (.l2d, 1)) (hq : pc + 1 = q)  (K : Go p e below Ev T (mkF m q Ls (.double (FP.l2d x) :: st))) : Go p e below Ev T (mkF m pc Ls (.long x :: st)) := by
  subst hq
  exact K.on fun _ k => XS.l2dS X.here hx rfl hd rfl rfl k
theorem g_dneg (X : Stand p l e R s m args below meth c T locs cells slots) (hx : p.tables.exec = Jvm.exec) {pc : Nat} {Ls : Array Slot} {st : List Value} {x : UInt64} (q : Nat) (hd : decode c.code pc = .ok (.dneg, 1)) (hq : pc + 1 = q)  (K : Go p e below Ev T (mkF m q Ls (.double (FP.dneg x) :: st))) : Go p e below Ev T (mkF m pc Ls (.double x :: st)) := by
  subst hq
  exact K.on fun _ k => XS.dnegS X.here hx rfl hd rfl rfl k
theorem g_dadd (X : Stand p l e R s m args below meth c T locs cells slots) (hx : p.tables.exec = Jvm.exec) {pc : Nat} {Ls : Array Slot} {st : List Value} {x y : UInt64} (q : Nat) (hd : decode c.code pc = .ok (.dadd, 1)) (hq : pc + 1 = q) (hn : Jvm.Free.Fl.NoNaN64 (FP.dadd x y)) (K : Go p e below Ev T (mkF m q Ls (.double (FP.dadd x y) :: st))) : Go p e below Ev T (mkF m pc Ls (.double y :: .double x :: st)) := by
  subst hq
  exact K.on fun _ k => XS.daddS X.here hx rfl hd rfl hn rfl k
theorem g_dsub (X : Stand p l e R s m args below meth c T locs cells slots) (hx : p.tables.exec = Jvm.exec) {pc : Nat} {Ls : Array Slot} {st : List Value} {x y : UInt64} (q : Nat) (hd : decode c.code pc = .ok (.dsub, 1)) (hq : pc + 1 = q) (hn : Jvm.Free.Fl.NoNaN64 (FP.dsub x y)) (K : Go p e below Ev T (mkF m q Ls (.double (FP.dsub x y) :: st))) : Go p e below Ev T (mkF m pc Ls (.double y :: .double x :: st)) := by
  subst hq
  exact K.on fun _ k => XS.dsubS X.here hx rfl hd rfl hn rfl k
theorem g_dmul (X : Stand p l e R s m args below meth c T locs cells slots) (hx : p.tables.exec = Jvm.exec) {pc : Nat} {Ls : Array Slot} {st : List Value} {x y : UInt64} (q : Nat) (hd : decode c.code pc = .ok (.dmul, 1)) (hq : pc + 1 = q) (hn : Jvm.Free.Fl.NoNaN64 (FP.dmul x y)) (K : Go p e below Ev T (mkF m q Ls (.double (FP.dmul x y) :: st))) : Go p e below Ev T (mkF m pc Ls (.double y :: .double x :: st)) := by
  subst hq
  exact K.on fun _ k => XS.dmulS X.here hx rfl hd rfl hn rfl k
theorem g_ddiv (X : Stand p l e R s m args below meth c T locs cells slots) (hx : p.tables.exec = Jvm.exec) {pc : Nat} {Ls : Array Slot} {st : List Value} {x y : UInt64} (q : Nat) (hd : decode c.code pc = .ok (.ddiv, 1)) (hq : pc + 1 = q) (hn : Jvm.Free.Fl.NoNaN64 (FP.ddiv x y)) (K : Go p e below Ev T (mkF m q Ls (.double (FP.ddiv x y) :: st))) : Go p e below Ev T (mkF m pc Ls (.double y :: .double x :: st)) := by
  subst hq
  exact K.on fun _ k => XS.ddivS X.here hx rfl hd rfl hn rfl k
theorem g_dcmp (X : Stand p l e R s m args below meth c T locs cells slots) (hx : p.tables.exec = Jvm.exec) {pc : Nat} {Ls : Array Slot} {st : List Value} {x y : UInt64} {o : CmpOp} {r : Int32} (q : Nat) (hd : decode c.code pc = .ok (.dcmp o, 1)) (hq : pc + 1 = q) (hr : cmpValue (FP.dcmp x y) o = r) (K : Go p e below Ev T (mkF m q Ls (.int r :: st))) : Go p e below Ev T (mkF m pc Ls (.double y :: .double x :: st)) := by
  subst hq
  exact K.on fun _ k => XS.dcmpS X.here hx rfl hd rfl hr k
theorem g_dup (X : Stand p l e R s m args below meth c T locs cells slots) (hx : p.tables.exec = Jvm.exec) {pc : Nat} {Ls : Array Slot} {st : List Value} {x : Value} (q : Nat) (hd : decode c.code pc = .ok (.dup, 1)) (hq : pc + 1 = q) (hc : x.category = 1) (K : Go p e below Ev T (mkF m q Ls (x :: x :: st))) : Go p e below Ev T (mkF m pc Ls (x :: st)) := by
  subst hq
  exact K.on fun _ k => XS.dup X.here hx rfl hd rfl hc k
theorem g_pop (X : Stand p l e R s m args below meth c T locs cells slots) (hx : p.tables.exec = Jvm.exec) {pc : Nat} {Ls : Array Slot} {st : List Value} {x : Value} (q : Nat) (hd : decode c.code pc = .ok (.pop, 1)) (hq : pc + 1 = q) (hc : x.category = 1) (K : Go p e below Ev T (mkF m q Ls st)) : Go p e below Ev T (mkF m pc Ls (x :: st)) := by
  subst hq
  exact K.on fun _ k => XS.pop X.here hx rfl hd rfl hc k
theorem g_dupX1 (X : Stand p l e R s m args below meth c T locs cells slots) (hx : p.tables.exec = Jvm.exec) {pc : Nat} {Ls : Array Slot} {st : List Value} {x y : Value} (q : Nat) (hd : decode c.code pc = .ok (.dup_x1, 1)) (hq : pc + 1 = q) (hc : x.category = 1) (hc' : y.category = 1) (K : Go p e below Ev T (mkF m q Ls (x :: y :: x :: st))) : Go p e below Ev T (mkF m pc Ls (x :: y :: st)) := by
  subst hq
  exact K.on fun _ k => XS.dupX1 X.here hx rfl hd rfl hc hc' k
theorem g_dup2 (X : Stand p l e R s m args below meth c T locs cells slots) (hx : p.tables.exec = Jvm.exec) {pc : Nat} {Ls : Array Slot} {st : List Value} {x y : Value} (q : Nat) (hd : decode c.code pc = .ok (.dup2, 1)) (hq : pc + 1 = q) (hc : x.category = 1) (hc' : y.category = 1) (K : Go p e below Ev T (mkF m q Ls (x :: y :: x :: y :: st))) : Go p e below Ev T (mkF m pc Ls (x :: y :: st)) := by
  subst hq
  exact K.on fun _ k => XT.dup2 X.here hx rfl hd rfl hc hc' k
theorem g_pop2 (X : Stand p l e R s m args below meth c T locs cells slots) (hx : p.tables.exec = Jvm.exec) {pc : Nat} {Ls : Array Slot} {st : List Value} {x : Value} (q : Nat) (hd : decode c.code pc = .ok (.pop2, 1)) (hq : pc + 1 = q) (hc : x.category = 2) (K : Go p e below Ev T (mkF m q Ls st)) : Go p e below Ev T (mkF m pc Ls (x :: st)) := by
  subst hq
  refine K.on fun t k => ?_
  jvm_step X.here [X.here.top, hx, hd, Op.pop2.wp_sem, hc]
  exact k
theorem g_ldcI (X : Stand p l e R s m args below meth c T locs cells slots) (hx : p.tables.exec = Jvm.exec) {pc : Nat} {Ls : Array Slot} {st : List Value} {own : String} {i : Nat} {v : Int32} (q : Nat) (hZ : Z.Warmed39 s.vm) (hown : s.vm.findClass own = some m.cls) (w : (Jvm.Cond.constant own i v).before a0 Z = true) (hd : decode c.code pc = .ok (.ldc i, 2)) (hq : pc + 2 = q) (K : Go p e below Ev T (mkF m q Ls (.int v :: st))) : Go p e below Ev T (mkF m pc Ls st) := by
  subst hq
  exact K.on fun _ k => X.ldcI hx hown (mvT hZ w) rfl hd k
theorem g_ldcWI (X : Stand p l e R s m args below meth c T locs cells slots) (hx : p.tables.exec = Jvm.exec) {pc : Nat} {Ls : Array Slot} {st : List Value} {own : String} {i : Nat} {v : Int32} (q : Nat) (hZ : Z.Warmed39 s.vm) (hown : s.vm.findClass own = some m.cls) (w : (Jvm.Cond.constant own i v).before a0 Z = true) (hd : decode c.code pc = .ok (.ldc_w i, 3)) (hq : pc + 3 = q) (K : Go p e below Ev T (mkF m q Ls (.int v :: st))) : Go p e below Ev T (mkF m pc Ls st) := by
  subst hq
  exact K.on fun _ k => X.ldcWI hx hown (mvT hZ w) rfl hd k
theorem g_ldc2J (X : Stand p l e R s m args below meth c T locs cells slots) (hx : p.tables.exec = Jvm.exec) {pc : Nat} {Ls : Array Slot} {st : List Value} {own : String} {i : Nat} {v : Int64} (q : Nat) (hZ : Z.Warmed39 s.vm) (hown : s.vm.findClass own = some m.cls) (w : (Jvm.Cond.constantLong own i v).before a0 Z = true) (hd : decode c.code pc = .ok (.ldc2_w i, 3)) (hq : pc + 3 = q) (K : Go p e below Ev T (mkF m q Ls (.long v :: st))) : Go p e below Ev T (mkF m pc Ls st) := by
  subst hq
  exact K.on fun _ k => X.ldc2J hx hown (mvT hZ w) rfl hd k
theorem g_ldc2D (X : Stand p l e R s m args below meth c T locs cells slots) (hx : p.tables.exec = Jvm.exec) {pc : Nat} {Ls : Array Slot} {st : List Value} {own : String} {i : Nat} {v : UInt64} (q : Nat) (hZ : Z.Warmed39 s.vm) (hown : s.vm.findClass own = some m.cls) (w : (Jvm.Cond.constantDouble own i v).before a0 Z = true) (hd : decode c.code pc = .ok (.ldc2_w i, 3)) (hq : pc + 3 = q) (K : Go p e below Ev T (mkF m q Ls (.double v :: st))) : Go p e below Ev T (mkF m pc Ls st) := by
  subst hq
  exact K.on (X.ldc2DoubleC hx hown (mvT hZ w) (g := mkF m pc Ls st) rfl hd)
theorem g_goto (X : Stand p l e R s m args below meth c T locs cells slots) (hx : p.tables.exec = Jvm.exec) {pc : Nat} {Ls : Array Slot} {st : List Value} {o : Int} (q : Nat) (hd : decode c.code pc = .ok (.goto o, 3)) (ho : 0 ≤ (pc : Int) + o) (hq : ((pc : Int) + o).toNat = q) (K : Go p e below Ev T (mkF m q Ls st)) : Go p e below Ev T (mkF m pc Ls st) :=
  K.on fun _ k => XS.goto X.here hx rfl rfl hd ho hq k
theorem own_i0 (x : Int32) : (x < 0 ↔ x.toInt < 0) ∧ (0 < x ↔ 0 < x.toInt) ∧ (x = 0 ↔ x.toInt = 0) := by
  refine ⟨by rw [Int32.lt_iff_toInt_lt]; simp, by rw [Int32.lt_iff_toInt_lt]; simp, ?_⟩
  rw [← Int32.toInt_inj]; simp
theorem g_if_eq (X : Stand p l e R s m args below meth c T locs cells slots) (hx : p.tables.exec = Jvm.exec) {pc : Nat} {Ls : Array Slot} {st : List Value} {x : Int32} {o : Int} (q1 q2 : Nat) (hd : decode c.code pc = .ok (.ifCond .eq o, 3)) (ho : 0 ≤ (pc : Int) + o) (h1 : ((pc : Int) + o).toNat = q1) (h2 : pc + 3 = q2) (Kt : x.toInt = 0 → Go p e below Ev T (mkF m q1 Ls st)) (Kf : x.toInt ≠ 0 → Go p e below Ev T (mkF m q2 Ls st)) : Go p e below Ev T (mkF m pc Ls (.int x :: st)) := by
  have Q := own_i0 x
  by_cases hc : x = 0
  · exact (Kt (by first | omega | (simp only [Q] at hc; omega))).on fun _ k => XS.ifYes X.here hx rfl rfl hd rfl (XT.i0_eq_t (by simpa using hc)) ho h1 k
  · subst h2
    exact (Kf (by first | omega | (simp only [Q] at hc; omega))).on fun _ k => XS.ifNo X.here hx rfl hd rfl (XT.i0_eq_f (by simpa using hc)) k
theorem g_if_ne (X : Stand p l e R s m args below meth c T locs cells slots) (hx : p.tables.exec = Jvm.exec) {pc : Nat} {Ls : Array Slot} {st : List Value} {x : Int32} {o : Int} (q1 q2 : Nat) (hd : decode c.code pc = .ok (.ifCond .ne o, 3)) (ho : 0 ≤ (pc : Int) + o) (h1 : ((pc : Int) + o).toNat = q1) (h2 : pc + 3 = q2) (Kt : x.toInt ≠ 0 → Go p e below Ev T (mkF m q1 Ls st)) (Kf : x.toInt = 0 → Go p e below Ev T (mkF m q2 Ls st)) : Go p e below Ev T (mkF m pc Ls (.int x :: st)) := by
  have Q := own_i0 x
  by_cases hc : ¬ x = 0
  · exact (Kt (by first | omega | (simp only [Q] at hc; omega))).on fun _ k => XS.ifYes X.here hx rfl rfl hd rfl (XT.i0_ne_t (by simpa using hc)) ho h1 k
  · subst h2
    exact (Kf (by first | omega | (simp only [Q] at hc; omega))).on fun _ k => XS.ifNo X.here hx rfl hd rfl (XT.i0_ne_f (by simpa using hc)) k
theorem g_if_lt (X : Stand p l e R s m args below meth c T locs cells slots) (hx : p.tables.exec = Jvm.exec) {pc : Nat} {Ls : Array Slot} {st : List Value} {x : Int32} {o : Int} (q1 q2 : Nat) (hd : decode c.code pc = .ok (.ifCond .lt o, 3)) (ho : 0 ≤ (pc : Int) + o) (h1 : ((pc : Int) + o).toNat = q1) (h2 : pc + 3 = q2) (Kt : x.toInt < 0 → Go p e below Ev T (mkF m q1 Ls st)) (Kf : 0 ≤ x.toInt → Go p e below Ev T (mkF m q2 Ls st)) : Go p e below Ev T (mkF m pc Ls (.int x :: st)) := by
  have Q := own_i0 x
  by_cases hc : x < 0
  · exact (Kt (by first | omega | (simp only [Q] at hc; omega))).on fun _ k => XS.ifYes X.here hx rfl rfl hd rfl (XT.i0_lt_t (by simpa using hc)) ho h1 k
  · subst h2
    exact (Kf (by first | omega | (simp only [Q] at hc; omega))).on fun _ k => XS.ifNo X.here hx rfl hd rfl (XT.i0_lt_f (by simpa using hc)) k
theorem g_if_ge (X : Stand p l e R s m args below meth c T locs cells slots) (hx : p.tables.exec = Jvm.exec) {pc : Nat} {Ls : Array Slot} {st : List Value} {x : Int32} {o : Int} (q1 q2 : Nat) (hd : decode c.code pc = .ok (.ifCond .ge o, 3)) (ho : 0 ≤ (pc : Int) + o) (h1 : ((pc : Int) + o).toNat = q1) (h2 : pc + 3 = q2) (Kt : 0 ≤ x.toInt → Go p e below Ev T (mkF m q1 Ls st)) (Kf : x.toInt < 0 → Go p e below Ev T (mkF m q2 Ls st)) : Go p e below Ev T (mkF m pc Ls (.int x :: st)) := by
  have Q := own_i0 x
  by_cases hc : ¬ x < 0
  · exact (Kt (by first | omega | (simp only [Q] at hc; omega))).on fun _ k => XS.ifYes X.here hx rfl rfl hd rfl (XT.i0_ge_t (by simpa using hc)) ho h1 k
  · subst h2
    exact (Kf (by first | omega | (simp only [Q] at hc; omega))).on fun _ k => XS.ifNo X.here hx rfl hd rfl (XT.i0_ge_f (by simpa using hc)) k
theorem g_if_gt (X : Stand p l e R s m args below meth c T locs cells slots) (hx : p.tables.exec = Jvm.exec) {pc : Nat} {Ls : Array Slot} {st : List Value} {x : Int32} {o : Int} (q1 q2 : Nat) (hd : decode c.code pc = .ok (.ifCond .gt o, 3)) (ho : 0 ≤ (pc : Int) + o) (h1 : ((pc : Int) + o).toNat = q1) (h2 : pc + 3 = q2) (Kt : 0 < x.toInt → Go p e below Ev T (mkF m q1 Ls st)) (Kf : x.toInt ≤ 0 → Go p e below Ev T (mkF m q2 Ls st)) : Go p e below Ev T (mkF m pc Ls (.int x :: st)) := by
  have Q := own_i0 x
  by_cases hc : 0 < x
  · exact (Kt (by first | omega | (simp only [Q] at hc; omega))).on fun _ k => XS.ifYes X.here hx rfl rfl hd rfl (XT.i0_gt_t (by simpa using hc)) ho h1 k
  · subst h2
    exact (Kf (by first | omega | (simp only [Q] at hc; omega))).on fun _ k => XS.ifNo X.here hx rfl hd rfl (XT.i0_gt_f (by simpa using hc)) k
theorem g_if_le (X : Stand p l e R s m args below meth c T locs cells slots) (hx : p.tables.exec = Jvm.exec) {pc : Nat} {Ls : Array Slot} {st : List Value} {x : Int32} {o : Int} (q1 q2 : Nat) (hd : decode c.code pc = .ok (.ifCond .le o, 3)) (ho : 0 ≤ (pc : Int) + o) (h1 : ((pc : Int) + o).toNat = q1) (h2 : pc + 3 = q2) (Kt : x.toInt ≤ 0 → Go p e below Ev T (mkF m q1 Ls st)) (Kf : 0 < x.toInt → Go p e below Ev T (mkF m q2 Ls st)) : Go p e below Ev T (mkF m pc Ls (.int x :: st)) := by
  have Q := own_i0 x
  by_cases hc : ¬ 0 < x
  · exact (Kt (by first | omega | (simp only [Q] at hc; omega))).on fun _ k => XS.ifYes X.here hx rfl rfl hd rfl (XT.i0_le_t (by simpa using hc)) ho h1 k
  · subst h2
    exact (Kf (by first | omega | (simp only [Q] at hc; omega))).on fun _ k => XS.ifNo X.here hx rfl hd rfl (XT.i0_le_f (by simpa using hc)) k
theorem own_ii (x y : Int32) : (x < y ↔ x.toInt < y.toInt) ∧ (y < x ↔ y.toInt < x.toInt) ∧ (x = y ↔ x.toInt = y.toInt) := by
  exact ⟨Int32.lt_iff_toInt_lt, Int32.lt_iff_toInt_lt, Int32.toInt_inj.symm⟩
theorem g_ic_eq (X : Stand p l e R s m args below meth c T locs cells slots) (hx : p.tables.exec = Jvm.exec) {pc : Nat} {Ls : Array Slot} {st : List Value} {x y : Int32} {o : Int} (q1 q2 : Nat) (hd : decode c.code pc = .ok (.if_icmp .eq o, 3)) (ho : 0 ≤ (pc : Int) + o) (h1 : ((pc : Int) + o).toNat = q1) (h2 : pc + 3 = q2) (Kt : x.toInt = y.toInt → Go p e below Ev T (mkF m q1 Ls st)) (Kf : x.toInt ≠ y.toInt → Go p e below Ev T (mkF m q2 Ls st)) : Go p e below Ev T (mkF m pc Ls (.int y :: .int x :: st)) := by
  have Q := own_ii x y
  by_cases hc : x = y
  · exact (Kt (by first | omega | (simp only [Q] at hc; omega))).on fun _ k => XS.icmpYes X.here hx rfl rfl hd rfl (XT.ii_eq_t (by simpa using hc)) ho h1 k
  · subst h2
    exact (Kf (by first | omega | (simp only [Q] at hc; omega))).on fun _ k => XS.icmpNo X.here hx rfl hd rfl (XT.ii_eq_f (by simpa using hc)) k
theorem g_ic_ne (X : Stand p l e R s m args below meth c T locs cells slots) (hx : p.tables.exec = Jvm.exec) {pc : Nat} {Ls : Array Slot} {st : List Value} {x y : Int32} {o : Int} (q1 q2 : Nat) (hd : decode c.code pc = .ok (.if_icmp .ne o, 3)) (ho : 0 ≤ (pc : Int) + o) (h1 : ((pc : Int) + o).toNat = q1) (h2 : pc + 3 = q2) (Kt : x.toInt ≠ y.toInt → Go p e below Ev T (mkF m q1 Ls st)) (Kf : x.toInt = y.toInt → Go p e below Ev T (mkF m q2 Ls st)) : Go p e below Ev T (mkF m pc Ls (.int y :: .int x :: st)) := by
  have Q := own_ii x y
  by_cases hc : ¬ x = y
  · exact (Kt (by first | omega | (simp only [Q] at hc; omega))).on fun _ k => XS.icmpYes X.here hx rfl rfl hd rfl (XT.ii_ne_t (by simpa using hc)) ho h1 k
  · subst h2
    exact (Kf (by first | omega | (simp only [Q] at hc; omega))).on fun _ k => XS.icmpNo X.here hx rfl hd rfl (XT.ii_ne_f (by simpa using hc)) k
theorem g_ic_lt (X : Stand p l e R s m args below meth c T locs cells slots) (hx : p.tables.exec = Jvm.exec) {pc : Nat} {Ls : Array Slot} {st : List Value} {x y : Int32} {o : Int} (q1 q2 : Nat) (hd : decode c.code pc = .ok (.if_icmp .lt o, 3)) (ho : 0 ≤ (pc : Int) + o) (h1 : ((pc : Int) + o).toNat = q1) (h2 : pc + 3 = q2) (Kt : x.toInt < y.toInt → Go p e below Ev T (mkF m q1 Ls st)) (Kf : y.toInt ≤ x.toInt → Go p e below Ev T (mkF m q2 Ls st)) : Go p e below Ev T (mkF m pc Ls (.int y :: .int x :: st)) := by
  have Q := own_ii x y
  by_cases hc : x < y
  · exact (Kt (by first | omega | (simp only [Q] at hc; omega))).on fun _ k => XS.icmpYes X.here hx rfl rfl hd rfl (XT.ii_lt_t (by simpa using hc)) ho h1 k
  · subst h2
    exact (Kf (by first | omega | (simp only [Q] at hc; omega))).on fun _ k => XS.icmpNo X.here hx rfl hd rfl (XT.ii_lt_f (by simpa using hc)) k
theorem g_ic_ge (X : Stand p l e R s m args below meth c T locs cells slots) (hx : p.tables.exec = Jvm.exec) {pc : Nat} {Ls : Array Slot} {st : List Value} {x y : Int32} {o : Int} (q1 q2 : Nat) (hd : decode c.code pc = .ok (.if_icmp .ge o, 3)) (ho : 0 ≤ (pc : Int) + o) (h1 : ((pc : Int) + o).toNat = q1) (h2 : pc + 3 = q2) (Kt : y.toInt ≤ x.toInt → Go p e below Ev T (mkF m q1 Ls st)) (Kf : x.toInt < y.toInt → Go p e below Ev T (mkF m q2 Ls st)) : Go p e below Ev T (mkF m pc Ls (.int y :: .int x :: st)) := by
  have Q := own_ii x y
  by_cases hc : ¬ x < y
  · exact (Kt (by first | omega | (simp only [Q] at hc; omega))).on fun _ k => XS.icmpYes X.here hx rfl rfl hd rfl (XT.ii_ge_t (by simpa using hc)) ho h1 k
  · subst h2
    exact (Kf (by first | omega | (simp only [Q] at hc; omega))).on fun _ k => XS.icmpNo X.here hx rfl hd rfl (XT.ii_ge_f (by simpa using hc)) k
theorem g_ic_gt (X : Stand p l e R s m args below meth c T locs cells slots) (hx : p.tables.exec = Jvm.exec) {pc : Nat} {Ls : Array Slot} {st : List Value} {x y : Int32} {o : Int} (q1 q2 : Nat) (hd : decode c.code pc = .ok (.if_icmp .gt o, 3)) (ho : 0 ≤ (pc : Int) + o) (h1 : ((pc : Int) + o).toNat = q1) (h2 : pc + 3 = q2) (Kt : y.toInt < x.toInt → Go p e below Ev T (mkF m q1 Ls st)) (Kf : x.toInt ≤ y.toInt → Go p e below Ev T (mkF m q2 Ls st)) : Go p e below Ev T (mkF m pc Ls (.int y :: .int x :: st)) := by
  have Q := own_ii x y
  by_cases hc : y < x
  · exact (Kt (by first | omega | (simp only [Q] at hc; omega))).on fun _ k => XS.icmpYes X.here hx rfl rfl hd rfl (XT.ii_gt_t (by simpa using hc)) ho h1 k
  · subst h2
    exact (Kf (by first | omega | (simp only [Q] at hc; omega))).on fun _ k => XS.icmpNo X.here hx rfl hd rfl (XT.ii_gt_f (by simpa using hc)) k
theorem g_ic_le (X : Stand p l e R s m args below meth c T locs cells slots) (hx : p.tables.exec = Jvm.exec) {pc : Nat} {Ls : Array Slot} {st : List Value} {x y : Int32} {o : Int} (q1 q2 : Nat) (hd : decode c.code pc = .ok (.if_icmp .le o, 3)) (ho : 0 ≤ (pc : Int) + o) (h1 : ((pc : Int) + o).toNat = q1) (h2 : pc + 3 = q2) (Kt : x.toInt ≤ y.toInt → Go p e below Ev T (mkF m q1 Ls st)) (Kf : y.toInt < x.toInt → Go p e below Ev T (mkF m q2 Ls st)) : Go p e below Ev T (mkF m pc Ls (.int y :: .int x :: st)) := by
  have Q := own_ii x y
  by_cases hc : ¬ y < x
  · exact (Kt (by first | omega | (simp only [Q] at hc; omega))).on fun _ k => XS.icmpYes X.here hx rfl rfl hd rfl (XT.ii_le_t (by simpa using hc)) ho h1 k
  · subst h2
    exact (Kf (by first | omega | (simp only [Q] at hc; omega))).on fun _ k => XS.icmpNo X.here hx rfl hd rfl (XT.ii_le_f (by simpa using hc)) k
theorem g_lc_eq (X : Stand p l e R s m args below meth c T locs cells slots) (hx : p.tables.exec = Jvm.exec) {pc : Nat} {Ls : Array Slot} {st : List Value} {x y : Int64} {o : Int} (q0 q1 q2 : Nat) (hd0 : decode c.code pc = .ok (.lcmp, 1)) (h0 : pc + 1 = q0) (hd : decode c.code q0 = .ok (.ifCond .eq o, 3)) (ho : 0 ≤ (q0 : Int) + o) (h1 : ((q0 : Int) + o).toNat = q1) (h2 : q0 + 3 = q2) (Kt : x.toInt = y.toInt → Go p e below Ev T (mkF m q1 Ls st)) (Kf : x.toInt ≠ y.toInt → Go p e below Ev T (mkF m q2 Ls st)) : Go p e below Ev T (mkF m pc Ls (.long y :: .long x :: st)) := by
  have Q := c_lcmp x y
  have C : x.toInt < y.toInt ∨ x.toInt = y.toInt ∨ y.toInt < x.toInt := by omega
  refine g_lcmp X hx q0 hd0 h0 (g_if_eq X hx q1 q2 hd ho h1 h2 (fun hc => Kt ?_) (fun hc => Kf ?_)) <;> (rcases C with C | C | C <;> first | (have := Q.1 C; omega) | (have := Q.2.1 C; omega) | (have := Q.2.2 C; omega))
theorem g_lc_ne (X : Stand p l e R s m args below meth c T locs cells slots) (hx : p.tables.exec = Jvm.exec) {pc : Nat} {Ls : Array Slot} {st : List Value} {x y : Int64} {o : Int} (q0 q1 q2 : Nat) (hd0 : decode c.code pc = .ok (.lcmp, 1)) (h0 : pc + 1 = q0) (hd : decode c.code q0 = .ok (.ifCond .ne o, 3)) (ho : 0 ≤ (q0 : Int) + o) (h1 : ((q0 : Int) + o).toNat = q1) (h2 : q0 + 3 = q2) (Kt : x.toInt ≠ y.toInt → Go p e below Ev T (mkF m q1 Ls st)) (Kf : x.toInt = y.toInt → Go p e below Ev T (mkF m q2 Ls st)) : Go p e below Ev T (mkF m pc Ls (.long y :: .long x :: st)) := by
  have Q := c_lcmp x y
  have C : x.toInt < y.toInt ∨ x.toInt = y.toInt ∨ y.toInt < x.toInt := by omega
  refine g_lcmp X hx q0 hd0 h0 (g_if_ne X hx q1 q2 hd ho h1 h2 (fun hc => Kt ?_) (fun hc => Kf ?_)) <;> (rcases C with C | C | C <;> first | (have := Q.1 C; omega) | (have := Q.2.1 C; omega) | (have := Q.2.2 C; omega))
theorem g_lc_lt (X : Stand p l e R s m args below meth c T locs cells slots) (hx : p.tables.exec = Jvm.exec) {pc : Nat} {Ls : Array Slot} {st : List Value} {x y : Int64} {o : Int} (q0 q1 q2 : Nat) (hd0 : decode c.code pc = .ok (.lcmp, 1)) (h0 : pc + 1 = q0) (hd : decode c.code q0 = .ok (.ifCond .lt o, 3)) (ho : 0 ≤ (q0 : Int) + o) (h1 : ((q0 : Int) + o).toNat = q1) (h2 : q0 + 3 = q2) (Kt : x.toInt < y.toInt → Go p e below Ev T (mkF m q1 Ls st)) (Kf : y.toInt ≤ x.toInt → Go p e below Ev T (mkF m q2 Ls st)) : Go p e below Ev T (mkF m pc Ls (.long y :: .long x :: st)) := by
  have Q := c_lcmp x y
  have C : x.toInt < y.toInt ∨ x.toInt = y.toInt ∨ y.toInt < x.toInt := by omega
  refine g_lcmp X hx q0 hd0 h0 (g_if_lt X hx q1 q2 hd ho h1 h2 (fun hc => Kt ?_) (fun hc => Kf ?_)) <;> (rcases C with C | C | C <;> first | (have := Q.1 C; omega) | (have := Q.2.1 C; omega) | (have := Q.2.2 C; omega))
theorem g_lc_ge (X : Stand p l e R s m args below meth c T locs cells slots) (hx : p.tables.exec = Jvm.exec) {pc : Nat} {Ls : Array Slot} {st : List Value} {x y : Int64} {o : Int} (q0 q1 q2 : Nat) (hd0 : decode c.code pc = .ok (.lcmp, 1)) (h0 : pc + 1 = q0) (hd : decode c.code q0 = .ok (.ifCond .ge o, 3)) (ho : 0 ≤ (q0 : Int) + o) (h1 : ((q0 : Int) + o).toNat = q1) (h2 : q0 + 3 = q2) (Kt : y.toInt ≤ x.toInt → Go p e below Ev T (mkF m q1 Ls st)) (Kf : x.toInt < y.toInt → Go p e below Ev T (mkF m q2 Ls st)) : Go p e below Ev T (mkF m pc Ls (.long y :: .long x :: st)) := by
  have Q := c_lcmp x y
  have C : x.toInt < y.toInt ∨ x.toInt = y.toInt ∨ y.toInt < x.toInt := by omega
  refine g_lcmp X hx q0 hd0 h0 (g_if_ge X hx q1 q2 hd ho h1 h2 (fun hc => Kt ?_) (fun hc => Kf ?_)) <;> (rcases C with C | C | C <;> first | (have := Q.1 C; omega) | (have := Q.2.1 C; omega) | (have := Q.2.2 C; omega))
theorem g_lc_gt (X : Stand p l e R s m args below meth c T locs cells slots) (hx : p.tables.exec = Jvm.exec) {pc : Nat} {Ls : Array Slot} {st : List Value} {x y : Int64} {o : Int} (q0 q1 q2 : Nat) (hd0 : decode c.code pc = .ok (.lcmp, 1)) (h0 : pc + 1 = q0) (hd : decode c.code q0 = .ok (.ifCond .gt o, 3)) (ho : 0 ≤ (q0 : Int) + o) (h1 : ((q0 : Int) + o).toNat = q1) (h2 : q0 + 3 = q2) (Kt : y.toInt < x.toInt → Go p e below Ev T (mkF m q1 Ls st)) (Kf : x.toInt ≤ y.toInt → Go p e below Ev T (mkF m q2 Ls st)) : Go p e below Ev T (mkF m pc Ls (.long y :: .long x :: st)) := by
  have Q := c_lcmp x y
  have C : x.toInt < y.toInt ∨ x.toInt = y.toInt ∨ y.toInt < x.toInt := by omega
  refine g_lcmp X hx q0 hd0 h0 (g_if_gt X hx q1 q2 hd ho h1 h2 (fun hc => Kt ?_) (fun hc => Kf ?_)) <;> (rcases C with C | C | C <;> first | (have := Q.1 C; omega) | (have := Q.2.1 C; omega) | (have := Q.2.2 C; omega))
theorem g_lc_le (X : Stand p l e R s m args below meth c T locs cells slots) (hx : p.tables.exec = Jvm.exec) {pc : Nat} {Ls : Array Slot} {st : List Value} {x y : Int64} {o : Int} (q0 q1 q2 : Nat) (hd0 : decode c.code pc = .ok (.lcmp, 1)) (h0 : pc + 1 = q0) (hd : decode c.code q0 = .ok (.ifCond .le o, 3)) (ho : 0 ≤ (q0 : Int) + o) (h1 : ((q0 : Int) + o).toNat = q1) (h2 : q0 + 3 = q2) (Kt : x.toInt ≤ y.toInt → Go p e below Ev T (mkF m q1 Ls st)) (Kf : y.toInt < x.toInt → Go p e below Ev T (mkF m q2 Ls st)) : Go p e below Ev T (mkF m pc Ls (.long y :: .long x :: st)) := by
  have Q := c_lcmp x y
  have C : x.toInt < y.toInt ∨ x.toInt = y.toInt ∨ y.toInt < x.toInt := by omega
  refine g_lcmp X hx q0 hd0 h0 (g_if_le X hx q1 q2 hd ho h1 h2 (fun hc => Kt ?_) (fun hc => Kf ?_)) <;> (rcases C with C | C | C <;> first | (have := Q.1 C; omega) | (have := Q.2.1 C; omega) | (have := Q.2.2 C; omega))
theorem own_cmpv (i j : Int) (o : CmpOp) : (i < j → (cmpValue (some (compare i j)) o).toInt = -1) ∧ (i = j → (cmpValue (some (compare i j)) o).toInt = 0) ∧ (j < i → (cmpValue (some (compare i j)) o).toInt = 1) := by
  refine ⟨fun q => ?_, fun q => ?_, fun q => ?_⟩
  · rw [show compare i j = .lt from by rw [Jvm.FP.Core.compare_ite]; simp [q]]; cases o <;> rfl
  · rw [show compare i j = .eq from by rw [Jvm.FP.Core.compare_ite]; simp [q]]; cases o <;> rfl
  · rw [show compare i j = .gt from by rw [Jvm.FP.Core.compare_ite]; simp [show ¬ i < j by omega, show ¬ i = j by omega]]; cases o <;> rfl
theorem g_dc_eq (X : Stand p l e R s m args below meth c T locs cells slots) (hx : p.tables.exec = Jvm.exec) {pc : Nat} {Ls : Array Slot} {st : List Value} {x y : UInt64} {oo : CmpOp} {i j : Int} {o : Int} (q0 q1 q2 : Nat) (hd0 : decode c.code pc = .ok (.dcmp oo, 1)) (h0 : pc + 1 = q0) (hd : decode c.code q0 = .ok (.ifCond .eq o, 3)) (ho : 0 ≤ (q0 : Int) + o) (h1 : ((q0 : Int) + o).toNat = q1) (h2 : q0 + 3 = q2) (hv : FP.dcmp x y = some (compare i j)) (Kt : i = j → Go p e below Ev T (mkF m q1 Ls st)) (Kf : i ≠ j → Go p e below Ev T (mkF m q2 Ls st)) : Go p e below Ev T (mkF m pc Ls (.double y :: .double x :: st)) := by
  have Q := own_cmpv i j oo
  have C : i < j ∨ i = j ∨ j < i := by omega
  refine g_dcmp X hx q0 hd0 h0 (by rw [hv]) (g_if_eq X hx q1 q2 hd ho h1 h2 (fun hc => Kt ?_) (fun hc => Kf ?_)) <;> (rcases C with C | C | C <;> first | (have := Q.1 C; omega) | (have := Q.2.1 C; omega) | (have := Q.2.2 C; omega))
theorem g_dc_ne (X : Stand p l e R s m args below meth c T locs cells slots) (hx : p.tables.exec = Jvm.exec) {pc : Nat} {Ls : Array Slot} {st : List Value} {x y : UInt64} {oo : CmpOp} {i j : Int} {o : Int} (q0 q1 q2 : Nat) (hd0 : decode c.code pc = .ok (.dcmp oo, 1)) (h0 : pc + 1 = q0) (hd : decode c.code q0 = .ok (.ifCond .ne o, 3)) (ho : 0 ≤ (q0 : Int) + o) (h1 : ((q0 : Int) + o).toNat = q1) (h2 : q0 + 3 = q2) (hv : FP.dcmp x y = some (compare i j)) (Kt : i ≠ j → Go p e below Ev T (mkF m q1 Ls st)) (Kf : i = j → Go p e below Ev T (mkF m q2 Ls st)) : Go p e below Ev T (mkF m pc Ls (.double y :: .double x :: st)) := by
  have Q := own_cmpv i j oo
  have C : i < j ∨ i = j ∨ j < i := by omega
  refine g_dcmp X hx q0 hd0 h0 (by rw [hv]) (g_if_ne X hx q1 q2 hd ho h1 h2 (fun hc => Kt ?_) (fun hc => Kf ?_)) <;> (rcases C with C | C | C <;> first | (have := Q.1 C; omega) | (have := Q.2.1 C; omega) | (have := Q.2.2 C; omega))
theorem g_dc_lt (X : Stand p l e R s m args below meth c T locs cells slots) (hx : p.tables.exec = Jvm.exec) {pc : Nat} {Ls : Array Slot} {st : List Value} {x y : UInt64} {oo : CmpOp} {i j : Int} {o : Int} (q0 q1 q2 : Nat) (hd0 : decode c.code pc = .ok (.dcmp oo, 1)) (h0 : pc + 1 = q0) (hd : decode c.code q0 = .ok (.ifCond .lt o, 3)) (ho : 0 ≤ (q0 : Int) + o) (h1 : ((q0 : Int) + o).toNat = q1) (h2 : q0 + 3 = q2) (hv : FP.dcmp x y = some (compare i j)) (Kt : i < j → Go p e below Ev T (mkF m q1 Ls st)) (Kf : j ≤ i → Go p e below Ev T (mkF m q2 Ls st)) : Go p e below Ev T (mkF m pc Ls (.double y :: .double x :: st)) := by
  have Q := own_cmpv i j oo
  have C : i < j ∨ i = j ∨ j < i := by omega
  refine g_dcmp X hx q0 hd0 h0 (by rw [hv]) (g_if_lt X hx q1 q2 hd ho h1 h2 (fun hc => Kt ?_) (fun hc => Kf ?_)) <;> (rcases C with C | C | C <;> first | (have := Q.1 C; omega) | (have := Q.2.1 C; omega) | (have := Q.2.2 C; omega))
theorem g_dc_ge (X : Stand p l e R s m args below meth c T locs cells slots) (hx : p.tables.exec = Jvm.exec) {pc : Nat} {Ls : Array Slot} {st : List Value} {x y : UInt64} {oo : CmpOp} {i j : Int} {o : Int} (q0 q1 q2 : Nat) (hd0 : decode c.code pc = .ok (.dcmp oo, 1)) (h0 : pc + 1 = q0) (hd : decode c.code q0 = .ok (.ifCond .ge o, 3)) (ho : 0 ≤ (q0 : Int) + o) (h1 : ((q0 : Int) + o).toNat = q1) (h2 : q0 + 3 = q2) (hv : FP.dcmp x y = some (compare i j)) (Kt : j ≤ i → Go p e below Ev T (mkF m q1 Ls st)) (Kf : i < j → Go p e below Ev T (mkF m q2 Ls st)) : Go p e below Ev T (mkF m pc Ls (.double y :: .double x :: st)) := by
  have Q := own_cmpv i j oo
  have C : i < j ∨ i = j ∨ j < i := by omega
  refine g_dcmp X hx q0 hd0 h0 (by rw [hv]) (g_if_ge X hx q1 q2 hd ho h1 h2 (fun hc => Kt ?_) (fun hc => Kf ?_)) <;> (rcases C with C | C | C <;> first | (have := Q.1 C; omega) | (have := Q.2.1 C; omega) | (have := Q.2.2 C; omega))
theorem g_dc_gt (X : Stand p l e R s m args below meth c T locs cells slots) (hx : p.tables.exec = Jvm.exec) {pc : Nat} {Ls : Array Slot} {st : List Value} {x y : UInt64} {oo : CmpOp} {i j : Int} {o : Int} (q0 q1 q2 : Nat) (hd0 : decode c.code pc = .ok (.dcmp oo, 1)) (h0 : pc + 1 = q0) (hd : decode c.code q0 = .ok (.ifCond .gt o, 3)) (ho : 0 ≤ (q0 : Int) + o) (h1 : ((q0 : Int) + o).toNat = q1) (h2 : q0 + 3 = q2) (hv : FP.dcmp x y = some (compare i j)) (Kt : j < i → Go p e below Ev T (mkF m q1 Ls st)) (Kf : i ≤ j → Go p e below Ev T (mkF m q2 Ls st)) : Go p e below Ev T (mkF m pc Ls (.double y :: .double x :: st)) := by
  have Q := own_cmpv i j oo
  have C : i < j ∨ i = j ∨ j < i := by omega
  refine g_dcmp X hx q0 hd0 h0 (by rw [hv]) (g_if_gt X hx q1 q2 hd ho h1 h2 (fun hc => Kt ?_) (fun hc => Kf ?_)) <;> (rcases C with C | C | C <;> first | (have := Q.1 C; omega) | (have := Q.2.1 C; omega) | (have := Q.2.2 C; omega))
theorem g_dc_le (X : Stand p l e R s m args below meth c T locs cells slots) (hx : p.tables.exec = Jvm.exec) {pc : Nat} {Ls : Array Slot} {st : List Value} {x y : UInt64} {oo : CmpOp} {i j : Int} {o : Int} (q0 q1 q2 : Nat) (hd0 : decode c.code pc = .ok (.dcmp oo, 1)) (h0 : pc + 1 = q0) (hd : decode c.code q0 = .ok (.ifCond .le o, 3)) (ho : 0 ≤ (q0 : Int) + o) (h1 : ((q0 : Int) + o).toNat = q1) (h2 : q0 + 3 = q2) (hv : FP.dcmp x y = some (compare i j)) (Kt : i ≤ j → Go p e below Ev T (mkF m q1 Ls st)) (Kf : j < i → Go p e below Ev T (mkF m q2 Ls st)) : Go p e below Ev T (mkF m pc Ls (.double y :: .double x :: st)) := by
  have Q := own_cmpv i j oo
  have C : i < j ∨ i = j ∨ j < i := by omega
  refine g_dcmp X hx q0 hd0 h0 (by rw [hv]) (g_if_le X hx q1 q2 hd ho h1 h2 (fun hc => Kt ?_) (fun hc => Kf ?_)) <;> (rcases C with C | C | C <;> first | (have := Q.1 C; omega) | (have := Q.2.1 C; omega) | (have := Q.2.2 C; omega))
theorem g_ifnull_t (X : Stand p l e R s m args below meth c T locs cells slots) (hx : p.tables.exec = Jvm.exec) {pc : Nat} {Ls : Array Slot} {st : List Value} {o : Int} (q : Nat) (hd : decode c.code pc = .ok (.ifnull o, 3)) (ho : 0 ≤ (pc : Int) + o) (h1 : ((pc : Int) + o).toNat = q) (K : Go p e below Ev T (mkF m q Ls st)) : Go p e below Ev T (mkF m pc Ls (.null :: st)) :=
  K.on fun _ k => XS.ifnullYes X.here hx rfl rfl hd rfl ho h1 k
theorem g_ifnull_f (X : Stand p l e R s m args below meth c T locs cells slots) (hx : p.tables.exec = Jvm.exec) {pc : Nat} {Ls : Array Slot} {st : List Value} {o : Int} {b : Addr} (q : Nat) (hd : decode c.code pc = .ok (.ifnull o, 3)) (h1 : pc + 3 = q) (K : Go p e below Ev T (mkF m q Ls st)) : Go p e below Ev T (mkF m pc Ls (.ref b :: st)) := by
  subst h1
  exact K.on fun _ k => XS.ifnullNo X.here hx rfl hd rfl k
theorem g_ifnonnull_t (X : Stand p l e R s m args below meth c T locs cells slots) (hx : p.tables.exec = Jvm.exec) {pc : Nat} {Ls : Array Slot} {st : List Value} {o : Int} {b : Addr} (q : Nat) (hd : decode c.code pc = .ok (.ifnonnull o, 3)) (ho : 0 ≤ (pc : Int) + o) (h1 : ((pc : Int) + o).toNat = q) (K : Go p e below Ev T (mkF m q Ls st)) : Go p e below Ev T (mkF m pc Ls (.ref b :: st)) :=
  K.on fun _ k => XS.ifnonnullYes X.here hx rfl rfl hd rfl ho h1 k
theorem g_ifnonnull_f (X : Stand p l e R s m args below meth c T locs cells slots) (hx : p.tables.exec = Jvm.exec) {pc : Nat} {Ls : Array Slot} {st : List Value} {o : Int} (q : Nat) (hd : decode c.code pc = .ok (.ifnonnull o, 3)) (h1 : pc + 3 = q) (K : Go p e below Ev T (mkF m q Ls st)) : Go p e below Ev T (mkF m pc Ls (.null :: st)) := by
  subst h1
  exact K.on fun _ k => XS.ifnonnullNo X.here hx rfl hd rfl k
theorem g_new (X : Stand p l e R s m args below meth c T locs cells slots) (hx : p.tables.exec = Jvm.exec) {pc : Nat} {Ls : Array Slot} {st : List Value} (hZ : Z.Warmed39 s.vm) {own C : String} {i n : Nat} (hown : s.vm.findClass own = some m.cls) (w : (Jvm.Cond.classLink own i C).before a0 Z = true) (wi : (Jvm.Cond.instantiable C n).before a0 Z = true) (wz : (Jvm.Cond.initialized C).before a0 Z = true) (eT : T.heap = h) (q : Nat) (hd : decode c.code pc = .ok (.new i, 3)) (hq : pc + 3 = q) (hc : cells + 1 ≤ R.cells) (hl : slots + n ≤ R.slots)
    (K : ∀ (T' : State) (h' : Heap) (a : Addr), a = h.size → Stand p l e R s m args below meth c T' locs (cells + 1) (slots + n) → T'.heap = h' → Ext h h' → Exa Z h' a C → (∀ {O nm d : String} {ty : FieldType}, Laid Z a0 C O nm d → parseFieldDescriptor d = some ty → Fld Z h' a O nm d (defaultValue ty)) → Go p e below Ev T' (mkF m q Ls (.ref a :: st))) : Go p e below Ev T (mkF m pc Ls st) := by
  subst hq
  obtain ⟨T', h', X', e', E', A', D', -, st'⟩ := newO X hx hZ hown w wi wz eT (g := mkF m pc Ls st) rfl hd hc hl
  exact (K T' h' _ rfl X' e' E' A' D').on st'
theorem g_getF (X : Stand p l e R s m args below meth c T locs cells slots) (hx : p.tables.exec = Jvm.exec) {pc : Nat} {Ls : Array Slot} {st : List Value} (hZ : Z.Warmed39 s.vm) {own R0 O n d : String} {i : Nat} (hown : s.vm.findClass own = some m.cls) (w : (Jvm.Cond.fieldLink own i R0 n d).before a0 Z = true) (via : Via Z R0 O n d) (eT : T.heap = h) {a : Addr} {v : Value} (F : Fld Z h a O n d v) (q : Nat) (hd : decode c.code pc = .ok (.getfield i, 3)) (hq : pc + 3 = q) (K : ∀ T', Stand p l e R s m args below meth c T' locs cells slots → T'.heap = h → Go p e below Ev T' (mkF m q Ls (v :: st))) : Go p e below Ev T (mkF m pc Ls (.ref a :: st)) := by
  subst hq
  obtain ⟨T', X', e', st'⟩ := getF X hx hZ hown (host := "") (Or.inl w) via eT F (g := mkF m pc Ls (.ref a :: st)) rfl rfl hd
  exact (K T' X' e').on st'
theorem g_putF (X : Stand p l e R s m args below meth c T locs cells slots) (hx : p.tables.exec = Jvm.exec) {pc : Nat} {Ls : Array Slot} {st : List Value} (hZ : Z.Warmed39 s.vm) {own R0 O n d C : String} {i kk : Nat} {ty : FieldType} (hown : s.vm.findClass own = some m.cls) (w : (Jvm.Cond.fieldLink own i R0 n d).before a0 Z = true) (via : Via Z R0 O n d) (eT : T.heap = h) {a : Addr} {v old : Value} (F : Fld Z h a O n d old) (E : Exa Z h a C) (L : (Jvm.Cond.lays C O n d).before a0 Z = true ∨ ((Jvm.Cond.laysFinal C O n d).before a0 Z = true ∧ own = O ∧ meth.name = "<init>")) (wi : (Jvm.Cond.instantiable C kk).before a0 Z = true) (hty : parseFieldDescriptor d = some ty) (hn : narrow ty v = v) (hf : fits ty v = true) (q : Nat) (hd : decode c.code pc = .ok (.putfield i, 3)) (hq : pc + 3 = q)
    (K : ∀ T' h', Stand p l e R s m args below meth c T' (locs ++ [⟨a, Jvm.RoadKit.slotOf Z O n d⟩]) cells slots → T'.heap = h' → Wr h h' a (Jvm.RoadKit.slotOf Z O n d) v → Go p e below Ev T' (mkF m q Ls st)) : Go p e below Ev T (mkF m pc Ls (v :: .ref a :: st)) := by
  subst hq
  obtain ⟨T', h', X', e', W', st'⟩ := putF X hx hZ hown (host := "") (Or.inl w) via eT F E L wi hty hn hf (g := mkF m pc Ls (v :: .ref a :: st)) rfl rfl hd
  exact (K T' h' X' e' W').on st'
theorem g_objinit (X : Stand p l e R s m args below meth c T locs cells slots) (hx : p.tables.exec = Jvm.exec) {pc : Nat} {Ls : Array Slot} {st : List Value} (hZ : Z.Warmed39 s.vm) {own : String} {i : Nat} (hown : s.vm.findClass own = some m.cls) (w1 : (Jvm.Cond.methodLink own i ⟨"java/lang/Object", "<init>", "()V"⟩).before a0 Z = true) (w2 : (Jvm.Cond.instanceMethod ⟨"java/lang/Object", "<init>", "()V"⟩).before a0 Z = true) (w3 : (Jvm.Cond.code ⟨"java/lang/Object", "<init>", "()V"⟩ object_method_1_code 1 none).before a0 Z = true) (eT : T.heap = h) {a : Addr} (W : Nat) (q : Nat) (hd : decode c.code pc = .ok (.invokespecial i, 3)) (hq : pc + 3 = q) (hsz : Ls.size = c.maxLocals) (hf : 1 ≤ R.frames) (hW : (st.map fun v => v.category).sum ≤ W) (hl : W + 12 ≤ R.locals) (K : ∀ T', Stand p l e R s m args below meth c T' locs cells slots → T'.heap = h → Go p e below Ev T' (mkF m q Ls st)) : Go p e below Ev T (mkF m pc Ls (.ref a :: st)) := by
  subst hq
  obtain ⟨T', X', e', st'⟩ := initO X hx hZ hown w1 w2 w3 eT (g := mkF m pc Ls (.ref a :: st)) rfl hsz rfl hd hf (W := W) (by show 2 * 0 + _ ≤ _; omega) hl
  exact (K T' X' e').on st'
theorem g_static (X : Stand p l e R s m args below meth c T locs cells slots) (hx : p.tables.exec = Jvm.exec) {pc : Nat} {Ls : Array Slot} {st : List Value} (hZ : Z.Warmed39 s.vm) {own : String} {i : Nat} {y : MethodName} {bytes : ByteArray} {maxL : Nat} {ret : Option FieldType} {rm : Room} {as' : Array Value} {Q : Option Value → Heap → List Loc → Prop} {argsL rest : List Value} (hown : s.vm.findClass own = some m.cls) (w1 : (Jvm.Cond.methodLink own i y).before a0 Z = true) (w2 : (Jvm.Cond.static y).before a0 Z = true) (w3 : (Jvm.Cond.initialized y.cls).before a0 Z = true) (w4 : (Jvm.Cond.code y bytes maxL ret).before a0 Z = true) (hy : y.cls ≠ "java/lang/invoke/MethodHandle" ∧ y.cls ≠ "java/lang/invoke/VarHandle") (hM : MetFree l y (head1 [Jvm.Cond.code y bytes maxL ret] rm) (fun a U => a = as' ∧ Z.Warmed39 U.vm ∧ U.heap = h) (fun _ _ _ _ _ => True) (fun _ U o U' => ∃ v L, o = .returned v ∧ Q v U'.heap L ∧ FrameEnd U o U' L rm.cells rm.slots)) (eT : T.heap = h) (hst : st = argsL.reverse ++ rest) (has : argsL.toArray = as') (W : Nat) (q : Nat) (hq : pc + 3 = q) (hsz : Ls.size = c.maxLocals) (hlen : ∀ sig, parseMethodDescriptor y.desc = some sig → argsL.length = sig.parameters.length) (hW : (rest.map fun v => v.category).sum ≤ W) (hf : rm.frames + 1 ≤ R.frames) (hl : W + (maxL + 11) + rm.locals ≤ R.locals) (hc : cells + rm.cells ≤ R.cells) (hs : slots + rm.slots ≤ R.slots) (hd : decode c.code pc = .ok (.invokestatic i, 3))
    (K : ∀ (v : Option Value) (T' : State) (L : List Loc), Stand p l e R s m args below meth c T' (locs ++ L) (cells + rm.cells) (slots + rm.slots) → Q v T'.heap L → Go p e below Ev T' (mkF m q Ls (v.toList ++ rest))) : Go p e below Ev T (mkF m pc Ls st) := by
  subst hq hst
  obtain ⟨v, vm1, ⟨T', L', k', n'⟩, -, X', ⟨L, hQ, l', y', z'⟩, st'⟩ := Jvm.LawKit.callS X hx hown (mvT hZ w1) (mvT hZ w2) (mvT hZ w3) (mvT hZ w4) hy (backOf (W := W) hM hZ w4 w3 hf hl) (g := mkF m pc Ls (argsL.reverse ++ rest)) rfl hsz (argsL := argsL) (rest := rest) hlen rfl (by show 2 * 0 + _ ≤ _; omega) hd (fun _ _ => ⟨has, eT, hc, hs⟩)
  dsimp only [Pt.U, Pt.locs, Pt.cells, Pt.slots] at X' l' y' z' st' hQ
  subst l' y' z'
  exact (K v T' L X' hQ).on fun t k => st' t k
theorem g_init (X : Stand p l e R s m args below meth c T locs cells slots) (hx : p.tables.exec = Jvm.exec) {pc : Nat} {Ls : Array Slot} {st : List Value} (hZ : Z.Warmed39 s.vm) {own : String} {i : Nat} {y : MethodName} {bytes : ByteArray} {maxL : Nat} {rm : Room} {as' : Array Value} {Q : Option Value → Heap → List Loc → Prop} {argsL rest : List Value} (hy1 : y.name = "<init>") (hown : s.vm.findClass own = some m.cls) (w1 : (Jvm.Cond.methodLink own i y).before a0 Z = true) (w2 : (Jvm.Cond.instanceMethod y).before a0 Z = true) (w3 : (Jvm.Cond.initialized y.cls).before a0 Z = true) (w4 : (Jvm.Cond.code y bytes maxL none).before a0 Z = true) (hy : y.cls ≠ "java/lang/invoke/MethodHandle" ∧ y.cls ≠ "java/lang/invoke/VarHandle") (hM : MetFree l y (head1 [Jvm.Cond.code y bytes maxL none] rm) (fun a U => a = as' ∧ Z.Warmed39 U.vm ∧ U.heap = h) (fun _ _ _ _ _ => True) (fun _ U o U' => ∃ v L, o = .returned v ∧ Q v U'.heap L ∧ FrameEnd U o U' L rm.cells rm.slots)) (eT : T.heap = h) {a : Addr} (hst : st = argsL.reverse ++ .ref a :: rest) (has : (.ref a :: argsL).toArray = as') (W : Nat) (q : Nat) (hq : pc + 3 = q) (hsz : Ls.size = c.maxLocals) (hlen : ∀ sig, parseMethodDescriptor y.desc = some sig → argsL.length = sig.parameters.length) (hW : (rest.map fun v => v.category).sum ≤ W) (hf : rm.frames + 1 ≤ R.frames) (hl : W + (maxL + 11) + rm.locals ≤ R.locals) (hc : cells + rm.cells ≤ R.cells) (hs : slots + rm.slots ≤ R.slots) (hd : decode c.code pc = .ok (.invokespecial i, 3))
    (K : ∀ (v : Option Value) (T' : State) (L : List Loc), Stand p l e R s m args below meth c T' (locs ++ L) (cells + rm.cells) (slots + rm.slots) → Q v T'.heap L → Go p e below Ev T' (mkF m q Ls (v.toList ++ rest))) : Go p e below Ev T (mkF m pc Ls st) := by
  subst hq hst
  obtain ⟨v, vm1, ⟨T', L', k', n'⟩, -, X', ⟨L, hQ, l', y', z'⟩, st'⟩ := X.specialBack hx hy1 hown (mvT hZ w1) (mvT hZ w2) (mvT hZ w4) hy (backOf (W := W) hM hZ w4 w3 hf hl) (g := mkF m pc Ls (argsL.reverse ++ .ref a :: rest)) rfl hsz (Steps.refl _) (a := a) (argsL := argsL) (rest := rest) hlen rfl (by show 2 * 0 + _ ≤ _; omega) hd (fun _ _ => ⟨has, eT, hc, hs⟩)
  dsimp only [Pt.U, Pt.locs, Pt.cells, Pt.slots] at X' l' y' z' st' hQ
  subst l' y' z'
  exact (K v T' L X' hQ).on fun t k => st'.trans k
theorem g_virt (X : Stand p l e R s m args below meth c T locs cells slots) (hx : p.tables.exec = Jvm.exec) {pc : Nat} {Ls : Array Slot} {st : List Value} (hZ : Z.Warmed39 s.vm) {own : String} {i : Nat} {y z : MethodName} {C : String} {bytes : ByteArray} {maxL : Nat} {ret : Option FieldType} {rm : Room} {as' : Array Value} {Q : Option Value → Heap → List Loc → Prop} {argsL rest : List Value} (hown : s.vm.findClass own = some m.cls) (w1 : (Jvm.Cond.methodLink own i y).before a0 Z = true) (w2 : (Jvm.Cond.declares y).before a0 Z = true) (w5 : (Jvm.Cond.selects y.cls y y).before a0 Z = true) (w6 : (Jvm.Cond.selects C y z).before a0 Z = true) (w7 : (Jvm.Cond.instanceMethod z).before a0 Z = true) (w3 : (Jvm.Cond.initialized z.cls).before a0 Z = true) (w4 : (Jvm.Cond.code z bytes maxL ret).before a0 Z = true) (hy : y.cls ≠ "java/lang/invoke/MethodHandle" ∧ y.cls ≠ "java/lang/invoke/VarHandle") (hM : MetFree l z (head1 [Jvm.Cond.code z bytes maxL ret] rm) (fun a U => a = as' ∧ Z.Warmed39 U.vm ∧ U.heap = h) (fun _ _ _ _ _ => True) (fun _ U o U' => ∃ v L, o = .returned v ∧ Q v U'.heap L ∧ FrameEnd U o U' L rm.cells rm.slots)) (eT : T.heap = h) {b : Addr} (E : Exa Z h b C) (hst : st = argsL.reverse ++ .ref b :: rest) (has : (.ref b :: argsL).toArray = as') (W : Nat) (q : Nat) (hq : pc + 3 = q) (hsz : Ls.size = c.maxLocals) (hlen : ∀ sig, parseMethodDescriptor y.desc = some sig → argsL.length = sig.parameters.length) (hW : (rest.map fun v => v.category).sum ≤ W) (hf : rm.frames + 1 ≤ R.frames) (hl : W + (maxL + 11) + rm.locals ≤ R.locals) (hc : cells + rm.cells ≤ R.cells) (hs : slots + rm.slots ≤ R.slots) (hd : decode c.code pc = .ok (.invokevirtual i, 3))
    (K : ∀ (v : Option Value) (T' : State) (L : List Loc), Stand p l e R s m args below meth c T' (locs ++ L) (cells + rm.cells) (slots + rm.slots) → Q v T'.heap L → Go p e below Ev T' (mkF m q Ls (v.toList ++ rest))) : Go p e below Ev T (mkF m pc Ls st) := by
  subst hq hst
  obtain ⟨cq, kq, qa, qb, qc⟩ := isOf hZ eT E
  obtain ⟨v, vm1, ⟨T', L', k', n'⟩, -, X', ⟨L, hQ, l', y', z'⟩, st'⟩ := X.virtualBack hx hown (mvT hZ w1) (mvT hZ w2) (notFace_of_selects (args := #[]) (mvT hZ w5)) (mvT hZ w6) (mvT hZ w7) hy (backOf (W := W) hM hZ w4 w3 hf hl) qa qc (g := mkF m pc Ls (argsL.reverse ++ .ref b :: rest)) rfl hsz (Steps.refl _) (argsL := argsL) (rest := rest) hlen rfl (by show 2 * 0 + _ ≤ _; omega) hd (fun _ _ => ⟨has, eT, hc, hs⟩)
  dsimp only [Pt.U, Pt.locs, Pt.cells, Pt.slots] at X' l' y' z' st' hQ
  subst l' y' z'
  exact (K v T' L X' hQ).on fun t k => st'.trans k
theorem own_at {n : Nat} (j : Int32) (h0 : 0 ≤ j.toInt) (z : Int32) (h1 : j.toInt < z.toInt) (S : n = z.toNatClampNeg) : ¬ (j < 0 ∨ n ≤ j.toNatClampNeg) := by
  subst S
  intro q
  rcases q with q | q
  · have := (own_i0 j).1.mp q; omega
  · simp only [Int32.toNatClampNeg] at q; omega
theorem own_ncl {j : Int32} {k : Nat} (h : j.toInt = (k : Int)) : j.toNatClampNeg = k := by simp only [Int32.toNatClampNeg]; omega
theorem g_newP (X : Stand p l e R s m args below meth c T locs cells slots) (hx : p.tables.exec = Jvm.exec) {pc : Nat} {Ls : Array Slot} {st : List Value} (hZ : Z.Warmed39 s.vm) {aty : ArrayType} (w : (Jvm.Cond.arrayClass (newarray.typeOf aty)).before a0 Z = true) (eT : T.heap = h) {n : Int32} (hn : 0 ≤ n.toInt) {cap : Nat} (hcap : n.toInt ≤ cap) (hb : cap * 8 ≤ 536870912) (q : Nat) (hd : decode c.code pc = .ok (.newarray aty, 2)) (hq : pc + 2 = q) (hc : cells + 1 ≤ R.cells) (hl : slots + cap ≤ R.slots) {ad : String} (had : "[" ++ (newarray.typeOf aty).toString = ad)
    (K : ∀ (T' : State) (h' : Heap) (k : ClassId) (a : Addr), a = h.size → Stand p l e R s m args below meth c T' locs (cells + 1) (slots + cap) → T'.heap = h' → Ext h h' → Arv Z h' a k (newarray.typeOf aty) n [] (defaultValue (newarray.typeOf aty)) → Exa Z h' a ad → Go p e below Ev T' (mkF m q Ls (.ref a :: st))) : Go p e below Ev T (mkF m pc Ls (.int n :: st)) := by
  subst hq
  have hn' : ¬ n < 0 := fun q => by have := (own_i0 n).1.mp q; omega
  obtain ⟨T', h', k, X', e', E', A', B', st'⟩ := newPE X hx hZ w eT (g := mkF m pc Ls (.int n :: st)) rfl hd rfl hn' (cap := cap) (by simp only [Int32.toNatClampNeg]; omega) hb hc hl had
  exact (K T' h' k _ rfl X' e' E' (Arv.new A' hn') B').on st'
theorem g_len (X : Stand p l e R s m args below meth c T locs cells slots) (hx : p.tables.exec = Jvm.exec) {pc : Nat} {Ls : Array Slot} {st : List Value} (hZ : Z.Warmed39 s.vm) (eT : T.heap = h) {a : Addr} {k : ClassId} {ty : FieldType} {z : Int32} {vs : List Value} {dv : Value} (V : Arv Z h a k ty z vs dv) (q : Nat) (hd : decode c.code pc = .ok (.arraylength, 1)) (hq : pc + 1 = q) (K : Go p e below Ev T (mkF m q Ls (.int z :: st))) : Go p e below Ev T (mkF m pc Ls (.ref a :: st)) := by
  subst hq
  obtain ⟨cl, A, q1, S, q3, H, G⟩ := V
  refine K.on fun t k => X.arraylength hx (by rw [eT]; exact A.1) (State.isArrayOf_alike hZ.alike A.2.1) (g := mkF m pc Ls (.ref a :: st)) rfl rfl hd t ?_
  rw [len_of S q3]
  exact k
theorem g_dastore (X : Stand p l e R s m args below meth c T locs cells slots) (hx : p.tables.exec = Jvm.exec) {pc : Nat} {Ls : Array Slot} {st : List Value} (hZ : Z.Warmed39 s.vm) (eT : T.heap = h) {a : Addr} {k : ClassId} {z j : Int32} {x : UInt64} {vs : List Value} {dv : Value} (V : Arv Z h a k .double z vs dv) (i : Nat) (hi : j.toInt = (i : Int)) (hz : j.toInt < z.toInt) (hv : i < vs.length) (q : Nat) (hd : decode c.code pc = .ok (.dastore, 1)) (hq : pc + 1 = q)
    (K : ∀ T' h', Stand p l e R s m args below meth c T' (locs ++ [⟨a, j.toNatClampNeg⟩]) cells slots → T'.heap = h' → Wr h h' a j.toNatClampNeg (.double x) → Arv Z h' a k .double z (vs.set i (.double x)) dv → Go p e below Ev T' (mkF m q Ls st)) : Go p e below Ev T (mkF m pc Ls (.double x :: .int j :: .ref a :: st)) := by
  subst hq
  obtain ⟨cl, A, q1, S, q3, H, G⟩ := V
  have hj := own_at j (by omega) z hz S
  obtain ⟨T', h', X', e', W', st'⟩ := stD X hx hZ eT A hj (g := mkF m pc Ls (.double x :: .int j :: .ref a :: st)) rfl rfl hd
  exact (K T' h' X' e' W' (Arv.set A q1 S q3 H G rfl W' i (own_ncl hi) hv)).on st'
theorem g_iastore (X : Stand p l e R s m args below meth c T locs cells slots) (hx : p.tables.exec = Jvm.exec) {pc : Nat} {Ls : Array Slot} {st : List Value} (hZ : Z.Warmed39 s.vm) (eT : T.heap = h) {a : Addr} {k : ClassId} {z j : Int32} {x : Int32} {vs : List Value} {dv : Value} (V : Arv Z h a k .int z vs dv) (i : Nat) (hi : j.toInt = (i : Int)) (hz : j.toInt < z.toInt) (hv : i < vs.length) (q : Nat) (hd : decode c.code pc = .ok (.iastore, 1)) (hq : pc + 1 = q)
    (K : ∀ T' h', Stand p l e R s m args below meth c T' (locs ++ [⟨a, j.toNatClampNeg⟩]) cells slots → T'.heap = h' → Wr h h' a j.toNatClampNeg (.int x) → Arv Z h' a k .int z (vs.set i (.int x)) dv → Go p e below Ev T' (mkF m q Ls st)) : Go p e below Ev T (mkF m pc Ls (.int x :: .int j :: .ref a :: st)) := by
  subst hq
  obtain ⟨cl, A, q1, S, q3, H, G⟩ := V
  have hj := own_at j (by omega) z hz S
  obtain ⟨T', h', X', e', W', st'⟩ := stI X hx hZ eT A hj (g := mkF m pc Ls (.int x :: .int j :: .ref a :: st)) rfl rfl hd
  exact (K T' h' X' e' W' (Arv.set A q1 S q3 H G rfl W' i (own_ncl hi) hv)).on st'
theorem g_lastore (X : Stand p l e R s m args below meth c T locs cells slots) (hx : p.tables.exec = Jvm.exec) {pc : Nat} {Ls : Array Slot} {st : List Value} (hZ : Z.Warmed39 s.vm) (eT : T.heap = h) {a : Addr} {k : ClassId} {z j : Int32} {x : Int64} {vs : List Value} {dv : Value} (V : Arv Z h a k .long z vs dv) (i : Nat) (hi : j.toInt = (i : Int)) (hz : j.toInt < z.toInt) (hv : i < vs.length) (q : Nat) (hd : decode c.code pc = .ok (.lastore, 1)) (hq : pc + 1 = q)
    (K : ∀ T' h', Stand p l e R s m args below meth c T' (locs ++ [⟨a, j.toNatClampNeg⟩]) cells slots → T'.heap = h' → Wr h h' a j.toNatClampNeg (.long x) → Arv Z h' a k .long z (vs.set i (.long x)) dv → Go p e below Ev T' (mkF m q Ls st)) : Go p e below Ev T (mkF m pc Ls (.long x :: .int j :: .ref a :: st)) := by
  subst hq
  obtain ⟨cl, A, q1, S, q3, H, G⟩ := V
  have hj := own_at j (by omega) z hz S
  obtain ⟨T', h', X', e', W', st'⟩ := stJ X hx hZ eT A hj (g := mkF m pc Ls (.long x :: .int j :: .ref a :: st)) rfl rfl hd
  exact (K T' h' X' e' W' (Arv.set A q1 S q3 H G rfl W' i (own_ncl hi) hv)).on st'
theorem g_daload (X : Stand p l e R s m args below meth c T locs cells slots) (hx : p.tables.exec = Jvm.exec) {pc : Nat} {Ls : Array Slot} {st : List Value} (hZ : Z.Warmed39 s.vm) (eT : T.heap = h) {a : Addr} {k : ClassId} {z j : Int32} {v : Value} {vs : List Value} {dv : Value} (V : Arv Z h a k .double z vs dv) (hi : 0 ≤ j.toInt) (hz : j.toInt < z.toInt) (hv : vs.getD j.toNatClampNeg dv = v) (q : Nat) (hd : decode c.code pc = .ok (.daload, 1)) (hq : pc + 1 = q) (K : Go p e below Ev T (mkF m q Ls (v :: st))) : Go p e below Ev T (mkF m pc Ls (.int j :: .ref a :: st)) := by
  subst hq
  obtain ⟨cl, A, q1, S, q3, H, G⟩ := V
  have hj := own_at j hi z hz S
  exact K.on fun t k => X.daload hx (by rw [eT]; exact A.1) (State.isArrayOf_alike hZ.alike A.2.1) A.2.2 hj (H.at hj hv) (g := mkF m pc Ls (.int j :: .ref a :: st)) rfl rfl hd t k
theorem g_iaload (X : Stand p l e R s m args below meth c T locs cells slots) (hx : p.tables.exec = Jvm.exec) {pc : Nat} {Ls : Array Slot} {st : List Value} (hZ : Z.Warmed39 s.vm) (eT : T.heap = h) {a : Addr} {k : ClassId} {z j : Int32} {v : Value} {vs : List Value} {dv : Value} (V : Arv Z h a k .int z vs dv) (hi : 0 ≤ j.toInt) (hz : j.toInt < z.toInt) (hv : vs.getD j.toNatClampNeg dv = v) (q : Nat) (hd : decode c.code pc = .ok (.iaload, 1)) (hq : pc + 1 = q) (K : Go p e below Ev T (mkF m q Ls (v :: st))) : Go p e below Ev T (mkF m pc Ls (.int j :: .ref a :: st)) := by
  subst hq
  obtain ⟨cl, A, q1, S, q3, H, G⟩ := V
  have hj := own_at j hi z hz S
  exact K.on fun t k => X.iaload hx (by rw [eT]; exact A.1) (State.isArrayOf_alike hZ.alike A.2.1) A.2.2 hj (H.at hj hv) (g := mkF m pc Ls (.int j :: .ref a :: st)) rfl rfl hd t k
theorem g_laload (X : Stand p l e R s m args below meth c T locs cells slots) (hx : p.tables.exec = Jvm.exec) {pc : Nat} {Ls : Array Slot} {st : List Value} (hZ : Z.Warmed39 s.vm) (eT : T.heap = h) {a : Addr} {k : ClassId} {z j : Int32} {v : Value} {vs : List Value} {dv : Value} (V : Arv Z h a k .long z vs dv) (hi : 0 ≤ j.toInt) (hz : j.toInt < z.toInt) (hv : vs.getD j.toNatClampNeg dv = v) (q : Nat) (hd : decode c.code pc = .ok (.laload, 1)) (hq : pc + 1 = q) (K : Go p e below Ev T (mkF m q Ls (v :: st))) : Go p e below Ev T (mkF m pc Ls (.int j :: .ref a :: st)) := by
  subst hq
  obtain ⟨cl, A, q1, S, q3, H, G⟩ := V
  have hj := own_at j hi z hz S
  exact K.on fun t k => X.laload hx (by rw [eT]; exact A.1) (State.isArrayOf_alike hZ.alike A.2.1) A.2.2 hj (H.at hj hv) (g := mkF m pc Ls (.int j :: .ref a :: st)) rfl rfl hd t k
theorem g_clone (X : Stand p l e R s m args below meth c T locs cells slots) (hx : p.tables.exec = Jvm.exec) {pc : Nat} {Ls : Array Slot} {st : List Value} (hZ : Z.Warmed39 s.vm) {own ad : String} {i : Nat} (hown : s.vm.findClass own = some m.cls) (w1 : (Jvm.Cond.methodLink own i ⟨ad, "clone", "()Ljava/lang/Object;"⟩).before a0 Z = true) (w2 : (Jvm.Cond.sameMethod ad "java/lang/Object" "clone" "()Ljava/lang/Object;").before a0 Z = true) (w3 : (Jvm.Cond.native ⟨"java/lang/Object", "clone", "()Ljava/lang/Object;"⟩).before a0 Z = true) (w4 : (Jvm.Cond.instanceMethod ⟨"java/lang/Object", "clone", "()Ljava/lang/Object;"⟩).before a0 Z = true) (w5 : (Jvm.Cond.selects ad ⟨ad, "clone", "()Ljava/lang/Object;"⟩ ⟨"java/lang/Object", "clone", "()Ljava/lang/Object;"⟩).before a0 Z = true) (w6 : (Jvm.Cond.castable ad "java/lang/Cloneable").before a0 Z = true) (eT : T.heap = h) {a : Addr} {k : ClassId} {ty : FieldType} {z : Int32} {vs : List Value} {dv : Value} (V : Arv Z h a k ty z vs dv) (E : Exa Z h a ad) (W cap : Nat) (q : Nat) (hd : decode c.code pc = .ok (.invokevirtual i, 3)) (hq : pc + 3 = q) (hsz : Ls.size = c.maxLocals) (hf : 1 ≤ R.frames) (hW : (st.map fun v => v.category).sum ≤ W) (hl : W + 14 ≤ R.locals) (hcap : z.toInt ≤ cap) (hc : cells + 1 ≤ R.cells) (hs : slots + cap ≤ R.slots)
    (K : ∀ (T' : State) (h' : Heap) (b : Addr), b = h.size → Stand p l e R s m args below meth c T' locs (cells + 1) (slots + cap) → T'.heap = h' → Ext h h' → Arv Z h' b k ty z vs dv → Exa Z h' b ad → Go p e below Ev T' (mkF m q Ls (.ref b :: st))) : Go p e below Ev T (mkF m pc Ls (.ref a :: st)) := by
  subst hq
  obtain ⟨T', h', X', e', E', V', B', st'⟩ := cloneH X hx hZ hown w1 w2 w3 w4 w5 w6 eT V.arh E (g := mkF m pc Ls (.ref a :: st)) rfl hsz rfl hd hf (W := W) (cap := cap) (by show 2 * 0 + _ ≤ _; omega) hl (by simp only [Int32.toNatClampNeg]; omega) hc hs
  exact (K T' h' _ rfl X' e' E' V' B').on st'
theorem g_cast (X : Stand p l e R s m args below meth c T locs cells slots) (hx : p.tables.exec = Jvm.exec) {pc : Nat} {Ls : Array Slot} {st : List Value} (hZ : Z.Warmed39 s.vm) {own C : String} {i : Nat} (hown : s.vm.findClass own = some m.cls) (w : (Jvm.Cond.classLink own i C).before a0 Z = true) (eT : T.heap = h) {a : Addr} (F : Ins Z h a C true) (q : Nat) (hd : decode c.code pc = .ok (.checkcast i, 3)) (hq : pc + 3 = q) (K : ∀ T', Stand p l e R s m args below meth c T' locs cells slots → T'.heap = h → Go p e below Ev T' (mkF m q Ls (.ref a :: st))) : Go p e below Ev T (mkF m pc Ls (.ref a :: st)) := by
  subst hq
  obtain ⟨T', X', e', st'⟩ := castY X hx hZ hown w eT F (g := mkF m pc Ls (.ref a :: st)) rfl rfl hd
  exact (K T' X' e').on st'
end OwnKit
theorem own_pd0 : parseMethodDescriptor "(I)V" = some ⟨[.int], none⟩ := by decide +kernel
theorem own_pd1 : parseMethodDescriptor "()V" = some ⟨[], none⟩ := by decide +kernel
theorem own_pd2 : parseMethodDescriptor "([[I[[D)Z" = some ⟨[(.array (.array .int)), (.array (.array .double))], some .boolean⟩ := by decide +kernel
theorem own_pd3 : parseMethodDescriptor "([DD)V" = some ⟨[(.array .double), .double], none⟩ := by decide +kernel
theorem own_pd4 : parseMethodDescriptor "(D)D" = some ⟨[.double], some .double⟩ := by decide +kernel
theorem own_pd5 : parseMethodDescriptor "([DII)V" = some ⟨[(.array .double), .int, .int], none⟩ := by decide +kernel
theorem own_pd6 : parseMethodDescriptor "([D)[D" = some ⟨[(.array .double)], some (.array .double)⟩ := by decide +kernel
def Q_rm0 (n0 : Nat) (v : Option Value) (h : Heap) (L : List Loc) : Prop := v = some (.int 1) ∧ Fr n0 L
theorem own_dlit {i : Int} {a : UInt64} (s : Bool) (c : Nat) (q : Int) (h : Jvm.FP.Core.val64 a = .fin s c q) (h2 : Jvm.FP.Core.signed s (c * 2 ^ q.toNat) = i * ((2 ^ (-q).toNat : Nat) : Int)) : Jvm.FP.Core.DInt i a := by
  show Jvm.FP.Core.Whole i _
  rw [h]
  exact h2
theorem own_dnn {i : Int} {a : UInt64} (h : Jvm.FP.Core.DInt i a) : Jvm.Free.Fl.NoNaN64 a := Jvm.Free.Fl.noNaN64_no.mpr ((Jvm.FP.Core.notNaN_iff a).mpr (Jvm.FP.Core.Whole.ne_nan h))
theorem own_dzero : Jvm.FP.Core.DInt 0 (0 : UInt64) := own_dlit false 0 (-1074) (by decide +kernel) (by decide +kernel)
theorem own_done : Jvm.FP.Core.DInt 1 (4607182418800017408 : UInt64) := own_dlit false (2 ^ 52) (-52) (by decide +kernel) (by decide +kernel)
section Fix
open Jvm.FP Jvm.FP.Core Jvm.Free.Fl
def shd (k : Int) : Datum → Datum
  | .fin s c q => .fin s c (q + k)
  | .nan => .nan
  | .inf s => .inf s
/-- a is the number i / 2^k -/
def DFix (i : Int) (k : Nat) (a : UInt64) : Prop := Whole i (shd (k : Int) (val64 a))
theorem own_shdfin {i : Int} {k : Nat} {d : Datum} (h : Whole i (shd k d)) : ∃ s c q, d = .fin s c q := by
  cases d with
  | nan => exact h.elim
  | inf => exact h.elim
  | fin s c q => exact ⟨s, c, q, rfl⟩
theorem own_fixnn {i : Int} {k : Nat} {a : UInt64} (h : DFix i k a) : NoNaN64 a := by
  obtain ⟨s, c, q, e⟩ := own_shdfin h
  exact noNaN64_no.mpr ((notNaN_iff a).mpr (by rw [e]; intro q; cases q))
theorem own_sgn {i : Int} {s : Bool} (h : s = decide (i < 0)) : signed s i.natAbs = i := by
  subst h
  unfold signed
  by_cases hn : i < 0 <;> simp [hn] <;> omega
/-- i / 2^k of up to 53 digits is in the format -/
theorem own_fixrr {i : Int} {k : Nat} {s : Bool} (h0 : i ≠ 0) (hi : i.natAbs ≤ 2 ^ 53) (hk : k ≤ 1000) (hs : s = decide (i < 0)) : Whole i (shd k (roundRatio b64 s i.natAbs 1 (-(k : Int)))) := by
  obtain ⟨c', q', hfit, hv⟩ := natFit good_b64 wide_b64 s (n := i.natAbs) hi
  obtain ⟨f1, f2, f3, f4⟩ := hfit
  have hp : b64.p = 53 := by decide
  have hmin : b64.qmin = -1074 := by decide
  have hq : -52 ≤ q' := by
    refine Int.le_of_not_gt fun hlt => ?_
    rw [show (q' - 0).toNat = 0 by omega, Nat.pow_zero, Nat.mul_one, Nat.mul_one] at hv
    have h53 : 2 ^ 53 ≤ 2 ^ (0 - q').toNat := Nat.pow_le_pow_right (by decide) (by omega)
    have : 1 * 2 ^ (0 - q').toNat ≤ i.natAbs * 2 ^ (0 - q').toNat := Nat.mul_le_mul_right _ (by omega)
    rw [hp] at f1
    omega
  have hfit2 : Core.fits b64 (.fin s c' (q' - k)) := ⟨f1, by rw [hmin]; omega, by omega, f4.elim (fun q => by rw [hmin] at q; omega) Or.inr⟩
  rw [roundRatio_exact good_b64 (by decide) hfit2 (by rw [show -(k : Int) - (q' - k) = 0 - q' by omega, show q' - k - -(k : Int) = q' - 0 by omega]; exact hv)]
  show signed s (c' * 2 ^ (q' - k + k).toNat) = i * ((2 ^ (-(q' - k + k)).toNat : Nat) : Int)
  rw [show q' - k + k = q' by omega]
  rw [show (0 - q').toNat = (-q').toNat by omega, show (q' - 0).toNat = q'.toNat by omega, Nat.mul_one] at hv
  rw [← hv, signed_mul, own_sgn hs]
theorem own_fixround {i : Int} {k : Nat} {d : Datum} (hi : i.natAbs ≤ 2 ^ 53) (hk : k ≤ 1000) (h : Whole i (shd k d)) : Whole i (shd k (round b64 d)) := by
  obtain ⟨s, c, q, rfl⟩ := own_shdfin h
  have h' : Whole i (.fin s c (q + k)) := h
  by_cases h0 : i = 0
  · subst h0
    have hc : c = 0 := (whole_zero h').mpr rfl
    subst hc
    show Whole 0 (shd k (roundRatio b64 s 0 1 q))
    unfold roundRatio
    rw [if_pos rfl]
    show signed s (0 * _) = 0 * _
    rw [Nat.zero_mul, Int.zero_mul, signed_zero]
  · have hn := whole_natAbs h'
    have e1 : round b64 (.fin s c q) = roundRatio b64 s i.natAbs 1 (-(k : Int)) := by
      refine roundRatio_congr (by decide) (by decide) ?_
      rw [show q - -(k : Int) = q + k by omega, show -(k : Int) - q = -(q + k) by omega, Nat.mul_one, Nat.mul_one]
      exact hn
    rw [e1]
    exact own_fixrr h0 hi hk (whole_sign h' h0)
theorem own_fixadd {i j : Int} {k : Nat} {a b : UInt64} (ha : DFix i k a) (hb : DFix j k b) (h : (i + j).natAbs ≤ 2 ^ 53) (hk : k ≤ 1000) : DFix (i + j) k (FP.dadd a b) := by
  show Whole _ (shd k (val64 (Core.dadd a b)))
  rw [val64_dadd]
  refine own_fixround h hk ?_
  obtain ⟨s, c, q, ea⟩ := own_shdfin ha
  obtain ⟨t, d, r, eb⟩ := own_shdfin hb
  have ha' : Whole i (.fin s c (q + k)) := by have := ha; unfold DFix at this; rw [ea] at this; exact this
  have hb' : Whole j (.fin t d (r + k)) := by have := hb; unfold DFix at this; rw [eb] at this; exact this
  rw [ea, eb]
  have e : shd k (exactSum (.fin s c q) (.fin t d r)) = exactSum (.fin s c (q + k)) (.fin t d (r + k)) := by
    simp only [exactSum, shd]
    have e0 : min (q + (k : Int)) (r + k) = min q r + k := by omega
    have e1 : sumUnits s c (q + k) t d (r + k) (min q r + k) = sumUnits s c q t d r (min q r) := by
      unfold sumUnits inUnits
      rw [show q + (k : Int) - (min q r + k) = q - min q r by omega, show r + (k : Int) - (min q r + k) = r - min q r by omega]
    rw [e0, e1]
  rw [e]
  exact whole_sum ha' hb'
theorem own_fixneg {i : Int} {k : Nat} {a : UInt64} (ha : DFix i k a) : Whole (-i) (shd k (negate (val64 a))) := by
  obtain ⟨s, c, q, ea⟩ := own_shdfin ha
  have ha' : Whole i (.fin s c (q + k)) := by have := ha; unfold DFix at this; rw [ea] at this; exact this
  rw [ea]
  exact whole_negate ha'
theorem own_fixsub {i j : Int} {k : Nat} {a b : UInt64} (ha : DFix i k a) (hb : DFix j k b) (h : (i - j).natAbs ≤ 2 ^ 53) (hk : k ≤ 1000) : DFix (i - j) k (FP.dsub a b) := by
  have hb2 : DFix (-j) k (Core.dneg b) := by
    show Whole _ (shd k (val64 (Core.dneg b)))
    rw [Core.val64_dneg]; exact own_fixneg hb
  have := own_fixadd ha hb2 (by rw [← Int.sub_eq_add_neg]; exact h) hk
  rw [← Int.sub_eq_add_neg] at this
  show DFix (i - j) k (Core.dsub a b)
  rw [dsub_eq]; exact this
theorem own_fixmul {i j : Int} {k l : Nat} {a b : UInt64} (ha : DFix i k a) (hb : DFix j l b) (h : (i * j).natAbs ≤ 2 ^ 53) (hk : k + l ≤ 1000) : DFix (i * j) (k + l) (FP.dmul a b) := by
  show Whole _ (shd _ (val64 (Core.dmul a b)))
  rw [val64_dmul]
  refine own_fixround h hk ?_
  obtain ⟨s, c, q, ea⟩ := own_shdfin ha
  obtain ⟨t, d, r, eb⟩ := own_shdfin hb
  have ha' : Whole i (.fin s c (q + k)) := by have := ha; unfold DFix at this; rw [ea] at this; exact this
  have hb' : Whole j (.fin t d (r + l)) := by have := hb; unfold DFix at this; rw [eb] at this; exact this
  rw [ea, eb]
  have e : shd ((k + l : Nat) : Int) (exactProduct (.fin s c q) (.fin t d r)) = exactProduct (.fin s c (q + k)) (.fin t d (r + l)) := by
    simp only [exactProduct, shd]
    rw [show q + r + ((k + l : Nat) : Int) = q + k + (r + l) by omega]
  rw [e]
  exact whole_product ha' hb'
theorem own_fixcmp {i j : Int} {k : Nat} {a b : UInt64} (ha : DFix i k a) (hb : DFix j k b) : FP.dcmp a b = some (compare i j) := by
  obtain ⟨s, c, q, ea⟩ := own_shdfin ha
  obtain ⟨t, d, r, eb⟩ := own_shdfin hb
  have ha' : Whole i (.fin s c (q + k)) := by have := ha; unfold DFix at this; rw [ea] at this; exact this
  have hb' : Whole j (.fin t d (r + k)) := by have := hb; unfold DFix at this; rw [eb] at this; exact this
  show order (val64 a) (val64 b) = _
  rw [ea, eb, ← order_whole ha' hb']
  simp only [order]
  have e0 : min (q + (k : Int)) (r + k) = min q r + k := by omega
  unfold inUnits
  rw [e0, show q + (k : Int) - (min q r + k) = q - min q r by omega, show r + (k : Int) - (min q r + k) = r - min q r by omega]
theorem own_fixlift {i : Int} {k : Nat} {a : UInt64} (ha : DFix i k a) (m : Nat) : DFix (i * ((2 ^ m : Nat) : Int)) (k + m) a := by
  obtain ⟨s, c, q, ea⟩ := own_shdfin ha
  have h : signed s (c * 2 ^ (q + k).toNat) = i * ((2 ^ (-(q + (k : Int))).toNat : Nat) : Int) := by have := ha; unfold DFix at this; rw [ea] at this; exact this
  show Whole _ (shd _ (val64 a))
  rw [ea]
  show signed s (c * 2 ^ (q + ((k + m : Nat) : Int)).toNat) = i * ((2 ^ m : Nat) : Int) * ((2 ^ (-(q + ((k + m : Nat) : Int))).toNat : Nat) : Int)
  have p2 : ((2 ^ (-(q + (k : Int))).toNat : Nat) : Int) ≠ 0 := by have := Nat.two_pow_pos (-(q + (k : Int))).toNat; omega
  refine Int.eq_of_mul_eq_mul_right p2 ?_
  rw [← signed_mul, Nat.mul_assoc, ← Nat.pow_add]
  rw [show (q + ((k + m : Nat) : Int)).toNat + (-(q + (k : Int))).toNat = (q + k).toNat + (m + (-(q + ((k + m : Nat) : Int))).toNat) by omega]
  rw [Nat.pow_add, ← Nat.mul_assoc, signed_mul, h, Nat.pow_add]
  rw [Int.natCast_mul]
  simp only [Int.mul_assoc]
  rw [Int.mul_comm ((2 ^ (-(q + (k : Int))).toNat : Nat) : Int), Int.mul_assoc]
theorem own_fix0 {i : Int} {a : UInt64} : DFix i 0 a ↔ DInt i a := by
  have e : shd ((0 : Nat) : Int) (val64 a) = val64 a := by
    cases val64 a with
    | nan => rfl
    | inf => rfl
    | fin s c q => show Datum.fin s c (q + ((0 : Nat) : Int)) = _; rw [show q + ((0 : Nat) : Int) = q by omega]
  unfold DFix DInt
  rw [e]
theorem own_fixint {i : Int} {a : UInt64} (h : DInt i a) (m : Nat) : DFix (i * ((2 ^ m : Nat) : Int)) m a := by
  have := own_fixlift (own_fix0.mpr h) m
  rwa [Nat.zero_add] at this
theorem own_fixdiv {i j t : Int} {k l M : Nat} {a b : UInt64} (ha : DFix i k a) (hb : DFix j l b) (hj : j ≠ 0) (ht : i * ((2 ^ (l + M) : Nat) : Int) = t * j * ((2 ^ k : Nat) : Int)) (h : t.natAbs ≤ 2 ^ 53) (hM : M ≤ 1000) : DFix t M (FP.ddiv a b) := by
  show Whole _ (shd _ (val64 (Core.ddiv a b)))
  rw [val64_ddiv]
  obtain ⟨s, c, q, ea⟩ := own_shdfin ha
  obtain ⟨u, d, r, eb⟩ := own_shdfin hb
  have ha' : Whole i (.fin s c (q + k)) := by have := ha; unfold DFix at this; rw [ea] at this; exact this
  have hb' : Whole j (.fin u d (r + l)) := by have := hb; unfold DFix at this; rw [eb] at this; exact this
  have hd : d ≠ 0 := fun q => hj ((whole_zero hb').mp q)
  have p1 : (0 : Int) < ((2 ^ (l + M) : Nat) : Int) := by have := Nat.two_pow_pos (l + M); omega
  have p2 : (0 : Int) < ((2 ^ k : Nat) : Int) := by have := Nat.two_pow_pos k; omega
  rw [ea, eb]
  show Whole t (shd M (if d = 0 then _ else roundRatio b64 (s != u) c d (q - r)))
  rw [if_neg hd]
  by_cases h0 : t = 0
  · subst h0
    have hi0 : i = 0 := by
      rw [Int.zero_mul, Int.zero_mul] at ht
      rcases Int.mul_eq_zero.mp ht with q | q
      · exact q
      · omega
    have hc : c = 0 := (whole_zero ha').mpr hi0
    subst hc
    unfold roundRatio
    rw [if_pos rfl]
    show signed _ (0 * _) = 0 * _
    rw [Nat.zero_mul, Int.zero_mul, signed_zero]
  · have hi0 : i ≠ 0 := by
      intro q; subst q
      rw [Int.zero_mul] at ht
      rcases Int.mul_eq_zero.mp ht.symm with q | q
      · rcases Int.mul_eq_zero.mp q with q | q
        · exact h0 q
        · exact hj q
      · omega
    have hsg : (s != u) = decide (t < 0) := by
      rw [whole_sign ha' hi0, whole_sign hb' hj]
      have m1 : i < 0 ↔ t * j < 0 := by
        constructor
        · intro q
          refine Int.lt_of_not_ge fun g => ?_
          have a1 := Int.mul_nonneg g (Int.le_of_lt p2)
          have a2 := Int.mul_neg_of_neg_of_pos q p1
          omega
        · intro q
          refine Int.lt_of_not_ge fun g => ?_
          have a1 := Int.mul_nonneg g (Int.le_of_lt p1)
          have a2 := Int.mul_neg_of_neg_of_pos q p2
          omega
      have m2 : decide (i < 0) = decide (t * j < 0) := decide_eq_decide.mpr m1
      rw [m2]
      rcases Int.lt_or_gt_of_ne hj with g | g
      · rcases Int.lt_or_gt_of_ne h0 with f | f
        · have := Int.mul_pos_of_neg_of_neg f g
          simp [f, g, show ¬ t * j < 0 by omega]
        · have := Int.mul_neg_of_pos_of_neg f g
          simp [g, show ¬ t < 0 by omega, this]
      · rcases Int.lt_or_gt_of_ne h0 with f | f
        · have := Int.mul_neg_of_neg_of_pos f g
          simp [f, this, show ¬ j < 0 by omega]
        · have := Int.mul_pos f g
          simp [show ¬ t < 0 by omega, show ¬ j < 0 by omega, show ¬ t * j < 0 by omega]
    have hn1 := whole_natAbs ha'
    have hn2 := whole_natAbs hb'
    have hn3 : i.natAbs * 2 ^ (l + M) = t.natAbs * j.natAbs * 2 ^ k := by
      have := congrArg Int.natAbs ht
      rw [Int.natAbs_mul, Int.natAbs_mul, Int.natAbs_mul, Int.natAbs_natCast, Int.natAbs_natCast] at this
      exact this
    have hjp : 0 < j.natAbs := by omega
    have key : c * 1 * 2 ^ (q - r - -(M : Int)).toNat = t.natAbs * d * 2 ^ (-(M : Int) - (q - r)).toNat := by
      have hF : 0 < j.natAbs * 2 ^ (-(r + (l : Int))).toNat * 2 ^ (q + (k : Int)).toNat * 2 ^ k := Nat.mul_pos (Nat.mul_pos (Nat.mul_pos hjp (Nat.two_pow_pos _)) (Nat.two_pow_pos _)) (Nat.two_pow_pos _)
      refine Nat.eq_of_mul_eq_mul_right hF ?_
      have hex : (-(q + (k : Int))).toNat + (q - r - -(M : Int)).toNat + (r + (l : Int)).toNat + k = (-(M : Int) - (q - r)).toNat + (-(r + (l : Int))).toNat + (q + (k : Int)).toNat + (l + M) := by omega
      have L : c * 1 * 2 ^ (q - r - -(M : Int)).toNat * (j.natAbs * 2 ^ (-(r + (l : Int))).toNat * 2 ^ (q + (k : Int)).toNat * 2 ^ k) = i.natAbs * d * 2 ^ ((-(q + (k : Int))).toNat + (q - r - -(M : Int)).toNat + (r + (l : Int)).toNat + k) := by
        calc c * 1 * 2 ^ (q - r - -(M : Int)).toNat * (j.natAbs * 2 ^ (-(r + (l : Int))).toNat * 2 ^ (q + (k : Int)).toNat * 2 ^ k) = (c * 2 ^ (q + (k : Int)).toNat) * (j.natAbs * 2 ^ (-(r + (l : Int))).toNat) * 2 ^ (q - r - -(M : Int)).toNat * 2 ^ k := by rw [Nat.mul_one]; ac_rfl
          _ = (i.natAbs * 2 ^ (-(q + (k : Int))).toNat) * (d * 2 ^ (r + (l : Int)).toNat) * 2 ^ (q - r - -(M : Int)).toNat * 2 ^ k := by rw [hn1, hn2]
          _ = _ := by simp only [Nat.pow_add]; ac_rfl
      have Rr : t.natAbs * d * 2 ^ (-(M : Int) - (q - r)).toNat * (j.natAbs * 2 ^ (-(r + (l : Int))).toNat * 2 ^ (q + (k : Int)).toNat * 2 ^ k) = i.natAbs * d * 2 ^ ((-(M : Int) - (q - r)).toNat + (-(r + (l : Int))).toNat + (q + (k : Int)).toNat + (l + M)) := by
        calc t.natAbs * d * 2 ^ (-(M : Int) - (q - r)).toNat * (j.natAbs * 2 ^ (-(r + (l : Int))).toNat * 2 ^ (q + (k : Int)).toNat * 2 ^ k) = (t.natAbs * j.natAbs * 2 ^ k) * (d * 2 ^ (-(M : Int) - (q - r)).toNat * 2 ^ (-(r + (l : Int))).toNat * 2 ^ (q + (k : Int)).toNat) := by ac_rfl
          _ = (i.natAbs * 2 ^ (l + M)) * (d * 2 ^ (-(M : Int) - (q - r)).toNat * 2 ^ (-(r + (l : Int))).toNat * 2 ^ (q + (k : Int)).toNat) := by rw [hn3]
          _ = _ := by simp only [Nat.pow_add]; ac_rfl
      rw [L, Rr, hex]
    rw [roundRatio_congr (A' := t.natAbs) (B' := 1) (e' := -(M : Int)) (by omega) (by decide) (by simpa using key)]
    exact own_fixrr h0 h hM hsg
end Fix
section OwnMath
variable {p : Program} {l : Launch} {e : Env} {R : Room} {s : State} {m : MethodId} {args : Array Value} {below : List Frame} {meth : Method} {c : Code} {T : State} {locs : List Loc} {cells slots : Nat} {Z : State} {a0 : Array Value} {h h' : Heap} {Ev : State → Outcome → Prop}
theorem g_maxD (X : Stand p l e R s m args below meth c T locs cells slots) (hx : p.tables.exec = Jvm.exec) {pc : Nat} {Ls : Array Slot} {st : List Value} (hZ : Z.Warmed39 s.vm) {own : String} {i : Nat} {by0 : ByteArray} (hown : s.vm.findClass own = some m.cls) (w1 : (Jvm.Cond.methodLink own i ⟨"java/lang/Math", "max", "(DD)D"⟩).before a0 Z = true) (w2 : (Jvm.Cond.static ⟨"java/lang/Math", "max", "(DD)D"⟩).before a0 Z = true) (w3 : (Jvm.Cond.initialized "java/lang/Math").before a0 Z = true) (w4 : (Jvm.Cond.code ⟨"java/lang/Math", "max", "(DD)D"⟩ by0 4 (some .double)).before a0 Z = true) (hby0 : by0 = Jvm.Free.Fl.Abs.maxDCode) (eT : T.heap = h) {a b : UInt64} (ha : Jvm.Free.Fl.NoNaN64 a) (hb : Jvm.Free.Fl.NoNaN64 b) {r : UInt64} (hr : Jvm.Native.java_lang_Math.nans.pick64 true a b = r) (W : Nat) (q : Nat) (hd : decode c.code pc = .ok (.invokestatic i, 3)) (hq : pc + 3 = q) (hsz : Ls.size = c.maxLocals) (hW : (st.map fun v => v.category).sum ≤ W) (hf : 1 ≤ R.frames) (hl : W + 15 ≤ R.locals) (hc : cells ≤ R.cells) (hs : slots ≤ R.slots) (hpd : parseMethodDescriptor "(DD)D" = some ⟨[.double, .double], some .double⟩)
    (K : ∀ T', Stand p l e R s m args below meth c T' locs cells slots → T'.heap = h → Go p e below Ev T' (mkF m q Ls (.double r :: st))) : Go p e below Ev T (mkF m pc Ls (.double b :: .double a :: st)) := by
  subst hq hby0
  obtain ⟨T', X', e', st'⟩ := natS X hx hZ (y := ⟨"java/lang/Math", "max", "(DD)D"⟩) hown w1 w2 w3 w4 (by decide) eT (W := W) (F := fun a' => a' = #[.double a, .double b] ∧ Jvm.Free.Fl.NoNaN64 a ∧ Jvm.Free.Fl.NoNaN64 b) (val := .double (Jvm.Native.java_lang_Math.nans.pick64 true a b)) (val' := .double r) (fun hcd => Jvm.Free.Fl.Abs.maxD_pays a b hcd hf hl) (g := mkF m pc Ls (.double b :: .double a :: st)) rfl hsz (argsL := [.double a, .double b]) (rest := st) (lenOf hpd rfl) rfl (by show 2 * 0 + _ ≤ _; omega) hd hc hs ⟨rfl, ha, hb⟩ (by rw [hr])
  exact (K T' X' e').on st'
theorem g_minD (X : Stand p l e R s m args below meth c T locs cells slots) (hx : p.tables.exec = Jvm.exec) {pc : Nat} {Ls : Array Slot} {st : List Value} (hZ : Z.Warmed39 s.vm) {own : String} {i : Nat} {by0 : ByteArray} (hown : s.vm.findClass own = some m.cls) (w1 : (Jvm.Cond.methodLink own i ⟨"java/lang/Math", "min", "(DD)D"⟩).before a0 Z = true) (w2 : (Jvm.Cond.static ⟨"java/lang/Math", "min", "(DD)D"⟩).before a0 Z = true) (w3 : (Jvm.Cond.initialized "java/lang/Math").before a0 Z = true) (w4 : (Jvm.Cond.code ⟨"java/lang/Math", "min", "(DD)D"⟩ by0 4 (some .double)).before a0 Z = true) (hby0 : by0 = Jvm.Free.Fl.Abs.minDCode) (eT : T.heap = h) {a b : UInt64} (ha : Jvm.Free.Fl.NoNaN64 a) (hb : Jvm.Free.Fl.NoNaN64 b) {r : UInt64} (hr : Jvm.Native.java_lang_Math.nans.pick64 false a b = r) (W : Nat) (q : Nat) (hd : decode c.code pc = .ok (.invokestatic i, 3)) (hq : pc + 3 = q) (hsz : Ls.size = c.maxLocals) (hW : (st.map fun v => v.category).sum ≤ W) (hf : 1 ≤ R.frames) (hl : W + 15 ≤ R.locals) (hc : cells ≤ R.cells) (hs : slots ≤ R.slots) (hpd : parseMethodDescriptor "(DD)D" = some ⟨[.double, .double], some .double⟩)
    (K : ∀ T', Stand p l e R s m args below meth c T' locs cells slots → T'.heap = h → Go p e below Ev T' (mkF m q Ls (.double r :: st))) : Go p e below Ev T (mkF m pc Ls (.double b :: .double a :: st)) := by
  subst hq hby0
  obtain ⟨T', X', e', st'⟩ := natS X hx hZ (y := ⟨"java/lang/Math", "min", "(DD)D"⟩) hown w1 w2 w3 w4 (by decide) eT (W := W) (F := fun a' => a' = #[.double a, .double b] ∧ Jvm.Free.Fl.NoNaN64 a ∧ Jvm.Free.Fl.NoNaN64 b) (val := .double (Jvm.Native.java_lang_Math.nans.pick64 false a b)) (val' := .double r) (fun hcd => Jvm.Free.Fl.Abs.minD_pays a b hcd hf hl) (g := mkF m pc Ls (.double b :: .double a :: st)) rfl hsz (argsL := [.double a, .double b]) (rest := st) (lenOf hpd rfl) rfl (by show 2 * 0 + _ ≤ _; omega) hd hc hs ⟨rfl, ha, hb⟩ (by rw [hr])
  exact (K T' X' e').on st'
theorem g_absD (X : Stand p l e R s m args below meth c T locs cells slots) (hx : p.tables.exec = Jvm.exec) {pc : Nat} {Ls : Array Slot} {st : List Value} (hZ : Z.Warmed39 s.vm) {own : String} {i : Nat} {by0 : ByteArray} (hown : s.vm.findClass own = some m.cls) (w1 : (Jvm.Cond.methodLink own i ⟨"java/lang/Math", "abs", "(D)D"⟩).before a0 Z = true) (w2 : (Jvm.Cond.static ⟨"java/lang/Math", "abs", "(D)D"⟩).before a0 Z = true) (w3 : (Jvm.Cond.initialized "java/lang/Math").before a0 Z = true) (w4 : (Jvm.Cond.code ⟨"java/lang/Math", "abs", "(D)D"⟩ by0 2 (some .double)).before a0 Z = true) (hby0 : by0 = Jvm.Free.Fl.Abs.absDCode) (eT : T.heap = h) {a : UInt64} (ha : Jvm.Free.Fl.NoNaN64 a) (W : Nat) (q : Nat) (hd : decode c.code pc = .ok (.invokestatic i, 3)) (hq : pc + 3 = q) (hsz : Ls.size = c.maxLocals) (hW : (st.map fun v => v.category).sum ≤ W) (hf : 1 ≤ R.frames) (hl : W + 13 ≤ R.locals) (hc : cells ≤ R.cells) (hs : slots ≤ R.slots) (hpd : parseMethodDescriptor "(D)D" = some ⟨[.double], some .double⟩)
    (K : ∀ T', Stand p l e R s m args below meth c T' locs cells slots → T'.heap = h → Go p e below Ev T' (mkF m q Ls (.double (a &&& 0x7fffffffffffffff) :: st))) : Go p e below Ev T (mkF m pc Ls (.double a :: st)) := by
  subst hq hby0
  obtain ⟨T', X', e', st'⟩ := natS X hx hZ (y := ⟨"java/lang/Math", "abs", "(D)D"⟩) hown w1 w2 w3 w4 (by decide) eT (W := W) (F := fun a' => a' = #[.double a] ∧ Jvm.Free.Fl.NoNaN64 a) (val := .double (a &&& 0x7fffffffffffffff)) (val' := .double (a &&& 0x7fffffffffffffff)) (fun hcd => Jvm.Free.Fl.Abs.absD_pays a hcd hf hl) (g := mkF m pc Ls (.double a :: st)) rfl hsz (argsL := [.double a]) (rest := st) (lenOf hpd rfl) rfl (by show 2 * 0 + _ ≤ _; omega) hd hc hs ⟨rfl, ha⟩ rfl
  exact (K T' X' e').on st'
open Jvm.FP.Core in
theorem own_pick {i j : Int} {a b : UInt64} (g : Bool) (ha : DInt i a) (hb : DInt j b) : DInt (if g then max i j else min i j) (Jvm.Native.java_lang_Math.nans.pick64 g a b) := by
  have hc : FP.dcmp a b = some (compare i j) := dcmp_int ha hb
  unfold Jvm.Native.java_lang_Math.nans.pick64
  rw [hc]
  have C : i < j ∨ i = j ∨ j < i := by omega
  rcases C with C | C | C
  · rw [show compare i j = .lt from by rw [compare_ite]; simp [C]]
    cases g
    · show DInt (min i j) a; rw [show min i j = i by omega]; exact ha
    · show DInt (max i j) b; rw [show max i j = j by omega]; exact hb
  · subst C
    rw [show compare i i = .eq from by rw [compare_ite]; simp]
    have e1 : (if g then max i i else min i i) = i := by cases g <;> simp
    rw [e1]
    dsimp only
    split <;> assumption
  · rw [show compare i j = .gt from by rw [compare_ite]; simp [show ¬ i < j by omega, show ¬ i = j by omega]]
    cases g
    · show DInt (min i j) b; rw [show min i j = j by omega]; exact hb
    · show DInt (max i j) a; rw [show max i j = i by omega]; exact ha
theorem own_minD {i j : Int} {a b : UInt64} (ha : Jvm.FP.Core.DInt i a) (hb : Jvm.FP.Core.DInt j b) : Jvm.FP.Core.DInt (min i j) (Jvm.Native.java_lang_Math.nans.pick64 false a b) := own_pick false ha hb
theorem own_maxD {i j : Int} {a b : UInt64} (ha : Jvm.FP.Core.DInt i a) (hb : Jvm.FP.Core.DInt j b) : Jvm.FP.Core.DInt (max i j) (Jvm.Native.java_lang_Math.nans.pick64 true a b) := own_pick true ha hb
end OwnMath
section OwnKit2
variable {p : Program} {l : Launch} {e : Env} {R : Room} {s : State} {m : MethodId} {args : Array Value} {below : List Frame} {meth : Method} {c : Code} {T : State} {locs : List Loc} {cells slots : Nat} {Z : State} {a0 : Array Value} {h h' : Heap} {Ev : State → Outcome → Prop}
theorem g_iaddC (X : Stand p l e R s m args below meth c T locs cells slots) (hx : p.tables.exec = Jvm.exec) {pc : Nat} {Ls : Array Slot} {st : List Value} {x y : Int32} (r : Int32) (hr : x + y = r) (q : Nat) (hd : decode c.code pc = .ok (.iadd, 1)) (hq : pc + 1 = q) (K : Go p e below Ev T (mkF m q Ls (.int r :: st))) : Go p e below Ev T (mkF m pc Ls (.int y :: .int x :: st)) := by
  subst hr
  exact g_iadd X hx q hd hq K
theorem g_isubC (X : Stand p l e R s m args below meth c T locs cells slots) (hx : p.tables.exec = Jvm.exec) {pc : Nat} {Ls : Array Slot} {st : List Value} {x y : Int32} (r : Int32) (hr : x - y = r) (q : Nat) (hd : decode c.code pc = .ok (.isub, 1)) (hq : pc + 1 = q) (K : Go p e below Ev T (mkF m q Ls (.int r :: st))) : Go p e below Ev T (mkF m pc Ls (.int y :: .int x :: st)) := by
  subst hr
  exact g_isub X hx q hd hq K
theorem g_imulC (X : Stand p l e R s m args below meth c T locs cells slots) (hx : p.tables.exec = Jvm.exec) {pc : Nat} {Ls : Array Slot} {st : List Value} {x y : Int32} (r : Int32) (hr : x * y = r) (q : Nat) (hd : decode c.code pc = .ok (.imul, 1)) (hq : pc + 1 = q) (K : Go p e below Ev T (mkF m q Ls (.int r :: st))) : Go p e below Ev T (mkF m pc Ls (.int y :: .int x :: st)) := by
  subst hr
  exact g_imul X hx q hd hq K
theorem g_iincC (X : Stand p l e R s m args below meth c T locs cells slots) (hx : p.tables.exec = Jvm.exec) {pc : Nat} {Ls : Array Slot} {st : List Value} {k : Nat} {i : Int} {v w : Int32} (r : Int32) (hr : v + w = r) {l' : Array Slot} (q : Nat) (hd : decode c.code pc = .ok (.iinc k i, 3)) (hq : pc + 3 = q) (hl : Ls[k]? = some (.val (.int v))) (hv : Int32.ofInt i = w) (hl' : storeLocals Ls k (.int r) = some l') (K : Go p e below Ev T (mkF m q l' st)) : Go p e below Ev T (mkF m pc Ls st) := by
  subst hr
  exact g_iinc X hx q hd hq hl hv hl' K
theorem g_anewA (X : Stand p l e R s m args below meth c T locs cells slots) (hx : p.tables.exec = Jvm.exec) {pc : Nat} {Ls : Array Slot} {st : List Value} (hZ : Z.Warmed39 s.vm) {own C : String} {ty : FieldType} {i : Nat} (hown : s.vm.findClass own = some m.cls) (hC : (FieldType.array ty).toString = C) (w1 : (Jvm.Cond.classLink own i C).before a0 Z = true) (w2 : (Jvm.Cond.arrayOver (.array ty)).before a0 Z = true) (eT : T.heap = h) {n : Int32} (hn : 0 ≤ n.toInt) {cap : Nat} (hcap : n.toInt ≤ cap) (hb : cap * 8 ≤ 536870912) (q : Nat) (hd : decode c.code pc = .ok (.anewarray i, 3)) (hq : pc + 3 = q) (hc : cells + 1 ≤ R.cells) (hl : slots + cap ≤ R.slots) {ad : String} (had : "[" ++ C = ad)
    (K : ∀ (T' : State) (h' : Heap) (k : ClassId) (a : Addr), a = h.size → Stand p l e R s m args below meth c T' locs (cells + 1) (slots + cap) → T'.heap = h' → Ext h h' → Arv Z h' a k (.array ty) n [] .null → Exa Z h' a ad → OvrA Z k ty C → Go p e below Ev T' (mkF m q Ls (.ref a :: st))) : Go p e below Ev T (mkF m pc Ls (.int n :: st)) := by
  subst hq
  have hn' : ¬ n < 0 := fun q => by have := (own_i0 n).1.mp q; omega
  obtain ⟨T', h', k, X', e', E', A', B', O', st'⟩ := newRA X hx hZ hown hC w1 w2 eT (g := mkF m pc Ls (.int n :: st)) rfl hd rfl hn' (cap := cap) (by simp only [Int32.toNatClampNeg]; omega) hb hc hl had
  exact (K T' h' k _ rfl X' e' E' (Arv.new A' hn') B' O').on st'
theorem g_aastoreA (X : Stand p l e R s m args below meth c T locs cells slots) (hx : p.tables.exec = Jvm.exec) {pc : Nat} {Ls : Array Slot} {st : List Value} (hZ : Z.Warmed39 s.vm) (eT : T.heap = h) {a y : Addr} {k : ClassId} {ty : FieldType} {C : String} {z j : Int32} {vs : List Value} {dv : Value} (V : Arv Z h a k (.array ty) z vs dv) (O : OvrA Z k ty C) (I : Ins Z h y C true) (i : Nat) (hi : j.toInt = (i : Int)) (hz : j.toInt < z.toInt) (hv : i < vs.length) (q : Nat) (hd : decode c.code pc = .ok (.aastore, 1)) (hq : pc + 1 = q)
    (K : ∀ T' h', Stand p l e R s m args below meth c T' (locs ++ [⟨a, j.toNatClampNeg⟩]) cells slots → T'.heap = h' → Wr h h' a j.toNatClampNeg (.ref y) → Arv Z h' a k (.array ty) z (vs.set i (.ref y)) dv → Go p e below Ev T' (mkF m q Ls st)) : Go p e below Ev T (mkF m pc Ls (.ref y :: .int j :: .ref a :: st)) := by
  subst hq
  obtain ⟨cl, A, q1, S, q3, H, G⟩ := V
  have hj := own_at j (by omega) z hz S
  obtain ⟨T', h', X', e', W', st'⟩ := Jvm.RoadKit.stR X hx hZ eT A hj rfl (Sto.ofVA A q1 O I) (g := mkF m pc Ls (.ref y :: .int j :: .ref a :: st)) rfl rfl hd
  exact (K T' h' X' e' W' (Arv.set A q1 S q3 H G rfl W' i (own_ncl hi) hv)).on st'
theorem g_aaload (X : Stand p l e R s m args below meth c T locs cells slots) (hx : p.tables.exec = Jvm.exec) {pc : Nat} {Ls : Array Slot} {st : List Value} (hZ : Z.Warmed39 s.vm) (eT : T.heap = h) {a : Addr} {k : ClassId} {ty : FieldType} {z j : Int32} {v : Value} {vs : List Value} {dv : Value} (V : Arv Z h a k ty z vs dv) (hty : ty.isReference = true) (hi : 0 ≤ j.toInt) (hz : j.toInt < z.toInt) (hv : vs.getD j.toNatClampNeg dv = v) (q : Nat) (hd : decode c.code pc = .ok (.aaload, 1)) (hq : pc + 1 = q) (K : Go p e below Ev T (mkF m q Ls (v :: st))) : Go p e below Ev T (mkF m pc Ls (.int j :: .ref a :: st)) := by
  subst hq
  obtain ⟨cl, A, q1, S, q3, H, G⟩ := V
  have hj := own_at j hi z hz S
  exact K.on fun t k => X.aaload hx (by rw [eT]; exact A.1) (State.isArrayOf_alike hZ.alike A.2.1) hty A.2.2 hj (H.at hj hv) (g := mkF m pc Ls (.int j :: .ref a :: st)) rfl rfl hd t k
theorem g_priv (X : Stand p l e R s m args below meth c T locs cells slots) (hx : p.tables.exec = Jvm.exec) {pc : Nat} {Ls : Array Slot} {st : List Value} (hZ : Z.Warmed39 s.vm) {own : String} {i : Nat} {y z : MethodName} {C : String} {bytes : ByteArray} {maxL : Nat} {ret : Option FieldType} {rm : Room} {as' : Array Value} {Q : Option Value → Heap → List Loc → Prop} {argsL rest : List Value} (hown : s.vm.findClass own = some m.cls) (w1 : (Jvm.Cond.methodLink own i y).before a0 Z = true) (w2 : (Jvm.Cond.privateMethod y).before a0 Z = true) (w5 : (Jvm.Cond.selects z.cls z z).before a0 Z = true) (hyz : z.cls = y.cls) (w7 : (Jvm.Cond.instanceMethod y).before a0 Z = true) (w3 : (Jvm.Cond.initialized y.cls).before a0 Z = true) (w4 : (Jvm.Cond.code y bytes maxL ret).before a0 Z = true) (hy : y.cls ≠ "java/lang/invoke/MethodHandle" ∧ y.cls ≠ "java/lang/invoke/VarHandle") (hM : MetFree l y (head1 [Jvm.Cond.code y bytes maxL ret] rm) (fun a U => a = as' ∧ Z.Warmed39 U.vm ∧ U.heap = h) (fun _ _ _ _ _ => True) (fun _ U o U' => ∃ v L, o = .returned v ∧ Q v U'.heap L ∧ FrameEnd U o U' L rm.cells rm.slots)) (eT : T.heap = h) {b : Addr} (E : Exa Z h b C) (hst : st = argsL.reverse ++ .ref b :: rest) (has : (.ref b :: argsL).toArray = as') (W : Nat) (q : Nat) (hq : pc + 3 = q) (hsz : Ls.size = c.maxLocals) (hlen : ∀ sig, parseMethodDescriptor y.desc = some sig → argsL.length = sig.parameters.length) (hW : (rest.map fun v => v.category).sum ≤ W) (hf : rm.frames + 1 ≤ R.frames) (hl : W + (maxL + 11) + rm.locals ≤ R.locals) (hc : cells + rm.cells ≤ R.cells) (hs : slots + rm.slots ≤ R.slots) (hd : decode c.code pc = .ok (.invokevirtual i, 3))
    (K : ∀ (v : Option Value) (T' : State) (L : List Loc), Stand p l e R s m args below meth c T' (locs ++ L) (cells + rm.cells) (slots + rm.slots) → Q v T'.heap L → Go p e below Ev T' (mkF m q Ls (v.toList ++ rest))) : Go p e below Ev T (mkF m pc Ls st) := by
  subst hq hst
  obtain ⟨cell, k, g1, g2, g3, g4, -⟩ := E
  have pa : s.PrivateAt y := Cond.privateMethod_at (mvP hZ w2 (args := #[]))
  obtain ⟨cc, rr, mm, s1, -, s2, -, kP, s3, s4⟩ := Cond.selects_spec (mvT hZ w5 : (Jvm.Cond.selects z.cls z z).before args s = true)
  have fc := findClass_of_methodNamed s2
  rw [hyz] at fc
  have sl : (Jvm.Cond.selects y.cls y y).before args s = true := selects_self_of_private fc s3 s4 pa (mvT hZ w7) hy
  obtain ⟨v, vm1, ⟨T', L', k', n'⟩, -, X', ⟨L, hQ, l', y', z'⟩, st'⟩ := X.privateBack hx hown (mvT hZ w1) (mvT hZ w7) sl pa (mvT hZ w4) hy (backOf (W := W) hM hZ w4 w3 hf hl) (g := mkF m pc Ls (argsL.reverse ++ .ref b :: rest)) rfl hsz (Steps.refl _) (a := b) (by rw [eT]; exact g1) (fun q w => by rw [w] at g4; cases g4) (argsL := argsL) (rest := rest) hlen rfl (by show 2 * 0 + _ ≤ _; omega) hd (fun _ _ => ⟨has, eT, hc, hs⟩)
  dsimp only [Pt.U, Pt.locs, Pt.cells, Pt.slots] at X' l' y' z' st' hQ
  subst l' y' z'
  exact (K v T' L X' hQ).on fun t k => st'.trans k
end OwnKit2
def own_sl : Option Int32 → Slot
  | none => .unset
  | some i => .val (.int i)
theorem own_as {i j : Int} {a : UInt64} (e : i = j) (h : Jvm.FP.Core.DInt i a) : Jvm.FP.Core.DInt j a := e ▸ h
theorem own_abs0 {a : UInt64} (h : Jvm.FP.Core.DInt 0 a) : Jvm.FP.Core.DInt 0 (a &&& 0x7fffffffffffffff) := by
  rw [Jvm.FP.Core.abs_zero (a := a) (Jvm.FP.Core.dcmp_int h own_dzero)]; exact own_dzero
theorem own_abs1 {a : UInt64} (h : Jvm.FP.Core.DInt 1 a) : Jvm.FP.Core.DInt 1 (a &&& 0x7fffffffffffffff) := by
  rw [Jvm.FP.Core.abs_pos (a := a) (Jvm.FP.Core.dcmp_int h own_dzero)]; exact h
theorem own_piv {a : UInt64} (h : Jvm.FP.Core.DInt 1 a) : FP.dcmp a 4472406533629990549 = some (compare (1 : Int) 0) := by
  rw [Jvm.FP.Core.dint_unique (by decide) h own_done]; decide +kernel
theorem own_div1 {i : Int} {a b : UInt64} (ha : Jvm.FP.Core.DInt i a) (hb : Jvm.FP.Core.DInt 1 b) (h : i.natAbs ≤ 2 ^ 53) : Jvm.FP.Core.DInt i (FP.ddiv a b) := own_fix0.mp (own_fixdiv (t := i) (M := 0) (own_fix0.mpr ha) (own_fix0.mpr hb) (by decide) (by simp) h (by decide))
theorem d1_0 : decode prog_33_method_1_code 0 = .ok (.aload_n 0, 1) := by decide +kernel
theorem d1_1 : decode prog_33_method_1_code 1 = .ok (.invokespecial 1, 3) := by decide +kernel
theorem d1_4 : decode prog_33_method_1_code 4 = .ok (.aload_n 0, 1) := by decide +kernel
theorem d1_5 : decode prog_33_method_1_code 5 = .ok (.iload_n 1, 1) := by decide +kernel
theorem d1_6 : decode prog_33_method_1_code 6 = .ok (.putfield 7, 3) := by decide +kernel
theorem d1_9 : decode prog_33_method_1_code 9 = .ok (.aload_n 0, 1) := by decide +kernel
theorem d1_10 : decode prog_33_method_1_code 10 = .ok (.iload_n 1, 1) := by decide +kernel
theorem d1_11 : decode prog_33_method_1_code 11 = .ok (.iload_n 1, 1) := by decide +kernel
theorem d1_12 : decode prog_33_method_1_code 12 = .ok (.imul, 1) := by decide +kernel
theorem d1_13 : decode prog_33_method_1_code 13 = .ok (.newarray .double, 2) := by decide +kernel
theorem d1_15 : decode prog_33_method_1_code 15 = .ok (.putfield 13, 3) := by decide +kernel
theorem d1_18 : decode prog_33_method_1_code 18 = .ok (.return_, 1) := by decide +kernel
theorem own_pf0 : plainFor (⟨"com/example/tracefold/tracefold/mining/DenseInverse", "<init>", "(I)V"⟩ : MethodName) = true := plainFor_of_name (by first | (simp [plainName, overriddenIn]; done) | decide +kernel)
def Q_rmI (Z : State) (ob : Addr) (n0 : Nat) (h0 : Heap) (v : Option Value) (h : Heap) (L : List Loc) : Prop := v = none ∧ Fr n0 L ∧ Keep h0 h [ob] ∧ ∃ (vi : Addr) (kv : ClassId), Fld Z h ob "com/example/tracefold/tracefold/mining/DenseInverse" "n" "I" (.int 3) ∧ Fld Z h ob "com/example/tracefold/tracefold/mining/DenseInverse" "inverse" "[D" (.ref vi) ∧ Arv Z h vi kv .double 9 [(.double 0), (.double 0), (.double 0), (.double 0), (.double 0), (.double 0), (.double 0), (.double 0), (.double 0)] (.double 0) ∧ n0 ≤ vi ∧ h0.size ≤ vi
theorem ef_rmI (ob : Addr) (m : MethodId) : entryFrame m #[(.ref ob), (.int 3)] 2 = mkF m 0 #[.val (.ref ob), .val (.int 3)] [] := by first | (simp [entryFrame, mkF, argsToLocals, Value.category]; done) | rfl
set_option maxRecDepth 65536 in
set_option maxHeartbeats 40000000 in
theorem rmI (l : Launch) (Z : State) (a0 : Array Value) (hw : ∀ d ∈ tables_1, d.before a0 Z = true) (ob : Addr) (h0 : Heap) (n0 : Nat) (Z0 : n0 ≤ h0.size) (Eo : Exa Z h0 ob "com/example/tracefold/tracefold/mining/DenseInverse") (ga : n0 ≤ ob) (Fn : Fld Z h0 ob "com/example/tracefold/tracefold/mining/DenseInverse" "n" "I" (.int 0)) (Fv : Fld Z h0 ob "com/example/tracefold/tracefold/mining/DenseInverse" "inverse" "[D" .null) :
    MetFree l (⟨"com/example/tracefold/tracefold/mining/DenseInverse", "<init>", "(I)V"⟩ : MethodName) (head1 [Jvm.Cond.code (⟨"com/example/tracefold/tracefold/mining/DenseInverse", "<init>", "(I)V"⟩ : MethodName) prog_33_method_1_code 2 none] ({ frames := 1, cells := 1, slots := 9, locals := 20 } : Room)) (fun as_ U => as_ = #[(.ref ob), (.int 3)] ∧ Z.Warmed39 U.vm ∧ U.heap = h0) (fun _ _ _ _ _ => True) (fun _ U o U' => ∃ v L, o = .returned v ∧ Q_rmI Z ob n0 h0 v U'.heap L ∧ FrameEnd U o U' L ({ frames := 1, cells := 1, slots := 9, locals := 20 } : Room).cells ({ frames := 1, cells := 1, slots := 9, locals := 20 } : Room).slots) := by
  refine own_met own_pf0 (ef_rmI ob) ?_
  intro p e s m below meth c T0 X0 hx hby hml hret hlk hnm hown hZ e0
  have N0 := Fr.nil n0
  refine g_aloadN X0 hx 1 (hb hby d1_0) rfl rfl rfl ?_
  refine g_objinit X0 hx hZ hown (hw _ (List.mem_of_getElem? (i := 6) rfl)) (hw _ (List.mem_of_getElem? (i := 7) rfl)) (hw _ (List.mem_of_getElem? (i := 8) rfl)) e0 0 4 (hb hby d1_1) rfl (by rw [hml]; rfl) (by decide) (Nat.le_refl _) (by decide) ?_
  intro T1 X1 e1
  refine g_aloadN X1 hx 5 (hb hby d1_4) rfl rfl rfl ?_
  refine g_iloadN X1 hx 6 (hb hby d1_5) rfl rfl ?_
  refine g_putF X1 hx hZ hown (hw _ (List.mem_of_getElem? (i := 9) rfl)) Via.refl e1 Fn Eo (Or.inr ⟨(hw _ (List.mem_of_getElem? (i := 10) rfl)), rfl, hnm⟩) (hw _ (List.mem_of_getElem? (i := 1) rfl)) (ty := .int) (by decide) rfl rfl 9 (hb hby d1_6) rfl ?_
  intro T2 h2 X2 e2 W2
  have F3 : Fld Z h2 ob "com/example/tracefold/tracefold/mining/DenseInverse" "n" "I" (.int (3 : Int32)) := Fn.same W2
  have F4 := Eo.wr W2
  have F5 := Fv.other W2 (Or.inr (slot_ne (Or.inr (hw _ (List.mem_of_getElem? (i := 13) rfl))) (Or.inr (hw _ (List.mem_of_getElem? (i := 10) rfl))) (by decide) (t := (.array .double)) (t' := .int) (by decide) (by decide)))
  have K6 := (Keep.refl h0 [ob]).wr W2 (Or.inl (List.mem_of_getElem? (i := 0) rfl))
  have N7 := Fr.snoc X2 N0 ga
  have Z8 : n0 ≤ h2.size := by rw [W2.size]; exact Z0
  refine g_aloadN X2 hx 10 (hb hby d1_9) rfl rfl rfl ?_
  refine g_iloadN X2 hx 11 (hb hby d1_10) rfl rfl ?_
  refine g_iloadN X2 hx 12 (hb hby d1_11) rfl rfl ?_
  refine g_imulC X2 hx (9 : Int32) (by decide) 13 (hb hby d1_12) rfl ?_
  refine g_newP X2 hx hZ (aty := .double) (hw _ (List.mem_of_getElem? (i := 11) rfl)) e2 (by decide) (cap := 9) (by decide) (by decide) 15 (hb hby d1_13) rfl (by decide) (by decide) (ad := "[D") (by decide) ?_
  intro T9 h9 k9 a9 g9 X9 e9 E9 V9 A9
  have ne10 : ob ≠ a9 := Nat.ne_of_lt (by rw [g9]; exact F4.lt)
  have ge11 : n0 ≤ a9 := by rw [g9]; exact Z8
  have sz12 : h0.size ≤ a9 := by rw [g9]; exact K6.1
  have F13 := F4.ext E9
  have F14 := F5.ext E9
  have F15 := F3.ext E9
  have K16 := K6.ext E9
  have Z17 : n0 ≤ h9.size := Nat.le_trans Z8 E9.1
  have V9' : Arv Z h9 a9 k9 .double (9 : Int32) [(.double (0 : UInt64)), (.double (0 : UInt64)), (.double (0 : UInt64)), (.double (0 : UInt64)), (.double (0 : UInt64)), (.double (0 : UInt64)), (.double (0 : UInt64)), (.double (0 : UInt64)), (.double (0 : UInt64))] (.double (0 : UInt64)) := V9.pad (pad_rep [] (.double (0 : UInt64)) 9)
  refine g_putF X9 hx hZ hown (hw _ (List.mem_of_getElem? (i := 12) rfl)) Via.refl e9 F14 F13 (Or.inr ⟨(hw _ (List.mem_of_getElem? (i := 13) rfl)), rfl, hnm⟩) (hw _ (List.mem_of_getElem? (i := 1) rfl)) (ty := (.array .double)) (by decide) rfl rfl 18 (hb hby d1_15) rfl ?_
  intro T18 h18 X18 e18 W18
  have F19 : Fld Z h18 ob "com/example/tracefold/tracefold/mining/DenseInverse" "inverse" "[D" (.ref a9) := F14.same W18
  have F20 := F13.wr W18
  have F21 := F15.other W18 (Or.inr (slot_ne (Or.inr (hw _ (List.mem_of_getElem? (i := 10) rfl))) (Or.inr (hw _ (List.mem_of_getElem? (i := 13) rfl))) (by decide) (t := .int) (t' := (.array .double)) (by decide) (by decide)))
  have F22 := A9.wr W18
  have F23 := V9'.other W18 (Ne.symm ne10)
  have K24 := K16.wr W18 (Or.inl (List.mem_of_getElem? (i := 0) rfl))
  have N25 := Fr.snoc X18 N7 ga
  have Z26 : n0 ≤ h18.size := by rw [W18.size]; exact Z17
  exact g_retV X18 hx hlk hret (hb hby d1_18) (by decide) (by decide) e18 ⟨rfl, N25, K24, a9, _, F21, F19, F23, ge11, sz12⟩
theorem d4_0 : decode jdk_65_method_113_code 0 = .ok (.iconst 0, 1) := by decide +kernel
theorem d4_1 : decode jdk_65_method_113_code 1 = .ok (.istore_n 3, 1) := by decide +kernel
theorem d4_2 : decode jdk_65_method_113_code 2 = .ok (.aload_n 0, 1) := by decide +kernel
theorem d4_3 : decode jdk_65_method_113_code 3 = .ok (.arraylength, 1) := by decide +kernel
theorem d4_4 : decode jdk_65_method_113_code 4 = .ok (.istore 4, 2) := by decide +kernel
theorem d4_6 : decode jdk_65_method_113_code 6 = .ok (.iload_n 3, 1) := by decide +kernel
theorem d4_7 : decode jdk_65_method_113_code 7 = .ok (.iload 4, 2) := by decide +kernel
theorem d4_9 : decode jdk_65_method_113_code 9 = .ok (.if_icmp .ge 13, 3) := by decide +kernel
theorem d4_12 : decode jdk_65_method_113_code 12 = .ok (.aload_n 0, 1) := by decide +kernel
theorem d4_13 : decode jdk_65_method_113_code 13 = .ok (.iload_n 3, 1) := by decide +kernel
theorem d4_14 : decode jdk_65_method_113_code 14 = .ok (.dload_n 1, 1) := by decide +kernel
theorem d4_15 : decode jdk_65_method_113_code 15 = .ok (.dastore, 1) := by decide +kernel
theorem d4_16 : decode jdk_65_method_113_code 16 = .ok (.iinc 3 1, 3) := by decide +kernel
theorem d4_19 : decode jdk_65_method_113_code 19 = .ok (.goto (-13), 3) := by decide +kernel
theorem d4_22 : decode jdk_65_method_113_code 22 = .ok (.return_, 1) := by decide +kernel
theorem own_pf1 : plainFor (⟨"java/util/Arrays", "fill", "([DD)V"⟩ : MethodName) = true := plainFor_of_name (by first | (simp [plainName, overriddenIn]; done) | decide +kernel)
def Q_rmF (Z : State) (ar : Addr) (ka : ClassId) (x : UInt64) (n0 : Nat) (h0 : Heap) (v : Option Value) (h : Heap) (L : List Loc) : Prop := v = none ∧ Fr n0 L ∧ Keep h0 h [ar] ∧ Arv Z h ar ka .double 9 [(.double x), (.double x), (.double x), (.double x), (.double x), (.double x), (.double x), (.double x), (.double x)] (.double 0)
theorem ef_rmF (ar : Addr) (x : UInt64) (m : MethodId) : entryFrame m #[(.ref ar), (.double x)] 5 = mkF m 0 #[.val (.ref ar), .val (.double x), .second, .unset, .unset] [] := by first | (simp [entryFrame, mkF, argsToLocals, Value.category]; done) | rfl
set_option maxRecDepth 65536 in
set_option maxHeartbeats 40000000 in
theorem rmF (l : Launch) (Z : State) (a0 : Array Value) (hw : ∀ d ∈ tables_1, d.before a0 Z = true) (ar : Addr) (x : UInt64) (h0 : Heap) (n0 : Nat) (Z0 : n0 ≤ h0.size) (ka : ClassId) (x0 x1 x2 x3 x4 x5 x6 x7 x8 : UInt64) (ga : n0 ≤ ar) (Va : Arv Z h0 ar ka .double 9 [(.double x0), (.double x1), (.double x2), (.double x3), (.double x4), (.double x5), (.double x6), (.double x7), (.double x8)] (.double 0)) :
    MetFree l (⟨"java/util/Arrays", "fill", "([DD)V"⟩ : MethodName) (head1 [Jvm.Cond.code (⟨"java/util/Arrays", "fill", "([DD)V"⟩ : MethodName) jdk_65_method_113_code 5 none] ({ frames := 0, cells := 0, slots := 0, locals := 0 } : Room)) (fun as_ U => as_ = #[(.ref ar), (.double x)] ∧ Z.Warmed39 U.vm ∧ U.heap = h0) (fun _ _ _ _ _ => True) (fun _ U o U' => ∃ v L, o = .returned v ∧ Q_rmF Z ar ka x n0 h0 v U'.heap L ∧ FrameEnd U o U' L ({ frames := 0, cells := 0, slots := 0, locals := 0 } : Room).cells ({ frames := 0, cells := 0, slots := 0, locals := 0 } : Room).slots) := by
  refine own_met own_pf1 (ef_rmF ar x) ?_
  intro p e s m below meth c T0 X0 hx hby hml hret hlk hnm hown hZ e0
  have N0 := Fr.nil n0
  refine g_iconst X0 hx (0 : Int32) 1 (hb hby d4_0) rfl (by decide) ?_
  refine g_istoreN (l' := #[.val (.ref ar), .val (.double x), .second, .val (.int (0 : Int32)), .unset]) X0 hx 2 (hb hby d4_1) rfl rfl ?_
  refine g_aloadN X0 hx 3 (hb hby d4_2) rfl rfl rfl ?_
  refine g_len X0 hx hZ e0 Va 4 (hb hby d4_3) rfl ?_
  refine g_istore (l' := #[.val (.ref ar), .val (.double x), .second, .val (.int (0 : Int32)), .val (.int (9 : Int32))]) X0 hx 6 (hb hby d4_4) rfl rfl ?_
  refine g_iloadN X0 hx 7 (hb hby d4_6) rfl rfl ?_
  refine g_iload X0 hx 9 (hb hby d4_7) rfl rfl ?_
  have ll28 : ((9 : Int32) : Int32).toInt = 9 := by decide
  have ll29 : ((0 : Int32) : Int32).toInt = 0 := by decide
  refine g_ic_ge X0 hx 22 12 (hb hby d4_9) (by decide) (by decide) rfl (fun c27 => ?_) (fun c27 => ?_)
  · skip
    exfalso; revert c27; decide
  · skip
    refine g_aloadN X0 hx 13 (hb hby d4_12) rfl rfl rfl ?_
    refine g_iloadN X0 hx 14 (hb hby d4_13) rfl rfl ?_
    refine g_dloadN X0 hx 15 (hb hby d4_14) rfl rfl ?_
    refine g_dastore X0 hx hZ e0 Va 0 (by decide) (by decide) (by show 0 < 9; decide) 16 (hb hby d4_15) rfl ?_
    intro T30 h30 X30 e30 W30 V30
    have K32 := (Keep.refl h0 [ar]).wr W30 (Or.inl (List.mem_of_getElem? (i := 0) rfl))
    have N33 := Fr.snoc X30 N0 ga
    have Z34 : n0 ≤ h30.size := by rw [W30.size]; exact Z0
    have V30' : Arv Z h30 ar ka .double (9 : Int32) [(.double x), (.double x1), (.double x2), (.double x3), (.double x4), (.double x5), (.double x6), (.double x7), (.double x8)] (.double 0) := V30
    refine g_iincC X30 hx (w := (1 : Int32)) (1 : Int32) (by decide) (l' := #[.val (.ref ar), .val (.double x), .second, .val (.int (1 : Int32)), .val (.int (9 : Int32))]) 19 (hb hby d4_16) rfl rfl (by decide) rfl ?_
    refine g_goto X30 hx 6 (hb hby d4_19) (by decide) (by decide) ?_
    refine g_iloadN X30 hx 7 (hb hby d4_6) rfl rfl ?_
    refine g_iload X30 hx 9 (hb hby d4_7) rfl rfl ?_
    have ll36 : ((9 : Int32) : Int32).toInt = 9 := by decide
    have ll37 : ((1 : Int32) : Int32).toInt = 1 := by decide
    refine g_ic_ge X30 hx 22 12 (hb hby d4_9) (by decide) (by decide) rfl (fun c35 => ?_) (fun c35 => ?_)
    · skip
      exfalso; revert c35; decide
    · skip
      refine g_aloadN X30 hx 13 (hb hby d4_12) rfl rfl rfl ?_
      refine g_iloadN X30 hx 14 (hb hby d4_13) rfl rfl ?_
      refine g_dloadN X30 hx 15 (hb hby d4_14) rfl rfl ?_
      refine g_dastore X30 hx hZ e30 V30' 1 (by decide) (by decide) (by show 1 < 9; decide) 16 (hb hby d4_15) rfl ?_
      intro T38 h38 X38 e38 W38 V38
      have K40 := K32.wr W38 (Or.inl (List.mem_of_getElem? (i := 0) rfl))
      have N41 := Fr.snoc X38 N33 ga
      have Z42 : n0 ≤ h38.size := by rw [W38.size]; exact Z34
      have V38' : Arv Z h38 ar ka .double (9 : Int32) [(.double x), (.double x), (.double x2), (.double x3), (.double x4), (.double x5), (.double x6), (.double x7), (.double x8)] (.double 0) := V38
      refine g_iincC X38 hx (w := (1 : Int32)) (2 : Int32) (by decide) (l' := #[.val (.ref ar), .val (.double x), .second, .val (.int (2 : Int32)), .val (.int (9 : Int32))]) 19 (hb hby d4_16) rfl rfl (by decide) rfl ?_
      refine g_goto X38 hx 6 (hb hby d4_19) (by decide) (by decide) ?_
      refine g_iloadN X38 hx 7 (hb hby d4_6) rfl rfl ?_
      refine g_iload X38 hx 9 (hb hby d4_7) rfl rfl ?_
      have ll44 : ((9 : Int32) : Int32).toInt = 9 := by decide
      have ll45 : ((2 : Int32) : Int32).toInt = 2 := by decide
      refine g_ic_ge X38 hx 22 12 (hb hby d4_9) (by decide) (by decide) rfl (fun c43 => ?_) (fun c43 => ?_)
      · skip
        exfalso; revert c43; decide
      · skip
        refine g_aloadN X38 hx 13 (hb hby d4_12) rfl rfl rfl ?_
        refine g_iloadN X38 hx 14 (hb hby d4_13) rfl rfl ?_
        refine g_dloadN X38 hx 15 (hb hby d4_14) rfl rfl ?_
        refine g_dastore X38 hx hZ e38 V38' 2 (by decide) (by decide) (by show 2 < 9; decide) 16 (hb hby d4_15) rfl ?_
        intro T46 h46 X46 e46 W46 V46
        have K48 := K40.wr W46 (Or.inl (List.mem_of_getElem? (i := 0) rfl))
        have N49 := Fr.snoc X46 N41 ga
        have Z50 : n0 ≤ h46.size := by rw [W46.size]; exact Z42
        have V46' : Arv Z h46 ar ka .double (9 : Int32) [(.double x), (.double x), (.double x), (.double x3), (.double x4), (.double x5), (.double x6), (.double x7), (.double x8)] (.double 0) := V46
        refine g_iincC X46 hx (w := (1 : Int32)) (3 : Int32) (by decide) (l' := #[.val (.ref ar), .val (.double x), .second, .val (.int (3 : Int32)), .val (.int (9 : Int32))]) 19 (hb hby d4_16) rfl rfl (by decide) rfl ?_
        refine g_goto X46 hx 6 (hb hby d4_19) (by decide) (by decide) ?_
        refine g_iloadN X46 hx 7 (hb hby d4_6) rfl rfl ?_
        refine g_iload X46 hx 9 (hb hby d4_7) rfl rfl ?_
        have ll52 : ((9 : Int32) : Int32).toInt = 9 := by decide
        have ll53 : ((3 : Int32) : Int32).toInt = 3 := by decide
        refine g_ic_ge X46 hx 22 12 (hb hby d4_9) (by decide) (by decide) rfl (fun c51 => ?_) (fun c51 => ?_)
        · skip
          exfalso; revert c51; decide
        · skip
          refine g_aloadN X46 hx 13 (hb hby d4_12) rfl rfl rfl ?_
          refine g_iloadN X46 hx 14 (hb hby d4_13) rfl rfl ?_
          refine g_dloadN X46 hx 15 (hb hby d4_14) rfl rfl ?_
          refine g_dastore X46 hx hZ e46 V46' 3 (by decide) (by decide) (by show 3 < 9; decide) 16 (hb hby d4_15) rfl ?_
          intro T54 h54 X54 e54 W54 V54
          have K56 := K48.wr W54 (Or.inl (List.mem_of_getElem? (i := 0) rfl))
          have N57 := Fr.snoc X54 N49 ga
          have Z58 : n0 ≤ h54.size := by rw [W54.size]; exact Z50
          have V54' : Arv Z h54 ar ka .double (9 : Int32) [(.double x), (.double x), (.double x), (.double x), (.double x4), (.double x5), (.double x6), (.double x7), (.double x8)] (.double 0) := V54
          refine g_iincC X54 hx (w := (1 : Int32)) (4 : Int32) (by decide) (l' := #[.val (.ref ar), .val (.double x), .second, .val (.int (4 : Int32)), .val (.int (9 : Int32))]) 19 (hb hby d4_16) rfl rfl (by decide) rfl ?_
          refine g_goto X54 hx 6 (hb hby d4_19) (by decide) (by decide) ?_
          refine g_iloadN X54 hx 7 (hb hby d4_6) rfl rfl ?_
          refine g_iload X54 hx 9 (hb hby d4_7) rfl rfl ?_
          have ll60 : ((9 : Int32) : Int32).toInt = 9 := by decide
          have ll61 : ((4 : Int32) : Int32).toInt = 4 := by decide
          refine g_ic_ge X54 hx 22 12 (hb hby d4_9) (by decide) (by decide) rfl (fun c59 => ?_) (fun c59 => ?_)
          · skip
            exfalso; revert c59; decide
          · skip
            refine g_aloadN X54 hx 13 (hb hby d4_12) rfl rfl rfl ?_
            refine g_iloadN X54 hx 14 (hb hby d4_13) rfl rfl ?_
            refine g_dloadN X54 hx 15 (hb hby d4_14) rfl rfl ?_
            refine g_dastore X54 hx hZ e54 V54' 4 (by decide) (by decide) (by show 4 < 9; decide) 16 (hb hby d4_15) rfl ?_
            intro T62 h62 X62 e62 W62 V62
            have K64 := K56.wr W62 (Or.inl (List.mem_of_getElem? (i := 0) rfl))
            have N65 := Fr.snoc X62 N57 ga
            have Z66 : n0 ≤ h62.size := by rw [W62.size]; exact Z58
            have V62' : Arv Z h62 ar ka .double (9 : Int32) [(.double x), (.double x), (.double x), (.double x), (.double x), (.double x5), (.double x6), (.double x7), (.double x8)] (.double 0) := V62
            refine g_iincC X62 hx (w := (1 : Int32)) (5 : Int32) (by decide) (l' := #[.val (.ref ar), .val (.double x), .second, .val (.int (5 : Int32)), .val (.int (9 : Int32))]) 19 (hb hby d4_16) rfl rfl (by decide) rfl ?_
            refine g_goto X62 hx 6 (hb hby d4_19) (by decide) (by decide) ?_
            refine g_iloadN X62 hx 7 (hb hby d4_6) rfl rfl ?_
            refine g_iload X62 hx 9 (hb hby d4_7) rfl rfl ?_
            have ll68 : ((9 : Int32) : Int32).toInt = 9 := by decide
            have ll69 : ((5 : Int32) : Int32).toInt = 5 := by decide
            refine g_ic_ge X62 hx 22 12 (hb hby d4_9) (by decide) (by decide) rfl (fun c67 => ?_) (fun c67 => ?_)
            · skip
              exfalso; revert c67; decide
            · skip
              refine g_aloadN X62 hx 13 (hb hby d4_12) rfl rfl rfl ?_
              refine g_iloadN X62 hx 14 (hb hby d4_13) rfl rfl ?_
              refine g_dloadN X62 hx 15 (hb hby d4_14) rfl rfl ?_
              refine g_dastore X62 hx hZ e62 V62' 5 (by decide) (by decide) (by show 5 < 9; decide) 16 (hb hby d4_15) rfl ?_
              intro T70 h70 X70 e70 W70 V70
              have K72 := K64.wr W70 (Or.inl (List.mem_of_getElem? (i := 0) rfl))
              have N73 := Fr.snoc X70 N65 ga
              have Z74 : n0 ≤ h70.size := by rw [W70.size]; exact Z66
              have V70' : Arv Z h70 ar ka .double (9 : Int32) [(.double x), (.double x), (.double x), (.double x), (.double x), (.double x), (.double x6), (.double x7), (.double x8)] (.double 0) := V70
              refine g_iincC X70 hx (w := (1 : Int32)) (6 : Int32) (by decide) (l' := #[.val (.ref ar), .val (.double x), .second, .val (.int (6 : Int32)), .val (.int (9 : Int32))]) 19 (hb hby d4_16) rfl rfl (by decide) rfl ?_
              refine g_goto X70 hx 6 (hb hby d4_19) (by decide) (by decide) ?_
              refine g_iloadN X70 hx 7 (hb hby d4_6) rfl rfl ?_
              refine g_iload X70 hx 9 (hb hby d4_7) rfl rfl ?_
              have ll76 : ((9 : Int32) : Int32).toInt = 9 := by decide
              have ll77 : ((6 : Int32) : Int32).toInt = 6 := by decide
              refine g_ic_ge X70 hx 22 12 (hb hby d4_9) (by decide) (by decide) rfl (fun c75 => ?_) (fun c75 => ?_)
              · skip
                exfalso; revert c75; decide
              · skip
                refine g_aloadN X70 hx 13 (hb hby d4_12) rfl rfl rfl ?_
                refine g_iloadN X70 hx 14 (hb hby d4_13) rfl rfl ?_
                refine g_dloadN X70 hx 15 (hb hby d4_14) rfl rfl ?_
                refine g_dastore X70 hx hZ e70 V70' 6 (by decide) (by decide) (by show 6 < 9; decide) 16 (hb hby d4_15) rfl ?_
                intro T78 h78 X78 e78 W78 V78
                have K80 := K72.wr W78 (Or.inl (List.mem_of_getElem? (i := 0) rfl))
                have N81 := Fr.snoc X78 N73 ga
                have Z82 : n0 ≤ h78.size := by rw [W78.size]; exact Z74
                have V78' : Arv Z h78 ar ka .double (9 : Int32) [(.double x), (.double x), (.double x), (.double x), (.double x), (.double x), (.double x), (.double x7), (.double x8)] (.double 0) := V78
                refine g_iincC X78 hx (w := (1 : Int32)) (7 : Int32) (by decide) (l' := #[.val (.ref ar), .val (.double x), .second, .val (.int (7 : Int32)), .val (.int (9 : Int32))]) 19 (hb hby d4_16) rfl rfl (by decide) rfl ?_
                refine g_goto X78 hx 6 (hb hby d4_19) (by decide) (by decide) ?_
                refine g_iloadN X78 hx 7 (hb hby d4_6) rfl rfl ?_
                refine g_iload X78 hx 9 (hb hby d4_7) rfl rfl ?_
                have ll84 : ((9 : Int32) : Int32).toInt = 9 := by decide
                have ll85 : ((7 : Int32) : Int32).toInt = 7 := by decide
                refine g_ic_ge X78 hx 22 12 (hb hby d4_9) (by decide) (by decide) rfl (fun c83 => ?_) (fun c83 => ?_)
                · skip
                  exfalso; revert c83; decide
                · skip
                  refine g_aloadN X78 hx 13 (hb hby d4_12) rfl rfl rfl ?_
                  refine g_iloadN X78 hx 14 (hb hby d4_13) rfl rfl ?_
                  refine g_dloadN X78 hx 15 (hb hby d4_14) rfl rfl ?_
                  refine g_dastore X78 hx hZ e78 V78' 7 (by decide) (by decide) (by show 7 < 9; decide) 16 (hb hby d4_15) rfl ?_
                  intro T86 h86 X86 e86 W86 V86
                  have K88 := K80.wr W86 (Or.inl (List.mem_of_getElem? (i := 0) rfl))
                  have N89 := Fr.snoc X86 N81 ga
                  have Z90 : n0 ≤ h86.size := by rw [W86.size]; exact Z82
                  have V86' : Arv Z h86 ar ka .double (9 : Int32) [(.double x), (.double x), (.double x), (.double x), (.double x), (.double x), (.double x), (.double x), (.double x8)] (.double 0) := V86
                  refine g_iincC X86 hx (w := (1 : Int32)) (8 : Int32) (by decide) (l' := #[.val (.ref ar), .val (.double x), .second, .val (.int (8 : Int32)), .val (.int (9 : Int32))]) 19 (hb hby d4_16) rfl rfl (by decide) rfl ?_
                  refine g_goto X86 hx 6 (hb hby d4_19) (by decide) (by decide) ?_
                  refine g_iloadN X86 hx 7 (hb hby d4_6) rfl rfl ?_
                  refine g_iload X86 hx 9 (hb hby d4_7) rfl rfl ?_
                  have ll92 : ((9 : Int32) : Int32).toInt = 9 := by decide
                  have ll93 : ((8 : Int32) : Int32).toInt = 8 := by decide
                  refine g_ic_ge X86 hx 22 12 (hb hby d4_9) (by decide) (by decide) rfl (fun c91 => ?_) (fun c91 => ?_)
                  · skip
                    exfalso; revert c91; decide
                  · skip
                    refine g_aloadN X86 hx 13 (hb hby d4_12) rfl rfl rfl ?_
                    refine g_iloadN X86 hx 14 (hb hby d4_13) rfl rfl ?_
                    refine g_dloadN X86 hx 15 (hb hby d4_14) rfl rfl ?_
                    refine g_dastore X86 hx hZ e86 V86' 8 (by decide) (by decide) (by show 8 < 9; decide) 16 (hb hby d4_15) rfl ?_
                    intro T94 h94 X94 e94 W94 V94
                    have K96 := K88.wr W94 (Or.inl (List.mem_of_getElem? (i := 0) rfl))
                    have N97 := Fr.snoc X94 N89 ga
                    have Z98 : n0 ≤ h94.size := by rw [W94.size]; exact Z90
                    have V94' : Arv Z h94 ar ka .double (9 : Int32) [(.double x), (.double x), (.double x), (.double x), (.double x), (.double x), (.double x), (.double x), (.double x)] (.double 0) := V94
                    refine g_iincC X94 hx (w := (1 : Int32)) (9 : Int32) (by decide) (l' := #[.val (.ref ar), .val (.double x), .second, .val (.int (9 : Int32)), .val (.int (9 : Int32))]) 19 (hb hby d4_16) rfl rfl (by decide) rfl ?_
                    refine g_goto X94 hx 6 (hb hby d4_19) (by decide) (by decide) ?_
                    refine g_iloadN X94 hx 7 (hb hby d4_6) rfl rfl ?_
                    refine g_iload X94 hx 9 (hb hby d4_7) rfl rfl ?_
                    have ll100 : ((9 : Int32) : Int32).toInt = 9 := by decide
                    have ll101 : ((9 : Int32) : Int32).toInt = 9 := by decide
                    refine g_ic_ge X94 hx 22 12 (hb hby d4_9) (by decide) (by decide) rfl (fun c99 => ?_) (fun c99 => ?_)
                    · skip
                      exact g_retV X94 hx hlk hret (hb hby d4_22) (by decide) (by decide) e94 ⟨rfl, N97, K96, V94'⟩
                    · skip
                      exfalso; revert c99; decide
theorem d6_0 : decode prog_33_method_4_code 0 = .ok (.iload_n 2, 1) := by decide +kernel
theorem d6_1 : decode prog_33_method_4_code 1 = .ok (.iload_n 3, 1) := by decide +kernel
theorem d6_2 : decode prog_33_method_4_code 2 = .ok (.if_icmp .eq 69, 3) := by decide +kernel
theorem d6_5 : decode prog_33_method_4_code 5 = .ok (.iconst 0, 1) := by decide +kernel
theorem d6_6 : decode prog_33_method_4_code 6 = .ok (.istore 4, 2) := by decide +kernel
theorem d6_8 : decode prog_33_method_4_code 8 = .ok (.iload 4, 2) := by decide +kernel
theorem d6_10 : decode prog_33_method_4_code 10 = .ok (.aload_n 0, 1) := by decide +kernel
theorem d6_11 : decode prog_33_method_4_code 11 = .ok (.getfield 7, 3) := by decide +kernel
theorem d6_14 : decode prog_33_method_4_code 14 = .ok (.if_icmp .ge 57, 3) := by decide +kernel
theorem d6_17 : decode prog_33_method_4_code 17 = .ok (.aload_n 1, 1) := by decide +kernel
theorem d6_18 : decode prog_33_method_4_code 18 = .ok (.iload_n 2, 1) := by decide +kernel
theorem d6_19 : decode prog_33_method_4_code 19 = .ok (.aload_n 0, 1) := by decide +kernel
theorem d6_20 : decode prog_33_method_4_code 20 = .ok (.getfield 7, 3) := by decide +kernel
theorem d6_23 : decode prog_33_method_4_code 23 = .ok (.imul, 1) := by decide +kernel
theorem d6_24 : decode prog_33_method_4_code 24 = .ok (.iload 4, 2) := by decide +kernel
theorem d6_26 : decode prog_33_method_4_code 26 = .ok (.iadd, 1) := by decide +kernel
theorem d6_27 : decode prog_33_method_4_code 27 = .ok (.daload, 1) := by decide +kernel
theorem d6_28 : decode prog_33_method_4_code 28 = .ok (.dstore 5, 2) := by decide +kernel
theorem d6_30 : decode prog_33_method_4_code 30 = .ok (.aload_n 1, 1) := by decide +kernel
theorem d6_31 : decode prog_33_method_4_code 31 = .ok (.iload_n 2, 1) := by decide +kernel
theorem d6_32 : decode prog_33_method_4_code 32 = .ok (.aload_n 0, 1) := by decide +kernel
theorem d6_33 : decode prog_33_method_4_code 33 = .ok (.getfield 7, 3) := by decide +kernel
theorem d6_36 : decode prog_33_method_4_code 36 = .ok (.imul, 1) := by decide +kernel
theorem d6_37 : decode prog_33_method_4_code 37 = .ok (.iload 4, 2) := by decide +kernel
theorem d6_39 : decode prog_33_method_4_code 39 = .ok (.iadd, 1) := by decide +kernel
theorem d6_40 : decode prog_33_method_4_code 40 = .ok (.aload_n 1, 1) := by decide +kernel
theorem d6_41 : decode prog_33_method_4_code 41 = .ok (.iload_n 3, 1) := by decide +kernel
theorem d6_42 : decode prog_33_method_4_code 42 = .ok (.aload_n 0, 1) := by decide +kernel
theorem d6_43 : decode prog_33_method_4_code 43 = .ok (.getfield 7, 3) := by decide +kernel
theorem d6_46 : decode prog_33_method_4_code 46 = .ok (.imul, 1) := by decide +kernel
theorem d6_47 : decode prog_33_method_4_code 47 = .ok (.iload 4, 2) := by decide +kernel
theorem d6_49 : decode prog_33_method_4_code 49 = .ok (.iadd, 1) := by decide +kernel
theorem d6_50 : decode prog_33_method_4_code 50 = .ok (.daload, 1) := by decide +kernel
theorem d6_51 : decode prog_33_method_4_code 51 = .ok (.dastore, 1) := by decide +kernel
theorem d6_52 : decode prog_33_method_4_code 52 = .ok (.aload_n 1, 1) := by decide +kernel
theorem d6_53 : decode prog_33_method_4_code 53 = .ok (.iload_n 3, 1) := by decide +kernel
theorem d6_54 : decode prog_33_method_4_code 54 = .ok (.aload_n 0, 1) := by decide +kernel
theorem d6_55 : decode prog_33_method_4_code 55 = .ok (.getfield 7, 3) := by decide +kernel
theorem d6_58 : decode prog_33_method_4_code 58 = .ok (.imul, 1) := by decide +kernel
theorem d6_59 : decode prog_33_method_4_code 59 = .ok (.iload 4, 2) := by decide +kernel
theorem d6_61 : decode prog_33_method_4_code 61 = .ok (.iadd, 1) := by decide +kernel
theorem d6_62 : decode prog_33_method_4_code 62 = .ok (.dload 5, 2) := by decide +kernel
theorem d6_64 : decode prog_33_method_4_code 64 = .ok (.dastore, 1) := by decide +kernel
theorem d6_65 : decode prog_33_method_4_code 65 = .ok (.iinc 4 1, 3) := by decide +kernel
theorem d6_68 : decode prog_33_method_4_code 68 = .ok (.goto (-60), 3) := by decide +kernel
theorem d6_71 : decode prog_33_method_4_code 71 = .ok (.return_, 1) := by decide +kernel
theorem own_pf2 : plainFor (⟨"com/example/tracefold/tracefold/mining/DenseInverse", "swapRows", "([DII)V"⟩ : MethodName) = true := plainFor_of_name (by first | (simp [plainName, overriddenIn]; done) | decide +kernel)
def Q_rmW (n0 : Nat) (h0 : Heap) (v : Option Value) (h : Heap) (L : List Loc) : Prop := v = none ∧ Fr n0 L ∧ h = h0
theorem ef_rmW (ob ar : Addr) (k : Int32) (m : MethodId) : entryFrame m #[(.ref ob), (.ref ar), (.int k), (.int k)] 7 = mkF m 0 #[.val (.ref ob), .val (.ref ar), .val (.int k), .val (.int k), .unset, .unset, .unset] [] := by first | (simp [entryFrame, mkF, argsToLocals, Value.category]; done) | rfl
set_option maxRecDepth 65536 in
set_option maxHeartbeats 40000000 in
theorem rmW (l : Launch) (Z : State) (a0 : Array Value) (hw : ∀ d ∈ tables_1, d.before a0 Z = true) (ob ar : Addr) (k : Int32) (h0 : Heap) (n0 : Nat) (Z0 : n0 ≤ h0.size)  :
    MetFree l (⟨"com/example/tracefold/tracefold/mining/DenseInverse", "swapRows", "([DII)V"⟩ : MethodName) (head1 [Jvm.Cond.code (⟨"com/example/tracefold/tracefold/mining/DenseInverse", "swapRows", "([DII)V"⟩ : MethodName) prog_33_method_4_code 7 none] ({ frames := 0, cells := 0, slots := 0, locals := 0 } : Room)) (fun as_ U => as_ = #[(.ref ob), (.ref ar), (.int k), (.int k)] ∧ Z.Warmed39 U.vm ∧ U.heap = h0) (fun _ _ _ _ _ => True) (fun _ U o U' => ∃ v L, o = .returned v ∧ Q_rmW n0 h0 v U'.heap L ∧ FrameEnd U o U' L ({ frames := 0, cells := 0, slots := 0, locals := 0 } : Room).cells ({ frames := 0, cells := 0, slots := 0, locals := 0 } : Room).slots) := by
  refine own_met own_pf2 (ef_rmW ob ar k) ?_
  intro p e s m below meth c T0 X0 hx hby hml hret hlk hnm hown hZ e0
  have N0 := Fr.nil n0
  refine g_iloadN X0 hx 1 (hb hby d6_0) rfl rfl ?_
  refine g_iloadN X0 hx 2 (hb hby d6_1) rfl rfl ?_
  refine g_ic_eq X0 hx 71 5 (hb hby d6_2) (by decide) (by decide) rfl (fun c102 => ?_) (fun c102 => ?_)
  · skip
    exact g_retV X0 hx hlk hret (hb hby d6_71) (by decide) (by decide) e0 ⟨rfl, N0, rfl⟩
  · skip
    exact absurd rfl c102
def Q_rmV (Z : State) (vi : Addr) (kv : ClassId) (ia ib : Int) (n0 : Nat) (hE : Heap) (v : Option Value) (h : Heap) (L : List Loc) : Prop := v = some (.int 1) ∧ Fr n0 L ∧ Keep hE h [vi] ∧ ∃ x0 x1 x2 x3 x4 x5 x6 x7 x8 : UInt64, Arv Z h vi kv .double 9 [(.double x0), (.double x1), (.double x2), (.double x3), (.double x4), (.double x5), (.double x6), (.double x7), (.double x8)] (.double 0) ∧ Jvm.FP.Core.DInt 1 x0 ∧ Jvm.FP.Core.DInt (-ia) x1 ∧ Jvm.FP.Core.DInt (ia * ib) x2 ∧ Jvm.FP.Core.DInt 0 x3 ∧ Jvm.FP.Core.DInt 1 x4 ∧ Jvm.FP.Core.DInt (-ib) x5 ∧ Jvm.FP.Core.DInt 0 x6 ∧ Jvm.FP.Core.DInt 0 x7 ∧ Jvm.FP.Core.DInt 1 x8
theorem d3_0 : decode prog_33_method_2_code 0 = .ok (.aload_n 0, 1) := by decide +kernel
theorem d3_1 : decode prog_33_method_2_code 1 = .ok (.getfield 7, 3) := by decide +kernel
theorem d3_4 : decode prog_33_method_2_code 4 = .ok (.aload_n 0, 1) := by decide +kernel
theorem d3_5 : decode prog_33_method_2_code 5 = .ok (.getfield 7, 3) := by decide +kernel
theorem d3_8 : decode prog_33_method_2_code 8 = .ok (.imul, 1) := by decide +kernel
theorem d3_9 : decode prog_33_method_2_code 9 = .ok (.newarray .double, 2) := by decide +kernel
theorem d3_11 : decode prog_33_method_2_code 11 = .ok (.astore_n 3, 1) := by decide +kernel
theorem d3_12 : decode prog_33_method_2_code 12 = .ok (.iconst 0, 1) := by decide +kernel
theorem d3_13 : decode prog_33_method_2_code 13 = .ok (.istore 4, 2) := by decide +kernel
theorem d3_15 : decode prog_33_method_2_code 15 = .ok (.iload 4, 2) := by decide +kernel
theorem d3_17 : decode prog_33_method_2_code 17 = .ok (.aload_n 0, 1) := by decide +kernel
theorem d3_18 : decode prog_33_method_2_code 18 = .ok (.getfield 7, 3) := by decide +kernel
theorem d3_21 : decode prog_33_method_2_code 21 = .ok (.if_icmp .ge 52, 3) := by decide +kernel
theorem d3_24 : decode prog_33_method_2_code 24 = .ok (.iconst 0, 1) := by decide +kernel
theorem d3_25 : decode prog_33_method_2_code 25 = .ok (.istore 5, 2) := by decide +kernel
theorem d3_27 : decode prog_33_method_2_code 27 = .ok (.iload 5, 2) := by decide +kernel
theorem d3_29 : decode prog_33_method_2_code 29 = .ok (.aload_n 1, 1) := by decide +kernel
theorem d3_30 : decode prog_33_method_2_code 30 = .ok (.iload 4, 2) := by decide +kernel
theorem d3_32 : decode prog_33_method_2_code 32 = .ok (.aaload, 1) := by decide +kernel
theorem d3_33 : decode prog_33_method_2_code 33 = .ok (.arraylength, 1) := by decide +kernel
theorem d3_34 : decode prog_33_method_2_code 34 = .ok (.if_icmp .ge 33, 3) := by decide +kernel
theorem d3_37 : decode prog_33_method_2_code 37 = .ok (.aload_n 3, 1) := by decide +kernel
theorem d3_38 : decode prog_33_method_2_code 38 = .ok (.iload 4, 2) := by decide +kernel
theorem d3_40 : decode prog_33_method_2_code 40 = .ok (.aload_n 0, 1) := by decide +kernel
theorem d3_41 : decode prog_33_method_2_code 41 = .ok (.getfield 7, 3) := by decide +kernel
theorem d3_44 : decode prog_33_method_2_code 44 = .ok (.imul, 1) := by decide +kernel
theorem d3_45 : decode prog_33_method_2_code 45 = .ok (.aload_n 1, 1) := by decide +kernel
theorem d3_46 : decode prog_33_method_2_code 46 = .ok (.iload 4, 2) := by decide +kernel
theorem d3_48 : decode prog_33_method_2_code 48 = .ok (.aaload, 1) := by decide +kernel
theorem d3_49 : decode prog_33_method_2_code 49 = .ok (.iload 5, 2) := by decide +kernel
theorem d3_51 : decode prog_33_method_2_code 51 = .ok (.iaload, 1) := by decide +kernel
theorem d3_52 : decode prog_33_method_2_code 52 = .ok (.iadd, 1) := by decide +kernel
theorem d3_53 : decode prog_33_method_2_code 53 = .ok (.aload_n 2, 1) := by decide +kernel
theorem d3_54 : decode prog_33_method_2_code 54 = .ok (.iload 4, 2) := by decide +kernel
theorem d3_56 : decode prog_33_method_2_code 56 = .ok (.aaload, 1) := by decide +kernel
theorem d3_57 : decode prog_33_method_2_code 57 = .ok (.iload 5, 2) := by decide +kernel
theorem d3_59 : decode prog_33_method_2_code 59 = .ok (.daload, 1) := by decide +kernel
theorem d3_60 : decode prog_33_method_2_code 60 = .ok (.dastore, 1) := by decide +kernel
theorem d3_61 : decode prog_33_method_2_code 61 = .ok (.iinc 5 1, 3) := by decide +kernel
theorem d3_64 : decode prog_33_method_2_code 64 = .ok (.goto (-37), 3) := by decide +kernel
theorem d3_67 : decode prog_33_method_2_code 67 = .ok (.iinc 4 1, 3) := by decide +kernel
theorem d3_70 : decode prog_33_method_2_code 70 = .ok (.goto (-55), 3) := by decide +kernel
theorem d3_73 : decode prog_33_method_2_code 73 = .ok (.aload_n 0, 1) := by decide +kernel
theorem d3_74 : decode prog_33_method_2_code 74 = .ok (.getfield 13, 3) := by decide +kernel
theorem d3_77 : decode prog_33_method_2_code 77 = .ok (.dconst 0, 1) := by decide +kernel
theorem d3_78 : decode prog_33_method_2_code 78 = .ok (.invokestatic 17, 3) := by decide +kernel
theorem d3_81 : decode prog_33_method_2_code 81 = .ok (.iconst 0, 1) := by decide +kernel
theorem d3_82 : decode prog_33_method_2_code 82 = .ok (.istore 4, 2) := by decide +kernel
theorem d3_84 : decode prog_33_method_2_code 84 = .ok (.iload 4, 2) := by decide +kernel
theorem d3_86 : decode prog_33_method_2_code 86 = .ok (.aload_n 0, 1) := by decide +kernel
theorem d3_87 : decode prog_33_method_2_code 87 = .ok (.getfield 7, 3) := by decide +kernel
theorem d3_90 : decode prog_33_method_2_code 90 = .ok (.if_icmp .ge 25, 3) := by decide +kernel
theorem d3_93 : decode prog_33_method_2_code 93 = .ok (.aload_n 0, 1) := by decide +kernel
theorem d3_94 : decode prog_33_method_2_code 94 = .ok (.getfield 13, 3) := by decide +kernel
theorem d3_97 : decode prog_33_method_2_code 97 = .ok (.iload 4, 2) := by decide +kernel
theorem d3_99 : decode prog_33_method_2_code 99 = .ok (.aload_n 0, 1) := by decide +kernel
theorem d3_100 : decode prog_33_method_2_code 100 = .ok (.getfield 7, 3) := by decide +kernel
theorem d3_103 : decode prog_33_method_2_code 103 = .ok (.imul, 1) := by decide +kernel
theorem d3_104 : decode prog_33_method_2_code 104 = .ok (.iload 4, 2) := by decide +kernel
theorem d3_106 : decode prog_33_method_2_code 106 = .ok (.iadd, 1) := by decide +kernel
theorem d3_107 : decode prog_33_method_2_code 107 = .ok (.dconst 1, 1) := by decide +kernel
theorem d3_108 : decode prog_33_method_2_code 108 = .ok (.dastore, 1) := by decide +kernel
theorem d3_109 : decode prog_33_method_2_code 109 = .ok (.iinc 4 1, 3) := by decide +kernel
theorem d3_112 : decode prog_33_method_2_code 112 = .ok (.goto (-28), 3) := by decide +kernel
theorem d3_115 : decode prog_33_method_2_code 115 = .ok (.iconst 0, 1) := by decide +kernel
theorem d3_116 : decode prog_33_method_2_code 116 = .ok (.istore 4, 2) := by decide +kernel
theorem d3_118 : decode prog_33_method_2_code 118 = .ok (.iload 4, 2) := by decide +kernel
theorem d3_120 : decode prog_33_method_2_code 120 = .ok (.aload_n 0, 1) := by decide +kernel
theorem d3_121 : decode prog_33_method_2_code 121 = .ok (.getfield 7, 3) := by decide +kernel
theorem d3_124 : decode prog_33_method_2_code 124 = .ok (.if_icmp .ge 423, 3) := by decide +kernel
theorem d3_127 : decode prog_33_method_2_code 127 = .ok (.iload 4, 2) := by decide +kernel
theorem d3_129 : decode prog_33_method_2_code 129 = .ok (.istore 5, 2) := by decide +kernel
theorem d3_131 : decode prog_33_method_2_code 131 = .ok (.iload 4, 2) := by decide +kernel
theorem d3_133 : decode prog_33_method_2_code 133 = .ok (.iconst 1, 1) := by decide +kernel
theorem d3_134 : decode prog_33_method_2_code 134 = .ok (.iadd, 1) := by decide +kernel
theorem d3_135 : decode prog_33_method_2_code 135 = .ok (.istore 6, 2) := by decide +kernel
theorem d3_137 : decode prog_33_method_2_code 137 = .ok (.iload 6, 2) := by decide +kernel
theorem d3_139 : decode prog_33_method_2_code 139 = .ok (.aload_n 0, 1) := by decide +kernel
theorem d3_140 : decode prog_33_method_2_code 140 = .ok (.getfield 7, 3) := by decide +kernel
theorem d3_143 : decode prog_33_method_2_code 143 = .ok (.if_icmp .ge 47, 3) := by decide +kernel
theorem d3_146 : decode prog_33_method_2_code 146 = .ok (.aload_n 3, 1) := by decide +kernel
theorem d3_147 : decode prog_33_method_2_code 147 = .ok (.iload 6, 2) := by decide +kernel
theorem d3_149 : decode prog_33_method_2_code 149 = .ok (.aload_n 0, 1) := by decide +kernel
theorem d3_150 : decode prog_33_method_2_code 150 = .ok (.getfield 7, 3) := by decide +kernel
theorem d3_153 : decode prog_33_method_2_code 153 = .ok (.imul, 1) := by decide +kernel
theorem d3_154 : decode prog_33_method_2_code 154 = .ok (.iload 4, 2) := by decide +kernel
theorem d3_156 : decode prog_33_method_2_code 156 = .ok (.iadd, 1) := by decide +kernel
theorem d3_157 : decode prog_33_method_2_code 157 = .ok (.daload, 1) := by decide +kernel
theorem d3_158 : decode prog_33_method_2_code 158 = .ok (.invokestatic 23, 3) := by decide +kernel
theorem d3_161 : decode prog_33_method_2_code 161 = .ok (.aload_n 3, 1) := by decide +kernel
theorem d3_162 : decode prog_33_method_2_code 162 = .ok (.iload 5, 2) := by decide +kernel
theorem d3_164 : decode prog_33_method_2_code 164 = .ok (.aload_n 0, 1) := by decide +kernel
theorem d3_165 : decode prog_33_method_2_code 165 = .ok (.getfield 7, 3) := by decide +kernel
theorem d3_168 : decode prog_33_method_2_code 168 = .ok (.imul, 1) := by decide +kernel
theorem d3_169 : decode prog_33_method_2_code 169 = .ok (.iload 4, 2) := by decide +kernel
theorem d3_171 : decode prog_33_method_2_code 171 = .ok (.iadd, 1) := by decide +kernel
theorem d3_172 : decode prog_33_method_2_code 172 = .ok (.daload, 1) := by decide +kernel
theorem d3_173 : decode prog_33_method_2_code 173 = .ok (.invokestatic 23, 3) := by decide +kernel
theorem d3_176 : decode prog_33_method_2_code 176 = .ok (.dcmp .l, 1) := by decide +kernel
theorem d3_177 : decode prog_33_method_2_code 177 = .ok (.ifCond .le 7, 3) := by decide +kernel
theorem d3_180 : decode prog_33_method_2_code 180 = .ok (.iload 6, 2) := by decide +kernel
theorem d3_182 : decode prog_33_method_2_code 182 = .ok (.istore 5, 2) := by decide +kernel
theorem d3_184 : decode prog_33_method_2_code 184 = .ok (.iinc 6 1, 3) := by decide +kernel
theorem d3_187 : decode prog_33_method_2_code 187 = .ok (.goto (-50), 3) := by decide +kernel
theorem d3_190 : decode prog_33_method_2_code 190 = .ok (.aload_n 3, 1) := by decide +kernel
theorem d3_191 : decode prog_33_method_2_code 191 = .ok (.iload 5, 2) := by decide +kernel
theorem d3_193 : decode prog_33_method_2_code 193 = .ok (.aload_n 0, 1) := by decide +kernel
theorem d3_194 : decode prog_33_method_2_code 194 = .ok (.getfield 7, 3) := by decide +kernel
theorem d3_197 : decode prog_33_method_2_code 197 = .ok (.imul, 1) := by decide +kernel
theorem d3_198 : decode prog_33_method_2_code 198 = .ok (.iload 4, 2) := by decide +kernel
theorem d3_200 : decode prog_33_method_2_code 200 = .ok (.iadd, 1) := by decide +kernel
theorem d3_201 : decode prog_33_method_2_code 201 = .ok (.daload, 1) := by decide +kernel
theorem d3_202 : decode prog_33_method_2_code 202 = .ok (.invokestatic 23, 3) := by decide +kernel
theorem d3_205 : decode prog_33_method_2_code 205 = .ok (.ldc2_w 29, 3) := by decide +kernel
theorem d3_208 : decode prog_33_method_2_code 208 = .ok (.dcmp .g, 1) := by decide +kernel
theorem d3_209 : decode prog_33_method_2_code 209 = .ok (.ifCond .ge 5, 3) := by decide +kernel
theorem d3_212 : decode prog_33_method_2_code 212 = .ok (.iconst 0, 1) := by decide +kernel
theorem d3_213 : decode prog_33_method_2_code 213 = .ok (.ireturn, 1) := by decide +kernel
theorem d3_214 : decode prog_33_method_2_code 214 = .ok (.aload_n 0, 1) := by decide +kernel
theorem d3_215 : decode prog_33_method_2_code 215 = .ok (.aload_n 3, 1) := by decide +kernel
theorem d3_216 : decode prog_33_method_2_code 216 = .ok (.iload 4, 2) := by decide +kernel
theorem d3_218 : decode prog_33_method_2_code 218 = .ok (.iload 5, 2) := by decide +kernel
theorem d3_220 : decode prog_33_method_2_code 220 = .ok (.invokevirtual 31, 3) := by decide +kernel
theorem d3_223 : decode prog_33_method_2_code 223 = .ok (.aload_n 0, 1) := by decide +kernel
theorem d3_224 : decode prog_33_method_2_code 224 = .ok (.aload_n 0, 1) := by decide +kernel
theorem d3_225 : decode prog_33_method_2_code 225 = .ok (.getfield 13, 3) := by decide +kernel
theorem d3_228 : decode prog_33_method_2_code 228 = .ok (.iload 4, 2) := by decide +kernel
theorem d3_230 : decode prog_33_method_2_code 230 = .ok (.iload 5, 2) := by decide +kernel
theorem d3_232 : decode prog_33_method_2_code 232 = .ok (.invokevirtual 31, 3) := by decide +kernel
theorem d3_235 : decode prog_33_method_2_code 235 = .ok (.aload_n 3, 1) := by decide +kernel
theorem d3_236 : decode prog_33_method_2_code 236 = .ok (.iload 4, 2) := by decide +kernel
theorem d3_238 : decode prog_33_method_2_code 238 = .ok (.aload_n 0, 1) := by decide +kernel
theorem d3_239 : decode prog_33_method_2_code 239 = .ok (.getfield 7, 3) := by decide +kernel
theorem d3_242 : decode prog_33_method_2_code 242 = .ok (.imul, 1) := by decide +kernel
theorem d3_243 : decode prog_33_method_2_code 243 = .ok (.iload 4, 2) := by decide +kernel
theorem d3_245 : decode prog_33_method_2_code 245 = .ok (.iadd, 1) := by decide +kernel
theorem d3_246 : decode prog_33_method_2_code 246 = .ok (.daload, 1) := by decide +kernel
theorem d3_247 : decode prog_33_method_2_code 247 = .ok (.dstore 6, 2) := by decide +kernel
theorem d3_249 : decode prog_33_method_2_code 249 = .ok (.aload_n 0, 1) := by decide +kernel
theorem d3_250 : decode prog_33_method_2_code 250 = .ok (.getfield 7, 3) := by decide +kernel
theorem d3_253 : decode prog_33_method_2_code 253 = .ok (.newarray .int, 2) := by decide +kernel
theorem d3_255 : decode prog_33_method_2_code 255 = .ok (.astore 8, 2) := by decide +kernel
theorem d3_257 : decode prog_33_method_2_code 257 = .ok (.aload_n 0, 1) := by decide +kernel
theorem d3_258 : decode prog_33_method_2_code 258 = .ok (.getfield 7, 3) := by decide +kernel
theorem d3_261 : decode prog_33_method_2_code 261 = .ok (.newarray .int, 2) := by decide +kernel
theorem d3_263 : decode prog_33_method_2_code 263 = .ok (.astore 9, 2) := by decide +kernel
theorem d3_265 : decode prog_33_method_2_code 265 = .ok (.iconst 0, 1) := by decide +kernel
theorem d3_266 : decode prog_33_method_2_code 266 = .ok (.istore 10, 2) := by decide +kernel
theorem d3_268 : decode prog_33_method_2_code 268 = .ok (.iconst 0, 1) := by decide +kernel
theorem d3_269 : decode prog_33_method_2_code 269 = .ok (.istore 11, 2) := by decide +kernel
theorem d3_271 : decode prog_33_method_2_code 271 = .ok (.iconst 0, 1) := by decide +kernel
theorem d3_272 : decode prog_33_method_2_code 272 = .ok (.istore 12, 2) := by decide +kernel
theorem d3_274 : decode prog_33_method_2_code 274 = .ok (.iload 12, 2) := by decide +kernel
theorem d3_276 : decode prog_33_method_2_code 276 = .ok (.aload_n 0, 1) := by decide +kernel
theorem d3_277 : decode prog_33_method_2_code 277 = .ok (.getfield 7, 3) := by decide +kernel
theorem d3_280 : decode prog_33_method_2_code 280 = .ok (.if_icmp .ge 103, 3) := by decide +kernel
theorem d3_283 : decode prog_33_method_2_code 283 = .ok (.aload_n 3, 1) := by decide +kernel
theorem d3_284 : decode prog_33_method_2_code 284 = .ok (.iload 4, 2) := by decide +kernel
theorem d3_286 : decode prog_33_method_2_code 286 = .ok (.aload_n 0, 1) := by decide +kernel
theorem d3_287 : decode prog_33_method_2_code 287 = .ok (.getfield 7, 3) := by decide +kernel
theorem d3_290 : decode prog_33_method_2_code 290 = .ok (.imul, 1) := by decide +kernel
theorem d3_291 : decode prog_33_method_2_code 291 = .ok (.iload 12, 2) := by decide +kernel
theorem d3_293 : decode prog_33_method_2_code 293 = .ok (.iadd, 1) := by decide +kernel
theorem d3_294 : decode prog_33_method_2_code 294 = .ok (.daload, 1) := by decide +kernel
theorem d3_295 : decode prog_33_method_2_code 295 = .ok (.dconst 0, 1) := by decide +kernel
theorem d3_296 : decode prog_33_method_2_code 296 = .ok (.dcmp .l, 1) := by decide +kernel
theorem d3_297 : decode prog_33_method_2_code 297 = .ok (.ifCond .eq 30, 3) := by decide +kernel
theorem d3_300 : decode prog_33_method_2_code 300 = .ok (.aload_n 3, 1) := by decide +kernel
theorem d3_301 : decode prog_33_method_2_code 301 = .ok (.iload 4, 2) := by decide +kernel
theorem d3_303 : decode prog_33_method_2_code 303 = .ok (.aload_n 0, 1) := by decide +kernel
theorem d3_304 : decode prog_33_method_2_code 304 = .ok (.getfield 7, 3) := by decide +kernel
theorem d3_307 : decode prog_33_method_2_code 307 = .ok (.imul, 1) := by decide +kernel
theorem d3_308 : decode prog_33_method_2_code 308 = .ok (.iload 12, 2) := by decide +kernel
theorem d3_310 : decode prog_33_method_2_code 310 = .ok (.iadd, 1) := by decide +kernel
theorem d3_311 : decode prog_33_method_2_code 311 = .ok (.dup2, 1) := by decide +kernel
theorem d3_312 : decode prog_33_method_2_code 312 = .ok (.daload, 1) := by decide +kernel
theorem d3_313 : decode prog_33_method_2_code 313 = .ok (.dload 6, 2) := by decide +kernel
theorem d3_315 : decode prog_33_method_2_code 315 = .ok (.ddiv, 1) := by decide +kernel
theorem d3_316 : decode prog_33_method_2_code 316 = .ok (.dastore, 1) := by decide +kernel
theorem d3_317 : decode prog_33_method_2_code 317 = .ok (.aload 8, 2) := by decide +kernel
theorem d3_319 : decode prog_33_method_2_code 319 = .ok (.iload 10, 2) := by decide +kernel
theorem d3_321 : decode prog_33_method_2_code 321 = .ok (.iinc 10 1, 3) := by decide +kernel
theorem d3_324 : decode prog_33_method_2_code 324 = .ok (.iload 12, 2) := by decide +kernel
theorem d3_326 : decode prog_33_method_2_code 326 = .ok (.iastore, 1) := by decide +kernel
theorem d3_327 : decode prog_33_method_2_code 327 = .ok (.aload_n 0, 1) := by decide +kernel
theorem d3_328 : decode prog_33_method_2_code 328 = .ok (.getfield 13, 3) := by decide +kernel
theorem d3_331 : decode prog_33_method_2_code 331 = .ok (.iload 4, 2) := by decide +kernel
theorem d3_333 : decode prog_33_method_2_code 333 = .ok (.aload_n 0, 1) := by decide +kernel
theorem d3_334 : decode prog_33_method_2_code 334 = .ok (.getfield 7, 3) := by decide +kernel
theorem d3_337 : decode prog_33_method_2_code 337 = .ok (.imul, 1) := by decide +kernel
theorem d3_338 : decode prog_33_method_2_code 338 = .ok (.iload 12, 2) := by decide +kernel
theorem d3_340 : decode prog_33_method_2_code 340 = .ok (.iadd, 1) := by decide +kernel
theorem d3_341 : decode prog_33_method_2_code 341 = .ok (.daload, 1) := by decide +kernel
theorem d3_342 : decode prog_33_method_2_code 342 = .ok (.dconst 0, 1) := by decide +kernel
theorem d3_343 : decode prog_33_method_2_code 343 = .ok (.dcmp .l, 1) := by decide +kernel
theorem d3_344 : decode prog_33_method_2_code 344 = .ok (.ifCond .eq 33, 3) := by decide +kernel
theorem d3_347 : decode prog_33_method_2_code 347 = .ok (.aload_n 0, 1) := by decide +kernel
theorem d3_348 : decode prog_33_method_2_code 348 = .ok (.getfield 13, 3) := by decide +kernel
theorem d3_351 : decode prog_33_method_2_code 351 = .ok (.iload 4, 2) := by decide +kernel
theorem d3_353 : decode prog_33_method_2_code 353 = .ok (.aload_n 0, 1) := by decide +kernel
theorem d3_354 : decode prog_33_method_2_code 354 = .ok (.getfield 7, 3) := by decide +kernel
theorem d3_357 : decode prog_33_method_2_code 357 = .ok (.imul, 1) := by decide +kernel
theorem d3_358 : decode prog_33_method_2_code 358 = .ok (.iload 12, 2) := by decide +kernel
theorem d3_360 : decode prog_33_method_2_code 360 = .ok (.iadd, 1) := by decide +kernel
theorem d3_361 : decode prog_33_method_2_code 361 = .ok (.dup2, 1) := by decide +kernel
theorem d3_362 : decode prog_33_method_2_code 362 = .ok (.daload, 1) := by decide +kernel
theorem d3_363 : decode prog_33_method_2_code 363 = .ok (.dload 6, 2) := by decide +kernel
theorem d3_365 : decode prog_33_method_2_code 365 = .ok (.ddiv, 1) := by decide +kernel
theorem d3_366 : decode prog_33_method_2_code 366 = .ok (.dastore, 1) := by decide +kernel
theorem d3_367 : decode prog_33_method_2_code 367 = .ok (.aload 9, 2) := by decide +kernel
theorem d3_369 : decode prog_33_method_2_code 369 = .ok (.iload 11, 2) := by decide +kernel
theorem d3_371 : decode prog_33_method_2_code 371 = .ok (.iinc 11 1, 3) := by decide +kernel
theorem d3_374 : decode prog_33_method_2_code 374 = .ok (.iload 12, 2) := by decide +kernel
theorem d3_376 : decode prog_33_method_2_code 376 = .ok (.iastore, 1) := by decide +kernel
theorem d3_377 : decode prog_33_method_2_code 377 = .ok (.iinc 12 1, 3) := by decide +kernel
theorem d3_380 : decode prog_33_method_2_code 380 = .ok (.goto (-106), 3) := by decide +kernel
theorem d3_383 : decode prog_33_method_2_code 383 = .ok (.iconst 0, 1) := by decide +kernel
theorem d3_384 : decode prog_33_method_2_code 384 = .ok (.istore 12, 2) := by decide +kernel
theorem d3_386 : decode prog_33_method_2_code 386 = .ok (.iload 12, 2) := by decide +kernel
theorem d3_388 : decode prog_33_method_2_code 388 = .ok (.aload_n 0, 1) := by decide +kernel
theorem d3_389 : decode prog_33_method_2_code 389 = .ok (.getfield 7, 3) := by decide +kernel
theorem d3_392 : decode prog_33_method_2_code 392 = .ok (.if_icmp .ge 149, 3) := by decide +kernel
theorem d3_395 : decode prog_33_method_2_code 395 = .ok (.aload_n 3, 1) := by decide +kernel
theorem d3_396 : decode prog_33_method_2_code 396 = .ok (.iload 12, 2) := by decide +kernel
theorem d3_398 : decode prog_33_method_2_code 398 = .ok (.aload_n 0, 1) := by decide +kernel
theorem d3_399 : decode prog_33_method_2_code 399 = .ok (.getfield 7, 3) := by decide +kernel
theorem d3_402 : decode prog_33_method_2_code 402 = .ok (.imul, 1) := by decide +kernel
theorem d3_403 : decode prog_33_method_2_code 403 = .ok (.iload 4, 2) := by decide +kernel
theorem d3_405 : decode prog_33_method_2_code 405 = .ok (.iadd, 1) := by decide +kernel
theorem d3_406 : decode prog_33_method_2_code 406 = .ok (.daload, 1) := by decide +kernel
theorem d3_407 : decode prog_33_method_2_code 407 = .ok (.dstore 13, 2) := by decide +kernel
theorem d3_409 : decode prog_33_method_2_code 409 = .ok (.iload 12, 2) := by decide +kernel
theorem d3_411 : decode prog_33_method_2_code 411 = .ok (.iload 4, 2) := by decide +kernel
theorem d3_413 : decode prog_33_method_2_code 413 = .ok (.if_icmp .eq 122, 3) := by decide +kernel
theorem d3_416 : decode prog_33_method_2_code 416 = .ok (.dload 13, 2) := by decide +kernel
theorem d3_418 : decode prog_33_method_2_code 418 = .ok (.dconst 0, 1) := by decide +kernel
theorem d3_419 : decode prog_33_method_2_code 419 = .ok (.dcmp .l, 1) := by decide +kernel
theorem d3_420 : decode prog_33_method_2_code 420 = .ok (.ifCond .eq 115, 3) := by decide +kernel
theorem d3_423 : decode prog_33_method_2_code 423 = .ok (.iconst 0, 1) := by decide +kernel
theorem d3_424 : decode prog_33_method_2_code 424 = .ok (.istore 15, 2) := by decide +kernel
theorem d3_426 : decode prog_33_method_2_code 426 = .ok (.iload 15, 2) := by decide +kernel
theorem d3_428 : decode prog_33_method_2_code 428 = .ok (.iload 10, 2) := by decide +kernel
theorem d3_430 : decode prog_33_method_2_code 430 = .ok (.if_icmp .ge 46, 3) := by decide +kernel
theorem d3_433 : decode prog_33_method_2_code 433 = .ok (.aload 8, 2) := by decide +kernel
theorem d3_435 : decode prog_33_method_2_code 435 = .ok (.iload 15, 2) := by decide +kernel
theorem d3_437 : decode prog_33_method_2_code 437 = .ok (.iaload, 1) := by decide +kernel
theorem d3_438 : decode prog_33_method_2_code 438 = .ok (.istore 16, 2) := by decide +kernel
theorem d3_440 : decode prog_33_method_2_code 440 = .ok (.aload_n 3, 1) := by decide +kernel
theorem d3_441 : decode prog_33_method_2_code 441 = .ok (.iload 12, 2) := by decide +kernel
theorem d3_443 : decode prog_33_method_2_code 443 = .ok (.aload_n 0, 1) := by decide +kernel
theorem d3_444 : decode prog_33_method_2_code 444 = .ok (.getfield 7, 3) := by decide +kernel
theorem d3_447 : decode prog_33_method_2_code 447 = .ok (.imul, 1) := by decide +kernel
theorem d3_448 : decode prog_33_method_2_code 448 = .ok (.iload 16, 2) := by decide +kernel
theorem d3_450 : decode prog_33_method_2_code 450 = .ok (.iadd, 1) := by decide +kernel
theorem d3_451 : decode prog_33_method_2_code 451 = .ok (.dup2, 1) := by decide +kernel
theorem d3_452 : decode prog_33_method_2_code 452 = .ok (.daload, 1) := by decide +kernel
theorem d3_453 : decode prog_33_method_2_code 453 = .ok (.dload 13, 2) := by decide +kernel
theorem d3_455 : decode prog_33_method_2_code 455 = .ok (.aload_n 3, 1) := by decide +kernel
theorem d3_456 : decode prog_33_method_2_code 456 = .ok (.iload 4, 2) := by decide +kernel
theorem d3_458 : decode prog_33_method_2_code 458 = .ok (.aload_n 0, 1) := by decide +kernel
theorem d3_459 : decode prog_33_method_2_code 459 = .ok (.getfield 7, 3) := by decide +kernel
theorem d3_462 : decode prog_33_method_2_code 462 = .ok (.imul, 1) := by decide +kernel
theorem d3_463 : decode prog_33_method_2_code 463 = .ok (.iload 16, 2) := by decide +kernel
theorem d3_465 : decode prog_33_method_2_code 465 = .ok (.iadd, 1) := by decide +kernel
theorem d3_466 : decode prog_33_method_2_code 466 = .ok (.daload, 1) := by decide +kernel
theorem d3_467 : decode prog_33_method_2_code 467 = .ok (.dmul, 1) := by decide +kernel
theorem d3_468 : decode prog_33_method_2_code 468 = .ok (.dsub, 1) := by decide +kernel
theorem d3_469 : decode prog_33_method_2_code 469 = .ok (.dastore, 1) := by decide +kernel
theorem d3_470 : decode prog_33_method_2_code 470 = .ok (.iinc 15 1, 3) := by decide +kernel
theorem d3_473 : decode prog_33_method_2_code 473 = .ok (.goto (-47), 3) := by decide +kernel
theorem d3_476 : decode prog_33_method_2_code 476 = .ok (.iconst 0, 1) := by decide +kernel
theorem d3_477 : decode prog_33_method_2_code 477 = .ok (.istore 15, 2) := by decide +kernel
theorem d3_479 : decode prog_33_method_2_code 479 = .ok (.iload 15, 2) := by decide +kernel
theorem d3_481 : decode prog_33_method_2_code 481 = .ok (.iload 11, 2) := by decide +kernel
theorem d3_483 : decode prog_33_method_2_code 483 = .ok (.if_icmp .ge 52, 3) := by decide +kernel
theorem d3_486 : decode prog_33_method_2_code 486 = .ok (.aload 9, 2) := by decide +kernel
theorem d3_488 : decode prog_33_method_2_code 488 = .ok (.iload 15, 2) := by decide +kernel
theorem d3_490 : decode prog_33_method_2_code 490 = .ok (.iaload, 1) := by decide +kernel
theorem d3_491 : decode prog_33_method_2_code 491 = .ok (.istore 16, 2) := by decide +kernel
theorem d3_493 : decode prog_33_method_2_code 493 = .ok (.aload_n 0, 1) := by decide +kernel
theorem d3_494 : decode prog_33_method_2_code 494 = .ok (.getfield 13, 3) := by decide +kernel
theorem d3_497 : decode prog_33_method_2_code 497 = .ok (.iload 12, 2) := by decide +kernel
theorem d3_499 : decode prog_33_method_2_code 499 = .ok (.aload_n 0, 1) := by decide +kernel
theorem d3_500 : decode prog_33_method_2_code 500 = .ok (.getfield 7, 3) := by decide +kernel
theorem d3_503 : decode prog_33_method_2_code 503 = .ok (.imul, 1) := by decide +kernel
theorem d3_504 : decode prog_33_method_2_code 504 = .ok (.iload 16, 2) := by decide +kernel
theorem d3_506 : decode prog_33_method_2_code 506 = .ok (.iadd, 1) := by decide +kernel
theorem d3_507 : decode prog_33_method_2_code 507 = .ok (.dup2, 1) := by decide +kernel
theorem d3_508 : decode prog_33_method_2_code 508 = .ok (.daload, 1) := by decide +kernel
theorem d3_509 : decode prog_33_method_2_code 509 = .ok (.dload 13, 2) := by decide +kernel
theorem d3_511 : decode prog_33_method_2_code 511 = .ok (.aload_n 0, 1) := by decide +kernel
theorem d3_512 : decode prog_33_method_2_code 512 = .ok (.getfield 13, 3) := by decide +kernel
theorem d3_515 : decode prog_33_method_2_code 515 = .ok (.iload 4, 2) := by decide +kernel
theorem d3_517 : decode prog_33_method_2_code 517 = .ok (.aload_n 0, 1) := by decide +kernel
theorem d3_518 : decode prog_33_method_2_code 518 = .ok (.getfield 7, 3) := by decide +kernel
theorem d3_521 : decode prog_33_method_2_code 521 = .ok (.imul, 1) := by decide +kernel
theorem d3_522 : decode prog_33_method_2_code 522 = .ok (.iload 16, 2) := by decide +kernel
theorem d3_524 : decode prog_33_method_2_code 524 = .ok (.iadd, 1) := by decide +kernel
theorem d3_525 : decode prog_33_method_2_code 525 = .ok (.daload, 1) := by decide +kernel
theorem d3_526 : decode prog_33_method_2_code 526 = .ok (.dmul, 1) := by decide +kernel
theorem d3_527 : decode prog_33_method_2_code 527 = .ok (.dsub, 1) := by decide +kernel
theorem d3_528 : decode prog_33_method_2_code 528 = .ok (.dastore, 1) := by decide +kernel
theorem d3_529 : decode prog_33_method_2_code 529 = .ok (.iinc 15 1, 3) := by decide +kernel
theorem d3_532 : decode prog_33_method_2_code 532 = .ok (.goto (-53), 3) := by decide +kernel
theorem d3_535 : decode prog_33_method_2_code 535 = .ok (.iinc 12 1, 3) := by decide +kernel
theorem d3_538 : decode prog_33_method_2_code 538 = .ok (.goto (-152), 3) := by decide +kernel
theorem d3_541 : decode prog_33_method_2_code 541 = .ok (.iinc 4 1, 3) := by decide +kernel
theorem d3_544 : decode prog_33_method_2_code 544 = .ok (.goto (-426), 3) := by decide +kernel
theorem d3_547 : decode prog_33_method_2_code 547 = .ok (.iconst 1, 1) := by decide +kernel
theorem d3_548 : decode prog_33_method_2_code 548 = .ok (.ireturn, 1) := by decide +kernel
set_option maxRecDepth 65536 in
set_option maxHeartbeats 40000000 in
theorem rmV_2 {p : Program} {l : Launch} {e : Env} {s : State} {m : MethodId} {args : Array Value} {below : List Frame} {meth : Method} {c : Code} {T0 Z : State} {a0 : Array Value} {h0 : Heap} {n0 : Nat} {ob cs vs_ wk vi : Addr} {kw kv : ClassId} {ia ib : Int} {hE : Heap} {L0 : List Loc} {u5 u10 u11 u12 : Int32} {u6 u13 : UInt64} {u8 u9 : Addr} {o15 o16 : Option Int32} {w0 w1 w2 w3 w4 w5 w6 w7 w8 x0 x1 x2 x3 x4 x5 x6 x7 x8 : UInt64} (X0 : Stand p l e ({ frames := 1, cells := 7, slots := 27, locals := 40 } : Room) s m args below meth c T0 L0 5 21) (hx : p.tables.exec = Jvm.exec) (hby : c.code = prog_33_method_2_code) (hml : c.maxLocals = 17) (hret : meth.sig.returnType = (some .boolean)) (hlk : meth.locks = false) (hown : s.vm.findClass "com/example/tracefold/tracefold/mining/DenseInverse" = some m.cls) (hZ : Z.Warmed39 s.vm) (hw : ∀ d ∈ tables_1, d.before a0 Z = true) (e0 : T0.heap = h0) (Z0 : n0 ≤ h0.size) (N0 : Fr n0 L0) (ba : -128 ≤ ia ∧ ia ≤ 127) (bb : -128 ≤ ib ∧ ib ≤ 127) (bab : -20000 ≤ ia * ib ∧ ia * ib ≤ 20000) (Eo : Exa Z h0 ob "com/example/tracefold/tracefold/mining/DenseInverse") (Fn : Fld Z h0 ob "com/example/tracefold/tracefold/mining/DenseInverse" "n" "I" (.int 3)) (Fv : Fld Z h0 ob "com/example/tracefold/tracefold/mining/DenseInverse" "inverse" "[D" (.ref vi)) (Vw : Arv Z h0 wk kw .double 9 [(.double w0), (.double w1), (.double w2), (.double w3), (.double w4), (.double w5), (.double w6), (.double w7), (.double w8)] (.double 0)) (Vv : Arv Z h0 vi kv .double 9 [(.double x0), (.double x1), (.double x2), (.double x3), (.double x4), (.double x5), (.double x6), (.double x7), (.double x8)] (.double 0)) (KE : Keep hE h0 [vi]) (gw : n0 ≤ wk) (gv : n0 ≤ vi) (sw : hE.size ≤ wk) (n1 : ob ≠ wk) (n2 : ob ≠ vi) (n3 : wk ≠ vi) (hw0 : Jvm.FP.Core.DInt 1 w0) (hw1 : Jvm.FP.Core.DInt 0 w1) (hw2 : Jvm.FP.Core.DInt (-(ia * ib)) w2) (hw3 : Jvm.FP.Core.DInt 0 w3) (hw4 : Jvm.FP.Core.DInt 1 w4) (hw5 : Jvm.FP.Core.DInt ib w5) (hw6 : Jvm.FP.Core.DInt 0 w6) (hw7 : Jvm.FP.Core.DInt 0 w7) (hw8 : Jvm.FP.Core.DInt 1 w8) (hx0 : Jvm.FP.Core.DInt 1 x0) (hx1 : Jvm.FP.Core.DInt (-ia) x1) (hx2 : Jvm.FP.Core.DInt 0 x2) (hx3 : Jvm.FP.Core.DInt 0 x3) (hx4 : Jvm.FP.Core.DInt 1 x4) (hx5 : Jvm.FP.Core.DInt 0 x5) (hx6 : Jvm.FP.Core.DInt 0 x6) (hx7 : Jvm.FP.Core.DInt 0 x7) (hx8 : Jvm.FP.Core.DInt 1 x8) :
    Go p e below (EndQ s (Q_rmV Z vi kv ia ib n0 hE) 7 27) T0 (mkF m 118 #[.val (.ref ob), .val (.ref cs), .val (.ref vs_), .val (.ref wk), .val (.int (2 : Int32)), .val (.int u5), .val (.double u6), .second, .val (.ref u8), .val (.ref u9), .val (.int u10), .val (.int u11), .val (.int u12), .val (.double u13), .second, (own_sl o15), (own_sl o16)] []) := by
  refine g_iload X0 hx 120 (hb hby d3_118) rfl rfl ?_
  refine g_aloadN X0 hx 121 (hb hby d3_120) rfl rfl rfl ?_
  refine g_getF X0 hx hZ hown (hw _ (List.mem_of_getElem? (i := 9) rfl)) Via.refl e0 Fn 124 (hb hby d3_121) rfl ?_
  intro T103 X103 e103
  have ll105 : ((3 : Int32) : Int32).toInt = 3 := by decide
  have ll106 : ((2 : Int32) : Int32).toInt = 2 := by decide
  refine g_ic_ge X103 hx 547 127 (hb hby d3_124) (by decide) (by decide) rfl (fun c104 => ?_) (fun c104 => ?_)
  · skip
    exfalso; revert c104; decide
  · skip
    refine g_iload X103 hx 129 (hb hby d3_127) rfl rfl ?_
    refine g_istore (l' := #[.val (.ref ob), .val (.ref cs), .val (.ref vs_), .val (.ref wk), .val (.int (2 : Int32)), .val (.int (2 : Int32)), .val (.double u6), .second, .val (.ref u8), .val (.ref u9), .val (.int u10), .val (.int u11), .val (.int u12), .val (.double u13), .second, (own_sl o15), (own_sl o16)]) X103 hx 131 (hb hby d3_129) rfl rfl ?_
    refine g_iload X103 hx 133 (hb hby d3_131) rfl rfl ?_
    refine g_iconst X103 hx (1 : Int32) 134 (hb hby d3_133) rfl (by decide) ?_
    refine g_iaddC X103 hx (3 : Int32) (by decide) 135 (hb hby d3_134) rfl ?_
    refine g_istore (l' := #[.val (.ref ob), .val (.ref cs), .val (.ref vs_), .val (.ref wk), .val (.int (2 : Int32)), .val (.int (2 : Int32)), .val (.int (3 : Int32)), .unset, .val (.ref u8), .val (.ref u9), .val (.int u10), .val (.int u11), .val (.int u12), .val (.double u13), .second, (own_sl o15), (own_sl o16)]) X103 hx 137 (hb hby d3_135) rfl rfl ?_
    refine g_iload X103 hx 139 (hb hby d3_137) rfl rfl ?_
    refine g_aloadN X103 hx 140 (hb hby d3_139) rfl rfl rfl ?_
    refine g_getF X103 hx hZ hown (hw _ (List.mem_of_getElem? (i := 9) rfl)) Via.refl e103 Fn 143 (hb hby d3_140) rfl ?_
    intro T107 X107 e107
    have ll109 : ((3 : Int32) : Int32).toInt = 3 := by decide
    have ll110 : ((3 : Int32) : Int32).toInt = 3 := by decide
    refine g_ic_ge X107 hx 190 146 (hb hby d3_143) (by decide) (by decide) rfl (fun c108 => ?_) (fun c108 => ?_)
    · skip
      refine g_aloadN X107 hx 191 (hb hby d3_190) rfl rfl rfl ?_
      refine g_iload X107 hx 193 (hb hby d3_191) rfl rfl ?_
      refine g_aloadN X107 hx 194 (hb hby d3_193) rfl rfl rfl ?_
      refine g_getF X107 hx hZ hown (hw _ (List.mem_of_getElem? (i := 9) rfl)) Via.refl e107 Fn 197 (hb hby d3_194) rfl ?_
      intro T111 X111 e111
      refine g_imulC X111 hx (6 : Int32) (by decide) 198 (hb hby d3_197) rfl ?_
      refine g_iload X111 hx 200 (hb hby d3_198) rfl rfl ?_
      refine g_iaddC X111 hx (8 : Int32) (by decide) 201 (hb hby d3_200) rfl ?_
      refine g_daload X111 hx hZ e111 Vw (by decide) (by decide) (by rw [show ((8 : Int32) : Int32).toNatClampNeg = 8 by decide] <;> rfl) 202 (hb hby d3_201) rfl ?_
      refine g_absD X111 hx hZ hown (hw _ (List.mem_of_getElem? (i := 30) rfl)) (hw _ (List.mem_of_getElem? (i := 31) rfl)) (hw _ (List.mem_of_getElem? (i := 32) rfl)) (hw _ (List.mem_of_getElem? (i := 33) rfl)) rfl e111 (own_dnn hw8) 0 205 (hb hby d3_202) rfl (by rw [hml]; rfl) (Nat.le_refl _) (by decide) (by decide) (by decide) (by decide) own_pd4 ?_
      intro T112 X112 e112
      refine g_ldc2D X112 hx 208 hZ hown (hw _ (List.mem_of_getElem? (i := 34) rfl)) (hb hby d3_205) rfl ?_
      refine g_dc_ge X112 hx 209 214 212 (hb hby d3_208) rfl (hb hby d3_209) (by decide) (by decide) rfl (own_piv (own_abs1 hw8)) (fun c113 => ?_) (fun c113 => ?_)
      · skip
        refine g_aloadN X112 hx 215 (hb hby d3_214) rfl rfl rfl ?_
        refine g_aloadN X112 hx 216 (hb hby d3_215) rfl rfl rfl ?_
        refine g_iload X112 hx 218 (hb hby d3_216) rfl rfl ?_
        refine g_iload X112 hx 220 (hb hby d3_218) rfl rfl ?_
        refine g_priv X112 hx hZ (C := "com/example/tracefold/tracefold/mining/DenseInverse") (z := ({ cls := "com/example/tracefold/tracefold/mining/DenseInverse", name := "invert", desc := "([[I[[D)Z" } : Jvm.MethodName)) hown (hw _ (List.mem_of_getElem? (i := 35) rfl)) (hw _ (List.mem_of_getElem? (i := 37) rfl)) (hw _ (List.mem_of_getElem? (i := 24) rfl)) rfl (hw _ (List.mem_of_getElem? (i := 36) rfl)) (hw _ (List.mem_of_getElem? (i := 2) rfl)) (hw _ (List.mem_of_getElem? (i := 38) rfl)) (by decide) (rmW l Z a0 hw ob wk (2 : Int32) h0 n0 Z0) e112 (b := ob) Eo (argsL := [(.ref wk), (.int (2 : Int32)), (.int (2 : Int32))]) (rest := []) rfl rfl 0 223 rfl (by rw [hml]; rfl) (lenOf own_pd5 rfl) (Nat.le_refl _) (by decide) (by decide) (by decide) (by decide) (hb hby d3_220) ?_
        intro v114 T114 L114 X114 hQ114
        obtain ⟨rfl, N114, q114⟩ := hQ114
        have N115 := Fr.app N0 N114
        show Go p e below _ T114 (mkF m 223 #[.val (.ref ob), .val (.ref cs), .val (.ref vs_), .val (.ref wk), .val (.int (2 : Int32)), .val (.int (2 : Int32)), .val (.int (3 : Int32)), .unset, .val (.ref u8), .val (.ref u9), .val (.int u10), .val (.int u11), .val (.int u12), .val (.double u13), .second, (own_sl o15), (own_sl o16)] [])
        refine g_aloadN X114 hx 224 (hb hby d3_223) rfl rfl rfl ?_
        refine g_aloadN X114 hx 225 (hb hby d3_224) rfl rfl rfl ?_
        refine g_getF X114 hx hZ hown (hw _ (List.mem_of_getElem? (i := 12) rfl)) Via.refl q114 Fv 228 (hb hby d3_225) rfl ?_
        intro T116 X116 e116
        refine g_iload X116 hx 230 (hb hby d3_228) rfl rfl ?_
        refine g_iload X116 hx 232 (hb hby d3_230) rfl rfl ?_
        refine g_priv X116 hx hZ (C := "com/example/tracefold/tracefold/mining/DenseInverse") (z := ({ cls := "com/example/tracefold/tracefold/mining/DenseInverse", name := "invert", desc := "([[I[[D)Z" } : Jvm.MethodName)) hown (hw _ (List.mem_of_getElem? (i := 35) rfl)) (hw _ (List.mem_of_getElem? (i := 37) rfl)) (hw _ (List.mem_of_getElem? (i := 24) rfl)) rfl (hw _ (List.mem_of_getElem? (i := 36) rfl)) (hw _ (List.mem_of_getElem? (i := 2) rfl)) (hw _ (List.mem_of_getElem? (i := 38) rfl)) (by decide) (rmW l Z a0 hw ob vi (2 : Int32) h0 n0 Z0) e116 (b := ob) Eo (argsL := [(.ref vi), (.int (2 : Int32)), (.int (2 : Int32))]) (rest := []) rfl rfl 0 235 rfl (by rw [hml]; rfl) (lenOf own_pd5 rfl) (Nat.le_refl _) (by decide) (by decide) (by decide) (by decide) (hb hby d3_232) ?_
        intro v117 T117 L117 X117 hQ117
        obtain ⟨rfl, N117, q117⟩ := hQ117
        have N118 := Fr.app N115 N117
        show Go p e below _ T117 (mkF m 235 #[.val (.ref ob), .val (.ref cs), .val (.ref vs_), .val (.ref wk), .val (.int (2 : Int32)), .val (.int (2 : Int32)), .val (.int (3 : Int32)), .unset, .val (.ref u8), .val (.ref u9), .val (.int u10), .val (.int u11), .val (.int u12), .val (.double u13), .second, (own_sl o15), (own_sl o16)] [])
        refine g_aloadN X117 hx 236 (hb hby d3_235) rfl rfl rfl ?_
        refine g_iload X117 hx 238 (hb hby d3_236) rfl rfl ?_
        refine g_aloadN X117 hx 239 (hb hby d3_238) rfl rfl rfl ?_
        refine g_getF X117 hx hZ hown (hw _ (List.mem_of_getElem? (i := 9) rfl)) Via.refl q117 Fn 242 (hb hby d3_239) rfl ?_
        intro T119 X119 e119
        refine g_imulC X119 hx (6 : Int32) (by decide) 243 (hb hby d3_242) rfl ?_
        refine g_iload X119 hx 245 (hb hby d3_243) rfl rfl ?_
        refine g_iaddC X119 hx (8 : Int32) (by decide) 246 (hb hby d3_245) rfl ?_
        refine g_daload X119 hx hZ e119 Vw (by decide) (by decide) (by rw [show ((8 : Int32) : Int32).toNatClampNeg = 8 by decide] <;> rfl) 247 (hb hby d3_246) rfl ?_
        refine g_dstore (l' := #[.val (.ref ob), .val (.ref cs), .val (.ref vs_), .val (.ref wk), .val (.int (2 : Int32)), .val (.int (2 : Int32)), .val (.double w8), .second, .val (.ref u8), .val (.ref u9), .val (.int u10), .val (.int u11), .val (.int u12), .val (.double u13), .second, (own_sl o15), (own_sl o16)]) X119 hx 249 (hb hby d3_247) rfl rfl ?_
        refine g_aloadN X119 hx 250 (hb hby d3_249) rfl rfl rfl ?_
        refine g_getF X119 hx hZ hown (hw _ (List.mem_of_getElem? (i := 9) rfl)) Via.refl e119 Fn 253 (hb hby d3_250) rfl ?_
        intro T120 X120 e120
        refine g_newP X120 hx hZ (aty := .int) (hw _ (List.mem_of_getElem? (i := 16) rfl)) e120 (by decide) (cap := 3) (by decide) (by decide) 255 (hb hby d3_253) rfl (by decide) (by decide) (ad := "[I") (by decide) ?_
        intro T121 h121 k121 a121 g121 X121 e121 E121 V121 A121
        have ne122 : ob ≠ a121 := Nat.ne_of_lt (by rw [g121]; exact Eo.lt)
        have ne123 : wk ≠ a121 := Nat.ne_of_lt (by rw [g121]; exact Vw.lt)
        have ne124 : vi ≠ a121 := Nat.ne_of_lt (by rw [g121]; exact Vv.lt)
        have ge125 : n0 ≤ a121 := by rw [g121]; exact Z0
        have sz126 : hE.size ≤ a121 := by rw [g121]; exact KE.1
        have F127 := Eo.ext E121
        have F128 := Fn.ext E121
        have F129 := Fv.ext E121
        have F130 := Vw.ext E121
        have F131 := Vv.ext E121
        have K132 := KE.ext E121
        have Z133 : n0 ≤ h121.size := Nat.le_trans Z0 E121.1
        have V121' : Arv Z h121 a121 k121 .int (3 : Int32) [(.int (0 : Int32)), (.int (0 : Int32)), (.int (0 : Int32))] (.int (0 : Int32)) := V121.pad (pad_rep [] (.int (0 : Int32)) 3)
        refine g_astore (l' := #[.val (.ref ob), .val (.ref cs), .val (.ref vs_), .val (.ref wk), .val (.int (2 : Int32)), .val (.int (2 : Int32)), .val (.double w8), .second, .val (.ref a121), .val (.ref u9), .val (.int u10), .val (.int u11), .val (.int u12), .val (.double u13), .second, (own_sl o15), (own_sl o16)]) X121 hx 257 (hb hby d3_255) rfl rfl rfl ?_
        refine g_aloadN X121 hx 258 (hb hby d3_257) rfl rfl rfl ?_
        refine g_getF X121 hx hZ hown (hw _ (List.mem_of_getElem? (i := 9) rfl)) Via.refl e121 F128 261 (hb hby d3_258) rfl ?_
        intro T134 X134 e134
        refine g_newP X134 hx hZ (aty := .int) (hw _ (List.mem_of_getElem? (i := 16) rfl)) e134 (by decide) (cap := 3) (by decide) (by decide) 263 (hb hby d3_261) rfl (by decide) (by decide) (ad := "[I") (by decide) ?_
        intro T135 h135 k135 a135 g135 X135 e135 E135 V135 A135
        have ne136 : ob ≠ a135 := Nat.ne_of_lt (by rw [g135]; exact F127.lt)
        have ne137 : wk ≠ a135 := Nat.ne_of_lt (by rw [g135]; exact F130.lt)
        have ne138 : vi ≠ a135 := Nat.ne_of_lt (by rw [g135]; exact F131.lt)
        have ne139 : a121 ≠ a135 := Nat.ne_of_lt (by rw [g135]; exact A121.lt)
        have ge140 : n0 ≤ a135 := by rw [g135]; exact Z133
        have sz141 : hE.size ≤ a135 := by rw [g135]; exact K132.1
        have F142 := F127.ext E135
        have F143 := F128.ext E135
        have F144 := F129.ext E135
        have F145 := F130.ext E135
        have F146 := F131.ext E135
        have F147 := A121.ext E135
        have F148 := V121'.ext E135
        have K149 := K132.ext E135
        have Z150 : n0 ≤ h135.size := Nat.le_trans Z133 E135.1
        have V135' : Arv Z h135 a135 k135 .int (3 : Int32) [(.int (0 : Int32)), (.int (0 : Int32)), (.int (0 : Int32))] (.int (0 : Int32)) := V135.pad (pad_rep [] (.int (0 : Int32)) 3)
        refine g_astore (l' := #[.val (.ref ob), .val (.ref cs), .val (.ref vs_), .val (.ref wk), .val (.int (2 : Int32)), .val (.int (2 : Int32)), .val (.double w8), .second, .val (.ref a121), .val (.ref a135), .val (.int u10), .val (.int u11), .val (.int u12), .val (.double u13), .second, (own_sl o15), (own_sl o16)]) X135 hx 265 (hb hby d3_263) rfl rfl rfl ?_
        refine g_iconst X135 hx (0 : Int32) 266 (hb hby d3_265) rfl (by decide) ?_
        refine g_istore (l' := #[.val (.ref ob), .val (.ref cs), .val (.ref vs_), .val (.ref wk), .val (.int (2 : Int32)), .val (.int (2 : Int32)), .val (.double w8), .second, .val (.ref a121), .val (.ref a135), .val (.int (0 : Int32)), .val (.int u11), .val (.int u12), .val (.double u13), .second, (own_sl o15), (own_sl o16)]) X135 hx 268 (hb hby d3_266) rfl rfl ?_
        refine g_iconst X135 hx (0 : Int32) 269 (hb hby d3_268) rfl (by decide) ?_
        refine g_istore (l' := #[.val (.ref ob), .val (.ref cs), .val (.ref vs_), .val (.ref wk), .val (.int (2 : Int32)), .val (.int (2 : Int32)), .val (.double w8), .second, .val (.ref a121), .val (.ref a135), .val (.int (0 : Int32)), .val (.int (0 : Int32)), .val (.int u12), .val (.double u13), .second, (own_sl o15), (own_sl o16)]) X135 hx 271 (hb hby d3_269) rfl rfl ?_
        refine g_iconst X135 hx (0 : Int32) 272 (hb hby d3_271) rfl (by decide) ?_
        refine g_istore (l' := #[.val (.ref ob), .val (.ref cs), .val (.ref vs_), .val (.ref wk), .val (.int (2 : Int32)), .val (.int (2 : Int32)), .val (.double w8), .second, .val (.ref a121), .val (.ref a135), .val (.int (0 : Int32)), .val (.int (0 : Int32)), .val (.int (0 : Int32)), .val (.double u13), .second, (own_sl o15), (own_sl o16)]) X135 hx 274 (hb hby d3_272) rfl rfl ?_
        refine g_iload X135 hx 276 (hb hby d3_274) rfl rfl ?_
        refine g_aloadN X135 hx 277 (hb hby d3_276) rfl rfl rfl ?_
        refine g_getF X135 hx hZ hown (hw _ (List.mem_of_getElem? (i := 9) rfl)) Via.refl e135 F143 280 (hb hby d3_277) rfl ?_
        intro T151 X151 e151
        have ll153 : ((3 : Int32) : Int32).toInt = 3 := by decide
        have ll154 : ((0 : Int32) : Int32).toInt = 0 := by decide
        refine g_ic_ge X151 hx 383 283 (hb hby d3_280) (by decide) (by decide) rfl (fun c152 => ?_) (fun c152 => ?_)
        · skip
          exfalso; revert c152; decide
        · skip
          refine g_aloadN X151 hx 284 (hb hby d3_283) rfl rfl rfl ?_
          refine g_iload X151 hx 286 (hb hby d3_284) rfl rfl ?_
          refine g_aloadN X151 hx 287 (hb hby d3_286) rfl rfl rfl ?_
          refine g_getF X151 hx hZ hown (hw _ (List.mem_of_getElem? (i := 9) rfl)) Via.refl e151 F143 290 (hb hby d3_287) rfl ?_
          intro T155 X155 e155
          refine g_imulC X155 hx (6 : Int32) (by decide) 291 (hb hby d3_290) rfl ?_
          refine g_iload X155 hx 293 (hb hby d3_291) rfl rfl ?_
          refine g_iaddC X155 hx (6 : Int32) (by decide) 294 (hb hby d3_293) rfl ?_
          refine g_daload X155 hx hZ e155 F145 (by decide) (by decide) (by rw [show ((6 : Int32) : Int32).toNatClampNeg = 6 by decide] <;> rfl) 295 (hb hby d3_294) rfl ?_
          refine g_dconst0 X155 hx 296 (hb hby d3_295) rfl ?_
          refine g_dc_eq X155 hx 297 327 300 (hb hby d3_296) rfl (hb hby d3_297) (by decide) (by decide) rfl (Jvm.FP.Core.dcmp_int hw6 own_dzero) (fun c156 => ?_) (fun c156 => ?_)
          · skip
            refine g_aloadN X155 hx 328 (hb hby d3_327) rfl rfl rfl ?_
            refine g_getF X155 hx hZ hown (hw _ (List.mem_of_getElem? (i := 12) rfl)) Via.refl e155 F144 331 (hb hby d3_328) rfl ?_
            intro T157 X157 e157
            refine g_iload X157 hx 333 (hb hby d3_331) rfl rfl ?_
            refine g_aloadN X157 hx 334 (hb hby d3_333) rfl rfl rfl ?_
            refine g_getF X157 hx hZ hown (hw _ (List.mem_of_getElem? (i := 9) rfl)) Via.refl e157 F143 337 (hb hby d3_334) rfl ?_
            intro T158 X158 e158
            refine g_imulC X158 hx (6 : Int32) (by decide) 338 (hb hby d3_337) rfl ?_
            refine g_iload X158 hx 340 (hb hby d3_338) rfl rfl ?_
            refine g_iaddC X158 hx (6 : Int32) (by decide) 341 (hb hby d3_340) rfl ?_
            refine g_daload X158 hx hZ e158 F146 (by decide) (by decide) (by rw [show ((6 : Int32) : Int32).toNatClampNeg = 6 by decide] <;> rfl) 342 (hb hby d3_341) rfl ?_
            refine g_dconst0 X158 hx 343 (hb hby d3_342) rfl ?_
            refine g_dc_eq X158 hx 344 377 347 (hb hby d3_343) rfl (hb hby d3_344) (by decide) (by decide) rfl (Jvm.FP.Core.dcmp_int hx6 own_dzero) (fun c159 => ?_) (fun c159 => ?_)
            · skip
              refine g_iincC X158 hx (w := (1 : Int32)) (1 : Int32) (by decide) (l' := #[.val (.ref ob), .val (.ref cs), .val (.ref vs_), .val (.ref wk), .val (.int (2 : Int32)), .val (.int (2 : Int32)), .val (.double w8), .second, .val (.ref a121), .val (.ref a135), .val (.int (0 : Int32)), .val (.int (0 : Int32)), .val (.int (1 : Int32)), .val (.double u13), .second, (own_sl o15), (own_sl o16)]) 380 (hb hby d3_377) rfl rfl (by decide) rfl ?_
              refine g_goto X158 hx 274 (hb hby d3_380) (by decide) (by decide) ?_
              refine g_iload X158 hx 276 (hb hby d3_274) rfl rfl ?_
              refine g_aloadN X158 hx 277 (hb hby d3_276) rfl rfl rfl ?_
              refine g_getF X158 hx hZ hown (hw _ (List.mem_of_getElem? (i := 9) rfl)) Via.refl e158 F143 280 (hb hby d3_277) rfl ?_
              intro T160 X160 e160
              have ll162 : ((3 : Int32) : Int32).toInt = 3 := by decide
              have ll163 : ((1 : Int32) : Int32).toInt = 1 := by decide
              refine g_ic_ge X160 hx 383 283 (hb hby d3_280) (by decide) (by decide) rfl (fun c161 => ?_) (fun c161 => ?_)
              · skip
                exfalso; revert c161; decide
              · skip
                refine g_aloadN X160 hx 284 (hb hby d3_283) rfl rfl rfl ?_
                refine g_iload X160 hx 286 (hb hby d3_284) rfl rfl ?_
                refine g_aloadN X160 hx 287 (hb hby d3_286) rfl rfl rfl ?_
                refine g_getF X160 hx hZ hown (hw _ (List.mem_of_getElem? (i := 9) rfl)) Via.refl e160 F143 290 (hb hby d3_287) rfl ?_
                intro T164 X164 e164
                refine g_imulC X164 hx (6 : Int32) (by decide) 291 (hb hby d3_290) rfl ?_
                refine g_iload X164 hx 293 (hb hby d3_291) rfl rfl ?_
                refine g_iaddC X164 hx (7 : Int32) (by decide) 294 (hb hby d3_293) rfl ?_
                refine g_daload X164 hx hZ e164 F145 (by decide) (by decide) (by rw [show ((7 : Int32) : Int32).toNatClampNeg = 7 by decide] <;> rfl) 295 (hb hby d3_294) rfl ?_
                refine g_dconst0 X164 hx 296 (hb hby d3_295) rfl ?_
                refine g_dc_eq X164 hx 297 327 300 (hb hby d3_296) rfl (hb hby d3_297) (by decide) (by decide) rfl (Jvm.FP.Core.dcmp_int hw7 own_dzero) (fun c165 => ?_) (fun c165 => ?_)
                · skip
                  refine g_aloadN X164 hx 328 (hb hby d3_327) rfl rfl rfl ?_
                  refine g_getF X164 hx hZ hown (hw _ (List.mem_of_getElem? (i := 12) rfl)) Via.refl e164 F144 331 (hb hby d3_328) rfl ?_
                  intro T166 X166 e166
                  refine g_iload X166 hx 333 (hb hby d3_331) rfl rfl ?_
                  refine g_aloadN X166 hx 334 (hb hby d3_333) rfl rfl rfl ?_
                  refine g_getF X166 hx hZ hown (hw _ (List.mem_of_getElem? (i := 9) rfl)) Via.refl e166 F143 337 (hb hby d3_334) rfl ?_
                  intro T167 X167 e167
                  refine g_imulC X167 hx (6 : Int32) (by decide) 338 (hb hby d3_337) rfl ?_
                  refine g_iload X167 hx 340 (hb hby d3_338) rfl rfl ?_
                  refine g_iaddC X167 hx (7 : Int32) (by decide) 341 (hb hby d3_340) rfl ?_
                  refine g_daload X167 hx hZ e167 F146 (by decide) (by decide) (by rw [show ((7 : Int32) : Int32).toNatClampNeg = 7 by decide] <;> rfl) 342 (hb hby d3_341) rfl ?_
                  refine g_dconst0 X167 hx 343 (hb hby d3_342) rfl ?_
                  refine g_dc_eq X167 hx 344 377 347 (hb hby d3_343) rfl (hb hby d3_344) (by decide) (by decide) rfl (Jvm.FP.Core.dcmp_int hx7 own_dzero) (fun c168 => ?_) (fun c168 => ?_)
                  · skip
                    refine g_iincC X167 hx (w := (1 : Int32)) (2 : Int32) (by decide) (l' := #[.val (.ref ob), .val (.ref cs), .val (.ref vs_), .val (.ref wk), .val (.int (2 : Int32)), .val (.int (2 : Int32)), .val (.double w8), .second, .val (.ref a121), .val (.ref a135), .val (.int (0 : Int32)), .val (.int (0 : Int32)), .val (.int (2 : Int32)), .val (.double u13), .second, (own_sl o15), (own_sl o16)]) 380 (hb hby d3_377) rfl rfl (by decide) rfl ?_
                    refine g_goto X167 hx 274 (hb hby d3_380) (by decide) (by decide) ?_
                    refine g_iload X167 hx 276 (hb hby d3_274) rfl rfl ?_
                    refine g_aloadN X167 hx 277 (hb hby d3_276) rfl rfl rfl ?_
                    refine g_getF X167 hx hZ hown (hw _ (List.mem_of_getElem? (i := 9) rfl)) Via.refl e167 F143 280 (hb hby d3_277) rfl ?_
                    intro T169 X169 e169
                    have ll171 : ((3 : Int32) : Int32).toInt = 3 := by decide
                    have ll172 : ((2 : Int32) : Int32).toInt = 2 := by decide
                    refine g_ic_ge X169 hx 383 283 (hb hby d3_280) (by decide) (by decide) rfl (fun c170 => ?_) (fun c170 => ?_)
                    · skip
                      exfalso; revert c170; decide
                    · skip
                      refine g_aloadN X169 hx 284 (hb hby d3_283) rfl rfl rfl ?_
                      refine g_iload X169 hx 286 (hb hby d3_284) rfl rfl ?_
                      refine g_aloadN X169 hx 287 (hb hby d3_286) rfl rfl rfl ?_
                      refine g_getF X169 hx hZ hown (hw _ (List.mem_of_getElem? (i := 9) rfl)) Via.refl e169 F143 290 (hb hby d3_287) rfl ?_
                      intro T173 X173 e173
                      refine g_imulC X173 hx (6 : Int32) (by decide) 291 (hb hby d3_290) rfl ?_
                      refine g_iload X173 hx 293 (hb hby d3_291) rfl rfl ?_
                      refine g_iaddC X173 hx (8 : Int32) (by decide) 294 (hb hby d3_293) rfl ?_
                      refine g_daload X173 hx hZ e173 F145 (by decide) (by decide) (by rw [show ((8 : Int32) : Int32).toNatClampNeg = 8 by decide] <;> rfl) 295 (hb hby d3_294) rfl ?_
                      refine g_dconst0 X173 hx 296 (hb hby d3_295) rfl ?_
                      refine g_dc_eq X173 hx 297 327 300 (hb hby d3_296) rfl (hb hby d3_297) (by decide) (by decide) rfl (Jvm.FP.Core.dcmp_int hw8 own_dzero) (fun c174 => ?_) (fun c174 => ?_)
                      · skip
                        exfalso; omega
                      · skip
                        refine g_aloadN X173 hx 301 (hb hby d3_300) rfl rfl rfl ?_
                        refine g_iload X173 hx 303 (hb hby d3_301) rfl rfl ?_
                        refine g_aloadN X173 hx 304 (hb hby d3_303) rfl rfl rfl ?_
                        refine g_getF X173 hx hZ hown (hw _ (List.mem_of_getElem? (i := 9) rfl)) Via.refl e173 F143 307 (hb hby d3_304) rfl ?_
                        intro T175 X175 e175
                        refine g_imulC X175 hx (6 : Int32) (by decide) 308 (hb hby d3_307) rfl ?_
                        refine g_iload X175 hx 310 (hb hby d3_308) rfl rfl ?_
                        refine g_iaddC X175 hx (8 : Int32) (by decide) 311 (hb hby d3_310) rfl ?_
                        refine g_dup2 X175 hx 312 (hb hby d3_311) rfl rfl rfl ?_
                        refine g_daload X175 hx hZ e175 F145 (by decide) (by decide) (by rw [show ((8 : Int32) : Int32).toNatClampNeg = 8 by decide] <;> rfl) 313 (hb hby d3_312) rfl ?_
                        refine g_dload X175 hx 315 (hb hby d3_313) rfl rfl ?_
                        have D176 := own_div1 hw8 hw8 (by omega)
                        refine g_ddiv X175 hx 316 (hb hby d3_315) rfl (own_dnn D176) ?_
                        refine g_dastore X175 hx hZ e175 F145 8 (by decide) (by decide) (by show 8 < 9; decide) 317 (hb hby d3_316) rfl ?_
                        intro T177 h177 X177 e177 W177 V177
                        have F178 := F142.wr W177
                        have F179 := F143.other W177 (Or.inl n1)
                        have F180 := F144.other W177 (Or.inl n1)
                        have F182 := F146.other W177 (Ne.symm n3)
                        have F183 := F147.wr W177
                        have F184 := F148.other W177 (Ne.symm ne123)
                        have F185 := A135.wr W177
                        have F186 := V135'.other W177 (Ne.symm ne137)
                        have K187 := K149.wr W177 (Or.inr sw)
                        have N188 := Fr.snoc X177 N118 gw
                        have Z189 : n0 ≤ h177.size := by rw [W177.size]; exact Z150
                        have V177' : Arv Z h177 wk kw .double (9 : Int32) [(.double w0), (.double w1), (.double w2), (.double w3), (.double w4), (.double w5), (.double w6), (.double w7), (.double (FP.ddiv w8 w8))] (.double 0) := V177
                        refine g_aload X177 hx 319 (hb hby d3_317) rfl rfl rfl ?_
                        refine g_iload X177 hx 321 (hb hby d3_319) rfl rfl ?_
                        refine g_iincC X177 hx (w := (1 : Int32)) (1 : Int32) (by decide) (l' := #[.val (.ref ob), .val (.ref cs), .val (.ref vs_), .val (.ref wk), .val (.int (2 : Int32)), .val (.int (2 : Int32)), .val (.double w8), .second, .val (.ref a121), .val (.ref a135), .val (.int (1 : Int32)), .val (.int (0 : Int32)), .val (.int (2 : Int32)), .val (.double u13), .second, (own_sl o15), (own_sl o16)]) 324 (hb hby d3_321) rfl rfl (by decide) rfl ?_
                        refine g_iload X177 hx 326 (hb hby d3_324) rfl rfl ?_
                        refine g_iastore X177 hx hZ e177 F184 0 (by decide) (by decide) (by show 0 < 3; decide) 327 (hb hby d3_326) rfl ?_
                        intro T190 h190 X190 e190 W190 V190
                        have F191 := F178.wr W190
                        have F192 := F179.other W190 (Or.inl ne122)
                        have F193 := F180.other W190 (Or.inl ne122)
                        have F194 := V177'.other W190 ne123
                        have F195 := F182.other W190 ne124
                        have F196 := F183.wr W190
                        have F198 := F185.wr W190
                        have F199 := F186.other W190 (Ne.symm ne139)
                        have K200 := K187.wr W190 (Or.inr sz126)
                        have N201 := Fr.snoc X190 N188 ge125
                        have Z202 : n0 ≤ h190.size := by rw [W190.size]; exact Z189
                        have V190' : Arv Z h190 a121 k121 .int (3 : Int32) [(.int (2 : Int32)), (.int (0 : Int32)), (.int (0 : Int32))] (.int (0 : Int32)) := V190
                        refine g_aloadN X190 hx 328 (hb hby d3_327) rfl rfl rfl ?_
                        refine g_getF X190 hx hZ hown (hw _ (List.mem_of_getElem? (i := 12) rfl)) Via.refl e190 F193 331 (hb hby d3_328) rfl ?_
                        intro T203 X203 e203
                        refine g_iload X203 hx 333 (hb hby d3_331) rfl rfl ?_
                        refine g_aloadN X203 hx 334 (hb hby d3_333) rfl rfl rfl ?_
                        refine g_getF X203 hx hZ hown (hw _ (List.mem_of_getElem? (i := 9) rfl)) Via.refl e203 F192 337 (hb hby d3_334) rfl ?_
                        intro T204 X204 e204
                        refine g_imulC X204 hx (6 : Int32) (by decide) 338 (hb hby d3_337) rfl ?_
                        refine g_iload X204 hx 340 (hb hby d3_338) rfl rfl ?_
                        refine g_iaddC X204 hx (8 : Int32) (by decide) 341 (hb hby d3_340) rfl ?_
                        refine g_daload X204 hx hZ e204 F195 (by decide) (by decide) (by rw [show ((8 : Int32) : Int32).toNatClampNeg = 8 by decide] <;> rfl) 342 (hb hby d3_341) rfl ?_
                        refine g_dconst0 X204 hx 343 (hb hby d3_342) rfl ?_
                        refine g_dc_eq X204 hx 344 377 347 (hb hby d3_343) rfl (hb hby d3_344) (by decide) (by decide) rfl (Jvm.FP.Core.dcmp_int hx8 own_dzero) (fun c205 => ?_) (fun c205 => ?_)
                        · skip
                          exfalso; omega
                        · skip
                          refine g_aloadN X204 hx 348 (hb hby d3_347) rfl rfl rfl ?_
                          refine g_getF X204 hx hZ hown (hw _ (List.mem_of_getElem? (i := 12) rfl)) Via.refl e204 F193 351 (hb hby d3_348) rfl ?_
                          intro T206 X206 e206
                          refine g_iload X206 hx 353 (hb hby d3_351) rfl rfl ?_
                          refine g_aloadN X206 hx 354 (hb hby d3_353) rfl rfl rfl ?_
                          refine g_getF X206 hx hZ hown (hw _ (List.mem_of_getElem? (i := 9) rfl)) Via.refl e206 F192 357 (hb hby d3_354) rfl ?_
                          intro T207 X207 e207
                          refine g_imulC X207 hx (6 : Int32) (by decide) 358 (hb hby d3_357) rfl ?_
                          refine g_iload X207 hx 360 (hb hby d3_358) rfl rfl ?_
                          refine g_iaddC X207 hx (8 : Int32) (by decide) 361 (hb hby d3_360) rfl ?_
                          refine g_dup2 X207 hx 362 (hb hby d3_361) rfl rfl rfl ?_
                          refine g_daload X207 hx hZ e207 F195 (by decide) (by decide) (by rw [show ((8 : Int32) : Int32).toNatClampNeg = 8 by decide] <;> rfl) 363 (hb hby d3_362) rfl ?_
                          refine g_dload X207 hx 365 (hb hby d3_363) rfl rfl ?_
                          have D208 := own_div1 hx8 hw8 (by omega)
                          refine g_ddiv X207 hx 366 (hb hby d3_365) rfl (own_dnn D208) ?_
                          refine g_dastore X207 hx hZ e207 F195 8 (by decide) (by decide) (by show 8 < 9; decide) 367 (hb hby d3_366) rfl ?_
                          intro T209 h209 X209 e209 W209 V209
                          have F210 := F191.wr W209
                          have F211 := F192.other W209 (Or.inl n2)
                          have F212 := F193.other W209 (Or.inl n2)
                          have F213 := F194.other W209 n3
                          have F215 := F196.wr W209
                          have F216 := V190'.other W209 (Ne.symm ne124)
                          have F217 := F198.wr W209
                          have F218 := F199.other W209 (Ne.symm ne138)
                          have K219 := K200.wr W209 (Or.inl (List.mem_of_getElem? (i := 0) rfl))
                          have N220 := Fr.snoc X209 N201 gv
                          have Z221 : n0 ≤ h209.size := by rw [W209.size]; exact Z202
                          have V209' : Arv Z h209 vi kv .double (9 : Int32) [(.double x0), (.double x1), (.double x2), (.double x3), (.double x4), (.double x5), (.double x6), (.double x7), (.double (FP.ddiv x8 w8))] (.double 0) := V209
                          refine g_aload X209 hx 369 (hb hby d3_367) rfl rfl rfl ?_
                          refine g_iload X209 hx 371 (hb hby d3_369) rfl rfl ?_
                          refine g_iincC X209 hx (w := (1 : Int32)) (1 : Int32) (by decide) (l' := #[.val (.ref ob), .val (.ref cs), .val (.ref vs_), .val (.ref wk), .val (.int (2 : Int32)), .val (.int (2 : Int32)), .val (.double w8), .second, .val (.ref a121), .val (.ref a135), .val (.int (1 : Int32)), .val (.int (1 : Int32)), .val (.int (2 : Int32)), .val (.double u13), .second, (own_sl o15), (own_sl o16)]) 374 (hb hby d3_371) rfl rfl (by decide) rfl ?_
                          refine g_iload X209 hx 376 (hb hby d3_374) rfl rfl ?_
                          refine g_iastore X209 hx hZ e209 F218 0 (by decide) (by decide) (by show 0 < 3; decide) 377 (hb hby d3_376) rfl ?_
                          intro T222 h222 X222 e222 W222 V222
                          have F223 := F210.wr W222
                          have F224 := F211.other W222 (Or.inl ne136)
                          have F225 := F212.other W222 (Or.inl ne136)
                          have F226 := F213.other W222 ne137
                          have F227 := V209'.other W222 ne138
                          have F228 := F215.wr W222
                          have F229 := F216.other W222 ne139
                          have F230 := F217.wr W222
                          have K232 := K219.wr W222 (Or.inr sz141)
                          have N233 := Fr.snoc X222 N220 ge140
                          have Z234 : n0 ≤ h222.size := by rw [W222.size]; exact Z221
                          have V222' : Arv Z h222 a135 k135 .int (3 : Int32) [(.int (2 : Int32)), (.int (0 : Int32)), (.int (0 : Int32))] (.int (0 : Int32)) := V222
                          refine g_iincC X222 hx (w := (1 : Int32)) (3 : Int32) (by decide) (l' := #[.val (.ref ob), .val (.ref cs), .val (.ref vs_), .val (.ref wk), .val (.int (2 : Int32)), .val (.int (2 : Int32)), .val (.double w8), .second, .val (.ref a121), .val (.ref a135), .val (.int (1 : Int32)), .val (.int (1 : Int32)), .val (.int (3 : Int32)), .val (.double u13), .second, (own_sl o15), (own_sl o16)]) 380 (hb hby d3_377) rfl rfl (by decide) rfl ?_
                          refine g_goto X222 hx 274 (hb hby d3_380) (by decide) (by decide) ?_
                          refine g_iload X222 hx 276 (hb hby d3_274) rfl rfl ?_
                          refine g_aloadN X222 hx 277 (hb hby d3_276) rfl rfl rfl ?_
                          refine g_getF X222 hx hZ hown (hw _ (List.mem_of_getElem? (i := 9) rfl)) Via.refl e222 F224 280 (hb hby d3_277) rfl ?_
                          intro T235 X235 e235
                          have ll237 : ((3 : Int32) : Int32).toInt = 3 := by decide
                          have ll238 : ((3 : Int32) : Int32).toInt = 3 := by decide
                          refine g_ic_ge X235 hx 383 283 (hb hby d3_280) (by decide) (by decide) rfl (fun c236 => ?_) (fun c236 => ?_)
                          · skip
                            refine g_iconst X235 hx (0 : Int32) 384 (hb hby d3_383) rfl (by decide) ?_
                            refine g_istore (l' := #[.val (.ref ob), .val (.ref cs), .val (.ref vs_), .val (.ref wk), .val (.int (2 : Int32)), .val (.int (2 : Int32)), .val (.double w8), .second, .val (.ref a121), .val (.ref a135), .val (.int (1 : Int32)), .val (.int (1 : Int32)), .val (.int (0 : Int32)), .val (.double u13), .second, (own_sl o15), (own_sl o16)]) X235 hx 386 (hb hby d3_384) rfl rfl ?_
                            refine g_iload X235 hx 388 (hb hby d3_386) rfl rfl ?_
                            refine g_aloadN X235 hx 389 (hb hby d3_388) rfl rfl rfl ?_
                            refine g_getF X235 hx hZ hown (hw _ (List.mem_of_getElem? (i := 9) rfl)) Via.refl e235 F224 392 (hb hby d3_389) rfl ?_
                            intro T239 X239 e239
                            have ll241 : ((3 : Int32) : Int32).toInt = 3 := by decide
                            have ll242 : ((0 : Int32) : Int32).toInt = 0 := by decide
                            refine g_ic_ge X239 hx 541 395 (hb hby d3_392) (by decide) (by decide) rfl (fun c240 => ?_) (fun c240 => ?_)
                            · skip
                              exfalso; revert c240; decide
                            · skip
                              refine g_aloadN X239 hx 396 (hb hby d3_395) rfl rfl rfl ?_
                              refine g_iload X239 hx 398 (hb hby d3_396) rfl rfl ?_
                              refine g_aloadN X239 hx 399 (hb hby d3_398) rfl rfl rfl ?_
                              refine g_getF X239 hx hZ hown (hw _ (List.mem_of_getElem? (i := 9) rfl)) Via.refl e239 F224 402 (hb hby d3_399) rfl ?_
                              intro T243 X243 e243
                              refine g_imulC X243 hx (0 : Int32) (by decide) 403 (hb hby d3_402) rfl ?_
                              refine g_iload X243 hx 405 (hb hby d3_403) rfl rfl ?_
                              refine g_iaddC X243 hx (2 : Int32) (by decide) 406 (hb hby d3_405) rfl ?_
                              refine g_daload X243 hx hZ e243 F226 (by decide) (by decide) (by rw [show ((2 : Int32) : Int32).toNatClampNeg = 2 by decide] <;> rfl) 407 (hb hby d3_406) rfl ?_
                              refine g_dstore (l' := #[.val (.ref ob), .val (.ref cs), .val (.ref vs_), .val (.ref wk), .val (.int (2 : Int32)), .val (.int (2 : Int32)), .val (.double w8), .second, .val (.ref a121), .val (.ref a135), .val (.int (1 : Int32)), .val (.int (1 : Int32)), .val (.int (0 : Int32)), .val (.double w2), .second, (own_sl o15), (own_sl o16)]) X243 hx 409 (hb hby d3_407) rfl rfl ?_
                              refine g_iload X243 hx 411 (hb hby d3_409) rfl rfl ?_
                              refine g_iload X243 hx 413 (hb hby d3_411) rfl rfl ?_
                              have ll245 : ((2 : Int32) : Int32).toInt = 2 := by decide
                              have ll246 : ((0 : Int32) : Int32).toInt = 0 := by decide
                              refine g_ic_eq X243 hx 535 416 (hb hby d3_413) (by decide) (by decide) rfl (fun c244 => ?_) (fun c244 => ?_)
                              · skip
                                exfalso; revert c244; decide
                              · skip
                                refine g_dload X243 hx 418 (hb hby d3_416) rfl rfl ?_
                                refine g_dconst0 X243 hx 419 (hb hby d3_418) rfl ?_
                                refine g_dc_eq X243 hx 420 535 423 (hb hby d3_419) rfl (hb hby d3_420) (by decide) (by decide) rfl (Jvm.FP.Core.dcmp_int hw2 own_dzero) (fun c247 => ?_) (fun c247 => ?_)
                                · skip
                                  refine g_iincC X243 hx (w := (1 : Int32)) (1 : Int32) (by decide) (l' := #[.val (.ref ob), .val (.ref cs), .val (.ref vs_), .val (.ref wk), .val (.int (2 : Int32)), .val (.int (2 : Int32)), .val (.double w8), .second, .val (.ref a121), .val (.ref a135), .val (.int (1 : Int32)), .val (.int (1 : Int32)), .val (.int (1 : Int32)), .val (.double w2), .second, (own_sl o15), (own_sl o16)]) 538 (hb hby d3_535) rfl rfl (by decide) rfl ?_
                                  refine g_goto X243 hx 386 (hb hby d3_538) (by decide) (by decide) ?_
                                  refine g_iload X243 hx 388 (hb hby d3_386) rfl rfl ?_
                                  refine g_aloadN X243 hx 389 (hb hby d3_388) rfl rfl rfl ?_
                                  refine g_getF X243 hx hZ hown (hw _ (List.mem_of_getElem? (i := 9) rfl)) Via.refl e243 F224 392 (hb hby d3_389) rfl ?_
                                  intro T248 X248 e248
                                  have ll250 : ((3 : Int32) : Int32).toInt = 3 := by decide
                                  have ll251 : ((1 : Int32) : Int32).toInt = 1 := by decide
                                  refine g_ic_ge X248 hx 541 395 (hb hby d3_392) (by decide) (by decide) rfl (fun c249 => ?_) (fun c249 => ?_)
                                  · skip
                                    exfalso; revert c249; decide
                                  · skip
                                    refine g_aloadN X248 hx 396 (hb hby d3_395) rfl rfl rfl ?_
                                    refine g_iload X248 hx 398 (hb hby d3_396) rfl rfl ?_
                                    refine g_aloadN X248 hx 399 (hb hby d3_398) rfl rfl rfl ?_
                                    refine g_getF X248 hx hZ hown (hw _ (List.mem_of_getElem? (i := 9) rfl)) Via.refl e248 F224 402 (hb hby d3_399) rfl ?_
                                    intro T252 X252 e252
                                    refine g_imulC X252 hx (3 : Int32) (by decide) 403 (hb hby d3_402) rfl ?_
                                    refine g_iload X252 hx 405 (hb hby d3_403) rfl rfl ?_
                                    refine g_iaddC X252 hx (5 : Int32) (by decide) 406 (hb hby d3_405) rfl ?_
                                    refine g_daload X252 hx hZ e252 F226 (by decide) (by decide) (by rw [show ((5 : Int32) : Int32).toNatClampNeg = 5 by decide] <;> rfl) 407 (hb hby d3_406) rfl ?_
                                    refine g_dstore (l' := #[.val (.ref ob), .val (.ref cs), .val (.ref vs_), .val (.ref wk), .val (.int (2 : Int32)), .val (.int (2 : Int32)), .val (.double w8), .second, .val (.ref a121), .val (.ref a135), .val (.int (1 : Int32)), .val (.int (1 : Int32)), .val (.int (1 : Int32)), .val (.double w5), .second, (own_sl o15), (own_sl o16)]) X252 hx 409 (hb hby d3_407) rfl rfl ?_
                                    refine g_iload X252 hx 411 (hb hby d3_409) rfl rfl ?_
                                    refine g_iload X252 hx 413 (hb hby d3_411) rfl rfl ?_
                                    have ll254 : ((2 : Int32) : Int32).toInt = 2 := by decide
                                    have ll255 : ((1 : Int32) : Int32).toInt = 1 := by decide
                                    refine g_ic_eq X252 hx 535 416 (hb hby d3_413) (by decide) (by decide) rfl (fun c253 => ?_) (fun c253 => ?_)
                                    · skip
                                      exfalso; revert c253; decide
                                    · skip
                                      refine g_dload X252 hx 418 (hb hby d3_416) rfl rfl ?_
                                      refine g_dconst0 X252 hx 419 (hb hby d3_418) rfl ?_
                                      refine g_dc_eq X252 hx 420 535 423 (hb hby d3_419) rfl (hb hby d3_420) (by decide) (by decide) rfl (Jvm.FP.Core.dcmp_int hw5 own_dzero) (fun c256 => ?_) (fun c256 => ?_)
                                      · skip
                                        refine g_iincC X252 hx (w := (1 : Int32)) (2 : Int32) (by decide) (l' := #[.val (.ref ob), .val (.ref cs), .val (.ref vs_), .val (.ref wk), .val (.int (2 : Int32)), .val (.int (2 : Int32)), .val (.double w8), .second, .val (.ref a121), .val (.ref a135), .val (.int (1 : Int32)), .val (.int (1 : Int32)), .val (.int (2 : Int32)), .val (.double w5), .second, (own_sl o15), (own_sl o16)]) 538 (hb hby d3_535) rfl rfl (by decide) rfl ?_
                                        refine g_goto X252 hx 386 (hb hby d3_538) (by decide) (by decide) ?_
                                        refine g_iload X252 hx 388 (hb hby d3_386) rfl rfl ?_
                                        refine g_aloadN X252 hx 389 (hb hby d3_388) rfl rfl rfl ?_
                                        refine g_getF X252 hx hZ hown (hw _ (List.mem_of_getElem? (i := 9) rfl)) Via.refl e252 F224 392 (hb hby d3_389) rfl ?_
                                        intro T257 X257 e257
                                        have ll259 : ((3 : Int32) : Int32).toInt = 3 := by decide
                                        have ll260 : ((2 : Int32) : Int32).toInt = 2 := by decide
                                        refine g_ic_ge X257 hx 541 395 (hb hby d3_392) (by decide) (by decide) rfl (fun c258 => ?_) (fun c258 => ?_)
                                        · skip
                                          exfalso; revert c258; decide
                                        · skip
                                          refine g_aloadN X257 hx 396 (hb hby d3_395) rfl rfl rfl ?_
                                          refine g_iload X257 hx 398 (hb hby d3_396) rfl rfl ?_
                                          refine g_aloadN X257 hx 399 (hb hby d3_398) rfl rfl rfl ?_
                                          refine g_getF X257 hx hZ hown (hw _ (List.mem_of_getElem? (i := 9) rfl)) Via.refl e257 F224 402 (hb hby d3_399) rfl ?_
                                          intro T261 X261 e261
                                          refine g_imulC X261 hx (6 : Int32) (by decide) 403 (hb hby d3_402) rfl ?_
                                          refine g_iload X261 hx 405 (hb hby d3_403) rfl rfl ?_
                                          refine g_iaddC X261 hx (8 : Int32) (by decide) 406 (hb hby d3_405) rfl ?_
                                          refine g_daload X261 hx hZ e261 F226 (by decide) (by decide) (by rw [show ((8 : Int32) : Int32).toNatClampNeg = 8 by decide] <;> rfl) 407 (hb hby d3_406) rfl ?_
                                          refine g_dstore (l' := #[.val (.ref ob), .val (.ref cs), .val (.ref vs_), .val (.ref wk), .val (.int (2 : Int32)), .val (.int (2 : Int32)), .val (.double w8), .second, .val (.ref a121), .val (.ref a135), .val (.int (1 : Int32)), .val (.int (1 : Int32)), .val (.int (2 : Int32)), .val (.double (FP.ddiv w8 w8)), .second, (own_sl o15), (own_sl o16)]) X261 hx 409 (hb hby d3_407) rfl rfl ?_
                                          refine g_iload X261 hx 411 (hb hby d3_409) rfl rfl ?_
                                          refine g_iload X261 hx 413 (hb hby d3_411) rfl rfl ?_
                                          have ll263 : ((2 : Int32) : Int32).toInt = 2 := by decide
                                          have ll264 : ((2 : Int32) : Int32).toInt = 2 := by decide
                                          refine g_ic_eq X261 hx 535 416 (hb hby d3_413) (by decide) (by decide) rfl (fun c262 => ?_) (fun c262 => ?_)
                                          · skip
                                            refine g_iincC X261 hx (w := (1 : Int32)) (3 : Int32) (by decide) (l' := #[.val (.ref ob), .val (.ref cs), .val (.ref vs_), .val (.ref wk), .val (.int (2 : Int32)), .val (.int (2 : Int32)), .val (.double w8), .second, .val (.ref a121), .val (.ref a135), .val (.int (1 : Int32)), .val (.int (1 : Int32)), .val (.int (3 : Int32)), .val (.double (FP.ddiv w8 w8)), .second, (own_sl o15), (own_sl o16)]) 538 (hb hby d3_535) rfl rfl (by decide) rfl ?_
                                            refine g_goto X261 hx 386 (hb hby d3_538) (by decide) (by decide) ?_
                                            refine g_iload X261 hx 388 (hb hby d3_386) rfl rfl ?_
                                            refine g_aloadN X261 hx 389 (hb hby d3_388) rfl rfl rfl ?_
                                            refine g_getF X261 hx hZ hown (hw _ (List.mem_of_getElem? (i := 9) rfl)) Via.refl e261 F224 392 (hb hby d3_389) rfl ?_
                                            intro T265 X265 e265
                                            have ll267 : ((3 : Int32) : Int32).toInt = 3 := by decide
                                            have ll268 : ((3 : Int32) : Int32).toInt = 3 := by decide
                                            refine g_ic_ge X265 hx 541 395 (hb hby d3_392) (by decide) (by decide) rfl (fun c266 => ?_) (fun c266 => ?_)
                                            · skip
                                              refine g_iincC X265 hx (w := (1 : Int32)) (3 : Int32) (by decide) (l' := #[.val (.ref ob), .val (.ref cs), .val (.ref vs_), .val (.ref wk), .val (.int (3 : Int32)), .val (.int (2 : Int32)), .val (.double w8), .second, .val (.ref a121), .val (.ref a135), .val (.int (1 : Int32)), .val (.int (1 : Int32)), .val (.int (3 : Int32)), .val (.double (FP.ddiv w8 w8)), .second, (own_sl o15), (own_sl o16)]) 544 (hb hby d3_541) rfl rfl (by decide) rfl ?_
                                              refine g_goto X265 hx 118 (hb hby d3_544) (by decide) (by decide) ?_
                                              refine g_iload X265 hx 120 (hb hby d3_118) rfl rfl ?_
                                              refine g_aloadN X265 hx 121 (hb hby d3_120) rfl rfl rfl ?_
                                              refine g_getF X265 hx hZ hown (hw _ (List.mem_of_getElem? (i := 9) rfl)) Via.refl e265 F224 124 (hb hby d3_121) rfl ?_
                                              intro T269 X269 e269
                                              have ll271 : ((3 : Int32) : Int32).toInt = 3 := by decide
                                              have ll272 : ((3 : Int32) : Int32).toInt = 3 := by decide
                                              refine g_ic_ge X269 hx 547 127 (hb hby d3_124) (by decide) (by decide) rfl (fun c270 => ?_) (fun c270 => ?_)
                                              · skip
                                                refine g_iconst X269 hx (1 : Int32) 548 (hb hby d3_547) rfl (by decide) ?_
                                                exact g_retZ X269 hx hlk hret (hb hby d3_548) (by decide) (by decide) e269 ⟨rfl, N233, K232, _, _, _, _, _, _, _, _, _, F227, hx0, hx1, (own_as (by first | omega | (rw [c256]; omega) | (rw [c247]; omega)) hx2), hx3, hx4, (own_as (by first | omega | (rw [c256]; omega) | (rw [c247]; omega)) hx5), hx6, hx7, D208⟩
                                              · skip
                                                exfalso; revert c270; decide
                                            · skip
                                              exfalso; revert c266; decide
                                          · skip
                                            exfalso; revert c262; decide
                                      · skip
                                        refine g_iconst X252 hx (0 : Int32) 424 (hb hby d3_423) rfl (by decide) ?_
                                        refine g_istore (l' := #[.val (.ref ob), .val (.ref cs), .val (.ref vs_), .val (.ref wk), .val (.int (2 : Int32)), .val (.int (2 : Int32)), .val (.double w8), .second, .val (.ref a121), .val (.ref a135), .val (.int (1 : Int32)), .val (.int (1 : Int32)), .val (.int (1 : Int32)), .val (.double w5), .second, .val (.int (0 : Int32)), (own_sl o16)]) X252 hx 426 (hb hby d3_424) rfl (by cases o15 <;> rfl) ?_
                                        refine g_iload X252 hx 428 (hb hby d3_426) rfl rfl ?_
                                        refine g_iload X252 hx 430 (hb hby d3_428) rfl rfl ?_
                                        have ll274 : ((1 : Int32) : Int32).toInt = 1 := by decide
                                        have ll275 : ((0 : Int32) : Int32).toInt = 0 := by decide
                                        refine g_ic_ge X252 hx 476 433 (hb hby d3_430) (by decide) (by decide) rfl (fun c273 => ?_) (fun c273 => ?_)
                                        · skip
                                          exfalso; revert c273; decide
                                        · skip
                                          refine g_aload X252 hx 435 (hb hby d3_433) rfl rfl rfl ?_
                                          refine g_iload X252 hx 437 (hb hby d3_435) rfl rfl ?_
                                          refine g_iaload X252 hx hZ e252 F229 (by decide) (by decide) (by rw [show ((0 : Int32) : Int32).toNatClampNeg = 0 by decide] <;> rfl) 438 (hb hby d3_437) rfl ?_
                                          refine g_istore (l' := #[.val (.ref ob), .val (.ref cs), .val (.ref vs_), .val (.ref wk), .val (.int (2 : Int32)), .val (.int (2 : Int32)), .val (.double w8), .second, .val (.ref a121), .val (.ref a135), .val (.int (1 : Int32)), .val (.int (1 : Int32)), .val (.int (1 : Int32)), .val (.double w5), .second, .val (.int (0 : Int32)), .val (.int (2 : Int32))]) X252 hx 440 (hb hby d3_438) rfl (by cases o16 <;> rfl) ?_
                                          refine g_aloadN X252 hx 441 (hb hby d3_440) rfl rfl rfl ?_
                                          refine g_iload X252 hx 443 (hb hby d3_441) rfl rfl ?_
                                          refine g_aloadN X252 hx 444 (hb hby d3_443) rfl rfl rfl ?_
                                          refine g_getF X252 hx hZ hown (hw _ (List.mem_of_getElem? (i := 9) rfl)) Via.refl e252 F224 447 (hb hby d3_444) rfl ?_
                                          intro T276 X276 e276
                                          refine g_imulC X276 hx (3 : Int32) (by decide) 448 (hb hby d3_447) rfl ?_
                                          refine g_iload X276 hx 450 (hb hby d3_448) rfl rfl ?_
                                          refine g_iaddC X276 hx (5 : Int32) (by decide) 451 (hb hby d3_450) rfl ?_
                                          refine g_dup2 X276 hx 452 (hb hby d3_451) rfl rfl rfl ?_
                                          refine g_daload X276 hx hZ e276 F226 (by decide) (by decide) (by rw [show ((5 : Int32) : Int32).toNatClampNeg = 5 by decide] <;> rfl) 453 (hb hby d3_452) rfl ?_
                                          refine g_dload X276 hx 455 (hb hby d3_453) rfl rfl ?_
                                          refine g_aloadN X276 hx 456 (hb hby d3_455) rfl rfl rfl ?_
                                          refine g_iload X276 hx 458 (hb hby d3_456) rfl rfl ?_
                                          refine g_aloadN X276 hx 459 (hb hby d3_458) rfl rfl rfl ?_
                                          refine g_getF X276 hx hZ hown (hw _ (List.mem_of_getElem? (i := 9) rfl)) Via.refl e276 F224 462 (hb hby d3_459) rfl ?_
                                          intro T277 X277 e277
                                          refine g_imulC X277 hx (6 : Int32) (by decide) 463 (hb hby d3_462) rfl ?_
                                          refine g_iload X277 hx 465 (hb hby d3_463) rfl rfl ?_
                                          refine g_iaddC X277 hx (8 : Int32) (by decide) 466 (hb hby d3_465) rfl ?_
                                          refine g_daload X277 hx hZ e277 F226 (by decide) (by decide) (by rw [show ((8 : Int32) : Int32).toNatClampNeg = 8 by decide] <;> rfl) 467 (hb hby d3_466) rfl ?_
                                          have D278 : Jvm.FP.Core.DInt ib (FP.dmul w5 (FP.ddiv w8 w8)) := own_as (by omega) (Jvm.FP.Core.dmul_int hw5 D176 (by omega))
                                          refine g_dmul X277 hx 468 (hb hby d3_467) rfl (own_dnn D278) ?_
                                          have D279 : Jvm.FP.Core.DInt 0 (FP.dsub w5 (FP.dmul w5 (FP.ddiv w8 w8))) := own_as (by omega) (Jvm.FP.Core.dsub_int hw5 D278 (by omega))
                                          refine g_dsub X277 hx 469 (hb hby d3_468) rfl (own_dnn D279) ?_
                                          refine g_dastore X277 hx hZ e277 F226 5 (by decide) (by decide) (by show 5 < 9; decide) 470 (hb hby d3_469) rfl ?_
                                          intro T280 h280 X280 e280 W280 V280
                                          have F281 := F223.wr W280
                                          have F282 := F224.other W280 (Or.inl n1)
                                          have F283 := F225.other W280 (Or.inl n1)
                                          have F285 := F227.other W280 (Ne.symm n3)
                                          have F286 := F228.wr W280
                                          have F287 := F229.other W280 (Ne.symm ne123)
                                          have F288 := F230.wr W280
                                          have F289 := V222'.other W280 (Ne.symm ne137)
                                          have K290 := K232.wr W280 (Or.inr sw)
                                          have N291 := Fr.snoc X280 N233 gw
                                          have Z292 : n0 ≤ h280.size := by rw [W280.size]; exact Z234
                                          have V280' : Arv Z h280 wk kw .double (9 : Int32) [(.double w0), (.double w1), (.double w2), (.double w3), (.double w4), (.double (FP.dsub w5 (FP.dmul w5 (FP.ddiv w8 w8)))), (.double w6), (.double w7), (.double (FP.ddiv w8 w8))] (.double 0) := V280
                                          refine g_iincC X280 hx (w := (1 : Int32)) (1 : Int32) (by decide) (l' := #[.val (.ref ob), .val (.ref cs), .val (.ref vs_), .val (.ref wk), .val (.int (2 : Int32)), .val (.int (2 : Int32)), .val (.double w8), .second, .val (.ref a121), .val (.ref a135), .val (.int (1 : Int32)), .val (.int (1 : Int32)), .val (.int (1 : Int32)), .val (.double w5), .second, .val (.int (1 : Int32)), .val (.int (2 : Int32))]) 473 (hb hby d3_470) rfl rfl (by decide) rfl ?_
                                          refine g_goto X280 hx 426 (hb hby d3_473) (by decide) (by decide) ?_
                                          refine g_iload X280 hx 428 (hb hby d3_426) rfl rfl ?_
                                          refine g_iload X280 hx 430 (hb hby d3_428) rfl rfl ?_
                                          have ll294 : ((1 : Int32) : Int32).toInt = 1 := by decide
                                          have ll295 : ((1 : Int32) : Int32).toInt = 1 := by decide
                                          refine g_ic_ge X280 hx 476 433 (hb hby d3_430) (by decide) (by decide) rfl (fun c293 => ?_) (fun c293 => ?_)
                                          · skip
                                            refine g_iconst X280 hx (0 : Int32) 477 (hb hby d3_476) rfl (by decide) ?_
                                            refine g_istore (l' := #[.val (.ref ob), .val (.ref cs), .val (.ref vs_), .val (.ref wk), .val (.int (2 : Int32)), .val (.int (2 : Int32)), .val (.double w8), .second, .val (.ref a121), .val (.ref a135), .val (.int (1 : Int32)), .val (.int (1 : Int32)), .val (.int (1 : Int32)), .val (.double w5), .second, .val (.int (0 : Int32)), .val (.int (2 : Int32))]) X280 hx 479 (hb hby d3_477) rfl rfl ?_
                                            refine g_iload X280 hx 481 (hb hby d3_479) rfl rfl ?_
                                            refine g_iload X280 hx 483 (hb hby d3_481) rfl rfl ?_
                                            have ll297 : ((1 : Int32) : Int32).toInt = 1 := by decide
                                            have ll298 : ((0 : Int32) : Int32).toInt = 0 := by decide
                                            refine g_ic_ge X280 hx 535 486 (hb hby d3_483) (by decide) (by decide) rfl (fun c296 => ?_) (fun c296 => ?_)
                                            · skip
                                              exfalso; revert c296; decide
                                            · skip
                                              refine g_aload X280 hx 488 (hb hby d3_486) rfl rfl rfl ?_
                                              refine g_iload X280 hx 490 (hb hby d3_488) rfl rfl ?_
                                              refine g_iaload X280 hx hZ e280 F289 (by decide) (by decide) (by rw [show ((0 : Int32) : Int32).toNatClampNeg = 0 by decide] <;> rfl) 491 (hb hby d3_490) rfl ?_
                                              refine g_istore (l' := #[.val (.ref ob), .val (.ref cs), .val (.ref vs_), .val (.ref wk), .val (.int (2 : Int32)), .val (.int (2 : Int32)), .val (.double w8), .second, .val (.ref a121), .val (.ref a135), .val (.int (1 : Int32)), .val (.int (1 : Int32)), .val (.int (1 : Int32)), .val (.double w5), .second, .val (.int (0 : Int32)), .val (.int (2 : Int32))]) X280 hx 493 (hb hby d3_491) rfl rfl ?_
                                              refine g_aloadN X280 hx 494 (hb hby d3_493) rfl rfl rfl ?_
                                              refine g_getF X280 hx hZ hown (hw _ (List.mem_of_getElem? (i := 12) rfl)) Via.refl e280 F283 497 (hb hby d3_494) rfl ?_
                                              intro T299 X299 e299
                                              refine g_iload X299 hx 499 (hb hby d3_497) rfl rfl ?_
                                              refine g_aloadN X299 hx 500 (hb hby d3_499) rfl rfl rfl ?_
                                              refine g_getF X299 hx hZ hown (hw _ (List.mem_of_getElem? (i := 9) rfl)) Via.refl e299 F282 503 (hb hby d3_500) rfl ?_
                                              intro T300 X300 e300
                                              refine g_imulC X300 hx (3 : Int32) (by decide) 504 (hb hby d3_503) rfl ?_
                                              refine g_iload X300 hx 506 (hb hby d3_504) rfl rfl ?_
                                              refine g_iaddC X300 hx (5 : Int32) (by decide) 507 (hb hby d3_506) rfl ?_
                                              refine g_dup2 X300 hx 508 (hb hby d3_507) rfl rfl rfl ?_
                                              refine g_daload X300 hx hZ e300 F285 (by decide) (by decide) (by rw [show ((5 : Int32) : Int32).toNatClampNeg = 5 by decide] <;> rfl) 509 (hb hby d3_508) rfl ?_
                                              refine g_dload X300 hx 511 (hb hby d3_509) rfl rfl ?_
                                              refine g_aloadN X300 hx 512 (hb hby d3_511) rfl rfl rfl ?_
                                              refine g_getF X300 hx hZ hown (hw _ (List.mem_of_getElem? (i := 12) rfl)) Via.refl e300 F283 515 (hb hby d3_512) rfl ?_
                                              intro T301 X301 e301
                                              refine g_iload X301 hx 517 (hb hby d3_515) rfl rfl ?_
                                              refine g_aloadN X301 hx 518 (hb hby d3_517) rfl rfl rfl ?_
                                              refine g_getF X301 hx hZ hown (hw _ (List.mem_of_getElem? (i := 9) rfl)) Via.refl e301 F282 521 (hb hby d3_518) rfl ?_
                                              intro T302 X302 e302
                                              refine g_imulC X302 hx (6 : Int32) (by decide) 522 (hb hby d3_521) rfl ?_
                                              refine g_iload X302 hx 524 (hb hby d3_522) rfl rfl ?_
                                              refine g_iaddC X302 hx (8 : Int32) (by decide) 525 (hb hby d3_524) rfl ?_
                                              refine g_daload X302 hx hZ e302 F285 (by decide) (by decide) (by rw [show ((8 : Int32) : Int32).toNatClampNeg = 8 by decide] <;> rfl) 526 (hb hby d3_525) rfl ?_
                                              have D303 : Jvm.FP.Core.DInt ib (FP.dmul w5 (FP.ddiv x8 w8)) := own_as (by omega) (Jvm.FP.Core.dmul_int hw5 D208 (by omega))
                                              refine g_dmul X302 hx 527 (hb hby d3_526) rfl (own_dnn D303) ?_
                                              have D304 : Jvm.FP.Core.DInt (-ib) (FP.dsub x5 (FP.dmul w5 (FP.ddiv x8 w8))) := own_as (by omega) (Jvm.FP.Core.dsub_int hx5 D303 (by omega))
                                              refine g_dsub X302 hx 528 (hb hby d3_527) rfl (own_dnn D304) ?_
                                              refine g_dastore X302 hx hZ e302 F285 5 (by decide) (by decide) (by show 5 < 9; decide) 529 (hb hby d3_528) rfl ?_
                                              intro T305 h305 X305 e305 W305 V305
                                              have F306 := F281.wr W305
                                              have F307 := F282.other W305 (Or.inl n2)
                                              have F308 := F283.other W305 (Or.inl n2)
                                              have F309 := V280'.other W305 n3
                                              have F311 := F286.wr W305
                                              have F312 := F287.other W305 (Ne.symm ne124)
                                              have F313 := F288.wr W305
                                              have F314 := F289.other W305 (Ne.symm ne138)
                                              have K315 := K290.wr W305 (Or.inl (List.mem_of_getElem? (i := 0) rfl))
                                              have N316 := Fr.snoc X305 N291 gv
                                              have Z317 : n0 ≤ h305.size := by rw [W305.size]; exact Z292
                                              have V305' : Arv Z h305 vi kv .double (9 : Int32) [(.double x0), (.double x1), (.double x2), (.double x3), (.double x4), (.double (FP.dsub x5 (FP.dmul w5 (FP.ddiv x8 w8)))), (.double x6), (.double x7), (.double (FP.ddiv x8 w8))] (.double 0) := V305
                                              refine g_iincC X305 hx (w := (1 : Int32)) (1 : Int32) (by decide) (l' := #[.val (.ref ob), .val (.ref cs), .val (.ref vs_), .val (.ref wk), .val (.int (2 : Int32)), .val (.int (2 : Int32)), .val (.double w8), .second, .val (.ref a121), .val (.ref a135), .val (.int (1 : Int32)), .val (.int (1 : Int32)), .val (.int (1 : Int32)), .val (.double w5), .second, .val (.int (1 : Int32)), .val (.int (2 : Int32))]) 532 (hb hby d3_529) rfl rfl (by decide) rfl ?_
                                              refine g_goto X305 hx 479 (hb hby d3_532) (by decide) (by decide) ?_
                                              refine g_iload X305 hx 481 (hb hby d3_479) rfl rfl ?_
                                              refine g_iload X305 hx 483 (hb hby d3_481) rfl rfl ?_
                                              have ll319 : ((1 : Int32) : Int32).toInt = 1 := by decide
                                              have ll320 : ((1 : Int32) : Int32).toInt = 1 := by decide
                                              refine g_ic_ge X305 hx 535 486 (hb hby d3_483) (by decide) (by decide) rfl (fun c318 => ?_) (fun c318 => ?_)
                                              · skip
                                                refine g_iincC X305 hx (w := (1 : Int32)) (2 : Int32) (by decide) (l' := #[.val (.ref ob), .val (.ref cs), .val (.ref vs_), .val (.ref wk), .val (.int (2 : Int32)), .val (.int (2 : Int32)), .val (.double w8), .second, .val (.ref a121), .val (.ref a135), .val (.int (1 : Int32)), .val (.int (1 : Int32)), .val (.int (2 : Int32)), .val (.double w5), .second, .val (.int (1 : Int32)), .val (.int (2 : Int32))]) 538 (hb hby d3_535) rfl rfl (by decide) rfl ?_
                                                refine g_goto X305 hx 386 (hb hby d3_538) (by decide) (by decide) ?_
                                                refine g_iload X305 hx 388 (hb hby d3_386) rfl rfl ?_
                                                refine g_aloadN X305 hx 389 (hb hby d3_388) rfl rfl rfl ?_
                                                refine g_getF X305 hx hZ hown (hw _ (List.mem_of_getElem? (i := 9) rfl)) Via.refl e305 F307 392 (hb hby d3_389) rfl ?_
                                                intro T321 X321 e321
                                                have ll323 : ((3 : Int32) : Int32).toInt = 3 := by decide
                                                have ll324 : ((2 : Int32) : Int32).toInt = 2 := by decide
                                                refine g_ic_ge X321 hx 541 395 (hb hby d3_392) (by decide) (by decide) rfl (fun c322 => ?_) (fun c322 => ?_)
                                                · skip
                                                  exfalso; revert c322; decide
                                                · skip
                                                  refine g_aloadN X321 hx 396 (hb hby d3_395) rfl rfl rfl ?_
                                                  refine g_iload X321 hx 398 (hb hby d3_396) rfl rfl ?_
                                                  refine g_aloadN X321 hx 399 (hb hby d3_398) rfl rfl rfl ?_
                                                  refine g_getF X321 hx hZ hown (hw _ (List.mem_of_getElem? (i := 9) rfl)) Via.refl e321 F307 402 (hb hby d3_399) rfl ?_
                                                  intro T325 X325 e325
                                                  refine g_imulC X325 hx (6 : Int32) (by decide) 403 (hb hby d3_402) rfl ?_
                                                  refine g_iload X325 hx 405 (hb hby d3_403) rfl rfl ?_
                                                  refine g_iaddC X325 hx (8 : Int32) (by decide) 406 (hb hby d3_405) rfl ?_
                                                  refine g_daload X325 hx hZ e325 F309 (by decide) (by decide) (by rw [show ((8 : Int32) : Int32).toNatClampNeg = 8 by decide] <;> rfl) 407 (hb hby d3_406) rfl ?_
                                                  refine g_dstore (l' := #[.val (.ref ob), .val (.ref cs), .val (.ref vs_), .val (.ref wk), .val (.int (2 : Int32)), .val (.int (2 : Int32)), .val (.double w8), .second, .val (.ref a121), .val (.ref a135), .val (.int (1 : Int32)), .val (.int (1 : Int32)), .val (.int (2 : Int32)), .val (.double (FP.ddiv w8 w8)), .second, .val (.int (1 : Int32)), .val (.int (2 : Int32))]) X325 hx 409 (hb hby d3_407) rfl rfl ?_
                                                  refine g_iload X325 hx 411 (hb hby d3_409) rfl rfl ?_
                                                  refine g_iload X325 hx 413 (hb hby d3_411) rfl rfl ?_
                                                  have ll327 : ((2 : Int32) : Int32).toInt = 2 := by decide
                                                  have ll328 : ((2 : Int32) : Int32).toInt = 2 := by decide
                                                  refine g_ic_eq X325 hx 535 416 (hb hby d3_413) (by decide) (by decide) rfl (fun c326 => ?_) (fun c326 => ?_)
                                                  · skip
                                                    refine g_iincC X325 hx (w := (1 : Int32)) (3 : Int32) (by decide) (l' := #[.val (.ref ob), .val (.ref cs), .val (.ref vs_), .val (.ref wk), .val (.int (2 : Int32)), .val (.int (2 : Int32)), .val (.double w8), .second, .val (.ref a121), .val (.ref a135), .val (.int (1 : Int32)), .val (.int (1 : Int32)), .val (.int (3 : Int32)), .val (.double (FP.ddiv w8 w8)), .second, .val (.int (1 : Int32)), .val (.int (2 : Int32))]) 538 (hb hby d3_535) rfl rfl (by decide) rfl ?_
                                                    refine g_goto X325 hx 386 (hb hby d3_538) (by decide) (by decide) ?_
                                                    refine g_iload X325 hx 388 (hb hby d3_386) rfl rfl ?_
                                                    refine g_aloadN X325 hx 389 (hb hby d3_388) rfl rfl rfl ?_
                                                    refine g_getF X325 hx hZ hown (hw _ (List.mem_of_getElem? (i := 9) rfl)) Via.refl e325 F307 392 (hb hby d3_389) rfl ?_
                                                    intro T329 X329 e329
                                                    have ll331 : ((3 : Int32) : Int32).toInt = 3 := by decide
                                                    have ll332 : ((3 : Int32) : Int32).toInt = 3 := by decide
                                                    refine g_ic_ge X329 hx 541 395 (hb hby d3_392) (by decide) (by decide) rfl (fun c330 => ?_) (fun c330 => ?_)
                                                    · skip
                                                      refine g_iincC X329 hx (w := (1 : Int32)) (3 : Int32) (by decide) (l' := #[.val (.ref ob), .val (.ref cs), .val (.ref vs_), .val (.ref wk), .val (.int (3 : Int32)), .val (.int (2 : Int32)), .val (.double w8), .second, .val (.ref a121), .val (.ref a135), .val (.int (1 : Int32)), .val (.int (1 : Int32)), .val (.int (3 : Int32)), .val (.double (FP.ddiv w8 w8)), .second, .val (.int (1 : Int32)), .val (.int (2 : Int32))]) 544 (hb hby d3_541) rfl rfl (by decide) rfl ?_
                                                      refine g_goto X329 hx 118 (hb hby d3_544) (by decide) (by decide) ?_
                                                      refine g_iload X329 hx 120 (hb hby d3_118) rfl rfl ?_
                                                      refine g_aloadN X329 hx 121 (hb hby d3_120) rfl rfl rfl ?_
                                                      refine g_getF X329 hx hZ hown (hw _ (List.mem_of_getElem? (i := 9) rfl)) Via.refl e329 F307 124 (hb hby d3_121) rfl ?_
                                                      intro T333 X333 e333
                                                      have ll335 : ((3 : Int32) : Int32).toInt = 3 := by decide
                                                      have ll336 : ((3 : Int32) : Int32).toInt = 3 := by decide
                                                      refine g_ic_ge X333 hx 547 127 (hb hby d3_124) (by decide) (by decide) rfl (fun c334 => ?_) (fun c334 => ?_)
                                                      · skip
                                                        refine g_iconst X333 hx (1 : Int32) 548 (hb hby d3_547) rfl (by decide) ?_
                                                        exact g_retZ X333 hx hlk hret (hb hby d3_548) (by decide) (by decide) e333 ⟨rfl, N316, K315, _, _, _, _, _, _, _, _, _, V305', hx0, hx1, (own_as (by first | omega | (rw [c247]; omega)) hx2), hx3, hx4, D304, hx6, hx7, D208⟩
                                                      · skip
                                                        exfalso; revert c334; decide
                                                    · skip
                                                      exfalso; revert c330; decide
                                                  · skip
                                                    exfalso; revert c326; decide
                                              · skip
                                                exfalso; revert c318; decide
                                          · skip
                                            exfalso; revert c293; decide
                                · skip
                                  refine g_iconst X243 hx (0 : Int32) 424 (hb hby d3_423) rfl (by decide) ?_
                                  refine g_istore (l' := #[.val (.ref ob), .val (.ref cs), .val (.ref vs_), .val (.ref wk), .val (.int (2 : Int32)), .val (.int (2 : Int32)), .val (.double w8), .second, .val (.ref a121), .val (.ref a135), .val (.int (1 : Int32)), .val (.int (1 : Int32)), .val (.int (0 : Int32)), .val (.double w2), .second, .val (.int (0 : Int32)), (own_sl o16)]) X243 hx 426 (hb hby d3_424) rfl (by cases o15 <;> rfl) ?_
                                  refine g_iload X243 hx 428 (hb hby d3_426) rfl rfl ?_
                                  refine g_iload X243 hx 430 (hb hby d3_428) rfl rfl ?_
                                  have ll338 : ((1 : Int32) : Int32).toInt = 1 := by decide
                                  have ll339 : ((0 : Int32) : Int32).toInt = 0 := by decide
                                  refine g_ic_ge X243 hx 476 433 (hb hby d3_430) (by decide) (by decide) rfl (fun c337 => ?_) (fun c337 => ?_)
                                  · skip
                                    exfalso; revert c337; decide
                                  · skip
                                    refine g_aload X243 hx 435 (hb hby d3_433) rfl rfl rfl ?_
                                    refine g_iload X243 hx 437 (hb hby d3_435) rfl rfl ?_
                                    refine g_iaload X243 hx hZ e243 F229 (by decide) (by decide) (by rw [show ((0 : Int32) : Int32).toNatClampNeg = 0 by decide] <;> rfl) 438 (hb hby d3_437) rfl ?_
                                    refine g_istore (l' := #[.val (.ref ob), .val (.ref cs), .val (.ref vs_), .val (.ref wk), .val (.int (2 : Int32)), .val (.int (2 : Int32)), .val (.double w8), .second, .val (.ref a121), .val (.ref a135), .val (.int (1 : Int32)), .val (.int (1 : Int32)), .val (.int (0 : Int32)), .val (.double w2), .second, .val (.int (0 : Int32)), .val (.int (2 : Int32))]) X243 hx 440 (hb hby d3_438) rfl (by cases o16 <;> rfl) ?_
                                    refine g_aloadN X243 hx 441 (hb hby d3_440) rfl rfl rfl ?_
                                    refine g_iload X243 hx 443 (hb hby d3_441) rfl rfl ?_
                                    refine g_aloadN X243 hx 444 (hb hby d3_443) rfl rfl rfl ?_
                                    refine g_getF X243 hx hZ hown (hw _ (List.mem_of_getElem? (i := 9) rfl)) Via.refl e243 F224 447 (hb hby d3_444) rfl ?_
                                    intro T340 X340 e340
                                    refine g_imulC X340 hx (0 : Int32) (by decide) 448 (hb hby d3_447) rfl ?_
                                    refine g_iload X340 hx 450 (hb hby d3_448) rfl rfl ?_
                                    refine g_iaddC X340 hx (2 : Int32) (by decide) 451 (hb hby d3_450) rfl ?_
                                    refine g_dup2 X340 hx 452 (hb hby d3_451) rfl rfl rfl ?_
                                    refine g_daload X340 hx hZ e340 F226 (by decide) (by decide) (by rw [show ((2 : Int32) : Int32).toNatClampNeg = 2 by decide] <;> rfl) 453 (hb hby d3_452) rfl ?_
                                    refine g_dload X340 hx 455 (hb hby d3_453) rfl rfl ?_
                                    refine g_aloadN X340 hx 456 (hb hby d3_455) rfl rfl rfl ?_
                                    refine g_iload X340 hx 458 (hb hby d3_456) rfl rfl ?_
                                    refine g_aloadN X340 hx 459 (hb hby d3_458) rfl rfl rfl ?_
                                    refine g_getF X340 hx hZ hown (hw _ (List.mem_of_getElem? (i := 9) rfl)) Via.refl e340 F224 462 (hb hby d3_459) rfl ?_
                                    intro T341 X341 e341
                                    refine g_imulC X341 hx (6 : Int32) (by decide) 463 (hb hby d3_462) rfl ?_
                                    refine g_iload X341 hx 465 (hb hby d3_463) rfl rfl ?_
                                    refine g_iaddC X341 hx (8 : Int32) (by decide) 466 (hb hby d3_465) rfl ?_
                                    refine g_daload X341 hx hZ e341 F226 (by decide) (by decide) (by rw [show ((8 : Int32) : Int32).toNatClampNeg = 8 by decide] <;> rfl) 467 (hb hby d3_466) rfl ?_
                                    have D342 : Jvm.FP.Core.DInt (-(ia * ib)) (FP.dmul w2 (FP.ddiv w8 w8)) := own_as (by omega) (Jvm.FP.Core.dmul_int hw2 D176 (by omega))
                                    refine g_dmul X341 hx 468 (hb hby d3_467) rfl (own_dnn D342) ?_
                                    have D343 : Jvm.FP.Core.DInt 0 (FP.dsub w2 (FP.dmul w2 (FP.ddiv w8 w8))) := own_as (by omega) (Jvm.FP.Core.dsub_int hw2 D342 (by omega))
                                    refine g_dsub X341 hx 469 (hb hby d3_468) rfl (own_dnn D343) ?_
                                    refine g_dastore X341 hx hZ e341 F226 2 (by decide) (by decide) (by show 2 < 9; decide) 470 (hb hby d3_469) rfl ?_
                                    intro T344 h344 X344 e344 W344 V344
                                    have F345 := F223.wr W344
                                    have F346 := F224.other W344 (Or.inl n1)
                                    have F347 := F225.other W344 (Or.inl n1)
                                    have F349 := F227.other W344 (Ne.symm n3)
                                    have F350 := F228.wr W344
                                    have F351 := F229.other W344 (Ne.symm ne123)
                                    have F352 := F230.wr W344
                                    have F353 := V222'.other W344 (Ne.symm ne137)
                                    have K354 := K232.wr W344 (Or.inr sw)
                                    have N355 := Fr.snoc X344 N233 gw
                                    have Z356 : n0 ≤ h344.size := by rw [W344.size]; exact Z234
                                    have V344' : Arv Z h344 wk kw .double (9 : Int32) [(.double w0), (.double w1), (.double (FP.dsub w2 (FP.dmul w2 (FP.ddiv w8 w8)))), (.double w3), (.double w4), (.double w5), (.double w6), (.double w7), (.double (FP.ddiv w8 w8))] (.double 0) := V344
                                    refine g_iincC X344 hx (w := (1 : Int32)) (1 : Int32) (by decide) (l' := #[.val (.ref ob), .val (.ref cs), .val (.ref vs_), .val (.ref wk), .val (.int (2 : Int32)), .val (.int (2 : Int32)), .val (.double w8), .second, .val (.ref a121), .val (.ref a135), .val (.int (1 : Int32)), .val (.int (1 : Int32)), .val (.int (0 : Int32)), .val (.double w2), .second, .val (.int (1 : Int32)), .val (.int (2 : Int32))]) 473 (hb hby d3_470) rfl rfl (by decide) rfl ?_
                                    refine g_goto X344 hx 426 (hb hby d3_473) (by decide) (by decide) ?_
                                    refine g_iload X344 hx 428 (hb hby d3_426) rfl rfl ?_
                                    refine g_iload X344 hx 430 (hb hby d3_428) rfl rfl ?_
                                    have ll358 : ((1 : Int32) : Int32).toInt = 1 := by decide
                                    have ll359 : ((1 : Int32) : Int32).toInt = 1 := by decide
                                    refine g_ic_ge X344 hx 476 433 (hb hby d3_430) (by decide) (by decide) rfl (fun c357 => ?_) (fun c357 => ?_)
                                    · skip
                                      refine g_iconst X344 hx (0 : Int32) 477 (hb hby d3_476) rfl (by decide) ?_
                                      refine g_istore (l' := #[.val (.ref ob), .val (.ref cs), .val (.ref vs_), .val (.ref wk), .val (.int (2 : Int32)), .val (.int (2 : Int32)), .val (.double w8), .second, .val (.ref a121), .val (.ref a135), .val (.int (1 : Int32)), .val (.int (1 : Int32)), .val (.int (0 : Int32)), .val (.double w2), .second, .val (.int (0 : Int32)), .val (.int (2 : Int32))]) X344 hx 479 (hb hby d3_477) rfl rfl ?_
                                      refine g_iload X344 hx 481 (hb hby d3_479) rfl rfl ?_
                                      refine g_iload X344 hx 483 (hb hby d3_481) rfl rfl ?_
                                      have ll361 : ((1 : Int32) : Int32).toInt = 1 := by decide
                                      have ll362 : ((0 : Int32) : Int32).toInt = 0 := by decide
                                      refine g_ic_ge X344 hx 535 486 (hb hby d3_483) (by decide) (by decide) rfl (fun c360 => ?_) (fun c360 => ?_)
                                      · skip
                                        exfalso; revert c360; decide
                                      · skip
                                        refine g_aload X344 hx 488 (hb hby d3_486) rfl rfl rfl ?_
                                        refine g_iload X344 hx 490 (hb hby d3_488) rfl rfl ?_
                                        refine g_iaload X344 hx hZ e344 F353 (by decide) (by decide) (by rw [show ((0 : Int32) : Int32).toNatClampNeg = 0 by decide] <;> rfl) 491 (hb hby d3_490) rfl ?_
                                        refine g_istore (l' := #[.val (.ref ob), .val (.ref cs), .val (.ref vs_), .val (.ref wk), .val (.int (2 : Int32)), .val (.int (2 : Int32)), .val (.double w8), .second, .val (.ref a121), .val (.ref a135), .val (.int (1 : Int32)), .val (.int (1 : Int32)), .val (.int (0 : Int32)), .val (.double w2), .second, .val (.int (0 : Int32)), .val (.int (2 : Int32))]) X344 hx 493 (hb hby d3_491) rfl rfl ?_
                                        refine g_aloadN X344 hx 494 (hb hby d3_493) rfl rfl rfl ?_
                                        refine g_getF X344 hx hZ hown (hw _ (List.mem_of_getElem? (i := 12) rfl)) Via.refl e344 F347 497 (hb hby d3_494) rfl ?_
                                        intro T363 X363 e363
                                        refine g_iload X363 hx 499 (hb hby d3_497) rfl rfl ?_
                                        refine g_aloadN X363 hx 500 (hb hby d3_499) rfl rfl rfl ?_
                                        refine g_getF X363 hx hZ hown (hw _ (List.mem_of_getElem? (i := 9) rfl)) Via.refl e363 F346 503 (hb hby d3_500) rfl ?_
                                        intro T364 X364 e364
                                        refine g_imulC X364 hx (0 : Int32) (by decide) 504 (hb hby d3_503) rfl ?_
                                        refine g_iload X364 hx 506 (hb hby d3_504) rfl rfl ?_
                                        refine g_iaddC X364 hx (2 : Int32) (by decide) 507 (hb hby d3_506) rfl ?_
                                        refine g_dup2 X364 hx 508 (hb hby d3_507) rfl rfl rfl ?_
                                        refine g_daload X364 hx hZ e364 F349 (by decide) (by decide) (by rw [show ((2 : Int32) : Int32).toNatClampNeg = 2 by decide] <;> rfl) 509 (hb hby d3_508) rfl ?_
                                        refine g_dload X364 hx 511 (hb hby d3_509) rfl rfl ?_
                                        refine g_aloadN X364 hx 512 (hb hby d3_511) rfl rfl rfl ?_
                                        refine g_getF X364 hx hZ hown (hw _ (List.mem_of_getElem? (i := 12) rfl)) Via.refl e364 F347 515 (hb hby d3_512) rfl ?_
                                        intro T365 X365 e365
                                        refine g_iload X365 hx 517 (hb hby d3_515) rfl rfl ?_
                                        refine g_aloadN X365 hx 518 (hb hby d3_517) rfl rfl rfl ?_
                                        refine g_getF X365 hx hZ hown (hw _ (List.mem_of_getElem? (i := 9) rfl)) Via.refl e365 F346 521 (hb hby d3_518) rfl ?_
                                        intro T366 X366 e366
                                        refine g_imulC X366 hx (6 : Int32) (by decide) 522 (hb hby d3_521) rfl ?_
                                        refine g_iload X366 hx 524 (hb hby d3_522) rfl rfl ?_
                                        refine g_iaddC X366 hx (8 : Int32) (by decide) 525 (hb hby d3_524) rfl ?_
                                        refine g_daload X366 hx hZ e366 F349 (by decide) (by decide) (by rw [show ((8 : Int32) : Int32).toNatClampNeg = 8 by decide] <;> rfl) 526 (hb hby d3_525) rfl ?_
                                        have D367 : Jvm.FP.Core.DInt (-(ia * ib)) (FP.dmul w2 (FP.ddiv x8 w8)) := own_as (by omega) (Jvm.FP.Core.dmul_int hw2 D208 (by omega))
                                        refine g_dmul X366 hx 527 (hb hby d3_526) rfl (own_dnn D367) ?_
                                        have D368 : Jvm.FP.Core.DInt (-(-(ia * ib))) (FP.dsub x2 (FP.dmul w2 (FP.ddiv x8 w8))) := own_as (by omega) (Jvm.FP.Core.dsub_int hx2 D367 (by omega))
                                        refine g_dsub X366 hx 528 (hb hby d3_527) rfl (own_dnn D368) ?_
                                        refine g_dastore X366 hx hZ e366 F349 2 (by decide) (by decide) (by show 2 < 9; decide) 529 (hb hby d3_528) rfl ?_
                                        intro T369 h369 X369 e369 W369 V369
                                        have F370 := F345.wr W369
                                        have F371 := F346.other W369 (Or.inl n2)
                                        have F372 := F347.other W369 (Or.inl n2)
                                        have F373 := V344'.other W369 n3
                                        have F375 := F350.wr W369
                                        have F376 := F351.other W369 (Ne.symm ne124)
                                        have F377 := F352.wr W369
                                        have F378 := F353.other W369 (Ne.symm ne138)
                                        have K379 := K354.wr W369 (Or.inl (List.mem_of_getElem? (i := 0) rfl))
                                        have N380 := Fr.snoc X369 N355 gv
                                        have Z381 : n0 ≤ h369.size := by rw [W369.size]; exact Z356
                                        have V369' : Arv Z h369 vi kv .double (9 : Int32) [(.double x0), (.double x1), (.double (FP.dsub x2 (FP.dmul w2 (FP.ddiv x8 w8)))), (.double x3), (.double x4), (.double x5), (.double x6), (.double x7), (.double (FP.ddiv x8 w8))] (.double 0) := V369
                                        refine g_iincC X369 hx (w := (1 : Int32)) (1 : Int32) (by decide) (l' := #[.val (.ref ob), .val (.ref cs), .val (.ref vs_), .val (.ref wk), .val (.int (2 : Int32)), .val (.int (2 : Int32)), .val (.double w8), .second, .val (.ref a121), .val (.ref a135), .val (.int (1 : Int32)), .val (.int (1 : Int32)), .val (.int (0 : Int32)), .val (.double w2), .second, .val (.int (1 : Int32)), .val (.int (2 : Int32))]) 532 (hb hby d3_529) rfl rfl (by decide) rfl ?_
                                        refine g_goto X369 hx 479 (hb hby d3_532) (by decide) (by decide) ?_
                                        refine g_iload X369 hx 481 (hb hby d3_479) rfl rfl ?_
                                        refine g_iload X369 hx 483 (hb hby d3_481) rfl rfl ?_
                                        have ll383 : ((1 : Int32) : Int32).toInt = 1 := by decide
                                        have ll384 : ((1 : Int32) : Int32).toInt = 1 := by decide
                                        refine g_ic_ge X369 hx 535 486 (hb hby d3_483) (by decide) (by decide) rfl (fun c382 => ?_) (fun c382 => ?_)
                                        · skip
                                          refine g_iincC X369 hx (w := (1 : Int32)) (1 : Int32) (by decide) (l' := #[.val (.ref ob), .val (.ref cs), .val (.ref vs_), .val (.ref wk), .val (.int (2 : Int32)), .val (.int (2 : Int32)), .val (.double w8), .second, .val (.ref a121), .val (.ref a135), .val (.int (1 : Int32)), .val (.int (1 : Int32)), .val (.int (1 : Int32)), .val (.double w2), .second, .val (.int (1 : Int32)), .val (.int (2 : Int32))]) 538 (hb hby d3_535) rfl rfl (by decide) rfl ?_
                                          refine g_goto X369 hx 386 (hb hby d3_538) (by decide) (by decide) ?_
                                          refine g_iload X369 hx 388 (hb hby d3_386) rfl rfl ?_
                                          refine g_aloadN X369 hx 389 (hb hby d3_388) rfl rfl rfl ?_
                                          refine g_getF X369 hx hZ hown (hw _ (List.mem_of_getElem? (i := 9) rfl)) Via.refl e369 F371 392 (hb hby d3_389) rfl ?_
                                          intro T385 X385 e385
                                          have ll387 : ((3 : Int32) : Int32).toInt = 3 := by decide
                                          have ll388 : ((1 : Int32) : Int32).toInt = 1 := by decide
                                          refine g_ic_ge X385 hx 541 395 (hb hby d3_392) (by decide) (by decide) rfl (fun c386 => ?_) (fun c386 => ?_)
                                          · skip
                                            exfalso; revert c386; decide
                                          · skip
                                            refine g_aloadN X385 hx 396 (hb hby d3_395) rfl rfl rfl ?_
                                            refine g_iload X385 hx 398 (hb hby d3_396) rfl rfl ?_
                                            refine g_aloadN X385 hx 399 (hb hby d3_398) rfl rfl rfl ?_
                                            refine g_getF X385 hx hZ hown (hw _ (List.mem_of_getElem? (i := 9) rfl)) Via.refl e385 F371 402 (hb hby d3_399) rfl ?_
                                            intro T389 X389 e389
                                            refine g_imulC X389 hx (3 : Int32) (by decide) 403 (hb hby d3_402) rfl ?_
                                            refine g_iload X389 hx 405 (hb hby d3_403) rfl rfl ?_
                                            refine g_iaddC X389 hx (5 : Int32) (by decide) 406 (hb hby d3_405) rfl ?_
                                            refine g_daload X389 hx hZ e389 F373 (by decide) (by decide) (by rw [show ((5 : Int32) : Int32).toNatClampNeg = 5 by decide] <;> rfl) 407 (hb hby d3_406) rfl ?_
                                            refine g_dstore (l' := #[.val (.ref ob), .val (.ref cs), .val (.ref vs_), .val (.ref wk), .val (.int (2 : Int32)), .val (.int (2 : Int32)), .val (.double w8), .second, .val (.ref a121), .val (.ref a135), .val (.int (1 : Int32)), .val (.int (1 : Int32)), .val (.int (1 : Int32)), .val (.double w5), .second, .val (.int (1 : Int32)), .val (.int (2 : Int32))]) X389 hx 409 (hb hby d3_407) rfl rfl ?_
                                            refine g_iload X389 hx 411 (hb hby d3_409) rfl rfl ?_
                                            refine g_iload X389 hx 413 (hb hby d3_411) rfl rfl ?_
                                            have ll391 : ((2 : Int32) : Int32).toInt = 2 := by decide
                                            have ll392 : ((1 : Int32) : Int32).toInt = 1 := by decide
                                            refine g_ic_eq X389 hx 535 416 (hb hby d3_413) (by decide) (by decide) rfl (fun c390 => ?_) (fun c390 => ?_)
                                            · skip
                                              exfalso; revert c390; decide
                                            · skip
                                              refine g_dload X389 hx 418 (hb hby d3_416) rfl rfl ?_
                                              refine g_dconst0 X389 hx 419 (hb hby d3_418) rfl ?_
                                              refine g_dc_eq X389 hx 420 535 423 (hb hby d3_419) rfl (hb hby d3_420) (by decide) (by decide) rfl (Jvm.FP.Core.dcmp_int hw5 own_dzero) (fun c393 => ?_) (fun c393 => ?_)
                                              · skip
                                                refine g_iincC X389 hx (w := (1 : Int32)) (2 : Int32) (by decide) (l' := #[.val (.ref ob), .val (.ref cs), .val (.ref vs_), .val (.ref wk), .val (.int (2 : Int32)), .val (.int (2 : Int32)), .val (.double w8), .second, .val (.ref a121), .val (.ref a135), .val (.int (1 : Int32)), .val (.int (1 : Int32)), .val (.int (2 : Int32)), .val (.double w5), .second, .val (.int (1 : Int32)), .val (.int (2 : Int32))]) 538 (hb hby d3_535) rfl rfl (by decide) rfl ?_
                                                refine g_goto X389 hx 386 (hb hby d3_538) (by decide) (by decide) ?_
                                                refine g_iload X389 hx 388 (hb hby d3_386) rfl rfl ?_
                                                refine g_aloadN X389 hx 389 (hb hby d3_388) rfl rfl rfl ?_
                                                refine g_getF X389 hx hZ hown (hw _ (List.mem_of_getElem? (i := 9) rfl)) Via.refl e389 F371 392 (hb hby d3_389) rfl ?_
                                                intro T394 X394 e394
                                                have ll396 : ((3 : Int32) : Int32).toInt = 3 := by decide
                                                have ll397 : ((2 : Int32) : Int32).toInt = 2 := by decide
                                                refine g_ic_ge X394 hx 541 395 (hb hby d3_392) (by decide) (by decide) rfl (fun c395 => ?_) (fun c395 => ?_)
                                                · skip
                                                  exfalso; revert c395; decide
                                                · skip
                                                  refine g_aloadN X394 hx 396 (hb hby d3_395) rfl rfl rfl ?_
                                                  refine g_iload X394 hx 398 (hb hby d3_396) rfl rfl ?_
                                                  refine g_aloadN X394 hx 399 (hb hby d3_398) rfl rfl rfl ?_
                                                  refine g_getF X394 hx hZ hown (hw _ (List.mem_of_getElem? (i := 9) rfl)) Via.refl e394 F371 402 (hb hby d3_399) rfl ?_
                                                  intro T398 X398 e398
                                                  refine g_imulC X398 hx (6 : Int32) (by decide) 403 (hb hby d3_402) rfl ?_
                                                  refine g_iload X398 hx 405 (hb hby d3_403) rfl rfl ?_
                                                  refine g_iaddC X398 hx (8 : Int32) (by decide) 406 (hb hby d3_405) rfl ?_
                                                  refine g_daload X398 hx hZ e398 F373 (by decide) (by decide) (by rw [show ((8 : Int32) : Int32).toNatClampNeg = 8 by decide] <;> rfl) 407 (hb hby d3_406) rfl ?_
                                                  refine g_dstore (l' := #[.val (.ref ob), .val (.ref cs), .val (.ref vs_), .val (.ref wk), .val (.int (2 : Int32)), .val (.int (2 : Int32)), .val (.double w8), .second, .val (.ref a121), .val (.ref a135), .val (.int (1 : Int32)), .val (.int (1 : Int32)), .val (.int (2 : Int32)), .val (.double (FP.ddiv w8 w8)), .second, .val (.int (1 : Int32)), .val (.int (2 : Int32))]) X398 hx 409 (hb hby d3_407) rfl rfl ?_
                                                  refine g_iload X398 hx 411 (hb hby d3_409) rfl rfl ?_
                                                  refine g_iload X398 hx 413 (hb hby d3_411) rfl rfl ?_
                                                  have ll400 : ((2 : Int32) : Int32).toInt = 2 := by decide
                                                  have ll401 : ((2 : Int32) : Int32).toInt = 2 := by decide
                                                  refine g_ic_eq X398 hx 535 416 (hb hby d3_413) (by decide) (by decide) rfl (fun c399 => ?_) (fun c399 => ?_)
                                                  · skip
                                                    refine g_iincC X398 hx (w := (1 : Int32)) (3 : Int32) (by decide) (l' := #[.val (.ref ob), .val (.ref cs), .val (.ref vs_), .val (.ref wk), .val (.int (2 : Int32)), .val (.int (2 : Int32)), .val (.double w8), .second, .val (.ref a121), .val (.ref a135), .val (.int (1 : Int32)), .val (.int (1 : Int32)), .val (.int (3 : Int32)), .val (.double (FP.ddiv w8 w8)), .second, .val (.int (1 : Int32)), .val (.int (2 : Int32))]) 538 (hb hby d3_535) rfl rfl (by decide) rfl ?_
                                                    refine g_goto X398 hx 386 (hb hby d3_538) (by decide) (by decide) ?_
                                                    refine g_iload X398 hx 388 (hb hby d3_386) rfl rfl ?_
                                                    refine g_aloadN X398 hx 389 (hb hby d3_388) rfl rfl rfl ?_
                                                    refine g_getF X398 hx hZ hown (hw _ (List.mem_of_getElem? (i := 9) rfl)) Via.refl e398 F371 392 (hb hby d3_389) rfl ?_
                                                    intro T402 X402 e402
                                                    have ll404 : ((3 : Int32) : Int32).toInt = 3 := by decide
                                                    have ll405 : ((3 : Int32) : Int32).toInt = 3 := by decide
                                                    refine g_ic_ge X402 hx 541 395 (hb hby d3_392) (by decide) (by decide) rfl (fun c403 => ?_) (fun c403 => ?_)
                                                    · skip
                                                      refine g_iincC X402 hx (w := (1 : Int32)) (3 : Int32) (by decide) (l' := #[.val (.ref ob), .val (.ref cs), .val (.ref vs_), .val (.ref wk), .val (.int (3 : Int32)), .val (.int (2 : Int32)), .val (.double w8), .second, .val (.ref a121), .val (.ref a135), .val (.int (1 : Int32)), .val (.int (1 : Int32)), .val (.int (3 : Int32)), .val (.double (FP.ddiv w8 w8)), .second, .val (.int (1 : Int32)), .val (.int (2 : Int32))]) 544 (hb hby d3_541) rfl rfl (by decide) rfl ?_
                                                      refine g_goto X402 hx 118 (hb hby d3_544) (by decide) (by decide) ?_
                                                      refine g_iload X402 hx 120 (hb hby d3_118) rfl rfl ?_
                                                      refine g_aloadN X402 hx 121 (hb hby d3_120) rfl rfl rfl ?_
                                                      refine g_getF X402 hx hZ hown (hw _ (List.mem_of_getElem? (i := 9) rfl)) Via.refl e402 F371 124 (hb hby d3_121) rfl ?_
                                                      intro T406 X406 e406
                                                      have ll408 : ((3 : Int32) : Int32).toInt = 3 := by decide
                                                      have ll409 : ((3 : Int32) : Int32).toInt = 3 := by decide
                                                      refine g_ic_ge X406 hx 547 127 (hb hby d3_124) (by decide) (by decide) rfl (fun c407 => ?_) (fun c407 => ?_)
                                                      · skip
                                                        refine g_iconst X406 hx (1 : Int32) 548 (hb hby d3_547) rfl (by decide) ?_
                                                        exact g_retZ X406 hx hlk hret (hb hby d3_548) (by decide) (by decide) e406 ⟨rfl, N380, K379, _, _, _, _, _, _, _, _, _, V369', hx0, hx1, (own_as (by first | omega | (rw [c393]; omega)) D368), hx3, hx4, (own_as (by first | omega | (rw [c393]; omega)) hx5), hx6, hx7, D208⟩
                                                      · skip
                                                        exfalso; revert c407; decide
                                                    · skip
                                                      exfalso; revert c403; decide
                                                  · skip
                                                    exfalso; revert c399; decide
                                              · skip
                                                refine g_iconst X389 hx (0 : Int32) 424 (hb hby d3_423) rfl (by decide) ?_
                                                refine g_istore (l' := #[.val (.ref ob), .val (.ref cs), .val (.ref vs_), .val (.ref wk), .val (.int (2 : Int32)), .val (.int (2 : Int32)), .val (.double w8), .second, .val (.ref a121), .val (.ref a135), .val (.int (1 : Int32)), .val (.int (1 : Int32)), .val (.int (1 : Int32)), .val (.double w5), .second, .val (.int (0 : Int32)), .val (.int (2 : Int32))]) X389 hx 426 (hb hby d3_424) rfl rfl ?_
                                                refine g_iload X389 hx 428 (hb hby d3_426) rfl rfl ?_
                                                refine g_iload X389 hx 430 (hb hby d3_428) rfl rfl ?_
                                                have ll411 : ((1 : Int32) : Int32).toInt = 1 := by decide
                                                have ll412 : ((0 : Int32) : Int32).toInt = 0 := by decide
                                                refine g_ic_ge X389 hx 476 433 (hb hby d3_430) (by decide) (by decide) rfl (fun c410 => ?_) (fun c410 => ?_)
                                                · skip
                                                  exfalso; revert c410; decide
                                                · skip
                                                  refine g_aload X389 hx 435 (hb hby d3_433) rfl rfl rfl ?_
                                                  refine g_iload X389 hx 437 (hb hby d3_435) rfl rfl ?_
                                                  refine g_iaload X389 hx hZ e389 F376 (by decide) (by decide) (by rw [show ((0 : Int32) : Int32).toNatClampNeg = 0 by decide] <;> rfl) 438 (hb hby d3_437) rfl ?_
                                                  refine g_istore (l' := #[.val (.ref ob), .val (.ref cs), .val (.ref vs_), .val (.ref wk), .val (.int (2 : Int32)), .val (.int (2 : Int32)), .val (.double w8), .second, .val (.ref a121), .val (.ref a135), .val (.int (1 : Int32)), .val (.int (1 : Int32)), .val (.int (1 : Int32)), .val (.double w5), .second, .val (.int (0 : Int32)), .val (.int (2 : Int32))]) X389 hx 440 (hb hby d3_438) rfl rfl ?_
                                                  refine g_aloadN X389 hx 441 (hb hby d3_440) rfl rfl rfl ?_
                                                  refine g_iload X389 hx 443 (hb hby d3_441) rfl rfl ?_
                                                  refine g_aloadN X389 hx 444 (hb hby d3_443) rfl rfl rfl ?_
                                                  refine g_getF X389 hx hZ hown (hw _ (List.mem_of_getElem? (i := 9) rfl)) Via.refl e389 F371 447 (hb hby d3_444) rfl ?_
                                                  intro T413 X413 e413
                                                  refine g_imulC X413 hx (3 : Int32) (by decide) 448 (hb hby d3_447) rfl ?_
                                                  refine g_iload X413 hx 450 (hb hby d3_448) rfl rfl ?_
                                                  refine g_iaddC X413 hx (5 : Int32) (by decide) 451 (hb hby d3_450) rfl ?_
                                                  refine g_dup2 X413 hx 452 (hb hby d3_451) rfl rfl rfl ?_
                                                  refine g_daload X413 hx hZ e413 F373 (by decide) (by decide) (by rw [show ((5 : Int32) : Int32).toNatClampNeg = 5 by decide] <;> rfl) 453 (hb hby d3_452) rfl ?_
                                                  refine g_dload X413 hx 455 (hb hby d3_453) rfl rfl ?_
                                                  refine g_aloadN X413 hx 456 (hb hby d3_455) rfl rfl rfl ?_
                                                  refine g_iload X413 hx 458 (hb hby d3_456) rfl rfl ?_
                                                  refine g_aloadN X413 hx 459 (hb hby d3_458) rfl rfl rfl ?_
                                                  refine g_getF X413 hx hZ hown (hw _ (List.mem_of_getElem? (i := 9) rfl)) Via.refl e413 F371 462 (hb hby d3_459) rfl ?_
                                                  intro T414 X414 e414
                                                  refine g_imulC X414 hx (6 : Int32) (by decide) 463 (hb hby d3_462) rfl ?_
                                                  refine g_iload X414 hx 465 (hb hby d3_463) rfl rfl ?_
                                                  refine g_iaddC X414 hx (8 : Int32) (by decide) 466 (hb hby d3_465) rfl ?_
                                                  refine g_daload X414 hx hZ e414 F373 (by decide) (by decide) (by rw [show ((8 : Int32) : Int32).toNatClampNeg = 8 by decide] <;> rfl) 467 (hb hby d3_466) rfl ?_
                                                  have D415 : Jvm.FP.Core.DInt ib (FP.dmul w5 (FP.ddiv w8 w8)) := own_as (by omega) (Jvm.FP.Core.dmul_int hw5 D176 (by omega))
                                                  refine g_dmul X414 hx 468 (hb hby d3_467) rfl (own_dnn D415) ?_
                                                  have D416 : Jvm.FP.Core.DInt 0 (FP.dsub w5 (FP.dmul w5 (FP.ddiv w8 w8))) := own_as (by omega) (Jvm.FP.Core.dsub_int hw5 D415 (by omega))
                                                  refine g_dsub X414 hx 469 (hb hby d3_468) rfl (own_dnn D416) ?_
                                                  refine g_dastore X414 hx hZ e414 F373 5 (by decide) (by decide) (by show 5 < 9; decide) 470 (hb hby d3_469) rfl ?_
                                                  intro T417 h417 X417 e417 W417 V417
                                                  have F418 := F370.wr W417
                                                  have F419 := F371.other W417 (Or.inl n1)
                                                  have F420 := F372.other W417 (Or.inl n1)
                                                  have F422 := V369'.other W417 (Ne.symm n3)
                                                  have F423 := F375.wr W417
                                                  have F424 := F376.other W417 (Ne.symm ne123)
                                                  have F425 := F377.wr W417
                                                  have F426 := F378.other W417 (Ne.symm ne137)
                                                  have K427 := K379.wr W417 (Or.inr sw)
                                                  have N428 := Fr.snoc X417 N380 gw
                                                  have Z429 : n0 ≤ h417.size := by rw [W417.size]; exact Z381
                                                  have V417' : Arv Z h417 wk kw .double (9 : Int32) [(.double w0), (.double w1), (.double (FP.dsub w2 (FP.dmul w2 (FP.ddiv w8 w8)))), (.double w3), (.double w4), (.double (FP.dsub w5 (FP.dmul w5 (FP.ddiv w8 w8)))), (.double w6), (.double w7), (.double (FP.ddiv w8 w8))] (.double 0) := V417
                                                  refine g_iincC X417 hx (w := (1 : Int32)) (1 : Int32) (by decide) (l' := #[.val (.ref ob), .val (.ref cs), .val (.ref vs_), .val (.ref wk), .val (.int (2 : Int32)), .val (.int (2 : Int32)), .val (.double w8), .second, .val (.ref a121), .val (.ref a135), .val (.int (1 : Int32)), .val (.int (1 : Int32)), .val (.int (1 : Int32)), .val (.double w5), .second, .val (.int (1 : Int32)), .val (.int (2 : Int32))]) 473 (hb hby d3_470) rfl rfl (by decide) rfl ?_
                                                  refine g_goto X417 hx 426 (hb hby d3_473) (by decide) (by decide) ?_
                                                  refine g_iload X417 hx 428 (hb hby d3_426) rfl rfl ?_
                                                  refine g_iload X417 hx 430 (hb hby d3_428) rfl rfl ?_
                                                  have ll431 : ((1 : Int32) : Int32).toInt = 1 := by decide
                                                  have ll432 : ((1 : Int32) : Int32).toInt = 1 := by decide
                                                  refine g_ic_ge X417 hx 476 433 (hb hby d3_430) (by decide) (by decide) rfl (fun c430 => ?_) (fun c430 => ?_)
                                                  · skip
                                                    refine g_iconst X417 hx (0 : Int32) 477 (hb hby d3_476) rfl (by decide) ?_
                                                    refine g_istore (l' := #[.val (.ref ob), .val (.ref cs), .val (.ref vs_), .val (.ref wk), .val (.int (2 : Int32)), .val (.int (2 : Int32)), .val (.double w8), .second, .val (.ref a121), .val (.ref a135), .val (.int (1 : Int32)), .val (.int (1 : Int32)), .val (.int (1 : Int32)), .val (.double w5), .second, .val (.int (0 : Int32)), .val (.int (2 : Int32))]) X417 hx 479 (hb hby d3_477) rfl rfl ?_
                                                    refine g_iload X417 hx 481 (hb hby d3_479) rfl rfl ?_
                                                    refine g_iload X417 hx 483 (hb hby d3_481) rfl rfl ?_
                                                    have ll434 : ((1 : Int32) : Int32).toInt = 1 := by decide
                                                    have ll435 : ((0 : Int32) : Int32).toInt = 0 := by decide
                                                    refine g_ic_ge X417 hx 535 486 (hb hby d3_483) (by decide) (by decide) rfl (fun c433 => ?_) (fun c433 => ?_)
                                                    · skip
                                                      exfalso; revert c433; decide
                                                    · skip
                                                      refine g_aload X417 hx 488 (hb hby d3_486) rfl rfl rfl ?_
                                                      refine g_iload X417 hx 490 (hb hby d3_488) rfl rfl ?_
                                                      refine g_iaload X417 hx hZ e417 F426 (by decide) (by decide) (by rw [show ((0 : Int32) : Int32).toNatClampNeg = 0 by decide] <;> rfl) 491 (hb hby d3_490) rfl ?_
                                                      refine g_istore (l' := #[.val (.ref ob), .val (.ref cs), .val (.ref vs_), .val (.ref wk), .val (.int (2 : Int32)), .val (.int (2 : Int32)), .val (.double w8), .second, .val (.ref a121), .val (.ref a135), .val (.int (1 : Int32)), .val (.int (1 : Int32)), .val (.int (1 : Int32)), .val (.double w5), .second, .val (.int (0 : Int32)), .val (.int (2 : Int32))]) X417 hx 493 (hb hby d3_491) rfl rfl ?_
                                                      refine g_aloadN X417 hx 494 (hb hby d3_493) rfl rfl rfl ?_
                                                      refine g_getF X417 hx hZ hown (hw _ (List.mem_of_getElem? (i := 12) rfl)) Via.refl e417 F420 497 (hb hby d3_494) rfl ?_
                                                      intro T436 X436 e436
                                                      refine g_iload X436 hx 499 (hb hby d3_497) rfl rfl ?_
                                                      refine g_aloadN X436 hx 500 (hb hby d3_499) rfl rfl rfl ?_
                                                      refine g_getF X436 hx hZ hown (hw _ (List.mem_of_getElem? (i := 9) rfl)) Via.refl e436 F419 503 (hb hby d3_500) rfl ?_
                                                      intro T437 X437 e437
                                                      refine g_imulC X437 hx (3 : Int32) (by decide) 504 (hb hby d3_503) rfl ?_
                                                      refine g_iload X437 hx 506 (hb hby d3_504) rfl rfl ?_
                                                      refine g_iaddC X437 hx (5 : Int32) (by decide) 507 (hb hby d3_506) rfl ?_
                                                      refine g_dup2 X437 hx 508 (hb hby d3_507) rfl rfl rfl ?_
                                                      refine g_daload X437 hx hZ e437 F422 (by decide) (by decide) (by rw [show ((5 : Int32) : Int32).toNatClampNeg = 5 by decide] <;> rfl) 509 (hb hby d3_508) rfl ?_
                                                      refine g_dload X437 hx 511 (hb hby d3_509) rfl rfl ?_
                                                      refine g_aloadN X437 hx 512 (hb hby d3_511) rfl rfl rfl ?_
                                                      refine g_getF X437 hx hZ hown (hw _ (List.mem_of_getElem? (i := 12) rfl)) Via.refl e437 F420 515 (hb hby d3_512) rfl ?_
                                                      intro T438 X438 e438
                                                      refine g_iload X438 hx 517 (hb hby d3_515) rfl rfl ?_
                                                      refine g_aloadN X438 hx 518 (hb hby d3_517) rfl rfl rfl ?_
                                                      refine g_getF X438 hx hZ hown (hw _ (List.mem_of_getElem? (i := 9) rfl)) Via.refl e438 F419 521 (hb hby d3_518) rfl ?_
                                                      intro T439 X439 e439
                                                      refine g_imulC X439 hx (6 : Int32) (by decide) 522 (hb hby d3_521) rfl ?_
                                                      refine g_iload X439 hx 524 (hb hby d3_522) rfl rfl ?_
                                                      refine g_iaddC X439 hx (8 : Int32) (by decide) 525 (hb hby d3_524) rfl ?_
                                                      refine g_daload X439 hx hZ e439 F422 (by decide) (by decide) (by rw [show ((8 : Int32) : Int32).toNatClampNeg = 8 by decide] <;> rfl) 526 (hb hby d3_525) rfl ?_
                                                      have D440 : Jvm.FP.Core.DInt ib (FP.dmul w5 (FP.ddiv x8 w8)) := own_as (by omega) (Jvm.FP.Core.dmul_int hw5 D208 (by omega))
                                                      refine g_dmul X439 hx 527 (hb hby d3_526) rfl (own_dnn D440) ?_
                                                      have D441 : Jvm.FP.Core.DInt (-ib) (FP.dsub x5 (FP.dmul w5 (FP.ddiv x8 w8))) := own_as (by omega) (Jvm.FP.Core.dsub_int hx5 D440 (by omega))
                                                      refine g_dsub X439 hx 528 (hb hby d3_527) rfl (own_dnn D441) ?_
                                                      refine g_dastore X439 hx hZ e439 F422 5 (by decide) (by decide) (by show 5 < 9; decide) 529 (hb hby d3_528) rfl ?_
                                                      intro T442 h442 X442 e442 W442 V442
                                                      have F443 := F418.wr W442
                                                      have F444 := F419.other W442 (Or.inl n2)
                                                      have F445 := F420.other W442 (Or.inl n2)
                                                      have F446 := V417'.other W442 n3
                                                      have F448 := F423.wr W442
                                                      have F449 := F424.other W442 (Ne.symm ne124)
                                                      have F450 := F425.wr W442
                                                      have F451 := F426.other W442 (Ne.symm ne138)
                                                      have K452 := K427.wr W442 (Or.inl (List.mem_of_getElem? (i := 0) rfl))
                                                      have N453 := Fr.snoc X442 N428 gv
                                                      have Z454 : n0 ≤ h442.size := by rw [W442.size]; exact Z429
                                                      have V442' : Arv Z h442 vi kv .double (9 : Int32) [(.double x0), (.double x1), (.double (FP.dsub x2 (FP.dmul w2 (FP.ddiv x8 w8)))), (.double x3), (.double x4), (.double (FP.dsub x5 (FP.dmul w5 (FP.ddiv x8 w8)))), (.double x6), (.double x7), (.double (FP.ddiv x8 w8))] (.double 0) := V442
                                                      refine g_iincC X442 hx (w := (1 : Int32)) (1 : Int32) (by decide) (l' := #[.val (.ref ob), .val (.ref cs), .val (.ref vs_), .val (.ref wk), .val (.int (2 : Int32)), .val (.int (2 : Int32)), .val (.double w8), .second, .val (.ref a121), .val (.ref a135), .val (.int (1 : Int32)), .val (.int (1 : Int32)), .val (.int (1 : Int32)), .val (.double w5), .second, .val (.int (1 : Int32)), .val (.int (2 : Int32))]) 532 (hb hby d3_529) rfl rfl (by decide) rfl ?_
                                                      refine g_goto X442 hx 479 (hb hby d3_532) (by decide) (by decide) ?_
                                                      refine g_iload X442 hx 481 (hb hby d3_479) rfl rfl ?_
                                                      refine g_iload X442 hx 483 (hb hby d3_481) rfl rfl ?_
                                                      have ll456 : ((1 : Int32) : Int32).toInt = 1 := by decide
                                                      have ll457 : ((1 : Int32) : Int32).toInt = 1 := by decide
                                                      refine g_ic_ge X442 hx 535 486 (hb hby d3_483) (by decide) (by decide) rfl (fun c455 => ?_) (fun c455 => ?_)
                                                      · skip
                                                        refine g_iincC X442 hx (w := (1 : Int32)) (2 : Int32) (by decide) (l' := #[.val (.ref ob), .val (.ref cs), .val (.ref vs_), .val (.ref wk), .val (.int (2 : Int32)), .val (.int (2 : Int32)), .val (.double w8), .second, .val (.ref a121), .val (.ref a135), .val (.int (1 : Int32)), .val (.int (1 : Int32)), .val (.int (2 : Int32)), .val (.double w5), .second, .val (.int (1 : Int32)), .val (.int (2 : Int32))]) 538 (hb hby d3_535) rfl rfl (by decide) rfl ?_
                                                        refine g_goto X442 hx 386 (hb hby d3_538) (by decide) (by decide) ?_
                                                        refine g_iload X442 hx 388 (hb hby d3_386) rfl rfl ?_
                                                        refine g_aloadN X442 hx 389 (hb hby d3_388) rfl rfl rfl ?_
                                                        refine g_getF X442 hx hZ hown (hw _ (List.mem_of_getElem? (i := 9) rfl)) Via.refl e442 F444 392 (hb hby d3_389) rfl ?_
                                                        intro T458 X458 e458
                                                        have ll460 : ((3 : Int32) : Int32).toInt = 3 := by decide
                                                        have ll461 : ((2 : Int32) : Int32).toInt = 2 := by decide
                                                        refine g_ic_ge X458 hx 541 395 (hb hby d3_392) (by decide) (by decide) rfl (fun c459 => ?_) (fun c459 => ?_)
                                                        · skip
                                                          exfalso; revert c459; decide
                                                        · skip
                                                          refine g_aloadN X458 hx 396 (hb hby d3_395) rfl rfl rfl ?_
                                                          refine g_iload X458 hx 398 (hb hby d3_396) rfl rfl ?_
                                                          refine g_aloadN X458 hx 399 (hb hby d3_398) rfl rfl rfl ?_
                                                          refine g_getF X458 hx hZ hown (hw _ (List.mem_of_getElem? (i := 9) rfl)) Via.refl e458 F444 402 (hb hby d3_399) rfl ?_
                                                          intro T462 X462 e462
                                                          refine g_imulC X462 hx (6 : Int32) (by decide) 403 (hb hby d3_402) rfl ?_
                                                          refine g_iload X462 hx 405 (hb hby d3_403) rfl rfl ?_
                                                          refine g_iaddC X462 hx (8 : Int32) (by decide) 406 (hb hby d3_405) rfl ?_
                                                          refine g_daload X462 hx hZ e462 F446 (by decide) (by decide) (by rw [show ((8 : Int32) : Int32).toNatClampNeg = 8 by decide] <;> rfl) 407 (hb hby d3_406) rfl ?_
                                                          refine g_dstore (l' := #[.val (.ref ob), .val (.ref cs), .val (.ref vs_), .val (.ref wk), .val (.int (2 : Int32)), .val (.int (2 : Int32)), .val (.double w8), .second, .val (.ref a121), .val (.ref a135), .val (.int (1 : Int32)), .val (.int (1 : Int32)), .val (.int (2 : Int32)), .val (.double (FP.ddiv w8 w8)), .second, .val (.int (1 : Int32)), .val (.int (2 : Int32))]) X462 hx 409 (hb hby d3_407) rfl rfl ?_
                                                          refine g_iload X462 hx 411 (hb hby d3_409) rfl rfl ?_
                                                          refine g_iload X462 hx 413 (hb hby d3_411) rfl rfl ?_
                                                          have ll464 : ((2 : Int32) : Int32).toInt = 2 := by decide
                                                          have ll465 : ((2 : Int32) : Int32).toInt = 2 := by decide
                                                          refine g_ic_eq X462 hx 535 416 (hb hby d3_413) (by decide) (by decide) rfl (fun c463 => ?_) (fun c463 => ?_)
                                                          · skip
                                                            refine g_iincC X462 hx (w := (1 : Int32)) (3 : Int32) (by decide) (l' := #[.val (.ref ob), .val (.ref cs), .val (.ref vs_), .val (.ref wk), .val (.int (2 : Int32)), .val (.int (2 : Int32)), .val (.double w8), .second, .val (.ref a121), .val (.ref a135), .val (.int (1 : Int32)), .val (.int (1 : Int32)), .val (.int (3 : Int32)), .val (.double (FP.ddiv w8 w8)), .second, .val (.int (1 : Int32)), .val (.int (2 : Int32))]) 538 (hb hby d3_535) rfl rfl (by decide) rfl ?_
                                                            refine g_goto X462 hx 386 (hb hby d3_538) (by decide) (by decide) ?_
                                                            refine g_iload X462 hx 388 (hb hby d3_386) rfl rfl ?_
                                                            refine g_aloadN X462 hx 389 (hb hby d3_388) rfl rfl rfl ?_
                                                            refine g_getF X462 hx hZ hown (hw _ (List.mem_of_getElem? (i := 9) rfl)) Via.refl e462 F444 392 (hb hby d3_389) rfl ?_
                                                            intro T466 X466 e466
                                                            have ll468 : ((3 : Int32) : Int32).toInt = 3 := by decide
                                                            have ll469 : ((3 : Int32) : Int32).toInt = 3 := by decide
                                                            refine g_ic_ge X466 hx 541 395 (hb hby d3_392) (by decide) (by decide) rfl (fun c467 => ?_) (fun c467 => ?_)
                                                            · skip
                                                              refine g_iincC X466 hx (w := (1 : Int32)) (3 : Int32) (by decide) (l' := #[.val (.ref ob), .val (.ref cs), .val (.ref vs_), .val (.ref wk), .val (.int (3 : Int32)), .val (.int (2 : Int32)), .val (.double w8), .second, .val (.ref a121), .val (.ref a135), .val (.int (1 : Int32)), .val (.int (1 : Int32)), .val (.int (3 : Int32)), .val (.double (FP.ddiv w8 w8)), .second, .val (.int (1 : Int32)), .val (.int (2 : Int32))]) 544 (hb hby d3_541) rfl rfl (by decide) rfl ?_
                                                              refine g_goto X466 hx 118 (hb hby d3_544) (by decide) (by decide) ?_
                                                              refine g_iload X466 hx 120 (hb hby d3_118) rfl rfl ?_
                                                              refine g_aloadN X466 hx 121 (hb hby d3_120) rfl rfl rfl ?_
                                                              refine g_getF X466 hx hZ hown (hw _ (List.mem_of_getElem? (i := 9) rfl)) Via.refl e466 F444 124 (hb hby d3_121) rfl ?_
                                                              intro T470 X470 e470
                                                              have ll472 : ((3 : Int32) : Int32).toInt = 3 := by decide
                                                              have ll473 : ((3 : Int32) : Int32).toInt = 3 := by decide
                                                              refine g_ic_ge X470 hx 547 127 (hb hby d3_124) (by decide) (by decide) rfl (fun c471 => ?_) (fun c471 => ?_)
                                                              · skip
                                                                refine g_iconst X470 hx (1 : Int32) 548 (hb hby d3_547) rfl (by decide) ?_
                                                                exact g_retZ X470 hx hlk hret (hb hby d3_548) (by decide) (by decide) e470 ⟨rfl, N453, K452, _, _, _, _, _, _, _, _, _, V442', hx0, hx1, (own_as (by first | omega | omega) D368), hx3, hx4, D441, hx6, hx7, D208⟩
                                                              · skip
                                                                exfalso; revert c471; decide
                                                            · skip
                                                              exfalso; revert c467; decide
                                                          · skip
                                                            exfalso; revert c463; decide
                                                      · skip
                                                        exfalso; revert c455; decide
                                                  · skip
                                                    exfalso; revert c430; decide
                                        · skip
                                          exfalso; revert c382; decide
                                    · skip
                                      exfalso; revert c357; decide
                          · skip
                            exfalso; revert c236; decide
                  · skip
                    exfalso; omega
                · skip
                  exfalso; omega
            · skip
              exfalso; omega
          · skip
            exfalso; omega
      · skip
        exfalso; omega
    · skip
      exfalso; revert c108; decide
set_option maxRecDepth 65536 in
set_option maxHeartbeats 40000000 in
theorem rmV_1 {p : Program} {l : Launch} {e : Env} {s : State} {m : MethodId} {args : Array Value} {below : List Frame} {meth : Method} {c : Code} {T0 Z : State} {a0 : Array Value} {h0 : Heap} {n0 : Nat} {ob cs vs_ wk vi : Addr} {kw kv : ClassId} {ia ib : Int} {hE : Heap} {L0 : List Loc} {u5 u10 u11 u12 : Int32} {u6 u13 : UInt64} {u8 u9 : Addr} {o15 o16 : Option Int32} {w0 w1 w2 w3 w4 w5 w6 w7 w8 x0 x1 x2 x3 x4 x5 x6 x7 x8 : UInt64} (X0 : Stand p l e ({ frames := 1, cells := 7, slots := 27, locals := 40 } : Room) s m args below meth c T0 L0 3 15) (hx : p.tables.exec = Jvm.exec) (hby : c.code = prog_33_method_2_code) (hml : c.maxLocals = 17) (hret : meth.sig.returnType = (some .boolean)) (hlk : meth.locks = false) (hown : s.vm.findClass "com/example/tracefold/tracefold/mining/DenseInverse" = some m.cls) (hZ : Z.Warmed39 s.vm) (hw : ∀ d ∈ tables_1, d.before a0 Z = true) (e0 : T0.heap = h0) (Z0 : n0 ≤ h0.size) (N0 : Fr n0 L0) (ba : -128 ≤ ia ∧ ia ≤ 127) (bb : -128 ≤ ib ∧ ib ≤ 127) (bab : -20000 ≤ ia * ib ∧ ia * ib ≤ 20000) (Eo : Exa Z h0 ob "com/example/tracefold/tracefold/mining/DenseInverse") (Fn : Fld Z h0 ob "com/example/tracefold/tracefold/mining/DenseInverse" "n" "I" (.int 3)) (Fv : Fld Z h0 ob "com/example/tracefold/tracefold/mining/DenseInverse" "inverse" "[D" (.ref vi)) (Vw : Arv Z h0 wk kw .double 9 [(.double w0), (.double w1), (.double w2), (.double w3), (.double w4), (.double w5), (.double w6), (.double w7), (.double w8)] (.double 0)) (Vv : Arv Z h0 vi kv .double 9 [(.double x0), (.double x1), (.double x2), (.double x3), (.double x4), (.double x5), (.double x6), (.double x7), (.double x8)] (.double 0)) (KE : Keep hE h0 [vi]) (gw : n0 ≤ wk) (gv : n0 ≤ vi) (sw : hE.size ≤ wk) (n1 : ob ≠ wk) (n2 : ob ≠ vi) (n3 : wk ≠ vi) (hw0 : Jvm.FP.Core.DInt 1 w0) (hw1 : Jvm.FP.Core.DInt ia w1) (hw2 : Jvm.FP.Core.DInt 0 w2) (hw3 : Jvm.FP.Core.DInt 0 w3) (hw4 : Jvm.FP.Core.DInt 1 w4) (hw5 : Jvm.FP.Core.DInt ib w5) (hw6 : Jvm.FP.Core.DInt 0 w6) (hw7 : Jvm.FP.Core.DInt 0 w7) (hw8 : Jvm.FP.Core.DInt 1 w8) (hx0 : Jvm.FP.Core.DInt 1 x0) (hx1 : Jvm.FP.Core.DInt 0 x1) (hx2 : Jvm.FP.Core.DInt 0 x2) (hx3 : Jvm.FP.Core.DInt 0 x3) (hx4 : Jvm.FP.Core.DInt 1 x4) (hx5 : Jvm.FP.Core.DInt 0 x5) (hx6 : Jvm.FP.Core.DInt 0 x6) (hx7 : Jvm.FP.Core.DInt 0 x7) (hx8 : Jvm.FP.Core.DInt 1 x8) :
    Go p e below (EndQ s (Q_rmV Z vi kv ia ib n0 hE) 7 27) T0 (mkF m 118 #[.val (.ref ob), .val (.ref cs), .val (.ref vs_), .val (.ref wk), .val (.int (1 : Int32)), .val (.int u5), .val (.double u6), .second, .val (.ref u8), .val (.ref u9), .val (.int u10), .val (.int u11), .val (.int u12), .val (.double u13), .second, (own_sl o15), (own_sl o16)] []) := by
  refine g_iload X0 hx 120 (hb hby d3_118) rfl rfl ?_
  refine g_aloadN X0 hx 121 (hb hby d3_120) rfl rfl rfl ?_
  refine g_getF X0 hx hZ hown (hw _ (List.mem_of_getElem? (i := 9) rfl)) Via.refl e0 Fn 124 (hb hby d3_121) rfl ?_
  intro T474 X474 e474
  have ll476 : ((3 : Int32) : Int32).toInt = 3 := by decide
  have ll477 : ((1 : Int32) : Int32).toInt = 1 := by decide
  refine g_ic_ge X474 hx 547 127 (hb hby d3_124) (by decide) (by decide) rfl (fun c475 => ?_) (fun c475 => ?_)
  · skip
    exfalso; revert c475; decide
  · skip
    refine g_iload X474 hx 129 (hb hby d3_127) rfl rfl ?_
    refine g_istore (l' := #[.val (.ref ob), .val (.ref cs), .val (.ref vs_), .val (.ref wk), .val (.int (1 : Int32)), .val (.int (1 : Int32)), .val (.double u6), .second, .val (.ref u8), .val (.ref u9), .val (.int u10), .val (.int u11), .val (.int u12), .val (.double u13), .second, (own_sl o15), (own_sl o16)]) X474 hx 131 (hb hby d3_129) rfl rfl ?_
    refine g_iload X474 hx 133 (hb hby d3_131) rfl rfl ?_
    refine g_iconst X474 hx (1 : Int32) 134 (hb hby d3_133) rfl (by decide) ?_
    refine g_iaddC X474 hx (2 : Int32) (by decide) 135 (hb hby d3_134) rfl ?_
    refine g_istore (l' := #[.val (.ref ob), .val (.ref cs), .val (.ref vs_), .val (.ref wk), .val (.int (1 : Int32)), .val (.int (1 : Int32)), .val (.int (2 : Int32)), .unset, .val (.ref u8), .val (.ref u9), .val (.int u10), .val (.int u11), .val (.int u12), .val (.double u13), .second, (own_sl o15), (own_sl o16)]) X474 hx 137 (hb hby d3_135) rfl rfl ?_
    refine g_iload X474 hx 139 (hb hby d3_137) rfl rfl ?_
    refine g_aloadN X474 hx 140 (hb hby d3_139) rfl rfl rfl ?_
    refine g_getF X474 hx hZ hown (hw _ (List.mem_of_getElem? (i := 9) rfl)) Via.refl e474 Fn 143 (hb hby d3_140) rfl ?_
    intro T478 X478 e478
    have ll480 : ((3 : Int32) : Int32).toInt = 3 := by decide
    have ll481 : ((2 : Int32) : Int32).toInt = 2 := by decide
    refine g_ic_ge X478 hx 190 146 (hb hby d3_143) (by decide) (by decide) rfl (fun c479 => ?_) (fun c479 => ?_)
    · skip
      exfalso; revert c479; decide
    · skip
      refine g_aloadN X478 hx 147 (hb hby d3_146) rfl rfl rfl ?_
      refine g_iload X478 hx 149 (hb hby d3_147) rfl rfl ?_
      refine g_aloadN X478 hx 150 (hb hby d3_149) rfl rfl rfl ?_
      refine g_getF X478 hx hZ hown (hw _ (List.mem_of_getElem? (i := 9) rfl)) Via.refl e478 Fn 153 (hb hby d3_150) rfl ?_
      intro T482 X482 e482
      refine g_imulC X482 hx (6 : Int32) (by decide) 154 (hb hby d3_153) rfl ?_
      refine g_iload X482 hx 156 (hb hby d3_154) rfl rfl ?_
      refine g_iaddC X482 hx (7 : Int32) (by decide) 157 (hb hby d3_156) rfl ?_
      refine g_daload X482 hx hZ e482 Vw (by decide) (by decide) (by rw [show ((7 : Int32) : Int32).toNatClampNeg = 7 by decide] <;> rfl) 158 (hb hby d3_157) rfl ?_
      refine g_absD X482 hx hZ hown (hw _ (List.mem_of_getElem? (i := 30) rfl)) (hw _ (List.mem_of_getElem? (i := 31) rfl)) (hw _ (List.mem_of_getElem? (i := 32) rfl)) (hw _ (List.mem_of_getElem? (i := 33) rfl)) rfl e482 (own_dnn hw7) 0 161 (hb hby d3_158) rfl (by rw [hml]; rfl) (Nat.le_refl _) (by decide) (by decide) (by decide) (by decide) own_pd4 ?_
      intro T483 X483 e483
      refine g_aloadN X483 hx 162 (hb hby d3_161) rfl rfl rfl ?_
      refine g_iload X483 hx 164 (hb hby d3_162) rfl rfl ?_
      refine g_aloadN X483 hx 165 (hb hby d3_164) rfl rfl rfl ?_
      refine g_getF X483 hx hZ hown (hw _ (List.mem_of_getElem? (i := 9) rfl)) Via.refl e483 Fn 168 (hb hby d3_165) rfl ?_
      intro T484 X484 e484
      refine g_imulC X484 hx (3 : Int32) (by decide) 169 (hb hby d3_168) rfl ?_
      refine g_iload X484 hx 171 (hb hby d3_169) rfl rfl ?_
      refine g_iaddC X484 hx (4 : Int32) (by decide) 172 (hb hby d3_171) rfl ?_
      refine g_daload X484 hx hZ e484 Vw (by decide) (by decide) (by rw [show ((4 : Int32) : Int32).toNatClampNeg = 4 by decide] <;> rfl) 173 (hb hby d3_172) rfl ?_
      refine g_absD X484 hx hZ hown (hw _ (List.mem_of_getElem? (i := 30) rfl)) (hw _ (List.mem_of_getElem? (i := 31) rfl)) (hw _ (List.mem_of_getElem? (i := 32) rfl)) (hw _ (List.mem_of_getElem? (i := 33) rfl)) rfl e484 (own_dnn hw4) 2 176 (hb hby d3_173) rfl (by rw [hml]; rfl) (Nat.le_refl _) (by decide) (by decide) (by decide) (by decide) own_pd4 ?_
      intro T485 X485 e485
      refine g_dc_le X485 hx 177 184 180 (hb hby d3_176) rfl (hb hby d3_177) (by decide) (by decide) rfl (Jvm.FP.Core.dcmp_int (own_abs0 hw7) (own_abs1 hw4)) (fun c486 => ?_) (fun c486 => ?_)
      · skip
        refine g_iincC X485 hx (w := (1 : Int32)) (3 : Int32) (by decide) (l' := #[.val (.ref ob), .val (.ref cs), .val (.ref vs_), .val (.ref wk), .val (.int (1 : Int32)), .val (.int (1 : Int32)), .val (.int (3 : Int32)), .unset, .val (.ref u8), .val (.ref u9), .val (.int u10), .val (.int u11), .val (.int u12), .val (.double u13), .second, (own_sl o15), (own_sl o16)]) 187 (hb hby d3_184) rfl rfl (by decide) rfl ?_
        refine g_goto X485 hx 137 (hb hby d3_187) (by decide) (by decide) ?_
        refine g_iload X485 hx 139 (hb hby d3_137) rfl rfl ?_
        refine g_aloadN X485 hx 140 (hb hby d3_139) rfl rfl rfl ?_
        refine g_getF X485 hx hZ hown (hw _ (List.mem_of_getElem? (i := 9) rfl)) Via.refl e485 Fn 143 (hb hby d3_140) rfl ?_
        intro T487 X487 e487
        have ll489 : ((3 : Int32) : Int32).toInt = 3 := by decide
        have ll490 : ((3 : Int32) : Int32).toInt = 3 := by decide
        refine g_ic_ge X487 hx 190 146 (hb hby d3_143) (by decide) (by decide) rfl (fun c488 => ?_) (fun c488 => ?_)
        · skip
          refine g_aloadN X487 hx 191 (hb hby d3_190) rfl rfl rfl ?_
          refine g_iload X487 hx 193 (hb hby d3_191) rfl rfl ?_
          refine g_aloadN X487 hx 194 (hb hby d3_193) rfl rfl rfl ?_
          refine g_getF X487 hx hZ hown (hw _ (List.mem_of_getElem? (i := 9) rfl)) Via.refl e487 Fn 197 (hb hby d3_194) rfl ?_
          intro T491 X491 e491
          refine g_imulC X491 hx (3 : Int32) (by decide) 198 (hb hby d3_197) rfl ?_
          refine g_iload X491 hx 200 (hb hby d3_198) rfl rfl ?_
          refine g_iaddC X491 hx (4 : Int32) (by decide) 201 (hb hby d3_200) rfl ?_
          refine g_daload X491 hx hZ e491 Vw (by decide) (by decide) (by rw [show ((4 : Int32) : Int32).toNatClampNeg = 4 by decide] <;> rfl) 202 (hb hby d3_201) rfl ?_
          refine g_absD X491 hx hZ hown (hw _ (List.mem_of_getElem? (i := 30) rfl)) (hw _ (List.mem_of_getElem? (i := 31) rfl)) (hw _ (List.mem_of_getElem? (i := 32) rfl)) (hw _ (List.mem_of_getElem? (i := 33) rfl)) rfl e491 (own_dnn hw4) 0 205 (hb hby d3_202) rfl (by rw [hml]; rfl) (Nat.le_refl _) (by decide) (by decide) (by decide) (by decide) own_pd4 ?_
          intro T492 X492 e492
          refine g_ldc2D X492 hx 208 hZ hown (hw _ (List.mem_of_getElem? (i := 34) rfl)) (hb hby d3_205) rfl ?_
          refine g_dc_ge X492 hx 209 214 212 (hb hby d3_208) rfl (hb hby d3_209) (by decide) (by decide) rfl (own_piv (own_abs1 hw4)) (fun c493 => ?_) (fun c493 => ?_)
          · skip
            refine g_aloadN X492 hx 215 (hb hby d3_214) rfl rfl rfl ?_
            refine g_aloadN X492 hx 216 (hb hby d3_215) rfl rfl rfl ?_
            refine g_iload X492 hx 218 (hb hby d3_216) rfl rfl ?_
            refine g_iload X492 hx 220 (hb hby d3_218) rfl rfl ?_
            refine g_priv X492 hx hZ (C := "com/example/tracefold/tracefold/mining/DenseInverse") (z := ({ cls := "com/example/tracefold/tracefold/mining/DenseInverse", name := "invert", desc := "([[I[[D)Z" } : Jvm.MethodName)) hown (hw _ (List.mem_of_getElem? (i := 35) rfl)) (hw _ (List.mem_of_getElem? (i := 37) rfl)) (hw _ (List.mem_of_getElem? (i := 24) rfl)) rfl (hw _ (List.mem_of_getElem? (i := 36) rfl)) (hw _ (List.mem_of_getElem? (i := 2) rfl)) (hw _ (List.mem_of_getElem? (i := 38) rfl)) (by decide) (rmW l Z a0 hw ob wk (1 : Int32) h0 n0 Z0) e492 (b := ob) Eo (argsL := [(.ref wk), (.int (1 : Int32)), (.int (1 : Int32))]) (rest := []) rfl rfl 0 223 rfl (by rw [hml]; rfl) (lenOf own_pd5 rfl) (Nat.le_refl _) (by decide) (by decide) (by decide) (by decide) (hb hby d3_220) ?_
            intro v494 T494 L494 X494 hQ494
            obtain ⟨rfl, N494, q494⟩ := hQ494
            have N495 := Fr.app N0 N494
            show Go p e below _ T494 (mkF m 223 #[.val (.ref ob), .val (.ref cs), .val (.ref vs_), .val (.ref wk), .val (.int (1 : Int32)), .val (.int (1 : Int32)), .val (.int (3 : Int32)), .unset, .val (.ref u8), .val (.ref u9), .val (.int u10), .val (.int u11), .val (.int u12), .val (.double u13), .second, (own_sl o15), (own_sl o16)] [])
            refine g_aloadN X494 hx 224 (hb hby d3_223) rfl rfl rfl ?_
            refine g_aloadN X494 hx 225 (hb hby d3_224) rfl rfl rfl ?_
            refine g_getF X494 hx hZ hown (hw _ (List.mem_of_getElem? (i := 12) rfl)) Via.refl q494 Fv 228 (hb hby d3_225) rfl ?_
            intro T496 X496 e496
            refine g_iload X496 hx 230 (hb hby d3_228) rfl rfl ?_
            refine g_iload X496 hx 232 (hb hby d3_230) rfl rfl ?_
            refine g_priv X496 hx hZ (C := "com/example/tracefold/tracefold/mining/DenseInverse") (z := ({ cls := "com/example/tracefold/tracefold/mining/DenseInverse", name := "invert", desc := "([[I[[D)Z" } : Jvm.MethodName)) hown (hw _ (List.mem_of_getElem? (i := 35) rfl)) (hw _ (List.mem_of_getElem? (i := 37) rfl)) (hw _ (List.mem_of_getElem? (i := 24) rfl)) rfl (hw _ (List.mem_of_getElem? (i := 36) rfl)) (hw _ (List.mem_of_getElem? (i := 2) rfl)) (hw _ (List.mem_of_getElem? (i := 38) rfl)) (by decide) (rmW l Z a0 hw ob vi (1 : Int32) h0 n0 Z0) e496 (b := ob) Eo (argsL := [(.ref vi), (.int (1 : Int32)), (.int (1 : Int32))]) (rest := []) rfl rfl 0 235 rfl (by rw [hml]; rfl) (lenOf own_pd5 rfl) (Nat.le_refl _) (by decide) (by decide) (by decide) (by decide) (hb hby d3_232) ?_
            intro v497 T497 L497 X497 hQ497
            obtain ⟨rfl, N497, q497⟩ := hQ497
            have N498 := Fr.app N495 N497
            show Go p e below _ T497 (mkF m 235 #[.val (.ref ob), .val (.ref cs), .val (.ref vs_), .val (.ref wk), .val (.int (1 : Int32)), .val (.int (1 : Int32)), .val (.int (3 : Int32)), .unset, .val (.ref u8), .val (.ref u9), .val (.int u10), .val (.int u11), .val (.int u12), .val (.double u13), .second, (own_sl o15), (own_sl o16)] [])
            refine g_aloadN X497 hx 236 (hb hby d3_235) rfl rfl rfl ?_
            refine g_iload X497 hx 238 (hb hby d3_236) rfl rfl ?_
            refine g_aloadN X497 hx 239 (hb hby d3_238) rfl rfl rfl ?_
            refine g_getF X497 hx hZ hown (hw _ (List.mem_of_getElem? (i := 9) rfl)) Via.refl q497 Fn 242 (hb hby d3_239) rfl ?_
            intro T499 X499 e499
            refine g_imulC X499 hx (3 : Int32) (by decide) 243 (hb hby d3_242) rfl ?_
            refine g_iload X499 hx 245 (hb hby d3_243) rfl rfl ?_
            refine g_iaddC X499 hx (4 : Int32) (by decide) 246 (hb hby d3_245) rfl ?_
            refine g_daload X499 hx hZ e499 Vw (by decide) (by decide) (by rw [show ((4 : Int32) : Int32).toNatClampNeg = 4 by decide] <;> rfl) 247 (hb hby d3_246) rfl ?_
            refine g_dstore (l' := #[.val (.ref ob), .val (.ref cs), .val (.ref vs_), .val (.ref wk), .val (.int (1 : Int32)), .val (.int (1 : Int32)), .val (.double w4), .second, .val (.ref u8), .val (.ref u9), .val (.int u10), .val (.int u11), .val (.int u12), .val (.double u13), .second, (own_sl o15), (own_sl o16)]) X499 hx 249 (hb hby d3_247) rfl rfl ?_
            refine g_aloadN X499 hx 250 (hb hby d3_249) rfl rfl rfl ?_
            refine g_getF X499 hx hZ hown (hw _ (List.mem_of_getElem? (i := 9) rfl)) Via.refl e499 Fn 253 (hb hby d3_250) rfl ?_
            intro T500 X500 e500
            refine g_newP X500 hx hZ (aty := .int) (hw _ (List.mem_of_getElem? (i := 16) rfl)) e500 (by decide) (cap := 3) (by decide) (by decide) 255 (hb hby d3_253) rfl (by decide) (by decide) (ad := "[I") (by decide) ?_
            intro T501 h501 k501 a501 g501 X501 e501 E501 V501 A501
            have ne502 : ob ≠ a501 := Nat.ne_of_lt (by rw [g501]; exact Eo.lt)
            have ne503 : wk ≠ a501 := Nat.ne_of_lt (by rw [g501]; exact Vw.lt)
            have ne504 : vi ≠ a501 := Nat.ne_of_lt (by rw [g501]; exact Vv.lt)
            have ge505 : n0 ≤ a501 := by rw [g501]; exact Z0
            have sz506 : hE.size ≤ a501 := by rw [g501]; exact KE.1
            have F507 := Eo.ext E501
            have F508 := Fn.ext E501
            have F509 := Fv.ext E501
            have F510 := Vw.ext E501
            have F511 := Vv.ext E501
            have K512 := KE.ext E501
            have Z513 : n0 ≤ h501.size := Nat.le_trans Z0 E501.1
            have V501' : Arv Z h501 a501 k501 .int (3 : Int32) [(.int (0 : Int32)), (.int (0 : Int32)), (.int (0 : Int32))] (.int (0 : Int32)) := V501.pad (pad_rep [] (.int (0 : Int32)) 3)
            refine g_astore (l' := #[.val (.ref ob), .val (.ref cs), .val (.ref vs_), .val (.ref wk), .val (.int (1 : Int32)), .val (.int (1 : Int32)), .val (.double w4), .second, .val (.ref a501), .val (.ref u9), .val (.int u10), .val (.int u11), .val (.int u12), .val (.double u13), .second, (own_sl o15), (own_sl o16)]) X501 hx 257 (hb hby d3_255) rfl rfl rfl ?_
            refine g_aloadN X501 hx 258 (hb hby d3_257) rfl rfl rfl ?_
            refine g_getF X501 hx hZ hown (hw _ (List.mem_of_getElem? (i := 9) rfl)) Via.refl e501 F508 261 (hb hby d3_258) rfl ?_
            intro T514 X514 e514
            refine g_newP X514 hx hZ (aty := .int) (hw _ (List.mem_of_getElem? (i := 16) rfl)) e514 (by decide) (cap := 3) (by decide) (by decide) 263 (hb hby d3_261) rfl (by decide) (by decide) (ad := "[I") (by decide) ?_
            intro T515 h515 k515 a515 g515 X515 e515 E515 V515 A515
            have ne516 : ob ≠ a515 := Nat.ne_of_lt (by rw [g515]; exact F507.lt)
            have ne517 : wk ≠ a515 := Nat.ne_of_lt (by rw [g515]; exact F510.lt)
            have ne518 : vi ≠ a515 := Nat.ne_of_lt (by rw [g515]; exact F511.lt)
            have ne519 : a501 ≠ a515 := Nat.ne_of_lt (by rw [g515]; exact A501.lt)
            have ge520 : n0 ≤ a515 := by rw [g515]; exact Z513
            have sz521 : hE.size ≤ a515 := by rw [g515]; exact K512.1
            have F522 := F507.ext E515
            have F523 := F508.ext E515
            have F524 := F509.ext E515
            have F525 := F510.ext E515
            have F526 := F511.ext E515
            have F527 := A501.ext E515
            have F528 := V501'.ext E515
            have K529 := K512.ext E515
            have Z530 : n0 ≤ h515.size := Nat.le_trans Z513 E515.1
            have V515' : Arv Z h515 a515 k515 .int (3 : Int32) [(.int (0 : Int32)), (.int (0 : Int32)), (.int (0 : Int32))] (.int (0 : Int32)) := V515.pad (pad_rep [] (.int (0 : Int32)) 3)
            refine g_astore (l' := #[.val (.ref ob), .val (.ref cs), .val (.ref vs_), .val (.ref wk), .val (.int (1 : Int32)), .val (.int (1 : Int32)), .val (.double w4), .second, .val (.ref a501), .val (.ref a515), .val (.int u10), .val (.int u11), .val (.int u12), .val (.double u13), .second, (own_sl o15), (own_sl o16)]) X515 hx 265 (hb hby d3_263) rfl rfl rfl ?_
            refine g_iconst X515 hx (0 : Int32) 266 (hb hby d3_265) rfl (by decide) ?_
            refine g_istore (l' := #[.val (.ref ob), .val (.ref cs), .val (.ref vs_), .val (.ref wk), .val (.int (1 : Int32)), .val (.int (1 : Int32)), .val (.double w4), .second, .val (.ref a501), .val (.ref a515), .val (.int (0 : Int32)), .val (.int u11), .val (.int u12), .val (.double u13), .second, (own_sl o15), (own_sl o16)]) X515 hx 268 (hb hby d3_266) rfl rfl ?_
            refine g_iconst X515 hx (0 : Int32) 269 (hb hby d3_268) rfl (by decide) ?_
            refine g_istore (l' := #[.val (.ref ob), .val (.ref cs), .val (.ref vs_), .val (.ref wk), .val (.int (1 : Int32)), .val (.int (1 : Int32)), .val (.double w4), .second, .val (.ref a501), .val (.ref a515), .val (.int (0 : Int32)), .val (.int (0 : Int32)), .val (.int u12), .val (.double u13), .second, (own_sl o15), (own_sl o16)]) X515 hx 271 (hb hby d3_269) rfl rfl ?_
            refine g_iconst X515 hx (0 : Int32) 272 (hb hby d3_271) rfl (by decide) ?_
            refine g_istore (l' := #[.val (.ref ob), .val (.ref cs), .val (.ref vs_), .val (.ref wk), .val (.int (1 : Int32)), .val (.int (1 : Int32)), .val (.double w4), .second, .val (.ref a501), .val (.ref a515), .val (.int (0 : Int32)), .val (.int (0 : Int32)), .val (.int (0 : Int32)), .val (.double u13), .second, (own_sl o15), (own_sl o16)]) X515 hx 274 (hb hby d3_272) rfl rfl ?_
            refine g_iload X515 hx 276 (hb hby d3_274) rfl rfl ?_
            refine g_aloadN X515 hx 277 (hb hby d3_276) rfl rfl rfl ?_
            refine g_getF X515 hx hZ hown (hw _ (List.mem_of_getElem? (i := 9) rfl)) Via.refl e515 F523 280 (hb hby d3_277) rfl ?_
            intro T531 X531 e531
            have ll533 : ((3 : Int32) : Int32).toInt = 3 := by decide
            have ll534 : ((0 : Int32) : Int32).toInt = 0 := by decide
            refine g_ic_ge X531 hx 383 283 (hb hby d3_280) (by decide) (by decide) rfl (fun c532 => ?_) (fun c532 => ?_)
            · skip
              exfalso; revert c532; decide
            · skip
              refine g_aloadN X531 hx 284 (hb hby d3_283) rfl rfl rfl ?_
              refine g_iload X531 hx 286 (hb hby d3_284) rfl rfl ?_
              refine g_aloadN X531 hx 287 (hb hby d3_286) rfl rfl rfl ?_
              refine g_getF X531 hx hZ hown (hw _ (List.mem_of_getElem? (i := 9) rfl)) Via.refl e531 F523 290 (hb hby d3_287) rfl ?_
              intro T535 X535 e535
              refine g_imulC X535 hx (3 : Int32) (by decide) 291 (hb hby d3_290) rfl ?_
              refine g_iload X535 hx 293 (hb hby d3_291) rfl rfl ?_
              refine g_iaddC X535 hx (3 : Int32) (by decide) 294 (hb hby d3_293) rfl ?_
              refine g_daload X535 hx hZ e535 F525 (by decide) (by decide) (by rw [show ((3 : Int32) : Int32).toNatClampNeg = 3 by decide] <;> rfl) 295 (hb hby d3_294) rfl ?_
              refine g_dconst0 X535 hx 296 (hb hby d3_295) rfl ?_
              refine g_dc_eq X535 hx 297 327 300 (hb hby d3_296) rfl (hb hby d3_297) (by decide) (by decide) rfl (Jvm.FP.Core.dcmp_int hw3 own_dzero) (fun c536 => ?_) (fun c536 => ?_)
              · skip
                refine g_aloadN X535 hx 328 (hb hby d3_327) rfl rfl rfl ?_
                refine g_getF X535 hx hZ hown (hw _ (List.mem_of_getElem? (i := 12) rfl)) Via.refl e535 F524 331 (hb hby d3_328) rfl ?_
                intro T537 X537 e537
                refine g_iload X537 hx 333 (hb hby d3_331) rfl rfl ?_
                refine g_aloadN X537 hx 334 (hb hby d3_333) rfl rfl rfl ?_
                refine g_getF X537 hx hZ hown (hw _ (List.mem_of_getElem? (i := 9) rfl)) Via.refl e537 F523 337 (hb hby d3_334) rfl ?_
                intro T538 X538 e538
                refine g_imulC X538 hx (3 : Int32) (by decide) 338 (hb hby d3_337) rfl ?_
                refine g_iload X538 hx 340 (hb hby d3_338) rfl rfl ?_
                refine g_iaddC X538 hx (3 : Int32) (by decide) 341 (hb hby d3_340) rfl ?_
                refine g_daload X538 hx hZ e538 F526 (by decide) (by decide) (by rw [show ((3 : Int32) : Int32).toNatClampNeg = 3 by decide] <;> rfl) 342 (hb hby d3_341) rfl ?_
                refine g_dconst0 X538 hx 343 (hb hby d3_342) rfl ?_
                refine g_dc_eq X538 hx 344 377 347 (hb hby d3_343) rfl (hb hby d3_344) (by decide) (by decide) rfl (Jvm.FP.Core.dcmp_int hx3 own_dzero) (fun c539 => ?_) (fun c539 => ?_)
                · skip
                  refine g_iincC X538 hx (w := (1 : Int32)) (1 : Int32) (by decide) (l' := #[.val (.ref ob), .val (.ref cs), .val (.ref vs_), .val (.ref wk), .val (.int (1 : Int32)), .val (.int (1 : Int32)), .val (.double w4), .second, .val (.ref a501), .val (.ref a515), .val (.int (0 : Int32)), .val (.int (0 : Int32)), .val (.int (1 : Int32)), .val (.double u13), .second, (own_sl o15), (own_sl o16)]) 380 (hb hby d3_377) rfl rfl (by decide) rfl ?_
                  refine g_goto X538 hx 274 (hb hby d3_380) (by decide) (by decide) ?_
                  refine g_iload X538 hx 276 (hb hby d3_274) rfl rfl ?_
                  refine g_aloadN X538 hx 277 (hb hby d3_276) rfl rfl rfl ?_
                  refine g_getF X538 hx hZ hown (hw _ (List.mem_of_getElem? (i := 9) rfl)) Via.refl e538 F523 280 (hb hby d3_277) rfl ?_
                  intro T540 X540 e540
                  have ll542 : ((3 : Int32) : Int32).toInt = 3 := by decide
                  have ll543 : ((1 : Int32) : Int32).toInt = 1 := by decide
                  refine g_ic_ge X540 hx 383 283 (hb hby d3_280) (by decide) (by decide) rfl (fun c541 => ?_) (fun c541 => ?_)
                  · skip
                    exfalso; revert c541; decide
                  · skip
                    refine g_aloadN X540 hx 284 (hb hby d3_283) rfl rfl rfl ?_
                    refine g_iload X540 hx 286 (hb hby d3_284) rfl rfl ?_
                    refine g_aloadN X540 hx 287 (hb hby d3_286) rfl rfl rfl ?_
                    refine g_getF X540 hx hZ hown (hw _ (List.mem_of_getElem? (i := 9) rfl)) Via.refl e540 F523 290 (hb hby d3_287) rfl ?_
                    intro T544 X544 e544
                    refine g_imulC X544 hx (3 : Int32) (by decide) 291 (hb hby d3_290) rfl ?_
                    refine g_iload X544 hx 293 (hb hby d3_291) rfl rfl ?_
                    refine g_iaddC X544 hx (4 : Int32) (by decide) 294 (hb hby d3_293) rfl ?_
                    refine g_daload X544 hx hZ e544 F525 (by decide) (by decide) (by rw [show ((4 : Int32) : Int32).toNatClampNeg = 4 by decide] <;> rfl) 295 (hb hby d3_294) rfl ?_
                    refine g_dconst0 X544 hx 296 (hb hby d3_295) rfl ?_
                    refine g_dc_eq X544 hx 297 327 300 (hb hby d3_296) rfl (hb hby d3_297) (by decide) (by decide) rfl (Jvm.FP.Core.dcmp_int hw4 own_dzero) (fun c545 => ?_) (fun c545 => ?_)
                    · skip
                      exfalso; omega
                    · skip
                      refine g_aloadN X544 hx 301 (hb hby d3_300) rfl rfl rfl ?_
                      refine g_iload X544 hx 303 (hb hby d3_301) rfl rfl ?_
                      refine g_aloadN X544 hx 304 (hb hby d3_303) rfl rfl rfl ?_
                      refine g_getF X544 hx hZ hown (hw _ (List.mem_of_getElem? (i := 9) rfl)) Via.refl e544 F523 307 (hb hby d3_304) rfl ?_
                      intro T546 X546 e546
                      refine g_imulC X546 hx (3 : Int32) (by decide) 308 (hb hby d3_307) rfl ?_
                      refine g_iload X546 hx 310 (hb hby d3_308) rfl rfl ?_
                      refine g_iaddC X546 hx (4 : Int32) (by decide) 311 (hb hby d3_310) rfl ?_
                      refine g_dup2 X546 hx 312 (hb hby d3_311) rfl rfl rfl ?_
                      refine g_daload X546 hx hZ e546 F525 (by decide) (by decide) (by rw [show ((4 : Int32) : Int32).toNatClampNeg = 4 by decide] <;> rfl) 313 (hb hby d3_312) rfl ?_
                      refine g_dload X546 hx 315 (hb hby d3_313) rfl rfl ?_
                      have D547 := own_div1 hw4 hw4 (by omega)
                      refine g_ddiv X546 hx 316 (hb hby d3_315) rfl (own_dnn D547) ?_
                      refine g_dastore X546 hx hZ e546 F525 4 (by decide) (by decide) (by show 4 < 9; decide) 317 (hb hby d3_316) rfl ?_
                      intro T548 h548 X548 e548 W548 V548
                      have F549 := F522.wr W548
                      have F550 := F523.other W548 (Or.inl n1)
                      have F551 := F524.other W548 (Or.inl n1)
                      have F553 := F526.other W548 (Ne.symm n3)
                      have F554 := F527.wr W548
                      have F555 := F528.other W548 (Ne.symm ne503)
                      have F556 := A515.wr W548
                      have F557 := V515'.other W548 (Ne.symm ne517)
                      have K558 := K529.wr W548 (Or.inr sw)
                      have N559 := Fr.snoc X548 N498 gw
                      have Z560 : n0 ≤ h548.size := by rw [W548.size]; exact Z530
                      have V548' : Arv Z h548 wk kw .double (9 : Int32) [(.double w0), (.double w1), (.double w2), (.double w3), (.double (FP.ddiv w4 w4)), (.double w5), (.double w6), (.double w7), (.double w8)] (.double 0) := V548
                      refine g_aload X548 hx 319 (hb hby d3_317) rfl rfl rfl ?_
                      refine g_iload X548 hx 321 (hb hby d3_319) rfl rfl ?_
                      refine g_iincC X548 hx (w := (1 : Int32)) (1 : Int32) (by decide) (l' := #[.val (.ref ob), .val (.ref cs), .val (.ref vs_), .val (.ref wk), .val (.int (1 : Int32)), .val (.int (1 : Int32)), .val (.double w4), .second, .val (.ref a501), .val (.ref a515), .val (.int (1 : Int32)), .val (.int (0 : Int32)), .val (.int (1 : Int32)), .val (.double u13), .second, (own_sl o15), (own_sl o16)]) 324 (hb hby d3_321) rfl rfl (by decide) rfl ?_
                      refine g_iload X548 hx 326 (hb hby d3_324) rfl rfl ?_
                      refine g_iastore X548 hx hZ e548 F555 0 (by decide) (by decide) (by show 0 < 3; decide) 327 (hb hby d3_326) rfl ?_
                      intro T561 h561 X561 e561 W561 V561
                      have F562 := F549.wr W561
                      have F563 := F550.other W561 (Or.inl ne502)
                      have F564 := F551.other W561 (Or.inl ne502)
                      have F565 := V548'.other W561 ne503
                      have F566 := F553.other W561 ne504
                      have F567 := F554.wr W561
                      have F569 := F556.wr W561
                      have F570 := F557.other W561 (Ne.symm ne519)
                      have K571 := K558.wr W561 (Or.inr sz506)
                      have N572 := Fr.snoc X561 N559 ge505
                      have Z573 : n0 ≤ h561.size := by rw [W561.size]; exact Z560
                      have V561' : Arv Z h561 a501 k501 .int (3 : Int32) [(.int (1 : Int32)), (.int (0 : Int32)), (.int (0 : Int32))] (.int (0 : Int32)) := V561
                      refine g_aloadN X561 hx 328 (hb hby d3_327) rfl rfl rfl ?_
                      refine g_getF X561 hx hZ hown (hw _ (List.mem_of_getElem? (i := 12) rfl)) Via.refl e561 F564 331 (hb hby d3_328) rfl ?_
                      intro T574 X574 e574
                      refine g_iload X574 hx 333 (hb hby d3_331) rfl rfl ?_
                      refine g_aloadN X574 hx 334 (hb hby d3_333) rfl rfl rfl ?_
                      refine g_getF X574 hx hZ hown (hw _ (List.mem_of_getElem? (i := 9) rfl)) Via.refl e574 F563 337 (hb hby d3_334) rfl ?_
                      intro T575 X575 e575
                      refine g_imulC X575 hx (3 : Int32) (by decide) 338 (hb hby d3_337) rfl ?_
                      refine g_iload X575 hx 340 (hb hby d3_338) rfl rfl ?_
                      refine g_iaddC X575 hx (4 : Int32) (by decide) 341 (hb hby d3_340) rfl ?_
                      refine g_daload X575 hx hZ e575 F566 (by decide) (by decide) (by rw [show ((4 : Int32) : Int32).toNatClampNeg = 4 by decide] <;> rfl) 342 (hb hby d3_341) rfl ?_
                      refine g_dconst0 X575 hx 343 (hb hby d3_342) rfl ?_
                      refine g_dc_eq X575 hx 344 377 347 (hb hby d3_343) rfl (hb hby d3_344) (by decide) (by decide) rfl (Jvm.FP.Core.dcmp_int hx4 own_dzero) (fun c576 => ?_) (fun c576 => ?_)
                      · skip
                        exfalso; omega
                      · skip
                        refine g_aloadN X575 hx 348 (hb hby d3_347) rfl rfl rfl ?_
                        refine g_getF X575 hx hZ hown (hw _ (List.mem_of_getElem? (i := 12) rfl)) Via.refl e575 F564 351 (hb hby d3_348) rfl ?_
                        intro T577 X577 e577
                        refine g_iload X577 hx 353 (hb hby d3_351) rfl rfl ?_
                        refine g_aloadN X577 hx 354 (hb hby d3_353) rfl rfl rfl ?_
                        refine g_getF X577 hx hZ hown (hw _ (List.mem_of_getElem? (i := 9) rfl)) Via.refl e577 F563 357 (hb hby d3_354) rfl ?_
                        intro T578 X578 e578
                        refine g_imulC X578 hx (3 : Int32) (by decide) 358 (hb hby d3_357) rfl ?_
                        refine g_iload X578 hx 360 (hb hby d3_358) rfl rfl ?_
                        refine g_iaddC X578 hx (4 : Int32) (by decide) 361 (hb hby d3_360) rfl ?_
                        refine g_dup2 X578 hx 362 (hb hby d3_361) rfl rfl rfl ?_
                        refine g_daload X578 hx hZ e578 F566 (by decide) (by decide) (by rw [show ((4 : Int32) : Int32).toNatClampNeg = 4 by decide] <;> rfl) 363 (hb hby d3_362) rfl ?_
                        refine g_dload X578 hx 365 (hb hby d3_363) rfl rfl ?_
                        have D579 := own_div1 hx4 hw4 (by omega)
                        refine g_ddiv X578 hx 366 (hb hby d3_365) rfl (own_dnn D579) ?_
                        refine g_dastore X578 hx hZ e578 F566 4 (by decide) (by decide) (by show 4 < 9; decide) 367 (hb hby d3_366) rfl ?_
                        intro T580 h580 X580 e580 W580 V580
                        have F581 := F562.wr W580
                        have F582 := F563.other W580 (Or.inl n2)
                        have F583 := F564.other W580 (Or.inl n2)
                        have F584 := F565.other W580 n3
                        have F586 := F567.wr W580
                        have F587 := V561'.other W580 (Ne.symm ne504)
                        have F588 := F569.wr W580
                        have F589 := F570.other W580 (Ne.symm ne518)
                        have K590 := K571.wr W580 (Or.inl (List.mem_of_getElem? (i := 0) rfl))
                        have N591 := Fr.snoc X580 N572 gv
                        have Z592 : n0 ≤ h580.size := by rw [W580.size]; exact Z573
                        have V580' : Arv Z h580 vi kv .double (9 : Int32) [(.double x0), (.double x1), (.double x2), (.double x3), (.double (FP.ddiv x4 w4)), (.double x5), (.double x6), (.double x7), (.double x8)] (.double 0) := V580
                        refine g_aload X580 hx 369 (hb hby d3_367) rfl rfl rfl ?_
                        refine g_iload X580 hx 371 (hb hby d3_369) rfl rfl ?_
                        refine g_iincC X580 hx (w := (1 : Int32)) (1 : Int32) (by decide) (l' := #[.val (.ref ob), .val (.ref cs), .val (.ref vs_), .val (.ref wk), .val (.int (1 : Int32)), .val (.int (1 : Int32)), .val (.double w4), .second, .val (.ref a501), .val (.ref a515), .val (.int (1 : Int32)), .val (.int (1 : Int32)), .val (.int (1 : Int32)), .val (.double u13), .second, (own_sl o15), (own_sl o16)]) 374 (hb hby d3_371) rfl rfl (by decide) rfl ?_
                        refine g_iload X580 hx 376 (hb hby d3_374) rfl rfl ?_
                        refine g_iastore X580 hx hZ e580 F589 0 (by decide) (by decide) (by show 0 < 3; decide) 377 (hb hby d3_376) rfl ?_
                        intro T593 h593 X593 e593 W593 V593
                        have F594 := F581.wr W593
                        have F595 := F582.other W593 (Or.inl ne516)
                        have F596 := F583.other W593 (Or.inl ne516)
                        have F597 := F584.other W593 ne517
                        have F598 := V580'.other W593 ne518
                        have F599 := F586.wr W593
                        have F600 := F587.other W593 ne519
                        have F601 := F588.wr W593
                        have K603 := K590.wr W593 (Or.inr sz521)
                        have N604 := Fr.snoc X593 N591 ge520
                        have Z605 : n0 ≤ h593.size := by rw [W593.size]; exact Z592
                        have V593' : Arv Z h593 a515 k515 .int (3 : Int32) [(.int (1 : Int32)), (.int (0 : Int32)), (.int (0 : Int32))] (.int (0 : Int32)) := V593
                        refine g_iincC X593 hx (w := (1 : Int32)) (2 : Int32) (by decide) (l' := #[.val (.ref ob), .val (.ref cs), .val (.ref vs_), .val (.ref wk), .val (.int (1 : Int32)), .val (.int (1 : Int32)), .val (.double w4), .second, .val (.ref a501), .val (.ref a515), .val (.int (1 : Int32)), .val (.int (1 : Int32)), .val (.int (2 : Int32)), .val (.double u13), .second, (own_sl o15), (own_sl o16)]) 380 (hb hby d3_377) rfl rfl (by decide) rfl ?_
                        refine g_goto X593 hx 274 (hb hby d3_380) (by decide) (by decide) ?_
                        refine g_iload X593 hx 276 (hb hby d3_274) rfl rfl ?_
                        refine g_aloadN X593 hx 277 (hb hby d3_276) rfl rfl rfl ?_
                        refine g_getF X593 hx hZ hown (hw _ (List.mem_of_getElem? (i := 9) rfl)) Via.refl e593 F595 280 (hb hby d3_277) rfl ?_
                        intro T606 X606 e606
                        have ll608 : ((3 : Int32) : Int32).toInt = 3 := by decide
                        have ll609 : ((2 : Int32) : Int32).toInt = 2 := by decide
                        refine g_ic_ge X606 hx 383 283 (hb hby d3_280) (by decide) (by decide) rfl (fun c607 => ?_) (fun c607 => ?_)
                        · skip
                          exfalso; revert c607; decide
                        · skip
                          refine g_aloadN X606 hx 284 (hb hby d3_283) rfl rfl rfl ?_
                          refine g_iload X606 hx 286 (hb hby d3_284) rfl rfl ?_
                          refine g_aloadN X606 hx 287 (hb hby d3_286) rfl rfl rfl ?_
                          refine g_getF X606 hx hZ hown (hw _ (List.mem_of_getElem? (i := 9) rfl)) Via.refl e606 F595 290 (hb hby d3_287) rfl ?_
                          intro T610 X610 e610
                          refine g_imulC X610 hx (3 : Int32) (by decide) 291 (hb hby d3_290) rfl ?_
                          refine g_iload X610 hx 293 (hb hby d3_291) rfl rfl ?_
                          refine g_iaddC X610 hx (5 : Int32) (by decide) 294 (hb hby d3_293) rfl ?_
                          refine g_daload X610 hx hZ e610 F597 (by decide) (by decide) (by rw [show ((5 : Int32) : Int32).toNatClampNeg = 5 by decide] <;> rfl) 295 (hb hby d3_294) rfl ?_
                          refine g_dconst0 X610 hx 296 (hb hby d3_295) rfl ?_
                          refine g_dc_eq X610 hx 297 327 300 (hb hby d3_296) rfl (hb hby d3_297) (by decide) (by decide) rfl (Jvm.FP.Core.dcmp_int hw5 own_dzero) (fun c611 => ?_) (fun c611 => ?_)
                          · skip
                            refine g_aloadN X610 hx 328 (hb hby d3_327) rfl rfl rfl ?_
                            refine g_getF X610 hx hZ hown (hw _ (List.mem_of_getElem? (i := 12) rfl)) Via.refl e610 F596 331 (hb hby d3_328) rfl ?_
                            intro T612 X612 e612
                            refine g_iload X612 hx 333 (hb hby d3_331) rfl rfl ?_
                            refine g_aloadN X612 hx 334 (hb hby d3_333) rfl rfl rfl ?_
                            refine g_getF X612 hx hZ hown (hw _ (List.mem_of_getElem? (i := 9) rfl)) Via.refl e612 F595 337 (hb hby d3_334) rfl ?_
                            intro T613 X613 e613
                            refine g_imulC X613 hx (3 : Int32) (by decide) 338 (hb hby d3_337) rfl ?_
                            refine g_iload X613 hx 340 (hb hby d3_338) rfl rfl ?_
                            refine g_iaddC X613 hx (5 : Int32) (by decide) 341 (hb hby d3_340) rfl ?_
                            refine g_daload X613 hx hZ e613 F598 (by decide) (by decide) (by rw [show ((5 : Int32) : Int32).toNatClampNeg = 5 by decide] <;> rfl) 342 (hb hby d3_341) rfl ?_
                            refine g_dconst0 X613 hx 343 (hb hby d3_342) rfl ?_
                            refine g_dc_eq X613 hx 344 377 347 (hb hby d3_343) rfl (hb hby d3_344) (by decide) (by decide) rfl (Jvm.FP.Core.dcmp_int hx5 own_dzero) (fun c614 => ?_) (fun c614 => ?_)
                            · skip
                              refine g_iincC X613 hx (w := (1 : Int32)) (3 : Int32) (by decide) (l' := #[.val (.ref ob), .val (.ref cs), .val (.ref vs_), .val (.ref wk), .val (.int (1 : Int32)), .val (.int (1 : Int32)), .val (.double w4), .second, .val (.ref a501), .val (.ref a515), .val (.int (1 : Int32)), .val (.int (1 : Int32)), .val (.int (3 : Int32)), .val (.double u13), .second, (own_sl o15), (own_sl o16)]) 380 (hb hby d3_377) rfl rfl (by decide) rfl ?_
                              refine g_goto X613 hx 274 (hb hby d3_380) (by decide) (by decide) ?_
                              refine g_iload X613 hx 276 (hb hby d3_274) rfl rfl ?_
                              refine g_aloadN X613 hx 277 (hb hby d3_276) rfl rfl rfl ?_
                              refine g_getF X613 hx hZ hown (hw _ (List.mem_of_getElem? (i := 9) rfl)) Via.refl e613 F595 280 (hb hby d3_277) rfl ?_
                              intro T615 X615 e615
                              have ll617 : ((3 : Int32) : Int32).toInt = 3 := by decide
                              have ll618 : ((3 : Int32) : Int32).toInt = 3 := by decide
                              refine g_ic_ge X615 hx 383 283 (hb hby d3_280) (by decide) (by decide) rfl (fun c616 => ?_) (fun c616 => ?_)
                              · skip
                                refine g_iconst X615 hx (0 : Int32) 384 (hb hby d3_383) rfl (by decide) ?_
                                refine g_istore (l' := #[.val (.ref ob), .val (.ref cs), .val (.ref vs_), .val (.ref wk), .val (.int (1 : Int32)), .val (.int (1 : Int32)), .val (.double w4), .second, .val (.ref a501), .val (.ref a515), .val (.int (1 : Int32)), .val (.int (1 : Int32)), .val (.int (0 : Int32)), .val (.double u13), .second, (own_sl o15), (own_sl o16)]) X615 hx 386 (hb hby d3_384) rfl rfl ?_
                                refine g_iload X615 hx 388 (hb hby d3_386) rfl rfl ?_
                                refine g_aloadN X615 hx 389 (hb hby d3_388) rfl rfl rfl ?_
                                refine g_getF X615 hx hZ hown (hw _ (List.mem_of_getElem? (i := 9) rfl)) Via.refl e615 F595 392 (hb hby d3_389) rfl ?_
                                intro T619 X619 e619
                                have ll621 : ((3 : Int32) : Int32).toInt = 3 := by decide
                                have ll622 : ((0 : Int32) : Int32).toInt = 0 := by decide
                                refine g_ic_ge X619 hx 541 395 (hb hby d3_392) (by decide) (by decide) rfl (fun c620 => ?_) (fun c620 => ?_)
                                · skip
                                  exfalso; revert c620; decide
                                · skip
                                  refine g_aloadN X619 hx 396 (hb hby d3_395) rfl rfl rfl ?_
                                  refine g_iload X619 hx 398 (hb hby d3_396) rfl rfl ?_
                                  refine g_aloadN X619 hx 399 (hb hby d3_398) rfl rfl rfl ?_
                                  refine g_getF X619 hx hZ hown (hw _ (List.mem_of_getElem? (i := 9) rfl)) Via.refl e619 F595 402 (hb hby d3_399) rfl ?_
                                  intro T623 X623 e623
                                  refine g_imulC X623 hx (0 : Int32) (by decide) 403 (hb hby d3_402) rfl ?_
                                  refine g_iload X623 hx 405 (hb hby d3_403) rfl rfl ?_
                                  refine g_iaddC X623 hx (1 : Int32) (by decide) 406 (hb hby d3_405) rfl ?_
                                  refine g_daload X623 hx hZ e623 F597 (by decide) (by decide) (by rw [show ((1 : Int32) : Int32).toNatClampNeg = 1 by decide] <;> rfl) 407 (hb hby d3_406) rfl ?_
                                  refine g_dstore (l' := #[.val (.ref ob), .val (.ref cs), .val (.ref vs_), .val (.ref wk), .val (.int (1 : Int32)), .val (.int (1 : Int32)), .val (.double w4), .second, .val (.ref a501), .val (.ref a515), .val (.int (1 : Int32)), .val (.int (1 : Int32)), .val (.int (0 : Int32)), .val (.double w1), .second, (own_sl o15), (own_sl o16)]) X623 hx 409 (hb hby d3_407) rfl rfl ?_
                                  refine g_iload X623 hx 411 (hb hby d3_409) rfl rfl ?_
                                  refine g_iload X623 hx 413 (hb hby d3_411) rfl rfl ?_
                                  have ll625 : ((1 : Int32) : Int32).toInt = 1 := by decide
                                  have ll626 : ((0 : Int32) : Int32).toInt = 0 := by decide
                                  refine g_ic_eq X623 hx 535 416 (hb hby d3_413) (by decide) (by decide) rfl (fun c624 => ?_) (fun c624 => ?_)
                                  · skip
                                    exfalso; revert c624; decide
                                  · skip
                                    refine g_dload X623 hx 418 (hb hby d3_416) rfl rfl ?_
                                    refine g_dconst0 X623 hx 419 (hb hby d3_418) rfl ?_
                                    refine g_dc_eq X623 hx 420 535 423 (hb hby d3_419) rfl (hb hby d3_420) (by decide) (by decide) rfl (Jvm.FP.Core.dcmp_int hw1 own_dzero) (fun c627 => ?_) (fun c627 => ?_)
                                    · skip
                                      refine g_iincC X623 hx (w := (1 : Int32)) (1 : Int32) (by decide) (l' := #[.val (.ref ob), .val (.ref cs), .val (.ref vs_), .val (.ref wk), .val (.int (1 : Int32)), .val (.int (1 : Int32)), .val (.double w4), .second, .val (.ref a501), .val (.ref a515), .val (.int (1 : Int32)), .val (.int (1 : Int32)), .val (.int (1 : Int32)), .val (.double w1), .second, (own_sl o15), (own_sl o16)]) 538 (hb hby d3_535) rfl rfl (by decide) rfl ?_
                                      refine g_goto X623 hx 386 (hb hby d3_538) (by decide) (by decide) ?_
                                      refine g_iload X623 hx 388 (hb hby d3_386) rfl rfl ?_
                                      refine g_aloadN X623 hx 389 (hb hby d3_388) rfl rfl rfl ?_
                                      refine g_getF X623 hx hZ hown (hw _ (List.mem_of_getElem? (i := 9) rfl)) Via.refl e623 F595 392 (hb hby d3_389) rfl ?_
                                      intro T628 X628 e628
                                      have ll630 : ((3 : Int32) : Int32).toInt = 3 := by decide
                                      have ll631 : ((1 : Int32) : Int32).toInt = 1 := by decide
                                      refine g_ic_ge X628 hx 541 395 (hb hby d3_392) (by decide) (by decide) rfl (fun c629 => ?_) (fun c629 => ?_)
                                      · skip
                                        exfalso; revert c629; decide
                                      · skip
                                        refine g_aloadN X628 hx 396 (hb hby d3_395) rfl rfl rfl ?_
                                        refine g_iload X628 hx 398 (hb hby d3_396) rfl rfl ?_
                                        refine g_aloadN X628 hx 399 (hb hby d3_398) rfl rfl rfl ?_
                                        refine g_getF X628 hx hZ hown (hw _ (List.mem_of_getElem? (i := 9) rfl)) Via.refl e628 F595 402 (hb hby d3_399) rfl ?_
                                        intro T632 X632 e632
                                        refine g_imulC X632 hx (3 : Int32) (by decide) 403 (hb hby d3_402) rfl ?_
                                        refine g_iload X632 hx 405 (hb hby d3_403) rfl rfl ?_
                                        refine g_iaddC X632 hx (4 : Int32) (by decide) 406 (hb hby d3_405) rfl ?_
                                        refine g_daload X632 hx hZ e632 F597 (by decide) (by decide) (by rw [show ((4 : Int32) : Int32).toNatClampNeg = 4 by decide] <;> rfl) 407 (hb hby d3_406) rfl ?_
                                        refine g_dstore (l' := #[.val (.ref ob), .val (.ref cs), .val (.ref vs_), .val (.ref wk), .val (.int (1 : Int32)), .val (.int (1 : Int32)), .val (.double w4), .second, .val (.ref a501), .val (.ref a515), .val (.int (1 : Int32)), .val (.int (1 : Int32)), .val (.int (1 : Int32)), .val (.double (FP.ddiv w4 w4)), .second, (own_sl o15), (own_sl o16)]) X632 hx 409 (hb hby d3_407) rfl rfl ?_
                                        refine g_iload X632 hx 411 (hb hby d3_409) rfl rfl ?_
                                        refine g_iload X632 hx 413 (hb hby d3_411) rfl rfl ?_
                                        have ll634 : ((1 : Int32) : Int32).toInt = 1 := by decide
                                        have ll635 : ((1 : Int32) : Int32).toInt = 1 := by decide
                                        refine g_ic_eq X632 hx 535 416 (hb hby d3_413) (by decide) (by decide) rfl (fun c633 => ?_) (fun c633 => ?_)
                                        · skip
                                          refine g_iincC X632 hx (w := (1 : Int32)) (2 : Int32) (by decide) (l' := #[.val (.ref ob), .val (.ref cs), .val (.ref vs_), .val (.ref wk), .val (.int (1 : Int32)), .val (.int (1 : Int32)), .val (.double w4), .second, .val (.ref a501), .val (.ref a515), .val (.int (1 : Int32)), .val (.int (1 : Int32)), .val (.int (2 : Int32)), .val (.double (FP.ddiv w4 w4)), .second, (own_sl o15), (own_sl o16)]) 538 (hb hby d3_535) rfl rfl (by decide) rfl ?_
                                          refine g_goto X632 hx 386 (hb hby d3_538) (by decide) (by decide) ?_
                                          refine g_iload X632 hx 388 (hb hby d3_386) rfl rfl ?_
                                          refine g_aloadN X632 hx 389 (hb hby d3_388) rfl rfl rfl ?_
                                          refine g_getF X632 hx hZ hown (hw _ (List.mem_of_getElem? (i := 9) rfl)) Via.refl e632 F595 392 (hb hby d3_389) rfl ?_
                                          intro T636 X636 e636
                                          have ll638 : ((3 : Int32) : Int32).toInt = 3 := by decide
                                          have ll639 : ((2 : Int32) : Int32).toInt = 2 := by decide
                                          refine g_ic_ge X636 hx 541 395 (hb hby d3_392) (by decide) (by decide) rfl (fun c637 => ?_) (fun c637 => ?_)
                                          · skip
                                            exfalso; revert c637; decide
                                          · skip
                                            refine g_aloadN X636 hx 396 (hb hby d3_395) rfl rfl rfl ?_
                                            refine g_iload X636 hx 398 (hb hby d3_396) rfl rfl ?_
                                            refine g_aloadN X636 hx 399 (hb hby d3_398) rfl rfl rfl ?_
                                            refine g_getF X636 hx hZ hown (hw _ (List.mem_of_getElem? (i := 9) rfl)) Via.refl e636 F595 402 (hb hby d3_399) rfl ?_
                                            intro T640 X640 e640
                                            refine g_imulC X640 hx (6 : Int32) (by decide) 403 (hb hby d3_402) rfl ?_
                                            refine g_iload X640 hx 405 (hb hby d3_403) rfl rfl ?_
                                            refine g_iaddC X640 hx (7 : Int32) (by decide) 406 (hb hby d3_405) rfl ?_
                                            refine g_daload X640 hx hZ e640 F597 (by decide) (by decide) (by rw [show ((7 : Int32) : Int32).toNatClampNeg = 7 by decide] <;> rfl) 407 (hb hby d3_406) rfl ?_
                                            refine g_dstore (l' := #[.val (.ref ob), .val (.ref cs), .val (.ref vs_), .val (.ref wk), .val (.int (1 : Int32)), .val (.int (1 : Int32)), .val (.double w4), .second, .val (.ref a501), .val (.ref a515), .val (.int (1 : Int32)), .val (.int (1 : Int32)), .val (.int (2 : Int32)), .val (.double w7), .second, (own_sl o15), (own_sl o16)]) X640 hx 409 (hb hby d3_407) rfl rfl ?_
                                            refine g_iload X640 hx 411 (hb hby d3_409) rfl rfl ?_
                                            refine g_iload X640 hx 413 (hb hby d3_411) rfl rfl ?_
                                            have ll642 : ((1 : Int32) : Int32).toInt = 1 := by decide
                                            have ll643 : ((2 : Int32) : Int32).toInt = 2 := by decide
                                            refine g_ic_eq X640 hx 535 416 (hb hby d3_413) (by decide) (by decide) rfl (fun c641 => ?_) (fun c641 => ?_)
                                            · skip
                                              exfalso; revert c641; decide
                                            · skip
                                              refine g_dload X640 hx 418 (hb hby d3_416) rfl rfl ?_
                                              refine g_dconst0 X640 hx 419 (hb hby d3_418) rfl ?_
                                              refine g_dc_eq X640 hx 420 535 423 (hb hby d3_419) rfl (hb hby d3_420) (by decide) (by decide) rfl (Jvm.FP.Core.dcmp_int hw7 own_dzero) (fun c644 => ?_) (fun c644 => ?_)
                                              · skip
                                                refine g_iincC X640 hx (w := (1 : Int32)) (3 : Int32) (by decide) (l' := #[.val (.ref ob), .val (.ref cs), .val (.ref vs_), .val (.ref wk), .val (.int (1 : Int32)), .val (.int (1 : Int32)), .val (.double w4), .second, .val (.ref a501), .val (.ref a515), .val (.int (1 : Int32)), .val (.int (1 : Int32)), .val (.int (3 : Int32)), .val (.double w7), .second, (own_sl o15), (own_sl o16)]) 538 (hb hby d3_535) rfl rfl (by decide) rfl ?_
                                                refine g_goto X640 hx 386 (hb hby d3_538) (by decide) (by decide) ?_
                                                refine g_iload X640 hx 388 (hb hby d3_386) rfl rfl ?_
                                                refine g_aloadN X640 hx 389 (hb hby d3_388) rfl rfl rfl ?_
                                                refine g_getF X640 hx hZ hown (hw _ (List.mem_of_getElem? (i := 9) rfl)) Via.refl e640 F595 392 (hb hby d3_389) rfl ?_
                                                intro T645 X645 e645
                                                have ll647 : ((3 : Int32) : Int32).toInt = 3 := by decide
                                                have ll648 : ((3 : Int32) : Int32).toInt = 3 := by decide
                                                refine g_ic_ge X645 hx 541 395 (hb hby d3_392) (by decide) (by decide) rfl (fun c646 => ?_) (fun c646 => ?_)
                                                · skip
                                                  refine g_iincC X645 hx (w := (1 : Int32)) (2 : Int32) (by decide) (l' := #[.val (.ref ob), .val (.ref cs), .val (.ref vs_), .val (.ref wk), .val (.int (2 : Int32)), .val (.int (1 : Int32)), .val (.double w4), .second, .val (.ref a501), .val (.ref a515), .val (.int (1 : Int32)), .val (.int (1 : Int32)), .val (.int (3 : Int32)), .val (.double w7), .second, (own_sl o15), (own_sl o16)]) 544 (hb hby d3_541) rfl rfl (by decide) rfl ?_
                                                  refine g_goto X645 hx 118 (hb hby d3_544) (by decide) (by decide) ?_
                                                  exact rmV_2 (o15 := o15) (o16 := o16) X645 hx hby hml hret hlk hown hZ hw e645 Z605 N604 ba bb bab F594 F595 F596 F597 F598 K603  gw gv sw n1 n2 n3 hw0 (own_as (by first | omega | (rw [c627]; omega) | (rw [c611]; omega)) hw1) (own_as (by first | omega | (rw [c627]; omega) | (rw [c611]; omega)) hw2) hw3 D547 hw5 hw6 hw7 hw8 hx0 (own_as (by first | omega | (rw [c627]; omega) | (rw [c611]; omega)) hx1) hx2 hx3 D579 hx5 hx6 hx7 hx8
                                                · skip
                                                  exfalso; revert c646; decide
                                              · skip
                                                exfalso; omega
                                        · skip
                                          exfalso; revert c633; decide
                                    · skip
                                      refine g_iconst X623 hx (0 : Int32) 424 (hb hby d3_423) rfl (by decide) ?_
                                      refine g_istore (l' := #[.val (.ref ob), .val (.ref cs), .val (.ref vs_), .val (.ref wk), .val (.int (1 : Int32)), .val (.int (1 : Int32)), .val (.double w4), .second, .val (.ref a501), .val (.ref a515), .val (.int (1 : Int32)), .val (.int (1 : Int32)), .val (.int (0 : Int32)), .val (.double w1), .second, .val (.int (0 : Int32)), (own_sl o16)]) X623 hx 426 (hb hby d3_424) rfl (by cases o15 <;> rfl) ?_
                                      refine g_iload X623 hx 428 (hb hby d3_426) rfl rfl ?_
                                      refine g_iload X623 hx 430 (hb hby d3_428) rfl rfl ?_
                                      have ll650 : ((1 : Int32) : Int32).toInt = 1 := by decide
                                      have ll651 : ((0 : Int32) : Int32).toInt = 0 := by decide
                                      refine g_ic_ge X623 hx 476 433 (hb hby d3_430) (by decide) (by decide) rfl (fun c649 => ?_) (fun c649 => ?_)
                                      · skip
                                        exfalso; revert c649; decide
                                      · skip
                                        refine g_aload X623 hx 435 (hb hby d3_433) rfl rfl rfl ?_
                                        refine g_iload X623 hx 437 (hb hby d3_435) rfl rfl ?_
                                        refine g_iaload X623 hx hZ e623 F600 (by decide) (by decide) (by rw [show ((0 : Int32) : Int32).toNatClampNeg = 0 by decide] <;> rfl) 438 (hb hby d3_437) rfl ?_
                                        refine g_istore (l' := #[.val (.ref ob), .val (.ref cs), .val (.ref vs_), .val (.ref wk), .val (.int (1 : Int32)), .val (.int (1 : Int32)), .val (.double w4), .second, .val (.ref a501), .val (.ref a515), .val (.int (1 : Int32)), .val (.int (1 : Int32)), .val (.int (0 : Int32)), .val (.double w1), .second, .val (.int (0 : Int32)), .val (.int (1 : Int32))]) X623 hx 440 (hb hby d3_438) rfl (by cases o16 <;> rfl) ?_
                                        refine g_aloadN X623 hx 441 (hb hby d3_440) rfl rfl rfl ?_
                                        refine g_iload X623 hx 443 (hb hby d3_441) rfl rfl ?_
                                        refine g_aloadN X623 hx 444 (hb hby d3_443) rfl rfl rfl ?_
                                        refine g_getF X623 hx hZ hown (hw _ (List.mem_of_getElem? (i := 9) rfl)) Via.refl e623 F595 447 (hb hby d3_444) rfl ?_
                                        intro T652 X652 e652
                                        refine g_imulC X652 hx (0 : Int32) (by decide) 448 (hb hby d3_447) rfl ?_
                                        refine g_iload X652 hx 450 (hb hby d3_448) rfl rfl ?_
                                        refine g_iaddC X652 hx (1 : Int32) (by decide) 451 (hb hby d3_450) rfl ?_
                                        refine g_dup2 X652 hx 452 (hb hby d3_451) rfl rfl rfl ?_
                                        refine g_daload X652 hx hZ e652 F597 (by decide) (by decide) (by rw [show ((1 : Int32) : Int32).toNatClampNeg = 1 by decide] <;> rfl) 453 (hb hby d3_452) rfl ?_
                                        refine g_dload X652 hx 455 (hb hby d3_453) rfl rfl ?_
                                        refine g_aloadN X652 hx 456 (hb hby d3_455) rfl rfl rfl ?_
                                        refine g_iload X652 hx 458 (hb hby d3_456) rfl rfl ?_
                                        refine g_aloadN X652 hx 459 (hb hby d3_458) rfl rfl rfl ?_
                                        refine g_getF X652 hx hZ hown (hw _ (List.mem_of_getElem? (i := 9) rfl)) Via.refl e652 F595 462 (hb hby d3_459) rfl ?_
                                        intro T653 X653 e653
                                        refine g_imulC X653 hx (3 : Int32) (by decide) 463 (hb hby d3_462) rfl ?_
                                        refine g_iload X653 hx 465 (hb hby d3_463) rfl rfl ?_
                                        refine g_iaddC X653 hx (4 : Int32) (by decide) 466 (hb hby d3_465) rfl ?_
                                        refine g_daload X653 hx hZ e653 F597 (by decide) (by decide) (by rw [show ((4 : Int32) : Int32).toNatClampNeg = 4 by decide] <;> rfl) 467 (hb hby d3_466) rfl ?_
                                        have D654 : Jvm.FP.Core.DInt ia (FP.dmul w1 (FP.ddiv w4 w4)) := own_as (by omega) (Jvm.FP.Core.dmul_int hw1 D547 (by omega))
                                        refine g_dmul X653 hx 468 (hb hby d3_467) rfl (own_dnn D654) ?_
                                        have D655 : Jvm.FP.Core.DInt 0 (FP.dsub w1 (FP.dmul w1 (FP.ddiv w4 w4))) := own_as (by omega) (Jvm.FP.Core.dsub_int hw1 D654 (by omega))
                                        refine g_dsub X653 hx 469 (hb hby d3_468) rfl (own_dnn D655) ?_
                                        refine g_dastore X653 hx hZ e653 F597 1 (by decide) (by decide) (by show 1 < 9; decide) 470 (hb hby d3_469) rfl ?_
                                        intro T656 h656 X656 e656 W656 V656
                                        have F657 := F594.wr W656
                                        have F658 := F595.other W656 (Or.inl n1)
                                        have F659 := F596.other W656 (Or.inl n1)
                                        have F661 := F598.other W656 (Ne.symm n3)
                                        have F662 := F599.wr W656
                                        have F663 := F600.other W656 (Ne.symm ne503)
                                        have F664 := F601.wr W656
                                        have F665 := V593'.other W656 (Ne.symm ne517)
                                        have K666 := K603.wr W656 (Or.inr sw)
                                        have N667 := Fr.snoc X656 N604 gw
                                        have Z668 : n0 ≤ h656.size := by rw [W656.size]; exact Z605
                                        have V656' : Arv Z h656 wk kw .double (9 : Int32) [(.double w0), (.double (FP.dsub w1 (FP.dmul w1 (FP.ddiv w4 w4)))), (.double w2), (.double w3), (.double (FP.ddiv w4 w4)), (.double w5), (.double w6), (.double w7), (.double w8)] (.double 0) := V656
                                        refine g_iincC X656 hx (w := (1 : Int32)) (1 : Int32) (by decide) (l' := #[.val (.ref ob), .val (.ref cs), .val (.ref vs_), .val (.ref wk), .val (.int (1 : Int32)), .val (.int (1 : Int32)), .val (.double w4), .second, .val (.ref a501), .val (.ref a515), .val (.int (1 : Int32)), .val (.int (1 : Int32)), .val (.int (0 : Int32)), .val (.double w1), .second, .val (.int (1 : Int32)), .val (.int (1 : Int32))]) 473 (hb hby d3_470) rfl rfl (by decide) rfl ?_
                                        refine g_goto X656 hx 426 (hb hby d3_473) (by decide) (by decide) ?_
                                        refine g_iload X656 hx 428 (hb hby d3_426) rfl rfl ?_
                                        refine g_iload X656 hx 430 (hb hby d3_428) rfl rfl ?_
                                        have ll670 : ((1 : Int32) : Int32).toInt = 1 := by decide
                                        have ll671 : ((1 : Int32) : Int32).toInt = 1 := by decide
                                        refine g_ic_ge X656 hx 476 433 (hb hby d3_430) (by decide) (by decide) rfl (fun c669 => ?_) (fun c669 => ?_)
                                        · skip
                                          refine g_iconst X656 hx (0 : Int32) 477 (hb hby d3_476) rfl (by decide) ?_
                                          refine g_istore (l' := #[.val (.ref ob), .val (.ref cs), .val (.ref vs_), .val (.ref wk), .val (.int (1 : Int32)), .val (.int (1 : Int32)), .val (.double w4), .second, .val (.ref a501), .val (.ref a515), .val (.int (1 : Int32)), .val (.int (1 : Int32)), .val (.int (0 : Int32)), .val (.double w1), .second, .val (.int (0 : Int32)), .val (.int (1 : Int32))]) X656 hx 479 (hb hby d3_477) rfl rfl ?_
                                          refine g_iload X656 hx 481 (hb hby d3_479) rfl rfl ?_
                                          refine g_iload X656 hx 483 (hb hby d3_481) rfl rfl ?_
                                          have ll673 : ((1 : Int32) : Int32).toInt = 1 := by decide
                                          have ll674 : ((0 : Int32) : Int32).toInt = 0 := by decide
                                          refine g_ic_ge X656 hx 535 486 (hb hby d3_483) (by decide) (by decide) rfl (fun c672 => ?_) (fun c672 => ?_)
                                          · skip
                                            exfalso; revert c672; decide
                                          · skip
                                            refine g_aload X656 hx 488 (hb hby d3_486) rfl rfl rfl ?_
                                            refine g_iload X656 hx 490 (hb hby d3_488) rfl rfl ?_
                                            refine g_iaload X656 hx hZ e656 F665 (by decide) (by decide) (by rw [show ((0 : Int32) : Int32).toNatClampNeg = 0 by decide] <;> rfl) 491 (hb hby d3_490) rfl ?_
                                            refine g_istore (l' := #[.val (.ref ob), .val (.ref cs), .val (.ref vs_), .val (.ref wk), .val (.int (1 : Int32)), .val (.int (1 : Int32)), .val (.double w4), .second, .val (.ref a501), .val (.ref a515), .val (.int (1 : Int32)), .val (.int (1 : Int32)), .val (.int (0 : Int32)), .val (.double w1), .second, .val (.int (0 : Int32)), .val (.int (1 : Int32))]) X656 hx 493 (hb hby d3_491) rfl rfl ?_
                                            refine g_aloadN X656 hx 494 (hb hby d3_493) rfl rfl rfl ?_
                                            refine g_getF X656 hx hZ hown (hw _ (List.mem_of_getElem? (i := 12) rfl)) Via.refl e656 F659 497 (hb hby d3_494) rfl ?_
                                            intro T675 X675 e675
                                            refine g_iload X675 hx 499 (hb hby d3_497) rfl rfl ?_
                                            refine g_aloadN X675 hx 500 (hb hby d3_499) rfl rfl rfl ?_
                                            refine g_getF X675 hx hZ hown (hw _ (List.mem_of_getElem? (i := 9) rfl)) Via.refl e675 F658 503 (hb hby d3_500) rfl ?_
                                            intro T676 X676 e676
                                            refine g_imulC X676 hx (0 : Int32) (by decide) 504 (hb hby d3_503) rfl ?_
                                            refine g_iload X676 hx 506 (hb hby d3_504) rfl rfl ?_
                                            refine g_iaddC X676 hx (1 : Int32) (by decide) 507 (hb hby d3_506) rfl ?_
                                            refine g_dup2 X676 hx 508 (hb hby d3_507) rfl rfl rfl ?_
                                            refine g_daload X676 hx hZ e676 F661 (by decide) (by decide) (by rw [show ((1 : Int32) : Int32).toNatClampNeg = 1 by decide] <;> rfl) 509 (hb hby d3_508) rfl ?_
                                            refine g_dload X676 hx 511 (hb hby d3_509) rfl rfl ?_
                                            refine g_aloadN X676 hx 512 (hb hby d3_511) rfl rfl rfl ?_
                                            refine g_getF X676 hx hZ hown (hw _ (List.mem_of_getElem? (i := 12) rfl)) Via.refl e676 F659 515 (hb hby d3_512) rfl ?_
                                            intro T677 X677 e677
                                            refine g_iload X677 hx 517 (hb hby d3_515) rfl rfl ?_
                                            refine g_aloadN X677 hx 518 (hb hby d3_517) rfl rfl rfl ?_
                                            refine g_getF X677 hx hZ hown (hw _ (List.mem_of_getElem? (i := 9) rfl)) Via.refl e677 F658 521 (hb hby d3_518) rfl ?_
                                            intro T678 X678 e678
                                            refine g_imulC X678 hx (3 : Int32) (by decide) 522 (hb hby d3_521) rfl ?_
                                            refine g_iload X678 hx 524 (hb hby d3_522) rfl rfl ?_
                                            refine g_iaddC X678 hx (4 : Int32) (by decide) 525 (hb hby d3_524) rfl ?_
                                            refine g_daload X678 hx hZ e678 F661 (by decide) (by decide) (by rw [show ((4 : Int32) : Int32).toNatClampNeg = 4 by decide] <;> rfl) 526 (hb hby d3_525) rfl ?_
                                            have D679 : Jvm.FP.Core.DInt ia (FP.dmul w1 (FP.ddiv x4 w4)) := own_as (by omega) (Jvm.FP.Core.dmul_int hw1 D579 (by omega))
                                            refine g_dmul X678 hx 527 (hb hby d3_526) rfl (own_dnn D679) ?_
                                            have D680 : Jvm.FP.Core.DInt (-ia) (FP.dsub x1 (FP.dmul w1 (FP.ddiv x4 w4))) := own_as (by omega) (Jvm.FP.Core.dsub_int hx1 D679 (by omega))
                                            refine g_dsub X678 hx 528 (hb hby d3_527) rfl (own_dnn D680) ?_
                                            refine g_dastore X678 hx hZ e678 F661 1 (by decide) (by decide) (by show 1 < 9; decide) 529 (hb hby d3_528) rfl ?_
                                            intro T681 h681 X681 e681 W681 V681
                                            have F682 := F657.wr W681
                                            have F683 := F658.other W681 (Or.inl n2)
                                            have F684 := F659.other W681 (Or.inl n2)
                                            have F685 := V656'.other W681 n3
                                            have F687 := F662.wr W681
                                            have F688 := F663.other W681 (Ne.symm ne504)
                                            have F689 := F664.wr W681
                                            have F690 := F665.other W681 (Ne.symm ne518)
                                            have K691 := K666.wr W681 (Or.inl (List.mem_of_getElem? (i := 0) rfl))
                                            have N692 := Fr.snoc X681 N667 gv
                                            have Z693 : n0 ≤ h681.size := by rw [W681.size]; exact Z668
                                            have V681' : Arv Z h681 vi kv .double (9 : Int32) [(.double x0), (.double (FP.dsub x1 (FP.dmul w1 (FP.ddiv x4 w4)))), (.double x2), (.double x3), (.double (FP.ddiv x4 w4)), (.double x5), (.double x6), (.double x7), (.double x8)] (.double 0) := V681
                                            refine g_iincC X681 hx (w := (1 : Int32)) (1 : Int32) (by decide) (l' := #[.val (.ref ob), .val (.ref cs), .val (.ref vs_), .val (.ref wk), .val (.int (1 : Int32)), .val (.int (1 : Int32)), .val (.double w4), .second, .val (.ref a501), .val (.ref a515), .val (.int (1 : Int32)), .val (.int (1 : Int32)), .val (.int (0 : Int32)), .val (.double w1), .second, .val (.int (1 : Int32)), .val (.int (1 : Int32))]) 532 (hb hby d3_529) rfl rfl (by decide) rfl ?_
                                            refine g_goto X681 hx 479 (hb hby d3_532) (by decide) (by decide) ?_
                                            refine g_iload X681 hx 481 (hb hby d3_479) rfl rfl ?_
                                            refine g_iload X681 hx 483 (hb hby d3_481) rfl rfl ?_
                                            have ll695 : ((1 : Int32) : Int32).toInt = 1 := by decide
                                            have ll696 : ((1 : Int32) : Int32).toInt = 1 := by decide
                                            refine g_ic_ge X681 hx 535 486 (hb hby d3_483) (by decide) (by decide) rfl (fun c694 => ?_) (fun c694 => ?_)
                                            · skip
                                              refine g_iincC X681 hx (w := (1 : Int32)) (1 : Int32) (by decide) (l' := #[.val (.ref ob), .val (.ref cs), .val (.ref vs_), .val (.ref wk), .val (.int (1 : Int32)), .val (.int (1 : Int32)), .val (.double w4), .second, .val (.ref a501), .val (.ref a515), .val (.int (1 : Int32)), .val (.int (1 : Int32)), .val (.int (1 : Int32)), .val (.double w1), .second, .val (.int (1 : Int32)), .val (.int (1 : Int32))]) 538 (hb hby d3_535) rfl rfl (by decide) rfl ?_
                                              refine g_goto X681 hx 386 (hb hby d3_538) (by decide) (by decide) ?_
                                              refine g_iload X681 hx 388 (hb hby d3_386) rfl rfl ?_
                                              refine g_aloadN X681 hx 389 (hb hby d3_388) rfl rfl rfl ?_
                                              refine g_getF X681 hx hZ hown (hw _ (List.mem_of_getElem? (i := 9) rfl)) Via.refl e681 F683 392 (hb hby d3_389) rfl ?_
                                              intro T697 X697 e697
                                              have ll699 : ((3 : Int32) : Int32).toInt = 3 := by decide
                                              have ll700 : ((1 : Int32) : Int32).toInt = 1 := by decide
                                              refine g_ic_ge X697 hx 541 395 (hb hby d3_392) (by decide) (by decide) rfl (fun c698 => ?_) (fun c698 => ?_)
                                              · skip
                                                exfalso; revert c698; decide
                                              · skip
                                                refine g_aloadN X697 hx 396 (hb hby d3_395) rfl rfl rfl ?_
                                                refine g_iload X697 hx 398 (hb hby d3_396) rfl rfl ?_
                                                refine g_aloadN X697 hx 399 (hb hby d3_398) rfl rfl rfl ?_
                                                refine g_getF X697 hx hZ hown (hw _ (List.mem_of_getElem? (i := 9) rfl)) Via.refl e697 F683 402 (hb hby d3_399) rfl ?_
                                                intro T701 X701 e701
                                                refine g_imulC X701 hx (3 : Int32) (by decide) 403 (hb hby d3_402) rfl ?_
                                                refine g_iload X701 hx 405 (hb hby d3_403) rfl rfl ?_
                                                refine g_iaddC X701 hx (4 : Int32) (by decide) 406 (hb hby d3_405) rfl ?_
                                                refine g_daload X701 hx hZ e701 F685 (by decide) (by decide) (by rw [show ((4 : Int32) : Int32).toNatClampNeg = 4 by decide] <;> rfl) 407 (hb hby d3_406) rfl ?_
                                                refine g_dstore (l' := #[.val (.ref ob), .val (.ref cs), .val (.ref vs_), .val (.ref wk), .val (.int (1 : Int32)), .val (.int (1 : Int32)), .val (.double w4), .second, .val (.ref a501), .val (.ref a515), .val (.int (1 : Int32)), .val (.int (1 : Int32)), .val (.int (1 : Int32)), .val (.double (FP.ddiv w4 w4)), .second, .val (.int (1 : Int32)), .val (.int (1 : Int32))]) X701 hx 409 (hb hby d3_407) rfl rfl ?_
                                                refine g_iload X701 hx 411 (hb hby d3_409) rfl rfl ?_
                                                refine g_iload X701 hx 413 (hb hby d3_411) rfl rfl ?_
                                                have ll703 : ((1 : Int32) : Int32).toInt = 1 := by decide
                                                have ll704 : ((1 : Int32) : Int32).toInt = 1 := by decide
                                                refine g_ic_eq X701 hx 535 416 (hb hby d3_413) (by decide) (by decide) rfl (fun c702 => ?_) (fun c702 => ?_)
                                                · skip
                                                  refine g_iincC X701 hx (w := (1 : Int32)) (2 : Int32) (by decide) (l' := #[.val (.ref ob), .val (.ref cs), .val (.ref vs_), .val (.ref wk), .val (.int (1 : Int32)), .val (.int (1 : Int32)), .val (.double w4), .second, .val (.ref a501), .val (.ref a515), .val (.int (1 : Int32)), .val (.int (1 : Int32)), .val (.int (2 : Int32)), .val (.double (FP.ddiv w4 w4)), .second, .val (.int (1 : Int32)), .val (.int (1 : Int32))]) 538 (hb hby d3_535) rfl rfl (by decide) rfl ?_
                                                  refine g_goto X701 hx 386 (hb hby d3_538) (by decide) (by decide) ?_
                                                  refine g_iload X701 hx 388 (hb hby d3_386) rfl rfl ?_
                                                  refine g_aloadN X701 hx 389 (hb hby d3_388) rfl rfl rfl ?_
                                                  refine g_getF X701 hx hZ hown (hw _ (List.mem_of_getElem? (i := 9) rfl)) Via.refl e701 F683 392 (hb hby d3_389) rfl ?_
                                                  intro T705 X705 e705
                                                  have ll707 : ((3 : Int32) : Int32).toInt = 3 := by decide
                                                  have ll708 : ((2 : Int32) : Int32).toInt = 2 := by decide
                                                  refine g_ic_ge X705 hx 541 395 (hb hby d3_392) (by decide) (by decide) rfl (fun c706 => ?_) (fun c706 => ?_)
                                                  · skip
                                                    exfalso; revert c706; decide
                                                  · skip
                                                    refine g_aloadN X705 hx 396 (hb hby d3_395) rfl rfl rfl ?_
                                                    refine g_iload X705 hx 398 (hb hby d3_396) rfl rfl ?_
                                                    refine g_aloadN X705 hx 399 (hb hby d3_398) rfl rfl rfl ?_
                                                    refine g_getF X705 hx hZ hown (hw _ (List.mem_of_getElem? (i := 9) rfl)) Via.refl e705 F683 402 (hb hby d3_399) rfl ?_
                                                    intro T709 X709 e709
                                                    refine g_imulC X709 hx (6 : Int32) (by decide) 403 (hb hby d3_402) rfl ?_
                                                    refine g_iload X709 hx 405 (hb hby d3_403) rfl rfl ?_
                                                    refine g_iaddC X709 hx (7 : Int32) (by decide) 406 (hb hby d3_405) rfl ?_
                                                    refine g_daload X709 hx hZ e709 F685 (by decide) (by decide) (by rw [show ((7 : Int32) : Int32).toNatClampNeg = 7 by decide] <;> rfl) 407 (hb hby d3_406) rfl ?_
                                                    refine g_dstore (l' := #[.val (.ref ob), .val (.ref cs), .val (.ref vs_), .val (.ref wk), .val (.int (1 : Int32)), .val (.int (1 : Int32)), .val (.double w4), .second, .val (.ref a501), .val (.ref a515), .val (.int (1 : Int32)), .val (.int (1 : Int32)), .val (.int (2 : Int32)), .val (.double w7), .second, .val (.int (1 : Int32)), .val (.int (1 : Int32))]) X709 hx 409 (hb hby d3_407) rfl rfl ?_
                                                    refine g_iload X709 hx 411 (hb hby d3_409) rfl rfl ?_
                                                    refine g_iload X709 hx 413 (hb hby d3_411) rfl rfl ?_
                                                    have ll711 : ((1 : Int32) : Int32).toInt = 1 := by decide
                                                    have ll712 : ((2 : Int32) : Int32).toInt = 2 := by decide
                                                    refine g_ic_eq X709 hx 535 416 (hb hby d3_413) (by decide) (by decide) rfl (fun c710 => ?_) (fun c710 => ?_)
                                                    · skip
                                                      exfalso; revert c710; decide
                                                    · skip
                                                      refine g_dload X709 hx 418 (hb hby d3_416) rfl rfl ?_
                                                      refine g_dconst0 X709 hx 419 (hb hby d3_418) rfl ?_
                                                      refine g_dc_eq X709 hx 420 535 423 (hb hby d3_419) rfl (hb hby d3_420) (by decide) (by decide) rfl (Jvm.FP.Core.dcmp_int hw7 own_dzero) (fun c713 => ?_) (fun c713 => ?_)
                                                      · skip
                                                        refine g_iincC X709 hx (w := (1 : Int32)) (3 : Int32) (by decide) (l' := #[.val (.ref ob), .val (.ref cs), .val (.ref vs_), .val (.ref wk), .val (.int (1 : Int32)), .val (.int (1 : Int32)), .val (.double w4), .second, .val (.ref a501), .val (.ref a515), .val (.int (1 : Int32)), .val (.int (1 : Int32)), .val (.int (3 : Int32)), .val (.double w7), .second, .val (.int (1 : Int32)), .val (.int (1 : Int32))]) 538 (hb hby d3_535) rfl rfl (by decide) rfl ?_
                                                        refine g_goto X709 hx 386 (hb hby d3_538) (by decide) (by decide) ?_
                                                        refine g_iload X709 hx 388 (hb hby d3_386) rfl rfl ?_
                                                        refine g_aloadN X709 hx 389 (hb hby d3_388) rfl rfl rfl ?_
                                                        refine g_getF X709 hx hZ hown (hw _ (List.mem_of_getElem? (i := 9) rfl)) Via.refl e709 F683 392 (hb hby d3_389) rfl ?_
                                                        intro T714 X714 e714
                                                        have ll716 : ((3 : Int32) : Int32).toInt = 3 := by decide
                                                        have ll717 : ((3 : Int32) : Int32).toInt = 3 := by decide
                                                        refine g_ic_ge X714 hx 541 395 (hb hby d3_392) (by decide) (by decide) rfl (fun c715 => ?_) (fun c715 => ?_)
                                                        · skip
                                                          refine g_iincC X714 hx (w := (1 : Int32)) (2 : Int32) (by decide) (l' := #[.val (.ref ob), .val (.ref cs), .val (.ref vs_), .val (.ref wk), .val (.int (2 : Int32)), .val (.int (1 : Int32)), .val (.double w4), .second, .val (.ref a501), .val (.ref a515), .val (.int (1 : Int32)), .val (.int (1 : Int32)), .val (.int (3 : Int32)), .val (.double w7), .second, .val (.int (1 : Int32)), .val (.int (1 : Int32))]) 544 (hb hby d3_541) rfl rfl (by decide) rfl ?_
                                                          refine g_goto X714 hx 118 (hb hby d3_544) (by decide) (by decide) ?_
                                                          exact rmV_2 (o15 := (some (1 : Int32))) (o16 := (some (1 : Int32))) X714 hx hby hml hret hlk hown hZ hw e714 Z693 N692 ba bb bab F682 F683 F684 F685 V681' K691  gw gv sw n1 n2 n3 hw0 D655 (own_as (by first | omega | (rw [c611]; omega)) hw2) hw3 D547 hw5 hw6 hw7 hw8 hx0 D680 hx2 hx3 D579 hx5 hx6 hx7 hx8
                                                        · skip
                                                          exfalso; revert c715; decide
                                                      · skip
                                                        exfalso; omega
                                                · skip
                                                  exfalso; revert c702; decide
                                            · skip
                                              exfalso; revert c694; decide
                                        · skip
                                          exfalso; revert c669; decide
                              · skip
                                exfalso; revert c616; decide
                            · skip
                              exfalso; omega
                          · skip
                            refine g_aloadN X610 hx 301 (hb hby d3_300) rfl rfl rfl ?_
                            refine g_iload X610 hx 303 (hb hby d3_301) rfl rfl ?_
                            refine g_aloadN X610 hx 304 (hb hby d3_303) rfl rfl rfl ?_
                            refine g_getF X610 hx hZ hown (hw _ (List.mem_of_getElem? (i := 9) rfl)) Via.refl e610 F595 307 (hb hby d3_304) rfl ?_
                            intro T718 X718 e718
                            refine g_imulC X718 hx (3 : Int32) (by decide) 308 (hb hby d3_307) rfl ?_
                            refine g_iload X718 hx 310 (hb hby d3_308) rfl rfl ?_
                            refine g_iaddC X718 hx (5 : Int32) (by decide) 311 (hb hby d3_310) rfl ?_
                            refine g_dup2 X718 hx 312 (hb hby d3_311) rfl rfl rfl ?_
                            refine g_daload X718 hx hZ e718 F597 (by decide) (by decide) (by rw [show ((5 : Int32) : Int32).toNatClampNeg = 5 by decide] <;> rfl) 313 (hb hby d3_312) rfl ?_
                            refine g_dload X718 hx 315 (hb hby d3_313) rfl rfl ?_
                            have D719 := own_div1 hw5 hw4 (by omega)
                            refine g_ddiv X718 hx 316 (hb hby d3_315) rfl (own_dnn D719) ?_
                            refine g_dastore X718 hx hZ e718 F597 5 (by decide) (by decide) (by show 5 < 9; decide) 317 (hb hby d3_316) rfl ?_
                            intro T720 h720 X720 e720 W720 V720
                            have F721 := F594.wr W720
                            have F722 := F595.other W720 (Or.inl n1)
                            have F723 := F596.other W720 (Or.inl n1)
                            have F725 := F598.other W720 (Ne.symm n3)
                            have F726 := F599.wr W720
                            have F727 := F600.other W720 (Ne.symm ne503)
                            have F728 := F601.wr W720
                            have F729 := V593'.other W720 (Ne.symm ne517)
                            have K730 := K603.wr W720 (Or.inr sw)
                            have N731 := Fr.snoc X720 N604 gw
                            have Z732 : n0 ≤ h720.size := by rw [W720.size]; exact Z605
                            have V720' : Arv Z h720 wk kw .double (9 : Int32) [(.double w0), (.double w1), (.double w2), (.double w3), (.double (FP.ddiv w4 w4)), (.double (FP.ddiv w5 w4)), (.double w6), (.double w7), (.double w8)] (.double 0) := V720
                            refine g_aload X720 hx 319 (hb hby d3_317) rfl rfl rfl ?_
                            refine g_iload X720 hx 321 (hb hby d3_319) rfl rfl ?_
                            refine g_iincC X720 hx (w := (1 : Int32)) (2 : Int32) (by decide) (l' := #[.val (.ref ob), .val (.ref cs), .val (.ref vs_), .val (.ref wk), .val (.int (1 : Int32)), .val (.int (1 : Int32)), .val (.double w4), .second, .val (.ref a501), .val (.ref a515), .val (.int (2 : Int32)), .val (.int (1 : Int32)), .val (.int (2 : Int32)), .val (.double u13), .second, (own_sl o15), (own_sl o16)]) 324 (hb hby d3_321) rfl rfl (by decide) rfl ?_
                            refine g_iload X720 hx 326 (hb hby d3_324) rfl rfl ?_
                            refine g_iastore X720 hx hZ e720 F727 1 (by decide) (by decide) (by show 1 < 3; decide) 327 (hb hby d3_326) rfl ?_
                            intro T733 h733 X733 e733 W733 V733
                            have F734 := F721.wr W733
                            have F735 := F722.other W733 (Or.inl ne502)
                            have F736 := F723.other W733 (Or.inl ne502)
                            have F737 := V720'.other W733 ne503
                            have F738 := F725.other W733 ne504
                            have F739 := F726.wr W733
                            have F741 := F728.wr W733
                            have F742 := F729.other W733 (Ne.symm ne519)
                            have K743 := K730.wr W733 (Or.inr sz506)
                            have N744 := Fr.snoc X733 N731 ge505
                            have Z745 : n0 ≤ h733.size := by rw [W733.size]; exact Z732
                            have V733' : Arv Z h733 a501 k501 .int (3 : Int32) [(.int (1 : Int32)), (.int (2 : Int32)), (.int (0 : Int32))] (.int (0 : Int32)) := V733
                            refine g_aloadN X733 hx 328 (hb hby d3_327) rfl rfl rfl ?_
                            refine g_getF X733 hx hZ hown (hw _ (List.mem_of_getElem? (i := 12) rfl)) Via.refl e733 F736 331 (hb hby d3_328) rfl ?_
                            intro T746 X746 e746
                            refine g_iload X746 hx 333 (hb hby d3_331) rfl rfl ?_
                            refine g_aloadN X746 hx 334 (hb hby d3_333) rfl rfl rfl ?_
                            refine g_getF X746 hx hZ hown (hw _ (List.mem_of_getElem? (i := 9) rfl)) Via.refl e746 F735 337 (hb hby d3_334) rfl ?_
                            intro T747 X747 e747
                            refine g_imulC X747 hx (3 : Int32) (by decide) 338 (hb hby d3_337) rfl ?_
                            refine g_iload X747 hx 340 (hb hby d3_338) rfl rfl ?_
                            refine g_iaddC X747 hx (5 : Int32) (by decide) 341 (hb hby d3_340) rfl ?_
                            refine g_daload X747 hx hZ e747 F738 (by decide) (by decide) (by rw [show ((5 : Int32) : Int32).toNatClampNeg = 5 by decide] <;> rfl) 342 (hb hby d3_341) rfl ?_
                            refine g_dconst0 X747 hx 343 (hb hby d3_342) rfl ?_
                            refine g_dc_eq X747 hx 344 377 347 (hb hby d3_343) rfl (hb hby d3_344) (by decide) (by decide) rfl (Jvm.FP.Core.dcmp_int hx5 own_dzero) (fun c748 => ?_) (fun c748 => ?_)
                            · skip
                              refine g_iincC X747 hx (w := (1 : Int32)) (3 : Int32) (by decide) (l' := #[.val (.ref ob), .val (.ref cs), .val (.ref vs_), .val (.ref wk), .val (.int (1 : Int32)), .val (.int (1 : Int32)), .val (.double w4), .second, .val (.ref a501), .val (.ref a515), .val (.int (2 : Int32)), .val (.int (1 : Int32)), .val (.int (3 : Int32)), .val (.double u13), .second, (own_sl o15), (own_sl o16)]) 380 (hb hby d3_377) rfl rfl (by decide) rfl ?_
                              refine g_goto X747 hx 274 (hb hby d3_380) (by decide) (by decide) ?_
                              refine g_iload X747 hx 276 (hb hby d3_274) rfl rfl ?_
                              refine g_aloadN X747 hx 277 (hb hby d3_276) rfl rfl rfl ?_
                              refine g_getF X747 hx hZ hown (hw _ (List.mem_of_getElem? (i := 9) rfl)) Via.refl e747 F735 280 (hb hby d3_277) rfl ?_
                              intro T749 X749 e749
                              have ll751 : ((3 : Int32) : Int32).toInt = 3 := by decide
                              have ll752 : ((3 : Int32) : Int32).toInt = 3 := by decide
                              refine g_ic_ge X749 hx 383 283 (hb hby d3_280) (by decide) (by decide) rfl (fun c750 => ?_) (fun c750 => ?_)
                              · skip
                                refine g_iconst X749 hx (0 : Int32) 384 (hb hby d3_383) rfl (by decide) ?_
                                refine g_istore (l' := #[.val (.ref ob), .val (.ref cs), .val (.ref vs_), .val (.ref wk), .val (.int (1 : Int32)), .val (.int (1 : Int32)), .val (.double w4), .second, .val (.ref a501), .val (.ref a515), .val (.int (2 : Int32)), .val (.int (1 : Int32)), .val (.int (0 : Int32)), .val (.double u13), .second, (own_sl o15), (own_sl o16)]) X749 hx 386 (hb hby d3_384) rfl rfl ?_
                                refine g_iload X749 hx 388 (hb hby d3_386) rfl rfl ?_
                                refine g_aloadN X749 hx 389 (hb hby d3_388) rfl rfl rfl ?_
                                refine g_getF X749 hx hZ hown (hw _ (List.mem_of_getElem? (i := 9) rfl)) Via.refl e749 F735 392 (hb hby d3_389) rfl ?_
                                intro T753 X753 e753
                                have ll755 : ((3 : Int32) : Int32).toInt = 3 := by decide
                                have ll756 : ((0 : Int32) : Int32).toInt = 0 := by decide
                                refine g_ic_ge X753 hx 541 395 (hb hby d3_392) (by decide) (by decide) rfl (fun c754 => ?_) (fun c754 => ?_)
                                · skip
                                  exfalso; revert c754; decide
                                · skip
                                  refine g_aloadN X753 hx 396 (hb hby d3_395) rfl rfl rfl ?_
                                  refine g_iload X753 hx 398 (hb hby d3_396) rfl rfl ?_
                                  refine g_aloadN X753 hx 399 (hb hby d3_398) rfl rfl rfl ?_
                                  refine g_getF X753 hx hZ hown (hw _ (List.mem_of_getElem? (i := 9) rfl)) Via.refl e753 F735 402 (hb hby d3_399) rfl ?_
                                  intro T757 X757 e757
                                  refine g_imulC X757 hx (0 : Int32) (by decide) 403 (hb hby d3_402) rfl ?_
                                  refine g_iload X757 hx 405 (hb hby d3_403) rfl rfl ?_
                                  refine g_iaddC X757 hx (1 : Int32) (by decide) 406 (hb hby d3_405) rfl ?_
                                  refine g_daload X757 hx hZ e757 F737 (by decide) (by decide) (by rw [show ((1 : Int32) : Int32).toNatClampNeg = 1 by decide] <;> rfl) 407 (hb hby d3_406) rfl ?_
                                  refine g_dstore (l' := #[.val (.ref ob), .val (.ref cs), .val (.ref vs_), .val (.ref wk), .val (.int (1 : Int32)), .val (.int (1 : Int32)), .val (.double w4), .second, .val (.ref a501), .val (.ref a515), .val (.int (2 : Int32)), .val (.int (1 : Int32)), .val (.int (0 : Int32)), .val (.double w1), .second, (own_sl o15), (own_sl o16)]) X757 hx 409 (hb hby d3_407) rfl rfl ?_
                                  refine g_iload X757 hx 411 (hb hby d3_409) rfl rfl ?_
                                  refine g_iload X757 hx 413 (hb hby d3_411) rfl rfl ?_
                                  have ll759 : ((1 : Int32) : Int32).toInt = 1 := by decide
                                  have ll760 : ((0 : Int32) : Int32).toInt = 0 := by decide
                                  refine g_ic_eq X757 hx 535 416 (hb hby d3_413) (by decide) (by decide) rfl (fun c758 => ?_) (fun c758 => ?_)
                                  · skip
                                    exfalso; revert c758; decide
                                  · skip
                                    refine g_dload X757 hx 418 (hb hby d3_416) rfl rfl ?_
                                    refine g_dconst0 X757 hx 419 (hb hby d3_418) rfl ?_
                                    refine g_dc_eq X757 hx 420 535 423 (hb hby d3_419) rfl (hb hby d3_420) (by decide) (by decide) rfl (Jvm.FP.Core.dcmp_int hw1 own_dzero) (fun c761 => ?_) (fun c761 => ?_)
                                    · skip
                                      refine g_iincC X757 hx (w := (1 : Int32)) (1 : Int32) (by decide) (l' := #[.val (.ref ob), .val (.ref cs), .val (.ref vs_), .val (.ref wk), .val (.int (1 : Int32)), .val (.int (1 : Int32)), .val (.double w4), .second, .val (.ref a501), .val (.ref a515), .val (.int (2 : Int32)), .val (.int (1 : Int32)), .val (.int (1 : Int32)), .val (.double w1), .second, (own_sl o15), (own_sl o16)]) 538 (hb hby d3_535) rfl rfl (by decide) rfl ?_
                                      refine g_goto X757 hx 386 (hb hby d3_538) (by decide) (by decide) ?_
                                      refine g_iload X757 hx 388 (hb hby d3_386) rfl rfl ?_
                                      refine g_aloadN X757 hx 389 (hb hby d3_388) rfl rfl rfl ?_
                                      refine g_getF X757 hx hZ hown (hw _ (List.mem_of_getElem? (i := 9) rfl)) Via.refl e757 F735 392 (hb hby d3_389) rfl ?_
                                      intro T762 X762 e762
                                      have ll764 : ((3 : Int32) : Int32).toInt = 3 := by decide
                                      have ll765 : ((1 : Int32) : Int32).toInt = 1 := by decide
                                      refine g_ic_ge X762 hx 541 395 (hb hby d3_392) (by decide) (by decide) rfl (fun c763 => ?_) (fun c763 => ?_)
                                      · skip
                                        exfalso; revert c763; decide
                                      · skip
                                        refine g_aloadN X762 hx 396 (hb hby d3_395) rfl rfl rfl ?_
                                        refine g_iload X762 hx 398 (hb hby d3_396) rfl rfl ?_
                                        refine g_aloadN X762 hx 399 (hb hby d3_398) rfl rfl rfl ?_
                                        refine g_getF X762 hx hZ hown (hw _ (List.mem_of_getElem? (i := 9) rfl)) Via.refl e762 F735 402 (hb hby d3_399) rfl ?_
                                        intro T766 X766 e766
                                        refine g_imulC X766 hx (3 : Int32) (by decide) 403 (hb hby d3_402) rfl ?_
                                        refine g_iload X766 hx 405 (hb hby d3_403) rfl rfl ?_
                                        refine g_iaddC X766 hx (4 : Int32) (by decide) 406 (hb hby d3_405) rfl ?_
                                        refine g_daload X766 hx hZ e766 F737 (by decide) (by decide) (by rw [show ((4 : Int32) : Int32).toNatClampNeg = 4 by decide] <;> rfl) 407 (hb hby d3_406) rfl ?_
                                        refine g_dstore (l' := #[.val (.ref ob), .val (.ref cs), .val (.ref vs_), .val (.ref wk), .val (.int (1 : Int32)), .val (.int (1 : Int32)), .val (.double w4), .second, .val (.ref a501), .val (.ref a515), .val (.int (2 : Int32)), .val (.int (1 : Int32)), .val (.int (1 : Int32)), .val (.double (FP.ddiv w4 w4)), .second, (own_sl o15), (own_sl o16)]) X766 hx 409 (hb hby d3_407) rfl rfl ?_
                                        refine g_iload X766 hx 411 (hb hby d3_409) rfl rfl ?_
                                        refine g_iload X766 hx 413 (hb hby d3_411) rfl rfl ?_
                                        have ll768 : ((1 : Int32) : Int32).toInt = 1 := by decide
                                        have ll769 : ((1 : Int32) : Int32).toInt = 1 := by decide
                                        refine g_ic_eq X766 hx 535 416 (hb hby d3_413) (by decide) (by decide) rfl (fun c767 => ?_) (fun c767 => ?_)
                                        · skip
                                          refine g_iincC X766 hx (w := (1 : Int32)) (2 : Int32) (by decide) (l' := #[.val (.ref ob), .val (.ref cs), .val (.ref vs_), .val (.ref wk), .val (.int (1 : Int32)), .val (.int (1 : Int32)), .val (.double w4), .second, .val (.ref a501), .val (.ref a515), .val (.int (2 : Int32)), .val (.int (1 : Int32)), .val (.int (2 : Int32)), .val (.double (FP.ddiv w4 w4)), .second, (own_sl o15), (own_sl o16)]) 538 (hb hby d3_535) rfl rfl (by decide) rfl ?_
                                          refine g_goto X766 hx 386 (hb hby d3_538) (by decide) (by decide) ?_
                                          refine g_iload X766 hx 388 (hb hby d3_386) rfl rfl ?_
                                          refine g_aloadN X766 hx 389 (hb hby d3_388) rfl rfl rfl ?_
                                          refine g_getF X766 hx hZ hown (hw _ (List.mem_of_getElem? (i := 9) rfl)) Via.refl e766 F735 392 (hb hby d3_389) rfl ?_
                                          intro T770 X770 e770
                                          have ll772 : ((3 : Int32) : Int32).toInt = 3 := by decide
                                          have ll773 : ((2 : Int32) : Int32).toInt = 2 := by decide
                                          refine g_ic_ge X770 hx 541 395 (hb hby d3_392) (by decide) (by decide) rfl (fun c771 => ?_) (fun c771 => ?_)
                                          · skip
                                            exfalso; revert c771; decide
                                          · skip
                                            refine g_aloadN X770 hx 396 (hb hby d3_395) rfl rfl rfl ?_
                                            refine g_iload X770 hx 398 (hb hby d3_396) rfl rfl ?_
                                            refine g_aloadN X770 hx 399 (hb hby d3_398) rfl rfl rfl ?_
                                            refine g_getF X770 hx hZ hown (hw _ (List.mem_of_getElem? (i := 9) rfl)) Via.refl e770 F735 402 (hb hby d3_399) rfl ?_
                                            intro T774 X774 e774
                                            refine g_imulC X774 hx (6 : Int32) (by decide) 403 (hb hby d3_402) rfl ?_
                                            refine g_iload X774 hx 405 (hb hby d3_403) rfl rfl ?_
                                            refine g_iaddC X774 hx (7 : Int32) (by decide) 406 (hb hby d3_405) rfl ?_
                                            refine g_daload X774 hx hZ e774 F737 (by decide) (by decide) (by rw [show ((7 : Int32) : Int32).toNatClampNeg = 7 by decide] <;> rfl) 407 (hb hby d3_406) rfl ?_
                                            refine g_dstore (l' := #[.val (.ref ob), .val (.ref cs), .val (.ref vs_), .val (.ref wk), .val (.int (1 : Int32)), .val (.int (1 : Int32)), .val (.double w4), .second, .val (.ref a501), .val (.ref a515), .val (.int (2 : Int32)), .val (.int (1 : Int32)), .val (.int (2 : Int32)), .val (.double w7), .second, (own_sl o15), (own_sl o16)]) X774 hx 409 (hb hby d3_407) rfl rfl ?_
                                            refine g_iload X774 hx 411 (hb hby d3_409) rfl rfl ?_
                                            refine g_iload X774 hx 413 (hb hby d3_411) rfl rfl ?_
                                            have ll776 : ((1 : Int32) : Int32).toInt = 1 := by decide
                                            have ll777 : ((2 : Int32) : Int32).toInt = 2 := by decide
                                            refine g_ic_eq X774 hx 535 416 (hb hby d3_413) (by decide) (by decide) rfl (fun c775 => ?_) (fun c775 => ?_)
                                            · skip
                                              exfalso; revert c775; decide
                                            · skip
                                              refine g_dload X774 hx 418 (hb hby d3_416) rfl rfl ?_
                                              refine g_dconst0 X774 hx 419 (hb hby d3_418) rfl ?_
                                              refine g_dc_eq X774 hx 420 535 423 (hb hby d3_419) rfl (hb hby d3_420) (by decide) (by decide) rfl (Jvm.FP.Core.dcmp_int hw7 own_dzero) (fun c778 => ?_) (fun c778 => ?_)
                                              · skip
                                                refine g_iincC X774 hx (w := (1 : Int32)) (3 : Int32) (by decide) (l' := #[.val (.ref ob), .val (.ref cs), .val (.ref vs_), .val (.ref wk), .val (.int (1 : Int32)), .val (.int (1 : Int32)), .val (.double w4), .second, .val (.ref a501), .val (.ref a515), .val (.int (2 : Int32)), .val (.int (1 : Int32)), .val (.int (3 : Int32)), .val (.double w7), .second, (own_sl o15), (own_sl o16)]) 538 (hb hby d3_535) rfl rfl (by decide) rfl ?_
                                                refine g_goto X774 hx 386 (hb hby d3_538) (by decide) (by decide) ?_
                                                refine g_iload X774 hx 388 (hb hby d3_386) rfl rfl ?_
                                                refine g_aloadN X774 hx 389 (hb hby d3_388) rfl rfl rfl ?_
                                                refine g_getF X774 hx hZ hown (hw _ (List.mem_of_getElem? (i := 9) rfl)) Via.refl e774 F735 392 (hb hby d3_389) rfl ?_
                                                intro T779 X779 e779
                                                have ll781 : ((3 : Int32) : Int32).toInt = 3 := by decide
                                                have ll782 : ((3 : Int32) : Int32).toInt = 3 := by decide
                                                refine g_ic_ge X779 hx 541 395 (hb hby d3_392) (by decide) (by decide) rfl (fun c780 => ?_) (fun c780 => ?_)
                                                · skip
                                                  refine g_iincC X779 hx (w := (1 : Int32)) (2 : Int32) (by decide) (l' := #[.val (.ref ob), .val (.ref cs), .val (.ref vs_), .val (.ref wk), .val (.int (2 : Int32)), .val (.int (1 : Int32)), .val (.double w4), .second, .val (.ref a501), .val (.ref a515), .val (.int (2 : Int32)), .val (.int (1 : Int32)), .val (.int (3 : Int32)), .val (.double w7), .second, (own_sl o15), (own_sl o16)]) 544 (hb hby d3_541) rfl rfl (by decide) rfl ?_
                                                  refine g_goto X779 hx 118 (hb hby d3_544) (by decide) (by decide) ?_
                                                  exact rmV_2 (o15 := o15) (o16 := o16) X779 hx hby hml hret hlk hown hZ hw e779 Z745 N744 ba bb bab F734 F735 F736 F737 F738 K743  gw gv sw n1 n2 n3 hw0 (own_as (by first | omega | (rw [c761]; omega)) hw1) (own_as (by first | omega | (rw [c761]; omega)) hw2) hw3 D547 D719 hw6 hw7 hw8 hx0 (own_as (by first | omega | (rw [c761]; omega)) hx1) hx2 hx3 D579 hx5 hx6 hx7 hx8
                                                · skip
                                                  exfalso; revert c780; decide
                                              · skip
                                                exfalso; omega
                                        · skip
                                          exfalso; revert c767; decide
                                    · skip
                                      refine g_iconst X757 hx (0 : Int32) 424 (hb hby d3_423) rfl (by decide) ?_
                                      refine g_istore (l' := #[.val (.ref ob), .val (.ref cs), .val (.ref vs_), .val (.ref wk), .val (.int (1 : Int32)), .val (.int (1 : Int32)), .val (.double w4), .second, .val (.ref a501), .val (.ref a515), .val (.int (2 : Int32)), .val (.int (1 : Int32)), .val (.int (0 : Int32)), .val (.double w1), .second, .val (.int (0 : Int32)), (own_sl o16)]) X757 hx 426 (hb hby d3_424) rfl (by cases o15 <;> rfl) ?_
                                      refine g_iload X757 hx 428 (hb hby d3_426) rfl rfl ?_
                                      refine g_iload X757 hx 430 (hb hby d3_428) rfl rfl ?_
                                      have ll784 : ((2 : Int32) : Int32).toInt = 2 := by decide
                                      have ll785 : ((0 : Int32) : Int32).toInt = 0 := by decide
                                      refine g_ic_ge X757 hx 476 433 (hb hby d3_430) (by decide) (by decide) rfl (fun c783 => ?_) (fun c783 => ?_)
                                      · skip
                                        exfalso; revert c783; decide
                                      · skip
                                        refine g_aload X757 hx 435 (hb hby d3_433) rfl rfl rfl ?_
                                        refine g_iload X757 hx 437 (hb hby d3_435) rfl rfl ?_
                                        refine g_iaload X757 hx hZ e757 V733' (by decide) (by decide) (by rw [show ((0 : Int32) : Int32).toNatClampNeg = 0 by decide] <;> rfl) 438 (hb hby d3_437) rfl ?_
                                        refine g_istore (l' := #[.val (.ref ob), .val (.ref cs), .val (.ref vs_), .val (.ref wk), .val (.int (1 : Int32)), .val (.int (1 : Int32)), .val (.double w4), .second, .val (.ref a501), .val (.ref a515), .val (.int (2 : Int32)), .val (.int (1 : Int32)), .val (.int (0 : Int32)), .val (.double w1), .second, .val (.int (0 : Int32)), .val (.int (1 : Int32))]) X757 hx 440 (hb hby d3_438) rfl (by cases o16 <;> rfl) ?_
                                        refine g_aloadN X757 hx 441 (hb hby d3_440) rfl rfl rfl ?_
                                        refine g_iload X757 hx 443 (hb hby d3_441) rfl rfl ?_
                                        refine g_aloadN X757 hx 444 (hb hby d3_443) rfl rfl rfl ?_
                                        refine g_getF X757 hx hZ hown (hw _ (List.mem_of_getElem? (i := 9) rfl)) Via.refl e757 F735 447 (hb hby d3_444) rfl ?_
                                        intro T786 X786 e786
                                        refine g_imulC X786 hx (0 : Int32) (by decide) 448 (hb hby d3_447) rfl ?_
                                        refine g_iload X786 hx 450 (hb hby d3_448) rfl rfl ?_
                                        refine g_iaddC X786 hx (1 : Int32) (by decide) 451 (hb hby d3_450) rfl ?_
                                        refine g_dup2 X786 hx 452 (hb hby d3_451) rfl rfl rfl ?_
                                        refine g_daload X786 hx hZ e786 F737 (by decide) (by decide) (by rw [show ((1 : Int32) : Int32).toNatClampNeg = 1 by decide] <;> rfl) 453 (hb hby d3_452) rfl ?_
                                        refine g_dload X786 hx 455 (hb hby d3_453) rfl rfl ?_
                                        refine g_aloadN X786 hx 456 (hb hby d3_455) rfl rfl rfl ?_
                                        refine g_iload X786 hx 458 (hb hby d3_456) rfl rfl ?_
                                        refine g_aloadN X786 hx 459 (hb hby d3_458) rfl rfl rfl ?_
                                        refine g_getF X786 hx hZ hown (hw _ (List.mem_of_getElem? (i := 9) rfl)) Via.refl e786 F735 462 (hb hby d3_459) rfl ?_
                                        intro T787 X787 e787
                                        refine g_imulC X787 hx (3 : Int32) (by decide) 463 (hb hby d3_462) rfl ?_
                                        refine g_iload X787 hx 465 (hb hby d3_463) rfl rfl ?_
                                        refine g_iaddC X787 hx (4 : Int32) (by decide) 466 (hb hby d3_465) rfl ?_
                                        refine g_daload X787 hx hZ e787 F737 (by decide) (by decide) (by rw [show ((4 : Int32) : Int32).toNatClampNeg = 4 by decide] <;> rfl) 467 (hb hby d3_466) rfl ?_
                                        have D788 : Jvm.FP.Core.DInt ia (FP.dmul w1 (FP.ddiv w4 w4)) := own_as (by omega) (Jvm.FP.Core.dmul_int hw1 D547 (by omega))
                                        refine g_dmul X787 hx 468 (hb hby d3_467) rfl (own_dnn D788) ?_
                                        have D789 : Jvm.FP.Core.DInt 0 (FP.dsub w1 (FP.dmul w1 (FP.ddiv w4 w4))) := own_as (by omega) (Jvm.FP.Core.dsub_int hw1 D788 (by omega))
                                        refine g_dsub X787 hx 469 (hb hby d3_468) rfl (own_dnn D789) ?_
                                        refine g_dastore X787 hx hZ e787 F737 1 (by decide) (by decide) (by show 1 < 9; decide) 470 (hb hby d3_469) rfl ?_
                                        intro T790 h790 X790 e790 W790 V790
                                        have F791 := F734.wr W790
                                        have F792 := F735.other W790 (Or.inl n1)
                                        have F793 := F736.other W790 (Or.inl n1)
                                        have F795 := F738.other W790 (Ne.symm n3)
                                        have F796 := F739.wr W790
                                        have F797 := V733'.other W790 (Ne.symm ne503)
                                        have F798 := F741.wr W790
                                        have F799 := F742.other W790 (Ne.symm ne517)
                                        have K800 := K743.wr W790 (Or.inr sw)
                                        have N801 := Fr.snoc X790 N744 gw
                                        have Z802 : n0 ≤ h790.size := by rw [W790.size]; exact Z745
                                        have V790' : Arv Z h790 wk kw .double (9 : Int32) [(.double w0), (.double (FP.dsub w1 (FP.dmul w1 (FP.ddiv w4 w4)))), (.double w2), (.double w3), (.double (FP.ddiv w4 w4)), (.double (FP.ddiv w5 w4)), (.double w6), (.double w7), (.double w8)] (.double 0) := V790
                                        refine g_iincC X790 hx (w := (1 : Int32)) (1 : Int32) (by decide) (l' := #[.val (.ref ob), .val (.ref cs), .val (.ref vs_), .val (.ref wk), .val (.int (1 : Int32)), .val (.int (1 : Int32)), .val (.double w4), .second, .val (.ref a501), .val (.ref a515), .val (.int (2 : Int32)), .val (.int (1 : Int32)), .val (.int (0 : Int32)), .val (.double w1), .second, .val (.int (1 : Int32)), .val (.int (1 : Int32))]) 473 (hb hby d3_470) rfl rfl (by decide) rfl ?_
                                        refine g_goto X790 hx 426 (hb hby d3_473) (by decide) (by decide) ?_
                                        refine g_iload X790 hx 428 (hb hby d3_426) rfl rfl ?_
                                        refine g_iload X790 hx 430 (hb hby d3_428) rfl rfl ?_
                                        have ll804 : ((2 : Int32) : Int32).toInt = 2 := by decide
                                        have ll805 : ((1 : Int32) : Int32).toInt = 1 := by decide
                                        refine g_ic_ge X790 hx 476 433 (hb hby d3_430) (by decide) (by decide) rfl (fun c803 => ?_) (fun c803 => ?_)
                                        · skip
                                          exfalso; revert c803; decide
                                        · skip
                                          refine g_aload X790 hx 435 (hb hby d3_433) rfl rfl rfl ?_
                                          refine g_iload X790 hx 437 (hb hby d3_435) rfl rfl ?_
                                          refine g_iaload X790 hx hZ e790 F797 (by decide) (by decide) (by rw [show ((1 : Int32) : Int32).toNatClampNeg = 1 by decide] <;> rfl) 438 (hb hby d3_437) rfl ?_
                                          refine g_istore (l' := #[.val (.ref ob), .val (.ref cs), .val (.ref vs_), .val (.ref wk), .val (.int (1 : Int32)), .val (.int (1 : Int32)), .val (.double w4), .second, .val (.ref a501), .val (.ref a515), .val (.int (2 : Int32)), .val (.int (1 : Int32)), .val (.int (0 : Int32)), .val (.double w1), .second, .val (.int (1 : Int32)), .val (.int (2 : Int32))]) X790 hx 440 (hb hby d3_438) rfl rfl ?_
                                          refine g_aloadN X790 hx 441 (hb hby d3_440) rfl rfl rfl ?_
                                          refine g_iload X790 hx 443 (hb hby d3_441) rfl rfl ?_
                                          refine g_aloadN X790 hx 444 (hb hby d3_443) rfl rfl rfl ?_
                                          refine g_getF X790 hx hZ hown (hw _ (List.mem_of_getElem? (i := 9) rfl)) Via.refl e790 F792 447 (hb hby d3_444) rfl ?_
                                          intro T806 X806 e806
                                          refine g_imulC X806 hx (0 : Int32) (by decide) 448 (hb hby d3_447) rfl ?_
                                          refine g_iload X806 hx 450 (hb hby d3_448) rfl rfl ?_
                                          refine g_iaddC X806 hx (2 : Int32) (by decide) 451 (hb hby d3_450) rfl ?_
                                          refine g_dup2 X806 hx 452 (hb hby d3_451) rfl rfl rfl ?_
                                          refine g_daload X806 hx hZ e806 V790' (by decide) (by decide) (by rw [show ((2 : Int32) : Int32).toNatClampNeg = 2 by decide] <;> rfl) 453 (hb hby d3_452) rfl ?_
                                          refine g_dload X806 hx 455 (hb hby d3_453) rfl rfl ?_
                                          refine g_aloadN X806 hx 456 (hb hby d3_455) rfl rfl rfl ?_
                                          refine g_iload X806 hx 458 (hb hby d3_456) rfl rfl ?_
                                          refine g_aloadN X806 hx 459 (hb hby d3_458) rfl rfl rfl ?_
                                          refine g_getF X806 hx hZ hown (hw _ (List.mem_of_getElem? (i := 9) rfl)) Via.refl e806 F792 462 (hb hby d3_459) rfl ?_
                                          intro T807 X807 e807
                                          refine g_imulC X807 hx (3 : Int32) (by decide) 463 (hb hby d3_462) rfl ?_
                                          refine g_iload X807 hx 465 (hb hby d3_463) rfl rfl ?_
                                          refine g_iaddC X807 hx (5 : Int32) (by decide) 466 (hb hby d3_465) rfl ?_
                                          refine g_daload X807 hx hZ e807 V790' (by decide) (by decide) (by rw [show ((5 : Int32) : Int32).toNatClampNeg = 5 by decide] <;> rfl) 467 (hb hby d3_466) rfl ?_
                                          have D808 : Jvm.FP.Core.DInt (ia * ib) (FP.dmul w1 (FP.ddiv w5 w4)) := own_as (by omega) (Jvm.FP.Core.dmul_int hw1 D719 (by omega))
                                          refine g_dmul X807 hx 468 (hb hby d3_467) rfl (own_dnn D808) ?_
                                          have D809 : Jvm.FP.Core.DInt (-(ia * ib)) (FP.dsub w2 (FP.dmul w1 (FP.ddiv w5 w4))) := own_as (by omega) (Jvm.FP.Core.dsub_int hw2 D808 (by omega))
                                          refine g_dsub X807 hx 469 (hb hby d3_468) rfl (own_dnn D809) ?_
                                          refine g_dastore X807 hx hZ e807 V790' 2 (by decide) (by decide) (by show 2 < 9; decide) 470 (hb hby d3_469) rfl ?_
                                          intro T810 h810 X810 e810 W810 V810
                                          have F811 := F791.wr W810
                                          have F812 := F792.other W810 (Or.inl n1)
                                          have F813 := F793.other W810 (Or.inl n1)
                                          have F815 := F795.other W810 (Ne.symm n3)
                                          have F816 := F796.wr W810
                                          have F817 := F797.other W810 (Ne.symm ne503)
                                          have F818 := F798.wr W810
                                          have F819 := F799.other W810 (Ne.symm ne517)
                                          have K820 := K800.wr W810 (Or.inr sw)
                                          have N821 := Fr.snoc X810 N801 gw
                                          have Z822 : n0 ≤ h810.size := by rw [W810.size]; exact Z802
                                          have V810' : Arv Z h810 wk kw .double (9 : Int32) [(.double w0), (.double (FP.dsub w1 (FP.dmul w1 (FP.ddiv w4 w4)))), (.double (FP.dsub w2 (FP.dmul w1 (FP.ddiv w5 w4)))), (.double w3), (.double (FP.ddiv w4 w4)), (.double (FP.ddiv w5 w4)), (.double w6), (.double w7), (.double w8)] (.double 0) := V810
                                          refine g_iincC X810 hx (w := (1 : Int32)) (2 : Int32) (by decide) (l' := #[.val (.ref ob), .val (.ref cs), .val (.ref vs_), .val (.ref wk), .val (.int (1 : Int32)), .val (.int (1 : Int32)), .val (.double w4), .second, .val (.ref a501), .val (.ref a515), .val (.int (2 : Int32)), .val (.int (1 : Int32)), .val (.int (0 : Int32)), .val (.double w1), .second, .val (.int (2 : Int32)), .val (.int (2 : Int32))]) 473 (hb hby d3_470) rfl rfl (by decide) rfl ?_
                                          refine g_goto X810 hx 426 (hb hby d3_473) (by decide) (by decide) ?_
                                          refine g_iload X810 hx 428 (hb hby d3_426) rfl rfl ?_
                                          refine g_iload X810 hx 430 (hb hby d3_428) rfl rfl ?_
                                          have ll824 : ((2 : Int32) : Int32).toInt = 2 := by decide
                                          have ll825 : ((2 : Int32) : Int32).toInt = 2 := by decide
                                          refine g_ic_ge X810 hx 476 433 (hb hby d3_430) (by decide) (by decide) rfl (fun c823 => ?_) (fun c823 => ?_)
                                          · skip
                                            refine g_iconst X810 hx (0 : Int32) 477 (hb hby d3_476) rfl (by decide) ?_
                                            refine g_istore (l' := #[.val (.ref ob), .val (.ref cs), .val (.ref vs_), .val (.ref wk), .val (.int (1 : Int32)), .val (.int (1 : Int32)), .val (.double w4), .second, .val (.ref a501), .val (.ref a515), .val (.int (2 : Int32)), .val (.int (1 : Int32)), .val (.int (0 : Int32)), .val (.double w1), .second, .val (.int (0 : Int32)), .val (.int (2 : Int32))]) X810 hx 479 (hb hby d3_477) rfl rfl ?_
                                            refine g_iload X810 hx 481 (hb hby d3_479) rfl rfl ?_
                                            refine g_iload X810 hx 483 (hb hby d3_481) rfl rfl ?_
                                            have ll827 : ((1 : Int32) : Int32).toInt = 1 := by decide
                                            have ll828 : ((0 : Int32) : Int32).toInt = 0 := by decide
                                            refine g_ic_ge X810 hx 535 486 (hb hby d3_483) (by decide) (by decide) rfl (fun c826 => ?_) (fun c826 => ?_)
                                            · skip
                                              exfalso; revert c826; decide
                                            · skip
                                              refine g_aload X810 hx 488 (hb hby d3_486) rfl rfl rfl ?_
                                              refine g_iload X810 hx 490 (hb hby d3_488) rfl rfl ?_
                                              refine g_iaload X810 hx hZ e810 F819 (by decide) (by decide) (by rw [show ((0 : Int32) : Int32).toNatClampNeg = 0 by decide] <;> rfl) 491 (hb hby d3_490) rfl ?_
                                              refine g_istore (l' := #[.val (.ref ob), .val (.ref cs), .val (.ref vs_), .val (.ref wk), .val (.int (1 : Int32)), .val (.int (1 : Int32)), .val (.double w4), .second, .val (.ref a501), .val (.ref a515), .val (.int (2 : Int32)), .val (.int (1 : Int32)), .val (.int (0 : Int32)), .val (.double w1), .second, .val (.int (0 : Int32)), .val (.int (1 : Int32))]) X810 hx 493 (hb hby d3_491) rfl rfl ?_
                                              refine g_aloadN X810 hx 494 (hb hby d3_493) rfl rfl rfl ?_
                                              refine g_getF X810 hx hZ hown (hw _ (List.mem_of_getElem? (i := 12) rfl)) Via.refl e810 F813 497 (hb hby d3_494) rfl ?_
                                              intro T829 X829 e829
                                              refine g_iload X829 hx 499 (hb hby d3_497) rfl rfl ?_
                                              refine g_aloadN X829 hx 500 (hb hby d3_499) rfl rfl rfl ?_
                                              refine g_getF X829 hx hZ hown (hw _ (List.mem_of_getElem? (i := 9) rfl)) Via.refl e829 F812 503 (hb hby d3_500) rfl ?_
                                              intro T830 X830 e830
                                              refine g_imulC X830 hx (0 : Int32) (by decide) 504 (hb hby d3_503) rfl ?_
                                              refine g_iload X830 hx 506 (hb hby d3_504) rfl rfl ?_
                                              refine g_iaddC X830 hx (1 : Int32) (by decide) 507 (hb hby d3_506) rfl ?_
                                              refine g_dup2 X830 hx 508 (hb hby d3_507) rfl rfl rfl ?_
                                              refine g_daload X830 hx hZ e830 F815 (by decide) (by decide) (by rw [show ((1 : Int32) : Int32).toNatClampNeg = 1 by decide] <;> rfl) 509 (hb hby d3_508) rfl ?_
                                              refine g_dload X830 hx 511 (hb hby d3_509) rfl rfl ?_
                                              refine g_aloadN X830 hx 512 (hb hby d3_511) rfl rfl rfl ?_
                                              refine g_getF X830 hx hZ hown (hw _ (List.mem_of_getElem? (i := 12) rfl)) Via.refl e830 F813 515 (hb hby d3_512) rfl ?_
                                              intro T831 X831 e831
                                              refine g_iload X831 hx 517 (hb hby d3_515) rfl rfl ?_
                                              refine g_aloadN X831 hx 518 (hb hby d3_517) rfl rfl rfl ?_
                                              refine g_getF X831 hx hZ hown (hw _ (List.mem_of_getElem? (i := 9) rfl)) Via.refl e831 F812 521 (hb hby d3_518) rfl ?_
                                              intro T832 X832 e832
                                              refine g_imulC X832 hx (3 : Int32) (by decide) 522 (hb hby d3_521) rfl ?_
                                              refine g_iload X832 hx 524 (hb hby d3_522) rfl rfl ?_
                                              refine g_iaddC X832 hx (4 : Int32) (by decide) 525 (hb hby d3_524) rfl ?_
                                              refine g_daload X832 hx hZ e832 F815 (by decide) (by decide) (by rw [show ((4 : Int32) : Int32).toNatClampNeg = 4 by decide] <;> rfl) 526 (hb hby d3_525) rfl ?_
                                              have D833 : Jvm.FP.Core.DInt ia (FP.dmul w1 (FP.ddiv x4 w4)) := own_as (by omega) (Jvm.FP.Core.dmul_int hw1 D579 (by omega))
                                              refine g_dmul X832 hx 527 (hb hby d3_526) rfl (own_dnn D833) ?_
                                              have D834 : Jvm.FP.Core.DInt (-ia) (FP.dsub x1 (FP.dmul w1 (FP.ddiv x4 w4))) := own_as (by omega) (Jvm.FP.Core.dsub_int hx1 D833 (by omega))
                                              refine g_dsub X832 hx 528 (hb hby d3_527) rfl (own_dnn D834) ?_
                                              refine g_dastore X832 hx hZ e832 F815 1 (by decide) (by decide) (by show 1 < 9; decide) 529 (hb hby d3_528) rfl ?_
                                              intro T835 h835 X835 e835 W835 V835
                                              have F836 := F811.wr W835
                                              have F837 := F812.other W835 (Or.inl n2)
                                              have F838 := F813.other W835 (Or.inl n2)
                                              have F839 := V810'.other W835 n3
                                              have F841 := F816.wr W835
                                              have F842 := F817.other W835 (Ne.symm ne504)
                                              have F843 := F818.wr W835
                                              have F844 := F819.other W835 (Ne.symm ne518)
                                              have K845 := K820.wr W835 (Or.inl (List.mem_of_getElem? (i := 0) rfl))
                                              have N846 := Fr.snoc X835 N821 gv
                                              have Z847 : n0 ≤ h835.size := by rw [W835.size]; exact Z822
                                              have V835' : Arv Z h835 vi kv .double (9 : Int32) [(.double x0), (.double (FP.dsub x1 (FP.dmul w1 (FP.ddiv x4 w4)))), (.double x2), (.double x3), (.double (FP.ddiv x4 w4)), (.double x5), (.double x6), (.double x7), (.double x8)] (.double 0) := V835
                                              refine g_iincC X835 hx (w := (1 : Int32)) (1 : Int32) (by decide) (l' := #[.val (.ref ob), .val (.ref cs), .val (.ref vs_), .val (.ref wk), .val (.int (1 : Int32)), .val (.int (1 : Int32)), .val (.double w4), .second, .val (.ref a501), .val (.ref a515), .val (.int (2 : Int32)), .val (.int (1 : Int32)), .val (.int (0 : Int32)), .val (.double w1), .second, .val (.int (1 : Int32)), .val (.int (1 : Int32))]) 532 (hb hby d3_529) rfl rfl (by decide) rfl ?_
                                              refine g_goto X835 hx 479 (hb hby d3_532) (by decide) (by decide) ?_
                                              refine g_iload X835 hx 481 (hb hby d3_479) rfl rfl ?_
                                              refine g_iload X835 hx 483 (hb hby d3_481) rfl rfl ?_
                                              have ll849 : ((1 : Int32) : Int32).toInt = 1 := by decide
                                              have ll850 : ((1 : Int32) : Int32).toInt = 1 := by decide
                                              refine g_ic_ge X835 hx 535 486 (hb hby d3_483) (by decide) (by decide) rfl (fun c848 => ?_) (fun c848 => ?_)
                                              · skip
                                                refine g_iincC X835 hx (w := (1 : Int32)) (1 : Int32) (by decide) (l' := #[.val (.ref ob), .val (.ref cs), .val (.ref vs_), .val (.ref wk), .val (.int (1 : Int32)), .val (.int (1 : Int32)), .val (.double w4), .second, .val (.ref a501), .val (.ref a515), .val (.int (2 : Int32)), .val (.int (1 : Int32)), .val (.int (1 : Int32)), .val (.double w1), .second, .val (.int (1 : Int32)), .val (.int (1 : Int32))]) 538 (hb hby d3_535) rfl rfl (by decide) rfl ?_
                                                refine g_goto X835 hx 386 (hb hby d3_538) (by decide) (by decide) ?_
                                                refine g_iload X835 hx 388 (hb hby d3_386) rfl rfl ?_
                                                refine g_aloadN X835 hx 389 (hb hby d3_388) rfl rfl rfl ?_
                                                refine g_getF X835 hx hZ hown (hw _ (List.mem_of_getElem? (i := 9) rfl)) Via.refl e835 F837 392 (hb hby d3_389) rfl ?_
                                                intro T851 X851 e851
                                                have ll853 : ((3 : Int32) : Int32).toInt = 3 := by decide
                                                have ll854 : ((1 : Int32) : Int32).toInt = 1 := by decide
                                                refine g_ic_ge X851 hx 541 395 (hb hby d3_392) (by decide) (by decide) rfl (fun c852 => ?_) (fun c852 => ?_)
                                                · skip
                                                  exfalso; revert c852; decide
                                                · skip
                                                  refine g_aloadN X851 hx 396 (hb hby d3_395) rfl rfl rfl ?_
                                                  refine g_iload X851 hx 398 (hb hby d3_396) rfl rfl ?_
                                                  refine g_aloadN X851 hx 399 (hb hby d3_398) rfl rfl rfl ?_
                                                  refine g_getF X851 hx hZ hown (hw _ (List.mem_of_getElem? (i := 9) rfl)) Via.refl e851 F837 402 (hb hby d3_399) rfl ?_
                                                  intro T855 X855 e855
                                                  refine g_imulC X855 hx (3 : Int32) (by decide) 403 (hb hby d3_402) rfl ?_
                                                  refine g_iload X855 hx 405 (hb hby d3_403) rfl rfl ?_
                                                  refine g_iaddC X855 hx (4 : Int32) (by decide) 406 (hb hby d3_405) rfl ?_
                                                  refine g_daload X855 hx hZ e855 F839 (by decide) (by decide) (by rw [show ((4 : Int32) : Int32).toNatClampNeg = 4 by decide] <;> rfl) 407 (hb hby d3_406) rfl ?_
                                                  refine g_dstore (l' := #[.val (.ref ob), .val (.ref cs), .val (.ref vs_), .val (.ref wk), .val (.int (1 : Int32)), .val (.int (1 : Int32)), .val (.double w4), .second, .val (.ref a501), .val (.ref a515), .val (.int (2 : Int32)), .val (.int (1 : Int32)), .val (.int (1 : Int32)), .val (.double (FP.ddiv w4 w4)), .second, .val (.int (1 : Int32)), .val (.int (1 : Int32))]) X855 hx 409 (hb hby d3_407) rfl rfl ?_
                                                  refine g_iload X855 hx 411 (hb hby d3_409) rfl rfl ?_
                                                  refine g_iload X855 hx 413 (hb hby d3_411) rfl rfl ?_
                                                  have ll857 : ((1 : Int32) : Int32).toInt = 1 := by decide
                                                  have ll858 : ((1 : Int32) : Int32).toInt = 1 := by decide
                                                  refine g_ic_eq X855 hx 535 416 (hb hby d3_413) (by decide) (by decide) rfl (fun c856 => ?_) (fun c856 => ?_)
                                                  · skip
                                                    refine g_iincC X855 hx (w := (1 : Int32)) (2 : Int32) (by decide) (l' := #[.val (.ref ob), .val (.ref cs), .val (.ref vs_), .val (.ref wk), .val (.int (1 : Int32)), .val (.int (1 : Int32)), .val (.double w4), .second, .val (.ref a501), .val (.ref a515), .val (.int (2 : Int32)), .val (.int (1 : Int32)), .val (.int (2 : Int32)), .val (.double (FP.ddiv w4 w4)), .second, .val (.int (1 : Int32)), .val (.int (1 : Int32))]) 538 (hb hby d3_535) rfl rfl (by decide) rfl ?_
                                                    refine g_goto X855 hx 386 (hb hby d3_538) (by decide) (by decide) ?_
                                                    refine g_iload X855 hx 388 (hb hby d3_386) rfl rfl ?_
                                                    refine g_aloadN X855 hx 389 (hb hby d3_388) rfl rfl rfl ?_
                                                    refine g_getF X855 hx hZ hown (hw _ (List.mem_of_getElem? (i := 9) rfl)) Via.refl e855 F837 392 (hb hby d3_389) rfl ?_
                                                    intro T859 X859 e859
                                                    have ll861 : ((3 : Int32) : Int32).toInt = 3 := by decide
                                                    have ll862 : ((2 : Int32) : Int32).toInt = 2 := by decide
                                                    refine g_ic_ge X859 hx 541 395 (hb hby d3_392) (by decide) (by decide) rfl (fun c860 => ?_) (fun c860 => ?_)
                                                    · skip
                                                      exfalso; revert c860; decide
                                                    · skip
                                                      refine g_aloadN X859 hx 396 (hb hby d3_395) rfl rfl rfl ?_
                                                      refine g_iload X859 hx 398 (hb hby d3_396) rfl rfl ?_
                                                      refine g_aloadN X859 hx 399 (hb hby d3_398) rfl rfl rfl ?_
                                                      refine g_getF X859 hx hZ hown (hw _ (List.mem_of_getElem? (i := 9) rfl)) Via.refl e859 F837 402 (hb hby d3_399) rfl ?_
                                                      intro T863 X863 e863
                                                      refine g_imulC X863 hx (6 : Int32) (by decide) 403 (hb hby d3_402) rfl ?_
                                                      refine g_iload X863 hx 405 (hb hby d3_403) rfl rfl ?_
                                                      refine g_iaddC X863 hx (7 : Int32) (by decide) 406 (hb hby d3_405) rfl ?_
                                                      refine g_daload X863 hx hZ e863 F839 (by decide) (by decide) (by rw [show ((7 : Int32) : Int32).toNatClampNeg = 7 by decide] <;> rfl) 407 (hb hby d3_406) rfl ?_
                                                      refine g_dstore (l' := #[.val (.ref ob), .val (.ref cs), .val (.ref vs_), .val (.ref wk), .val (.int (1 : Int32)), .val (.int (1 : Int32)), .val (.double w4), .second, .val (.ref a501), .val (.ref a515), .val (.int (2 : Int32)), .val (.int (1 : Int32)), .val (.int (2 : Int32)), .val (.double w7), .second, .val (.int (1 : Int32)), .val (.int (1 : Int32))]) X863 hx 409 (hb hby d3_407) rfl rfl ?_
                                                      refine g_iload X863 hx 411 (hb hby d3_409) rfl rfl ?_
                                                      refine g_iload X863 hx 413 (hb hby d3_411) rfl rfl ?_
                                                      have ll865 : ((1 : Int32) : Int32).toInt = 1 := by decide
                                                      have ll866 : ((2 : Int32) : Int32).toInt = 2 := by decide
                                                      refine g_ic_eq X863 hx 535 416 (hb hby d3_413) (by decide) (by decide) rfl (fun c864 => ?_) (fun c864 => ?_)
                                                      · skip
                                                        exfalso; revert c864; decide
                                                      · skip
                                                        refine g_dload X863 hx 418 (hb hby d3_416) rfl rfl ?_
                                                        refine g_dconst0 X863 hx 419 (hb hby d3_418) rfl ?_
                                                        refine g_dc_eq X863 hx 420 535 423 (hb hby d3_419) rfl (hb hby d3_420) (by decide) (by decide) rfl (Jvm.FP.Core.dcmp_int hw7 own_dzero) (fun c867 => ?_) (fun c867 => ?_)
                                                        · skip
                                                          refine g_iincC X863 hx (w := (1 : Int32)) (3 : Int32) (by decide) (l' := #[.val (.ref ob), .val (.ref cs), .val (.ref vs_), .val (.ref wk), .val (.int (1 : Int32)), .val (.int (1 : Int32)), .val (.double w4), .second, .val (.ref a501), .val (.ref a515), .val (.int (2 : Int32)), .val (.int (1 : Int32)), .val (.int (3 : Int32)), .val (.double w7), .second, .val (.int (1 : Int32)), .val (.int (1 : Int32))]) 538 (hb hby d3_535) rfl rfl (by decide) rfl ?_
                                                          refine g_goto X863 hx 386 (hb hby d3_538) (by decide) (by decide) ?_
                                                          refine g_iload X863 hx 388 (hb hby d3_386) rfl rfl ?_
                                                          refine g_aloadN X863 hx 389 (hb hby d3_388) rfl rfl rfl ?_
                                                          refine g_getF X863 hx hZ hown (hw _ (List.mem_of_getElem? (i := 9) rfl)) Via.refl e863 F837 392 (hb hby d3_389) rfl ?_
                                                          intro T868 X868 e868
                                                          have ll870 : ((3 : Int32) : Int32).toInt = 3 := by decide
                                                          have ll871 : ((3 : Int32) : Int32).toInt = 3 := by decide
                                                          refine g_ic_ge X868 hx 541 395 (hb hby d3_392) (by decide) (by decide) rfl (fun c869 => ?_) (fun c869 => ?_)
                                                          · skip
                                                            refine g_iincC X868 hx (w := (1 : Int32)) (2 : Int32) (by decide) (l' := #[.val (.ref ob), .val (.ref cs), .val (.ref vs_), .val (.ref wk), .val (.int (2 : Int32)), .val (.int (1 : Int32)), .val (.double w4), .second, .val (.ref a501), .val (.ref a515), .val (.int (2 : Int32)), .val (.int (1 : Int32)), .val (.int (3 : Int32)), .val (.double w7), .second, .val (.int (1 : Int32)), .val (.int (1 : Int32))]) 544 (hb hby d3_541) rfl rfl (by decide) rfl ?_
                                                            refine g_goto X868 hx 118 (hb hby d3_544) (by decide) (by decide) ?_
                                                            exact rmV_2 (o15 := (some (1 : Int32))) (o16 := (some (1 : Int32))) X868 hx hby hml hret hlk hown hZ hw e868 Z847 N846 ba bb bab F836 F837 F838 F839 V835' K845  gw gv sw n1 n2 n3 hw0 D789 D809 hw3 D547 D719 hw6 hw7 hw8 hx0 D834 hx2 hx3 D579 hx5 hx6 hx7 hx8
                                                          · skip
                                                            exfalso; revert c869; decide
                                                        · skip
                                                          exfalso; omega
                                                  · skip
                                                    exfalso; revert c856; decide
                                              · skip
                                                exfalso; revert c848; decide
                                          · skip
                                            exfalso; revert c823; decide
                              · skip
                                exfalso; revert c750; decide
                            · skip
                              exfalso; omega
                · skip
                  exfalso; omega
              · skip
                exfalso; omega
          · skip
            exfalso; omega
        · skip
          exfalso; revert c488; decide
      · skip
        exfalso; omega
set_option maxRecDepth 65536 in
set_option maxHeartbeats 40000000 in
theorem rmV_0 {p : Program} {l : Launch} {e : Env} {s : State} {m : MethodId} {args : Array Value} {below : List Frame} {meth : Method} {c : Code} {T0 Z : State} {a0 : Array Value} {h0 : Heap} {n0 : Nat} {ob cs vs_ wk vi : Addr} {kw kv : ClassId} {ia ib : Int} {hE : Heap} {L0 : List Loc} {u5 : Int32} {w0 w1 w2 w3 w4 w5 w6 w7 w8 x0 x1 x2 x3 x4 x5 x6 x7 x8 : UInt64} (X0 : Stand p l e ({ frames := 1, cells := 7, slots := 27, locals := 40 } : Room) s m args below meth c T0 L0 1 9) (hx : p.tables.exec = Jvm.exec) (hby : c.code = prog_33_method_2_code) (hml : c.maxLocals = 17) (hret : meth.sig.returnType = (some .boolean)) (hlk : meth.locks = false) (hown : s.vm.findClass "com/example/tracefold/tracefold/mining/DenseInverse" = some m.cls) (hZ : Z.Warmed39 s.vm) (hw : ∀ d ∈ tables_1, d.before a0 Z = true) (e0 : T0.heap = h0) (Z0 : n0 ≤ h0.size) (N0 : Fr n0 L0) (ba : -128 ≤ ia ∧ ia ≤ 127) (bb : -128 ≤ ib ∧ ib ≤ 127) (bab : -20000 ≤ ia * ib ∧ ia * ib ≤ 20000) (Eo : Exa Z h0 ob "com/example/tracefold/tracefold/mining/DenseInverse") (Fn : Fld Z h0 ob "com/example/tracefold/tracefold/mining/DenseInverse" "n" "I" (.int 3)) (Fv : Fld Z h0 ob "com/example/tracefold/tracefold/mining/DenseInverse" "inverse" "[D" (.ref vi)) (Vw : Arv Z h0 wk kw .double 9 [(.double w0), (.double w1), (.double w2), (.double w3), (.double w4), (.double w5), (.double w6), (.double w7), (.double w8)] (.double 0)) (Vv : Arv Z h0 vi kv .double 9 [(.double x0), (.double x1), (.double x2), (.double x3), (.double x4), (.double x5), (.double x6), (.double x7), (.double x8)] (.double 0)) (KE : Keep hE h0 [vi]) (gw : n0 ≤ wk) (gv : n0 ≤ vi) (sw : hE.size ≤ wk) (n1 : ob ≠ wk) (n2 : ob ≠ vi) (n3 : wk ≠ vi) (hw0 : Jvm.FP.Core.DInt 1 w0) (hw1 : Jvm.FP.Core.DInt ia w1) (hw2 : Jvm.FP.Core.DInt 0 w2) (hw3 : Jvm.FP.Core.DInt 0 w3) (hw4 : Jvm.FP.Core.DInt 1 w4) (hw5 : Jvm.FP.Core.DInt ib w5) (hw6 : Jvm.FP.Core.DInt 0 w6) (hw7 : Jvm.FP.Core.DInt 0 w7) (hw8 : Jvm.FP.Core.DInt 1 w8) (hx0 : Jvm.FP.Core.DInt 1 x0) (hx1 : Jvm.FP.Core.DInt 0 x1) (hx2 : Jvm.FP.Core.DInt 0 x2) (hx3 : Jvm.FP.Core.DInt 0 x3) (hx4 : Jvm.FP.Core.DInt 1 x4) (hx5 : Jvm.FP.Core.DInt 0 x5) (hx6 : Jvm.FP.Core.DInt 0 x6) (hx7 : Jvm.FP.Core.DInt 0 x7) (hx8 : Jvm.FP.Core.DInt 1 x8) :
    Go p e below (EndQ s (Q_rmV Z vi kv ia ib n0 hE) 7 27) T0 (mkF m 118 #[.val (.ref ob), .val (.ref cs), .val (.ref vs_), .val (.ref wk), .val (.int (0 : Int32)), .val (.int u5), .unset, .unset, .unset, .unset, .unset, .unset, .unset, .unset, .unset, .unset, .unset] []) := by
  refine g_iload X0 hx 120 (hb hby d3_118) rfl rfl ?_
  refine g_aloadN X0 hx 121 (hb hby d3_120) rfl rfl rfl ?_
  refine g_getF X0 hx hZ hown (hw _ (List.mem_of_getElem? (i := 9) rfl)) Via.refl e0 Fn 124 (hb hby d3_121) rfl ?_
  intro T872 X872 e872
  have ll874 : ((3 : Int32) : Int32).toInt = 3 := by decide
  have ll875 : ((0 : Int32) : Int32).toInt = 0 := by decide
  refine g_ic_ge X872 hx 547 127 (hb hby d3_124) (by decide) (by decide) rfl (fun c873 => ?_) (fun c873 => ?_)
  · skip
    exfalso; revert c873; decide
  · skip
    refine g_iload X872 hx 129 (hb hby d3_127) rfl rfl ?_
    refine g_istore (l' := #[.val (.ref ob), .val (.ref cs), .val (.ref vs_), .val (.ref wk), .val (.int (0 : Int32)), .val (.int (0 : Int32)), .unset, .unset, .unset, .unset, .unset, .unset, .unset, .unset, .unset, .unset, .unset]) X872 hx 131 (hb hby d3_129) rfl rfl ?_
    refine g_iload X872 hx 133 (hb hby d3_131) rfl rfl ?_
    refine g_iconst X872 hx (1 : Int32) 134 (hb hby d3_133) rfl (by decide) ?_
    refine g_iaddC X872 hx (1 : Int32) (by decide) 135 (hb hby d3_134) rfl ?_
    refine g_istore (l' := #[.val (.ref ob), .val (.ref cs), .val (.ref vs_), .val (.ref wk), .val (.int (0 : Int32)), .val (.int (0 : Int32)), .val (.int (1 : Int32)), .unset, .unset, .unset, .unset, .unset, .unset, .unset, .unset, .unset, .unset]) X872 hx 137 (hb hby d3_135) rfl rfl ?_
    refine g_iload X872 hx 139 (hb hby d3_137) rfl rfl ?_
    refine g_aloadN X872 hx 140 (hb hby d3_139) rfl rfl rfl ?_
    refine g_getF X872 hx hZ hown (hw _ (List.mem_of_getElem? (i := 9) rfl)) Via.refl e872 Fn 143 (hb hby d3_140) rfl ?_
    intro T876 X876 e876
    have ll878 : ((3 : Int32) : Int32).toInt = 3 := by decide
    have ll879 : ((1 : Int32) : Int32).toInt = 1 := by decide
    refine g_ic_ge X876 hx 190 146 (hb hby d3_143) (by decide) (by decide) rfl (fun c877 => ?_) (fun c877 => ?_)
    · skip
      exfalso; revert c877; decide
    · skip
      refine g_aloadN X876 hx 147 (hb hby d3_146) rfl rfl rfl ?_
      refine g_iload X876 hx 149 (hb hby d3_147) rfl rfl ?_
      refine g_aloadN X876 hx 150 (hb hby d3_149) rfl rfl rfl ?_
      refine g_getF X876 hx hZ hown (hw _ (List.mem_of_getElem? (i := 9) rfl)) Via.refl e876 Fn 153 (hb hby d3_150) rfl ?_
      intro T880 X880 e880
      refine g_imulC X880 hx (3 : Int32) (by decide) 154 (hb hby d3_153) rfl ?_
      refine g_iload X880 hx 156 (hb hby d3_154) rfl rfl ?_
      refine g_iaddC X880 hx (3 : Int32) (by decide) 157 (hb hby d3_156) rfl ?_
      refine g_daload X880 hx hZ e880 Vw (by decide) (by decide) (by rw [show ((3 : Int32) : Int32).toNatClampNeg = 3 by decide] <;> rfl) 158 (hb hby d3_157) rfl ?_
      refine g_absD X880 hx hZ hown (hw _ (List.mem_of_getElem? (i := 30) rfl)) (hw _ (List.mem_of_getElem? (i := 31) rfl)) (hw _ (List.mem_of_getElem? (i := 32) rfl)) (hw _ (List.mem_of_getElem? (i := 33) rfl)) rfl e880 (own_dnn hw3) 0 161 (hb hby d3_158) rfl (by rw [hml]; rfl) (Nat.le_refl _) (by decide) (by decide) (by decide) (by decide) own_pd4 ?_
      intro T881 X881 e881
      refine g_aloadN X881 hx 162 (hb hby d3_161) rfl rfl rfl ?_
      refine g_iload X881 hx 164 (hb hby d3_162) rfl rfl ?_
      refine g_aloadN X881 hx 165 (hb hby d3_164) rfl rfl rfl ?_
      refine g_getF X881 hx hZ hown (hw _ (List.mem_of_getElem? (i := 9) rfl)) Via.refl e881 Fn 168 (hb hby d3_165) rfl ?_
      intro T882 X882 e882
      refine g_imulC X882 hx (0 : Int32) (by decide) 169 (hb hby d3_168) rfl ?_
      refine g_iload X882 hx 171 (hb hby d3_169) rfl rfl ?_
      refine g_iaddC X882 hx (0 : Int32) (by decide) 172 (hb hby d3_171) rfl ?_
      refine g_daload X882 hx hZ e882 Vw (by decide) (by decide) (by rw [show ((0 : Int32) : Int32).toNatClampNeg = 0 by decide] <;> rfl) 173 (hb hby d3_172) rfl ?_
      refine g_absD X882 hx hZ hown (hw _ (List.mem_of_getElem? (i := 30) rfl)) (hw _ (List.mem_of_getElem? (i := 31) rfl)) (hw _ (List.mem_of_getElem? (i := 32) rfl)) (hw _ (List.mem_of_getElem? (i := 33) rfl)) rfl e882 (own_dnn hw0) 2 176 (hb hby d3_173) rfl (by rw [hml]; rfl) (Nat.le_refl _) (by decide) (by decide) (by decide) (by decide) own_pd4 ?_
      intro T883 X883 e883
      refine g_dc_le X883 hx 177 184 180 (hb hby d3_176) rfl (hb hby d3_177) (by decide) (by decide) rfl (Jvm.FP.Core.dcmp_int (own_abs0 hw3) (own_abs1 hw0)) (fun c884 => ?_) (fun c884 => ?_)
      · skip
        refine g_iincC X883 hx (w := (1 : Int32)) (2 : Int32) (by decide) (l' := #[.val (.ref ob), .val (.ref cs), .val (.ref vs_), .val (.ref wk), .val (.int (0 : Int32)), .val (.int (0 : Int32)), .val (.int (2 : Int32)), .unset, .unset, .unset, .unset, .unset, .unset, .unset, .unset, .unset, .unset]) 187 (hb hby d3_184) rfl rfl (by decide) rfl ?_
        refine g_goto X883 hx 137 (hb hby d3_187) (by decide) (by decide) ?_
        refine g_iload X883 hx 139 (hb hby d3_137) rfl rfl ?_
        refine g_aloadN X883 hx 140 (hb hby d3_139) rfl rfl rfl ?_
        refine g_getF X883 hx hZ hown (hw _ (List.mem_of_getElem? (i := 9) rfl)) Via.refl e883 Fn 143 (hb hby d3_140) rfl ?_
        intro T885 X885 e885
        have ll887 : ((3 : Int32) : Int32).toInt = 3 := by decide
        have ll888 : ((2 : Int32) : Int32).toInt = 2 := by decide
        refine g_ic_ge X885 hx 190 146 (hb hby d3_143) (by decide) (by decide) rfl (fun c886 => ?_) (fun c886 => ?_)
        · skip
          exfalso; revert c886; decide
        · skip
          refine g_aloadN X885 hx 147 (hb hby d3_146) rfl rfl rfl ?_
          refine g_iload X885 hx 149 (hb hby d3_147) rfl rfl ?_
          refine g_aloadN X885 hx 150 (hb hby d3_149) rfl rfl rfl ?_
          refine g_getF X885 hx hZ hown (hw _ (List.mem_of_getElem? (i := 9) rfl)) Via.refl e885 Fn 153 (hb hby d3_150) rfl ?_
          intro T889 X889 e889
          refine g_imulC X889 hx (6 : Int32) (by decide) 154 (hb hby d3_153) rfl ?_
          refine g_iload X889 hx 156 (hb hby d3_154) rfl rfl ?_
          refine g_iaddC X889 hx (6 : Int32) (by decide) 157 (hb hby d3_156) rfl ?_
          refine g_daload X889 hx hZ e889 Vw (by decide) (by decide) (by rw [show ((6 : Int32) : Int32).toNatClampNeg = 6 by decide] <;> rfl) 158 (hb hby d3_157) rfl ?_
          refine g_absD X889 hx hZ hown (hw _ (List.mem_of_getElem? (i := 30) rfl)) (hw _ (List.mem_of_getElem? (i := 31) rfl)) (hw _ (List.mem_of_getElem? (i := 32) rfl)) (hw _ (List.mem_of_getElem? (i := 33) rfl)) rfl e889 (own_dnn hw6) 0 161 (hb hby d3_158) rfl (by rw [hml]; rfl) (Nat.le_refl _) (by decide) (by decide) (by decide) (by decide) own_pd4 ?_
          intro T890 X890 e890
          refine g_aloadN X890 hx 162 (hb hby d3_161) rfl rfl rfl ?_
          refine g_iload X890 hx 164 (hb hby d3_162) rfl rfl ?_
          refine g_aloadN X890 hx 165 (hb hby d3_164) rfl rfl rfl ?_
          refine g_getF X890 hx hZ hown (hw _ (List.mem_of_getElem? (i := 9) rfl)) Via.refl e890 Fn 168 (hb hby d3_165) rfl ?_
          intro T891 X891 e891
          refine g_imulC X891 hx (0 : Int32) (by decide) 169 (hb hby d3_168) rfl ?_
          refine g_iload X891 hx 171 (hb hby d3_169) rfl rfl ?_
          refine g_iaddC X891 hx (0 : Int32) (by decide) 172 (hb hby d3_171) rfl ?_
          refine g_daload X891 hx hZ e891 Vw (by decide) (by decide) (by rw [show ((0 : Int32) : Int32).toNatClampNeg = 0 by decide] <;> rfl) 173 (hb hby d3_172) rfl ?_
          refine g_absD X891 hx hZ hown (hw _ (List.mem_of_getElem? (i := 30) rfl)) (hw _ (List.mem_of_getElem? (i := 31) rfl)) (hw _ (List.mem_of_getElem? (i := 32) rfl)) (hw _ (List.mem_of_getElem? (i := 33) rfl)) rfl e891 (own_dnn hw0) 2 176 (hb hby d3_173) rfl (by rw [hml]; rfl) (Nat.le_refl _) (by decide) (by decide) (by decide) (by decide) own_pd4 ?_
          intro T892 X892 e892
          refine g_dc_le X892 hx 177 184 180 (hb hby d3_176) rfl (hb hby d3_177) (by decide) (by decide) rfl (Jvm.FP.Core.dcmp_int (own_abs0 hw6) (own_abs1 hw0)) (fun c893 => ?_) (fun c893 => ?_)
          · skip
            refine g_iincC X892 hx (w := (1 : Int32)) (3 : Int32) (by decide) (l' := #[.val (.ref ob), .val (.ref cs), .val (.ref vs_), .val (.ref wk), .val (.int (0 : Int32)), .val (.int (0 : Int32)), .val (.int (3 : Int32)), .unset, .unset, .unset, .unset, .unset, .unset, .unset, .unset, .unset, .unset]) 187 (hb hby d3_184) rfl rfl (by decide) rfl ?_
            refine g_goto X892 hx 137 (hb hby d3_187) (by decide) (by decide) ?_
            refine g_iload X892 hx 139 (hb hby d3_137) rfl rfl ?_
            refine g_aloadN X892 hx 140 (hb hby d3_139) rfl rfl rfl ?_
            refine g_getF X892 hx hZ hown (hw _ (List.mem_of_getElem? (i := 9) rfl)) Via.refl e892 Fn 143 (hb hby d3_140) rfl ?_
            intro T894 X894 e894
            have ll896 : ((3 : Int32) : Int32).toInt = 3 := by decide
            have ll897 : ((3 : Int32) : Int32).toInt = 3 := by decide
            refine g_ic_ge X894 hx 190 146 (hb hby d3_143) (by decide) (by decide) rfl (fun c895 => ?_) (fun c895 => ?_)
            · skip
              refine g_aloadN X894 hx 191 (hb hby d3_190) rfl rfl rfl ?_
              refine g_iload X894 hx 193 (hb hby d3_191) rfl rfl ?_
              refine g_aloadN X894 hx 194 (hb hby d3_193) rfl rfl rfl ?_
              refine g_getF X894 hx hZ hown (hw _ (List.mem_of_getElem? (i := 9) rfl)) Via.refl e894 Fn 197 (hb hby d3_194) rfl ?_
              intro T898 X898 e898
              refine g_imulC X898 hx (0 : Int32) (by decide) 198 (hb hby d3_197) rfl ?_
              refine g_iload X898 hx 200 (hb hby d3_198) rfl rfl ?_
              refine g_iaddC X898 hx (0 : Int32) (by decide) 201 (hb hby d3_200) rfl ?_
              refine g_daload X898 hx hZ e898 Vw (by decide) (by decide) (by rw [show ((0 : Int32) : Int32).toNatClampNeg = 0 by decide] <;> rfl) 202 (hb hby d3_201) rfl ?_
              refine g_absD X898 hx hZ hown (hw _ (List.mem_of_getElem? (i := 30) rfl)) (hw _ (List.mem_of_getElem? (i := 31) rfl)) (hw _ (List.mem_of_getElem? (i := 32) rfl)) (hw _ (List.mem_of_getElem? (i := 33) rfl)) rfl e898 (own_dnn hw0) 0 205 (hb hby d3_202) rfl (by rw [hml]; rfl) (Nat.le_refl _) (by decide) (by decide) (by decide) (by decide) own_pd4 ?_
              intro T899 X899 e899
              refine g_ldc2D X899 hx 208 hZ hown (hw _ (List.mem_of_getElem? (i := 34) rfl)) (hb hby d3_205) rfl ?_
              refine g_dc_ge X899 hx 209 214 212 (hb hby d3_208) rfl (hb hby d3_209) (by decide) (by decide) rfl (own_piv (own_abs1 hw0)) (fun c900 => ?_) (fun c900 => ?_)
              · skip
                refine g_aloadN X899 hx 215 (hb hby d3_214) rfl rfl rfl ?_
                refine g_aloadN X899 hx 216 (hb hby d3_215) rfl rfl rfl ?_
                refine g_iload X899 hx 218 (hb hby d3_216) rfl rfl ?_
                refine g_iload X899 hx 220 (hb hby d3_218) rfl rfl ?_
                refine g_priv X899 hx hZ (C := "com/example/tracefold/tracefold/mining/DenseInverse") (z := ({ cls := "com/example/tracefold/tracefold/mining/DenseInverse", name := "invert", desc := "([[I[[D)Z" } : Jvm.MethodName)) hown (hw _ (List.mem_of_getElem? (i := 35) rfl)) (hw _ (List.mem_of_getElem? (i := 37) rfl)) (hw _ (List.mem_of_getElem? (i := 24) rfl)) rfl (hw _ (List.mem_of_getElem? (i := 36) rfl)) (hw _ (List.mem_of_getElem? (i := 2) rfl)) (hw _ (List.mem_of_getElem? (i := 38) rfl)) (by decide) (rmW l Z a0 hw ob wk (0 : Int32) h0 n0 Z0) e899 (b := ob) Eo (argsL := [(.ref wk), (.int (0 : Int32)), (.int (0 : Int32))]) (rest := []) rfl rfl 0 223 rfl (by rw [hml]; rfl) (lenOf own_pd5 rfl) (Nat.le_refl _) (by decide) (by decide) (by decide) (by decide) (hb hby d3_220) ?_
                intro v901 T901 L901 X901 hQ901
                obtain ⟨rfl, N901, q901⟩ := hQ901
                have N902 := Fr.app N0 N901
                show Go p e below _ T901 (mkF m 223 #[.val (.ref ob), .val (.ref cs), .val (.ref vs_), .val (.ref wk), .val (.int (0 : Int32)), .val (.int (0 : Int32)), .val (.int (3 : Int32)), .unset, .unset, .unset, .unset, .unset, .unset, .unset, .unset, .unset, .unset] [])
                refine g_aloadN X901 hx 224 (hb hby d3_223) rfl rfl rfl ?_
                refine g_aloadN X901 hx 225 (hb hby d3_224) rfl rfl rfl ?_
                refine g_getF X901 hx hZ hown (hw _ (List.mem_of_getElem? (i := 12) rfl)) Via.refl q901 Fv 228 (hb hby d3_225) rfl ?_
                intro T903 X903 e903
                refine g_iload X903 hx 230 (hb hby d3_228) rfl rfl ?_
                refine g_iload X903 hx 232 (hb hby d3_230) rfl rfl ?_
                refine g_priv X903 hx hZ (C := "com/example/tracefold/tracefold/mining/DenseInverse") (z := ({ cls := "com/example/tracefold/tracefold/mining/DenseInverse", name := "invert", desc := "([[I[[D)Z" } : Jvm.MethodName)) hown (hw _ (List.mem_of_getElem? (i := 35) rfl)) (hw _ (List.mem_of_getElem? (i := 37) rfl)) (hw _ (List.mem_of_getElem? (i := 24) rfl)) rfl (hw _ (List.mem_of_getElem? (i := 36) rfl)) (hw _ (List.mem_of_getElem? (i := 2) rfl)) (hw _ (List.mem_of_getElem? (i := 38) rfl)) (by decide) (rmW l Z a0 hw ob vi (0 : Int32) h0 n0 Z0) e903 (b := ob) Eo (argsL := [(.ref vi), (.int (0 : Int32)), (.int (0 : Int32))]) (rest := []) rfl rfl 0 235 rfl (by rw [hml]; rfl) (lenOf own_pd5 rfl) (Nat.le_refl _) (by decide) (by decide) (by decide) (by decide) (hb hby d3_232) ?_
                intro v904 T904 L904 X904 hQ904
                obtain ⟨rfl, N904, q904⟩ := hQ904
                have N905 := Fr.app N902 N904
                show Go p e below _ T904 (mkF m 235 #[.val (.ref ob), .val (.ref cs), .val (.ref vs_), .val (.ref wk), .val (.int (0 : Int32)), .val (.int (0 : Int32)), .val (.int (3 : Int32)), .unset, .unset, .unset, .unset, .unset, .unset, .unset, .unset, .unset, .unset] [])
                refine g_aloadN X904 hx 236 (hb hby d3_235) rfl rfl rfl ?_
                refine g_iload X904 hx 238 (hb hby d3_236) rfl rfl ?_
                refine g_aloadN X904 hx 239 (hb hby d3_238) rfl rfl rfl ?_
                refine g_getF X904 hx hZ hown (hw _ (List.mem_of_getElem? (i := 9) rfl)) Via.refl q904 Fn 242 (hb hby d3_239) rfl ?_
                intro T906 X906 e906
                refine g_imulC X906 hx (0 : Int32) (by decide) 243 (hb hby d3_242) rfl ?_
                refine g_iload X906 hx 245 (hb hby d3_243) rfl rfl ?_
                refine g_iaddC X906 hx (0 : Int32) (by decide) 246 (hb hby d3_245) rfl ?_
                refine g_daload X906 hx hZ e906 Vw (by decide) (by decide) (by rw [show ((0 : Int32) : Int32).toNatClampNeg = 0 by decide] <;> rfl) 247 (hb hby d3_246) rfl ?_
                refine g_dstore (l' := #[.val (.ref ob), .val (.ref cs), .val (.ref vs_), .val (.ref wk), .val (.int (0 : Int32)), .val (.int (0 : Int32)), .val (.double w0), .second, .unset, .unset, .unset, .unset, .unset, .unset, .unset, .unset, .unset]) X906 hx 249 (hb hby d3_247) rfl rfl ?_
                refine g_aloadN X906 hx 250 (hb hby d3_249) rfl rfl rfl ?_
                refine g_getF X906 hx hZ hown (hw _ (List.mem_of_getElem? (i := 9) rfl)) Via.refl e906 Fn 253 (hb hby d3_250) rfl ?_
                intro T907 X907 e907
                refine g_newP X907 hx hZ (aty := .int) (hw _ (List.mem_of_getElem? (i := 16) rfl)) e907 (by decide) (cap := 3) (by decide) (by decide) 255 (hb hby d3_253) rfl (by decide) (by decide) (ad := "[I") (by decide) ?_
                intro T908 h908 k908 a908 g908 X908 e908 E908 V908 A908
                have ne909 : ob ≠ a908 := Nat.ne_of_lt (by rw [g908]; exact Eo.lt)
                have ne910 : wk ≠ a908 := Nat.ne_of_lt (by rw [g908]; exact Vw.lt)
                have ne911 : vi ≠ a908 := Nat.ne_of_lt (by rw [g908]; exact Vv.lt)
                have ge912 : n0 ≤ a908 := by rw [g908]; exact Z0
                have sz913 : hE.size ≤ a908 := by rw [g908]; exact KE.1
                have F914 := Eo.ext E908
                have F915 := Fn.ext E908
                have F916 := Fv.ext E908
                have F917 := Vw.ext E908
                have F918 := Vv.ext E908
                have K919 := KE.ext E908
                have Z920 : n0 ≤ h908.size := Nat.le_trans Z0 E908.1
                have V908' : Arv Z h908 a908 k908 .int (3 : Int32) [(.int (0 : Int32)), (.int (0 : Int32)), (.int (0 : Int32))] (.int (0 : Int32)) := V908.pad (pad_rep [] (.int (0 : Int32)) 3)
                refine g_astore (l' := #[.val (.ref ob), .val (.ref cs), .val (.ref vs_), .val (.ref wk), .val (.int (0 : Int32)), .val (.int (0 : Int32)), .val (.double w0), .second, .val (.ref a908), .unset, .unset, .unset, .unset, .unset, .unset, .unset, .unset]) X908 hx 257 (hb hby d3_255) rfl rfl rfl ?_
                refine g_aloadN X908 hx 258 (hb hby d3_257) rfl rfl rfl ?_
                refine g_getF X908 hx hZ hown (hw _ (List.mem_of_getElem? (i := 9) rfl)) Via.refl e908 F915 261 (hb hby d3_258) rfl ?_
                intro T921 X921 e921
                refine g_newP X921 hx hZ (aty := .int) (hw _ (List.mem_of_getElem? (i := 16) rfl)) e921 (by decide) (cap := 3) (by decide) (by decide) 263 (hb hby d3_261) rfl (by decide) (by decide) (ad := "[I") (by decide) ?_
                intro T922 h922 k922 a922 g922 X922 e922 E922 V922 A922
                have ne923 : ob ≠ a922 := Nat.ne_of_lt (by rw [g922]; exact F914.lt)
                have ne924 : wk ≠ a922 := Nat.ne_of_lt (by rw [g922]; exact F917.lt)
                have ne925 : vi ≠ a922 := Nat.ne_of_lt (by rw [g922]; exact F918.lt)
                have ne926 : a908 ≠ a922 := Nat.ne_of_lt (by rw [g922]; exact A908.lt)
                have ge927 : n0 ≤ a922 := by rw [g922]; exact Z920
                have sz928 : hE.size ≤ a922 := by rw [g922]; exact K919.1
                have F929 := F914.ext E922
                have F930 := F915.ext E922
                have F931 := F916.ext E922
                have F932 := F917.ext E922
                have F933 := F918.ext E922
                have F934 := A908.ext E922
                have F935 := V908'.ext E922
                have K936 := K919.ext E922
                have Z937 : n0 ≤ h922.size := Nat.le_trans Z920 E922.1
                have V922' : Arv Z h922 a922 k922 .int (3 : Int32) [(.int (0 : Int32)), (.int (0 : Int32)), (.int (0 : Int32))] (.int (0 : Int32)) := V922.pad (pad_rep [] (.int (0 : Int32)) 3)
                refine g_astore (l' := #[.val (.ref ob), .val (.ref cs), .val (.ref vs_), .val (.ref wk), .val (.int (0 : Int32)), .val (.int (0 : Int32)), .val (.double w0), .second, .val (.ref a908), .val (.ref a922), .unset, .unset, .unset, .unset, .unset, .unset, .unset]) X922 hx 265 (hb hby d3_263) rfl rfl rfl ?_
                refine g_iconst X922 hx (0 : Int32) 266 (hb hby d3_265) rfl (by decide) ?_
                refine g_istore (l' := #[.val (.ref ob), .val (.ref cs), .val (.ref vs_), .val (.ref wk), .val (.int (0 : Int32)), .val (.int (0 : Int32)), .val (.double w0), .second, .val (.ref a908), .val (.ref a922), .val (.int (0 : Int32)), .unset, .unset, .unset, .unset, .unset, .unset]) X922 hx 268 (hb hby d3_266) rfl rfl ?_
                refine g_iconst X922 hx (0 : Int32) 269 (hb hby d3_268) rfl (by decide) ?_
                refine g_istore (l' := #[.val (.ref ob), .val (.ref cs), .val (.ref vs_), .val (.ref wk), .val (.int (0 : Int32)), .val (.int (0 : Int32)), .val (.double w0), .second, .val (.ref a908), .val (.ref a922), .val (.int (0 : Int32)), .val (.int (0 : Int32)), .unset, .unset, .unset, .unset, .unset]) X922 hx 271 (hb hby d3_269) rfl rfl ?_
                refine g_iconst X922 hx (0 : Int32) 272 (hb hby d3_271) rfl (by decide) ?_
                refine g_istore (l' := #[.val (.ref ob), .val (.ref cs), .val (.ref vs_), .val (.ref wk), .val (.int (0 : Int32)), .val (.int (0 : Int32)), .val (.double w0), .second, .val (.ref a908), .val (.ref a922), .val (.int (0 : Int32)), .val (.int (0 : Int32)), .val (.int (0 : Int32)), .unset, .unset, .unset, .unset]) X922 hx 274 (hb hby d3_272) rfl rfl ?_
                refine g_iload X922 hx 276 (hb hby d3_274) rfl rfl ?_
                refine g_aloadN X922 hx 277 (hb hby d3_276) rfl rfl rfl ?_
                refine g_getF X922 hx hZ hown (hw _ (List.mem_of_getElem? (i := 9) rfl)) Via.refl e922 F930 280 (hb hby d3_277) rfl ?_
                intro T938 X938 e938
                have ll940 : ((3 : Int32) : Int32).toInt = 3 := by decide
                have ll941 : ((0 : Int32) : Int32).toInt = 0 := by decide
                refine g_ic_ge X938 hx 383 283 (hb hby d3_280) (by decide) (by decide) rfl (fun c939 => ?_) (fun c939 => ?_)
                · skip
                  exfalso; revert c939; decide
                · skip
                  refine g_aloadN X938 hx 284 (hb hby d3_283) rfl rfl rfl ?_
                  refine g_iload X938 hx 286 (hb hby d3_284) rfl rfl ?_
                  refine g_aloadN X938 hx 287 (hb hby d3_286) rfl rfl rfl ?_
                  refine g_getF X938 hx hZ hown (hw _ (List.mem_of_getElem? (i := 9) rfl)) Via.refl e938 F930 290 (hb hby d3_287) rfl ?_
                  intro T942 X942 e942
                  refine g_imulC X942 hx (0 : Int32) (by decide) 291 (hb hby d3_290) rfl ?_
                  refine g_iload X942 hx 293 (hb hby d3_291) rfl rfl ?_
                  refine g_iaddC X942 hx (0 : Int32) (by decide) 294 (hb hby d3_293) rfl ?_
                  refine g_daload X942 hx hZ e942 F932 (by decide) (by decide) (by rw [show ((0 : Int32) : Int32).toNatClampNeg = 0 by decide] <;> rfl) 295 (hb hby d3_294) rfl ?_
                  refine g_dconst0 X942 hx 296 (hb hby d3_295) rfl ?_
                  refine g_dc_eq X942 hx 297 327 300 (hb hby d3_296) rfl (hb hby d3_297) (by decide) (by decide) rfl (Jvm.FP.Core.dcmp_int hw0 own_dzero) (fun c943 => ?_) (fun c943 => ?_)
                  · skip
                    exfalso; omega
                  · skip
                    refine g_aloadN X942 hx 301 (hb hby d3_300) rfl rfl rfl ?_
                    refine g_iload X942 hx 303 (hb hby d3_301) rfl rfl ?_
                    refine g_aloadN X942 hx 304 (hb hby d3_303) rfl rfl rfl ?_
                    refine g_getF X942 hx hZ hown (hw _ (List.mem_of_getElem? (i := 9) rfl)) Via.refl e942 F930 307 (hb hby d3_304) rfl ?_
                    intro T944 X944 e944
                    refine g_imulC X944 hx (0 : Int32) (by decide) 308 (hb hby d3_307) rfl ?_
                    refine g_iload X944 hx 310 (hb hby d3_308) rfl rfl ?_
                    refine g_iaddC X944 hx (0 : Int32) (by decide) 311 (hb hby d3_310) rfl ?_
                    refine g_dup2 X944 hx 312 (hb hby d3_311) rfl rfl rfl ?_
                    refine g_daload X944 hx hZ e944 F932 (by decide) (by decide) (by rw [show ((0 : Int32) : Int32).toNatClampNeg = 0 by decide] <;> rfl) 313 (hb hby d3_312) rfl ?_
                    refine g_dload X944 hx 315 (hb hby d3_313) rfl rfl ?_
                    have D945 := own_div1 hw0 hw0 (by omega)
                    refine g_ddiv X944 hx 316 (hb hby d3_315) rfl (own_dnn D945) ?_
                    refine g_dastore X944 hx hZ e944 F932 0 (by decide) (by decide) (by show 0 < 9; decide) 317 (hb hby d3_316) rfl ?_
                    intro T946 h946 X946 e946 W946 V946
                    have F947 := F929.wr W946
                    have F948 := F930.other W946 (Or.inl n1)
                    have F949 := F931.other W946 (Or.inl n1)
                    have F951 := F933.other W946 (Ne.symm n3)
                    have F952 := F934.wr W946
                    have F953 := F935.other W946 (Ne.symm ne910)
                    have F954 := A922.wr W946
                    have F955 := V922'.other W946 (Ne.symm ne924)
                    have K956 := K936.wr W946 (Or.inr sw)
                    have N957 := Fr.snoc X946 N905 gw
                    have Z958 : n0 ≤ h946.size := by rw [W946.size]; exact Z937
                    have V946' : Arv Z h946 wk kw .double (9 : Int32) [(.double (FP.ddiv w0 w0)), (.double w1), (.double w2), (.double w3), (.double w4), (.double w5), (.double w6), (.double w7), (.double w8)] (.double 0) := V946
                    refine g_aload X946 hx 319 (hb hby d3_317) rfl rfl rfl ?_
                    refine g_iload X946 hx 321 (hb hby d3_319) rfl rfl ?_
                    refine g_iincC X946 hx (w := (1 : Int32)) (1 : Int32) (by decide) (l' := #[.val (.ref ob), .val (.ref cs), .val (.ref vs_), .val (.ref wk), .val (.int (0 : Int32)), .val (.int (0 : Int32)), .val (.double w0), .second, .val (.ref a908), .val (.ref a922), .val (.int (1 : Int32)), .val (.int (0 : Int32)), .val (.int (0 : Int32)), .unset, .unset, .unset, .unset]) 324 (hb hby d3_321) rfl rfl (by decide) rfl ?_
                    refine g_iload X946 hx 326 (hb hby d3_324) rfl rfl ?_
                    refine g_iastore X946 hx hZ e946 F953 0 (by decide) (by decide) (by show 0 < 3; decide) 327 (hb hby d3_326) rfl ?_
                    intro T959 h959 X959 e959 W959 V959
                    have F960 := F947.wr W959
                    have F961 := F948.other W959 (Or.inl ne909)
                    have F962 := F949.other W959 (Or.inl ne909)
                    have F963 := V946'.other W959 ne910
                    have F964 := F951.other W959 ne911
                    have F965 := F952.wr W959
                    have F967 := F954.wr W959
                    have F968 := F955.other W959 (Ne.symm ne926)
                    have K969 := K956.wr W959 (Or.inr sz913)
                    have N970 := Fr.snoc X959 N957 ge912
                    have Z971 : n0 ≤ h959.size := by rw [W959.size]; exact Z958
                    have V959' : Arv Z h959 a908 k908 .int (3 : Int32) [(.int (0 : Int32)), (.int (0 : Int32)), (.int (0 : Int32))] (.int (0 : Int32)) := V959
                    refine g_aloadN X959 hx 328 (hb hby d3_327) rfl rfl rfl ?_
                    refine g_getF X959 hx hZ hown (hw _ (List.mem_of_getElem? (i := 12) rfl)) Via.refl e959 F962 331 (hb hby d3_328) rfl ?_
                    intro T972 X972 e972
                    refine g_iload X972 hx 333 (hb hby d3_331) rfl rfl ?_
                    refine g_aloadN X972 hx 334 (hb hby d3_333) rfl rfl rfl ?_
                    refine g_getF X972 hx hZ hown (hw _ (List.mem_of_getElem? (i := 9) rfl)) Via.refl e972 F961 337 (hb hby d3_334) rfl ?_
                    intro T973 X973 e973
                    refine g_imulC X973 hx (0 : Int32) (by decide) 338 (hb hby d3_337) rfl ?_
                    refine g_iload X973 hx 340 (hb hby d3_338) rfl rfl ?_
                    refine g_iaddC X973 hx (0 : Int32) (by decide) 341 (hb hby d3_340) rfl ?_
                    refine g_daload X973 hx hZ e973 F964 (by decide) (by decide) (by rw [show ((0 : Int32) : Int32).toNatClampNeg = 0 by decide] <;> rfl) 342 (hb hby d3_341) rfl ?_
                    refine g_dconst0 X973 hx 343 (hb hby d3_342) rfl ?_
                    refine g_dc_eq X973 hx 344 377 347 (hb hby d3_343) rfl (hb hby d3_344) (by decide) (by decide) rfl (Jvm.FP.Core.dcmp_int hx0 own_dzero) (fun c974 => ?_) (fun c974 => ?_)
                    · skip
                      exfalso; omega
                    · skip
                      refine g_aloadN X973 hx 348 (hb hby d3_347) rfl rfl rfl ?_
                      refine g_getF X973 hx hZ hown (hw _ (List.mem_of_getElem? (i := 12) rfl)) Via.refl e973 F962 351 (hb hby d3_348) rfl ?_
                      intro T975 X975 e975
                      refine g_iload X975 hx 353 (hb hby d3_351) rfl rfl ?_
                      refine g_aloadN X975 hx 354 (hb hby d3_353) rfl rfl rfl ?_
                      refine g_getF X975 hx hZ hown (hw _ (List.mem_of_getElem? (i := 9) rfl)) Via.refl e975 F961 357 (hb hby d3_354) rfl ?_
                      intro T976 X976 e976
                      refine g_imulC X976 hx (0 : Int32) (by decide) 358 (hb hby d3_357) rfl ?_
                      refine g_iload X976 hx 360 (hb hby d3_358) rfl rfl ?_
                      refine g_iaddC X976 hx (0 : Int32) (by decide) 361 (hb hby d3_360) rfl ?_
                      refine g_dup2 X976 hx 362 (hb hby d3_361) rfl rfl rfl ?_
                      refine g_daload X976 hx hZ e976 F964 (by decide) (by decide) (by rw [show ((0 : Int32) : Int32).toNatClampNeg = 0 by decide] <;> rfl) 363 (hb hby d3_362) rfl ?_
                      refine g_dload X976 hx 365 (hb hby d3_363) rfl rfl ?_
                      have D977 := own_div1 hx0 hw0 (by omega)
                      refine g_ddiv X976 hx 366 (hb hby d3_365) rfl (own_dnn D977) ?_
                      refine g_dastore X976 hx hZ e976 F964 0 (by decide) (by decide) (by show 0 < 9; decide) 367 (hb hby d3_366) rfl ?_
                      intro T978 h978 X978 e978 W978 V978
                      have F979 := F960.wr W978
                      have F980 := F961.other W978 (Or.inl n2)
                      have F981 := F962.other W978 (Or.inl n2)
                      have F982 := F963.other W978 n3
                      have F984 := F965.wr W978
                      have F985 := V959'.other W978 (Ne.symm ne911)
                      have F986 := F967.wr W978
                      have F987 := F968.other W978 (Ne.symm ne925)
                      have K988 := K969.wr W978 (Or.inl (List.mem_of_getElem? (i := 0) rfl))
                      have N989 := Fr.snoc X978 N970 gv
                      have Z990 : n0 ≤ h978.size := by rw [W978.size]; exact Z971
                      have V978' : Arv Z h978 vi kv .double (9 : Int32) [(.double (FP.ddiv x0 w0)), (.double x1), (.double x2), (.double x3), (.double x4), (.double x5), (.double x6), (.double x7), (.double x8)] (.double 0) := V978
                      refine g_aload X978 hx 369 (hb hby d3_367) rfl rfl rfl ?_
                      refine g_iload X978 hx 371 (hb hby d3_369) rfl rfl ?_
                      refine g_iincC X978 hx (w := (1 : Int32)) (1 : Int32) (by decide) (l' := #[.val (.ref ob), .val (.ref cs), .val (.ref vs_), .val (.ref wk), .val (.int (0 : Int32)), .val (.int (0 : Int32)), .val (.double w0), .second, .val (.ref a908), .val (.ref a922), .val (.int (1 : Int32)), .val (.int (1 : Int32)), .val (.int (0 : Int32)), .unset, .unset, .unset, .unset]) 374 (hb hby d3_371) rfl rfl (by decide) rfl ?_
                      refine g_iload X978 hx 376 (hb hby d3_374) rfl rfl ?_
                      refine g_iastore X978 hx hZ e978 F987 0 (by decide) (by decide) (by show 0 < 3; decide) 377 (hb hby d3_376) rfl ?_
                      intro T991 h991 X991 e991 W991 V991
                      have F992 := F979.wr W991
                      have F993 := F980.other W991 (Or.inl ne923)
                      have F994 := F981.other W991 (Or.inl ne923)
                      have F995 := F982.other W991 ne924
                      have F996 := V978'.other W991 ne925
                      have F997 := F984.wr W991
                      have F998 := F985.other W991 ne926
                      have F999 := F986.wr W991
                      have K1001 := K988.wr W991 (Or.inr sz928)
                      have N1002 := Fr.snoc X991 N989 ge927
                      have Z1003 : n0 ≤ h991.size := by rw [W991.size]; exact Z990
                      have V991' : Arv Z h991 a922 k922 .int (3 : Int32) [(.int (0 : Int32)), (.int (0 : Int32)), (.int (0 : Int32))] (.int (0 : Int32)) := V991
                      refine g_iincC X991 hx (w := (1 : Int32)) (1 : Int32) (by decide) (l' := #[.val (.ref ob), .val (.ref cs), .val (.ref vs_), .val (.ref wk), .val (.int (0 : Int32)), .val (.int (0 : Int32)), .val (.double w0), .second, .val (.ref a908), .val (.ref a922), .val (.int (1 : Int32)), .val (.int (1 : Int32)), .val (.int (1 : Int32)), .unset, .unset, .unset, .unset]) 380 (hb hby d3_377) rfl rfl (by decide) rfl ?_
                      refine g_goto X991 hx 274 (hb hby d3_380) (by decide) (by decide) ?_
                      refine g_iload X991 hx 276 (hb hby d3_274) rfl rfl ?_
                      refine g_aloadN X991 hx 277 (hb hby d3_276) rfl rfl rfl ?_
                      refine g_getF X991 hx hZ hown (hw _ (List.mem_of_getElem? (i := 9) rfl)) Via.refl e991 F993 280 (hb hby d3_277) rfl ?_
                      intro T1004 X1004 e1004
                      have ll1006 : ((3 : Int32) : Int32).toInt = 3 := by decide
                      have ll1007 : ((1 : Int32) : Int32).toInt = 1 := by decide
                      refine g_ic_ge X1004 hx 383 283 (hb hby d3_280) (by decide) (by decide) rfl (fun c1005 => ?_) (fun c1005 => ?_)
                      · skip
                        exfalso; revert c1005; decide
                      · skip
                        refine g_aloadN X1004 hx 284 (hb hby d3_283) rfl rfl rfl ?_
                        refine g_iload X1004 hx 286 (hb hby d3_284) rfl rfl ?_
                        refine g_aloadN X1004 hx 287 (hb hby d3_286) rfl rfl rfl ?_
                        refine g_getF X1004 hx hZ hown (hw _ (List.mem_of_getElem? (i := 9) rfl)) Via.refl e1004 F993 290 (hb hby d3_287) rfl ?_
                        intro T1008 X1008 e1008
                        refine g_imulC X1008 hx (0 : Int32) (by decide) 291 (hb hby d3_290) rfl ?_
                        refine g_iload X1008 hx 293 (hb hby d3_291) rfl rfl ?_
                        refine g_iaddC X1008 hx (1 : Int32) (by decide) 294 (hb hby d3_293) rfl ?_
                        refine g_daload X1008 hx hZ e1008 F995 (by decide) (by decide) (by rw [show ((1 : Int32) : Int32).toNatClampNeg = 1 by decide] <;> rfl) 295 (hb hby d3_294) rfl ?_
                        refine g_dconst0 X1008 hx 296 (hb hby d3_295) rfl ?_
                        refine g_dc_eq X1008 hx 297 327 300 (hb hby d3_296) rfl (hb hby d3_297) (by decide) (by decide) rfl (Jvm.FP.Core.dcmp_int hw1 own_dzero) (fun c1009 => ?_) (fun c1009 => ?_)
                        · skip
                          refine g_aloadN X1008 hx 328 (hb hby d3_327) rfl rfl rfl ?_
                          refine g_getF X1008 hx hZ hown (hw _ (List.mem_of_getElem? (i := 12) rfl)) Via.refl e1008 F994 331 (hb hby d3_328) rfl ?_
                          intro T1010 X1010 e1010
                          refine g_iload X1010 hx 333 (hb hby d3_331) rfl rfl ?_
                          refine g_aloadN X1010 hx 334 (hb hby d3_333) rfl rfl rfl ?_
                          refine g_getF X1010 hx hZ hown (hw _ (List.mem_of_getElem? (i := 9) rfl)) Via.refl e1010 F993 337 (hb hby d3_334) rfl ?_
                          intro T1011 X1011 e1011
                          refine g_imulC X1011 hx (0 : Int32) (by decide) 338 (hb hby d3_337) rfl ?_
                          refine g_iload X1011 hx 340 (hb hby d3_338) rfl rfl ?_
                          refine g_iaddC X1011 hx (1 : Int32) (by decide) 341 (hb hby d3_340) rfl ?_
                          refine g_daload X1011 hx hZ e1011 F996 (by decide) (by decide) (by rw [show ((1 : Int32) : Int32).toNatClampNeg = 1 by decide] <;> rfl) 342 (hb hby d3_341) rfl ?_
                          refine g_dconst0 X1011 hx 343 (hb hby d3_342) rfl ?_
                          refine g_dc_eq X1011 hx 344 377 347 (hb hby d3_343) rfl (hb hby d3_344) (by decide) (by decide) rfl (Jvm.FP.Core.dcmp_int hx1 own_dzero) (fun c1012 => ?_) (fun c1012 => ?_)
                          · skip
                            refine g_iincC X1011 hx (w := (1 : Int32)) (2 : Int32) (by decide) (l' := #[.val (.ref ob), .val (.ref cs), .val (.ref vs_), .val (.ref wk), .val (.int (0 : Int32)), .val (.int (0 : Int32)), .val (.double w0), .second, .val (.ref a908), .val (.ref a922), .val (.int (1 : Int32)), .val (.int (1 : Int32)), .val (.int (2 : Int32)), .unset, .unset, .unset, .unset]) 380 (hb hby d3_377) rfl rfl (by decide) rfl ?_
                            refine g_goto X1011 hx 274 (hb hby d3_380) (by decide) (by decide) ?_
                            refine g_iload X1011 hx 276 (hb hby d3_274) rfl rfl ?_
                            refine g_aloadN X1011 hx 277 (hb hby d3_276) rfl rfl rfl ?_
                            refine g_getF X1011 hx hZ hown (hw _ (List.mem_of_getElem? (i := 9) rfl)) Via.refl e1011 F993 280 (hb hby d3_277) rfl ?_
                            intro T1013 X1013 e1013
                            have ll1015 : ((3 : Int32) : Int32).toInt = 3 := by decide
                            have ll1016 : ((2 : Int32) : Int32).toInt = 2 := by decide
                            refine g_ic_ge X1013 hx 383 283 (hb hby d3_280) (by decide) (by decide) rfl (fun c1014 => ?_) (fun c1014 => ?_)
                            · skip
                              exfalso; revert c1014; decide
                            · skip
                              refine g_aloadN X1013 hx 284 (hb hby d3_283) rfl rfl rfl ?_
                              refine g_iload X1013 hx 286 (hb hby d3_284) rfl rfl ?_
                              refine g_aloadN X1013 hx 287 (hb hby d3_286) rfl rfl rfl ?_
                              refine g_getF X1013 hx hZ hown (hw _ (List.mem_of_getElem? (i := 9) rfl)) Via.refl e1013 F993 290 (hb hby d3_287) rfl ?_
                              intro T1017 X1017 e1017
                              refine g_imulC X1017 hx (0 : Int32) (by decide) 291 (hb hby d3_290) rfl ?_
                              refine g_iload X1017 hx 293 (hb hby d3_291) rfl rfl ?_
                              refine g_iaddC X1017 hx (2 : Int32) (by decide) 294 (hb hby d3_293) rfl ?_
                              refine g_daload X1017 hx hZ e1017 F995 (by decide) (by decide) (by rw [show ((2 : Int32) : Int32).toNatClampNeg = 2 by decide] <;> rfl) 295 (hb hby d3_294) rfl ?_
                              refine g_dconst0 X1017 hx 296 (hb hby d3_295) rfl ?_
                              refine g_dc_eq X1017 hx 297 327 300 (hb hby d3_296) rfl (hb hby d3_297) (by decide) (by decide) rfl (Jvm.FP.Core.dcmp_int hw2 own_dzero) (fun c1018 => ?_) (fun c1018 => ?_)
                              · skip
                                refine g_aloadN X1017 hx 328 (hb hby d3_327) rfl rfl rfl ?_
                                refine g_getF X1017 hx hZ hown (hw _ (List.mem_of_getElem? (i := 12) rfl)) Via.refl e1017 F994 331 (hb hby d3_328) rfl ?_
                                intro T1019 X1019 e1019
                                refine g_iload X1019 hx 333 (hb hby d3_331) rfl rfl ?_
                                refine g_aloadN X1019 hx 334 (hb hby d3_333) rfl rfl rfl ?_
                                refine g_getF X1019 hx hZ hown (hw _ (List.mem_of_getElem? (i := 9) rfl)) Via.refl e1019 F993 337 (hb hby d3_334) rfl ?_
                                intro T1020 X1020 e1020
                                refine g_imulC X1020 hx (0 : Int32) (by decide) 338 (hb hby d3_337) rfl ?_
                                refine g_iload X1020 hx 340 (hb hby d3_338) rfl rfl ?_
                                refine g_iaddC X1020 hx (2 : Int32) (by decide) 341 (hb hby d3_340) rfl ?_
                                refine g_daload X1020 hx hZ e1020 F996 (by decide) (by decide) (by rw [show ((2 : Int32) : Int32).toNatClampNeg = 2 by decide] <;> rfl) 342 (hb hby d3_341) rfl ?_
                                refine g_dconst0 X1020 hx 343 (hb hby d3_342) rfl ?_
                                refine g_dc_eq X1020 hx 344 377 347 (hb hby d3_343) rfl (hb hby d3_344) (by decide) (by decide) rfl (Jvm.FP.Core.dcmp_int hx2 own_dzero) (fun c1021 => ?_) (fun c1021 => ?_)
                                · skip
                                  refine g_iincC X1020 hx (w := (1 : Int32)) (3 : Int32) (by decide) (l' := #[.val (.ref ob), .val (.ref cs), .val (.ref vs_), .val (.ref wk), .val (.int (0 : Int32)), .val (.int (0 : Int32)), .val (.double w0), .second, .val (.ref a908), .val (.ref a922), .val (.int (1 : Int32)), .val (.int (1 : Int32)), .val (.int (3 : Int32)), .unset, .unset, .unset, .unset]) 380 (hb hby d3_377) rfl rfl (by decide) rfl ?_
                                  refine g_goto X1020 hx 274 (hb hby d3_380) (by decide) (by decide) ?_
                                  refine g_iload X1020 hx 276 (hb hby d3_274) rfl rfl ?_
                                  refine g_aloadN X1020 hx 277 (hb hby d3_276) rfl rfl rfl ?_
                                  refine g_getF X1020 hx hZ hown (hw _ (List.mem_of_getElem? (i := 9) rfl)) Via.refl e1020 F993 280 (hb hby d3_277) rfl ?_
                                  intro T1022 X1022 e1022
                                  have ll1024 : ((3 : Int32) : Int32).toInt = 3 := by decide
                                  have ll1025 : ((3 : Int32) : Int32).toInt = 3 := by decide
                                  refine g_ic_ge X1022 hx 383 283 (hb hby d3_280) (by decide) (by decide) rfl (fun c1023 => ?_) (fun c1023 => ?_)
                                  · skip
                                    refine g_iconst X1022 hx (0 : Int32) 384 (hb hby d3_383) rfl (by decide) ?_
                                    refine g_istore (l' := #[.val (.ref ob), .val (.ref cs), .val (.ref vs_), .val (.ref wk), .val (.int (0 : Int32)), .val (.int (0 : Int32)), .val (.double w0), .second, .val (.ref a908), .val (.ref a922), .val (.int (1 : Int32)), .val (.int (1 : Int32)), .val (.int (0 : Int32)), .unset, .unset, .unset, .unset]) X1022 hx 386 (hb hby d3_384) rfl rfl ?_
                                    refine g_iload X1022 hx 388 (hb hby d3_386) rfl rfl ?_
                                    refine g_aloadN X1022 hx 389 (hb hby d3_388) rfl rfl rfl ?_
                                    refine g_getF X1022 hx hZ hown (hw _ (List.mem_of_getElem? (i := 9) rfl)) Via.refl e1022 F993 392 (hb hby d3_389) rfl ?_
                                    intro T1026 X1026 e1026
                                    have ll1028 : ((3 : Int32) : Int32).toInt = 3 := by decide
                                    have ll1029 : ((0 : Int32) : Int32).toInt = 0 := by decide
                                    refine g_ic_ge X1026 hx 541 395 (hb hby d3_392) (by decide) (by decide) rfl (fun c1027 => ?_) (fun c1027 => ?_)
                                    · skip
                                      exfalso; revert c1027; decide
                                    · skip
                                      refine g_aloadN X1026 hx 396 (hb hby d3_395) rfl rfl rfl ?_
                                      refine g_iload X1026 hx 398 (hb hby d3_396) rfl rfl ?_
                                      refine g_aloadN X1026 hx 399 (hb hby d3_398) rfl rfl rfl ?_
                                      refine g_getF X1026 hx hZ hown (hw _ (List.mem_of_getElem? (i := 9) rfl)) Via.refl e1026 F993 402 (hb hby d3_399) rfl ?_
                                      intro T1030 X1030 e1030
                                      refine g_imulC X1030 hx (0 : Int32) (by decide) 403 (hb hby d3_402) rfl ?_
                                      refine g_iload X1030 hx 405 (hb hby d3_403) rfl rfl ?_
                                      refine g_iaddC X1030 hx (0 : Int32) (by decide) 406 (hb hby d3_405) rfl ?_
                                      refine g_daload X1030 hx hZ e1030 F995 (by decide) (by decide) (by rw [show ((0 : Int32) : Int32).toNatClampNeg = 0 by decide] <;> rfl) 407 (hb hby d3_406) rfl ?_
                                      refine g_dstore (l' := #[.val (.ref ob), .val (.ref cs), .val (.ref vs_), .val (.ref wk), .val (.int (0 : Int32)), .val (.int (0 : Int32)), .val (.double w0), .second, .val (.ref a908), .val (.ref a922), .val (.int (1 : Int32)), .val (.int (1 : Int32)), .val (.int (0 : Int32)), .val (.double (FP.ddiv w0 w0)), .second, .unset, .unset]) X1030 hx 409 (hb hby d3_407) rfl rfl ?_
                                      refine g_iload X1030 hx 411 (hb hby d3_409) rfl rfl ?_
                                      refine g_iload X1030 hx 413 (hb hby d3_411) rfl rfl ?_
                                      have ll1032 : ((0 : Int32) : Int32).toInt = 0 := by decide
                                      have ll1033 : ((0 : Int32) : Int32).toInt = 0 := by decide
                                      refine g_ic_eq X1030 hx 535 416 (hb hby d3_413) (by decide) (by decide) rfl (fun c1031 => ?_) (fun c1031 => ?_)
                                      · skip
                                        refine g_iincC X1030 hx (w := (1 : Int32)) (1 : Int32) (by decide) (l' := #[.val (.ref ob), .val (.ref cs), .val (.ref vs_), .val (.ref wk), .val (.int (0 : Int32)), .val (.int (0 : Int32)), .val (.double w0), .second, .val (.ref a908), .val (.ref a922), .val (.int (1 : Int32)), .val (.int (1 : Int32)), .val (.int (1 : Int32)), .val (.double (FP.ddiv w0 w0)), .second, .unset, .unset]) 538 (hb hby d3_535) rfl rfl (by decide) rfl ?_
                                        refine g_goto X1030 hx 386 (hb hby d3_538) (by decide) (by decide) ?_
                                        refine g_iload X1030 hx 388 (hb hby d3_386) rfl rfl ?_
                                        refine g_aloadN X1030 hx 389 (hb hby d3_388) rfl rfl rfl ?_
                                        refine g_getF X1030 hx hZ hown (hw _ (List.mem_of_getElem? (i := 9) rfl)) Via.refl e1030 F993 392 (hb hby d3_389) rfl ?_
                                        intro T1034 X1034 e1034
                                        have ll1036 : ((3 : Int32) : Int32).toInt = 3 := by decide
                                        have ll1037 : ((1 : Int32) : Int32).toInt = 1 := by decide
                                        refine g_ic_ge X1034 hx 541 395 (hb hby d3_392) (by decide) (by decide) rfl (fun c1035 => ?_) (fun c1035 => ?_)
                                        · skip
                                          exfalso; revert c1035; decide
                                        · skip
                                          refine g_aloadN X1034 hx 396 (hb hby d3_395) rfl rfl rfl ?_
                                          refine g_iload X1034 hx 398 (hb hby d3_396) rfl rfl ?_
                                          refine g_aloadN X1034 hx 399 (hb hby d3_398) rfl rfl rfl ?_
                                          refine g_getF X1034 hx hZ hown (hw _ (List.mem_of_getElem? (i := 9) rfl)) Via.refl e1034 F993 402 (hb hby d3_399) rfl ?_
                                          intro T1038 X1038 e1038
                                          refine g_imulC X1038 hx (3 : Int32) (by decide) 403 (hb hby d3_402) rfl ?_
                                          refine g_iload X1038 hx 405 (hb hby d3_403) rfl rfl ?_
                                          refine g_iaddC X1038 hx (3 : Int32) (by decide) 406 (hb hby d3_405) rfl ?_
                                          refine g_daload X1038 hx hZ e1038 F995 (by decide) (by decide) (by rw [show ((3 : Int32) : Int32).toNatClampNeg = 3 by decide] <;> rfl) 407 (hb hby d3_406) rfl ?_
                                          refine g_dstore (l' := #[.val (.ref ob), .val (.ref cs), .val (.ref vs_), .val (.ref wk), .val (.int (0 : Int32)), .val (.int (0 : Int32)), .val (.double w0), .second, .val (.ref a908), .val (.ref a922), .val (.int (1 : Int32)), .val (.int (1 : Int32)), .val (.int (1 : Int32)), .val (.double w3), .second, .unset, .unset]) X1038 hx 409 (hb hby d3_407) rfl rfl ?_
                                          refine g_iload X1038 hx 411 (hb hby d3_409) rfl rfl ?_
                                          refine g_iload X1038 hx 413 (hb hby d3_411) rfl rfl ?_
                                          have ll1040 : ((0 : Int32) : Int32).toInt = 0 := by decide
                                          have ll1041 : ((1 : Int32) : Int32).toInt = 1 := by decide
                                          refine g_ic_eq X1038 hx 535 416 (hb hby d3_413) (by decide) (by decide) rfl (fun c1039 => ?_) (fun c1039 => ?_)
                                          · skip
                                            exfalso; revert c1039; decide
                                          · skip
                                            refine g_dload X1038 hx 418 (hb hby d3_416) rfl rfl ?_
                                            refine g_dconst0 X1038 hx 419 (hb hby d3_418) rfl ?_
                                            refine g_dc_eq X1038 hx 420 535 423 (hb hby d3_419) rfl (hb hby d3_420) (by decide) (by decide) rfl (Jvm.FP.Core.dcmp_int hw3 own_dzero) (fun c1042 => ?_) (fun c1042 => ?_)
                                            · skip
                                              refine g_iincC X1038 hx (w := (1 : Int32)) (2 : Int32) (by decide) (l' := #[.val (.ref ob), .val (.ref cs), .val (.ref vs_), .val (.ref wk), .val (.int (0 : Int32)), .val (.int (0 : Int32)), .val (.double w0), .second, .val (.ref a908), .val (.ref a922), .val (.int (1 : Int32)), .val (.int (1 : Int32)), .val (.int (2 : Int32)), .val (.double w3), .second, .unset, .unset]) 538 (hb hby d3_535) rfl rfl (by decide) rfl ?_
                                              refine g_goto X1038 hx 386 (hb hby d3_538) (by decide) (by decide) ?_
                                              refine g_iload X1038 hx 388 (hb hby d3_386) rfl rfl ?_
                                              refine g_aloadN X1038 hx 389 (hb hby d3_388) rfl rfl rfl ?_
                                              refine g_getF X1038 hx hZ hown (hw _ (List.mem_of_getElem? (i := 9) rfl)) Via.refl e1038 F993 392 (hb hby d3_389) rfl ?_
                                              intro T1043 X1043 e1043
                                              have ll1045 : ((3 : Int32) : Int32).toInt = 3 := by decide
                                              have ll1046 : ((2 : Int32) : Int32).toInt = 2 := by decide
                                              refine g_ic_ge X1043 hx 541 395 (hb hby d3_392) (by decide) (by decide) rfl (fun c1044 => ?_) (fun c1044 => ?_)
                                              · skip
                                                exfalso; revert c1044; decide
                                              · skip
                                                refine g_aloadN X1043 hx 396 (hb hby d3_395) rfl rfl rfl ?_
                                                refine g_iload X1043 hx 398 (hb hby d3_396) rfl rfl ?_
                                                refine g_aloadN X1043 hx 399 (hb hby d3_398) rfl rfl rfl ?_
                                                refine g_getF X1043 hx hZ hown (hw _ (List.mem_of_getElem? (i := 9) rfl)) Via.refl e1043 F993 402 (hb hby d3_399) rfl ?_
                                                intro T1047 X1047 e1047
                                                refine g_imulC X1047 hx (6 : Int32) (by decide) 403 (hb hby d3_402) rfl ?_
                                                refine g_iload X1047 hx 405 (hb hby d3_403) rfl rfl ?_
                                                refine g_iaddC X1047 hx (6 : Int32) (by decide) 406 (hb hby d3_405) rfl ?_
                                                refine g_daload X1047 hx hZ e1047 F995 (by decide) (by decide) (by rw [show ((6 : Int32) : Int32).toNatClampNeg = 6 by decide] <;> rfl) 407 (hb hby d3_406) rfl ?_
                                                refine g_dstore (l' := #[.val (.ref ob), .val (.ref cs), .val (.ref vs_), .val (.ref wk), .val (.int (0 : Int32)), .val (.int (0 : Int32)), .val (.double w0), .second, .val (.ref a908), .val (.ref a922), .val (.int (1 : Int32)), .val (.int (1 : Int32)), .val (.int (2 : Int32)), .val (.double w6), .second, .unset, .unset]) X1047 hx 409 (hb hby d3_407) rfl rfl ?_
                                                refine g_iload X1047 hx 411 (hb hby d3_409) rfl rfl ?_
                                                refine g_iload X1047 hx 413 (hb hby d3_411) rfl rfl ?_
                                                have ll1049 : ((0 : Int32) : Int32).toInt = 0 := by decide
                                                have ll1050 : ((2 : Int32) : Int32).toInt = 2 := by decide
                                                refine g_ic_eq X1047 hx 535 416 (hb hby d3_413) (by decide) (by decide) rfl (fun c1048 => ?_) (fun c1048 => ?_)
                                                · skip
                                                  exfalso; revert c1048; decide
                                                · skip
                                                  refine g_dload X1047 hx 418 (hb hby d3_416) rfl rfl ?_
                                                  refine g_dconst0 X1047 hx 419 (hb hby d3_418) rfl ?_
                                                  refine g_dc_eq X1047 hx 420 535 423 (hb hby d3_419) rfl (hb hby d3_420) (by decide) (by decide) rfl (Jvm.FP.Core.dcmp_int hw6 own_dzero) (fun c1051 => ?_) (fun c1051 => ?_)
                                                  · skip
                                                    refine g_iincC X1047 hx (w := (1 : Int32)) (3 : Int32) (by decide) (l' := #[.val (.ref ob), .val (.ref cs), .val (.ref vs_), .val (.ref wk), .val (.int (0 : Int32)), .val (.int (0 : Int32)), .val (.double w0), .second, .val (.ref a908), .val (.ref a922), .val (.int (1 : Int32)), .val (.int (1 : Int32)), .val (.int (3 : Int32)), .val (.double w6), .second, .unset, .unset]) 538 (hb hby d3_535) rfl rfl (by decide) rfl ?_
                                                    refine g_goto X1047 hx 386 (hb hby d3_538) (by decide) (by decide) ?_
                                                    refine g_iload X1047 hx 388 (hb hby d3_386) rfl rfl ?_
                                                    refine g_aloadN X1047 hx 389 (hb hby d3_388) rfl rfl rfl ?_
                                                    refine g_getF X1047 hx hZ hown (hw _ (List.mem_of_getElem? (i := 9) rfl)) Via.refl e1047 F993 392 (hb hby d3_389) rfl ?_
                                                    intro T1052 X1052 e1052
                                                    have ll1054 : ((3 : Int32) : Int32).toInt = 3 := by decide
                                                    have ll1055 : ((3 : Int32) : Int32).toInt = 3 := by decide
                                                    refine g_ic_ge X1052 hx 541 395 (hb hby d3_392) (by decide) (by decide) rfl (fun c1053 => ?_) (fun c1053 => ?_)
                                                    · skip
                                                      refine g_iincC X1052 hx (w := (1 : Int32)) (1 : Int32) (by decide) (l' := #[.val (.ref ob), .val (.ref cs), .val (.ref vs_), .val (.ref wk), .val (.int (1 : Int32)), .val (.int (0 : Int32)), .val (.double w0), .second, .val (.ref a908), .val (.ref a922), .val (.int (1 : Int32)), .val (.int (1 : Int32)), .val (.int (3 : Int32)), .val (.double w6), .second, .unset, .unset]) 544 (hb hby d3_541) rfl rfl (by decide) rfl ?_
                                                      refine g_goto X1052 hx 118 (hb hby d3_544) (by decide) (by decide) ?_
                                                      exact rmV_1 (o15 := none) (o16 := none) X1052 hx hby hml hret hlk hown hZ hw e1052 Z1003 N1002 ba bb bab F992 F993 F994 F995 F996 K1001  gw gv sw n1 n2 n3 D945 hw1 hw2 hw3 hw4 hw5 hw6 hw7 hw8 D977 hx1 hx2 hx3 hx4 hx5 hx6 hx7 hx8
                                                    · skip
                                                      exfalso; revert c1053; decide
                                                  · skip
                                                    exfalso; omega
                                            · skip
                                              exfalso; omega
                                      · skip
                                        exfalso; revert c1031; decide
                                  · skip
                                    exfalso; revert c1023; decide
                                · skip
                                  exfalso; omega
                              · skip
                                exfalso; omega
                          · skip
                            exfalso; omega
                        · skip
                          refine g_aloadN X1008 hx 301 (hb hby d3_300) rfl rfl rfl ?_
                          refine g_iload X1008 hx 303 (hb hby d3_301) rfl rfl ?_
                          refine g_aloadN X1008 hx 304 (hb hby d3_303) rfl rfl rfl ?_
                          refine g_getF X1008 hx hZ hown (hw _ (List.mem_of_getElem? (i := 9) rfl)) Via.refl e1008 F993 307 (hb hby d3_304) rfl ?_
                          intro T1056 X1056 e1056
                          refine g_imulC X1056 hx (0 : Int32) (by decide) 308 (hb hby d3_307) rfl ?_
                          refine g_iload X1056 hx 310 (hb hby d3_308) rfl rfl ?_
                          refine g_iaddC X1056 hx (1 : Int32) (by decide) 311 (hb hby d3_310) rfl ?_
                          refine g_dup2 X1056 hx 312 (hb hby d3_311) rfl rfl rfl ?_
                          refine g_daload X1056 hx hZ e1056 F995 (by decide) (by decide) (by rw [show ((1 : Int32) : Int32).toNatClampNeg = 1 by decide] <;> rfl) 313 (hb hby d3_312) rfl ?_
                          refine g_dload X1056 hx 315 (hb hby d3_313) rfl rfl ?_
                          have D1057 := own_div1 hw1 hw0 (by omega)
                          refine g_ddiv X1056 hx 316 (hb hby d3_315) rfl (own_dnn D1057) ?_
                          refine g_dastore X1056 hx hZ e1056 F995 1 (by decide) (by decide) (by show 1 < 9; decide) 317 (hb hby d3_316) rfl ?_
                          intro T1058 h1058 X1058 e1058 W1058 V1058
                          have F1059 := F992.wr W1058
                          have F1060 := F993.other W1058 (Or.inl n1)
                          have F1061 := F994.other W1058 (Or.inl n1)
                          have F1063 := F996.other W1058 (Ne.symm n3)
                          have F1064 := F997.wr W1058
                          have F1065 := F998.other W1058 (Ne.symm ne910)
                          have F1066 := F999.wr W1058
                          have F1067 := V991'.other W1058 (Ne.symm ne924)
                          have K1068 := K1001.wr W1058 (Or.inr sw)
                          have N1069 := Fr.snoc X1058 N1002 gw
                          have Z1070 : n0 ≤ h1058.size := by rw [W1058.size]; exact Z1003
                          have V1058' : Arv Z h1058 wk kw .double (9 : Int32) [(.double (FP.ddiv w0 w0)), (.double (FP.ddiv w1 w0)), (.double w2), (.double w3), (.double w4), (.double w5), (.double w6), (.double w7), (.double w8)] (.double 0) := V1058
                          refine g_aload X1058 hx 319 (hb hby d3_317) rfl rfl rfl ?_
                          refine g_iload X1058 hx 321 (hb hby d3_319) rfl rfl ?_
                          refine g_iincC X1058 hx (w := (1 : Int32)) (2 : Int32) (by decide) (l' := #[.val (.ref ob), .val (.ref cs), .val (.ref vs_), .val (.ref wk), .val (.int (0 : Int32)), .val (.int (0 : Int32)), .val (.double w0), .second, .val (.ref a908), .val (.ref a922), .val (.int (2 : Int32)), .val (.int (1 : Int32)), .val (.int (1 : Int32)), .unset, .unset, .unset, .unset]) 324 (hb hby d3_321) rfl rfl (by decide) rfl ?_
                          refine g_iload X1058 hx 326 (hb hby d3_324) rfl rfl ?_
                          refine g_iastore X1058 hx hZ e1058 F1065 1 (by decide) (by decide) (by show 1 < 3; decide) 327 (hb hby d3_326) rfl ?_
                          intro T1071 h1071 X1071 e1071 W1071 V1071
                          have F1072 := F1059.wr W1071
                          have F1073 := F1060.other W1071 (Or.inl ne909)
                          have F1074 := F1061.other W1071 (Or.inl ne909)
                          have F1075 := V1058'.other W1071 ne910
                          have F1076 := F1063.other W1071 ne911
                          have F1077 := F1064.wr W1071
                          have F1079 := F1066.wr W1071
                          have F1080 := F1067.other W1071 (Ne.symm ne926)
                          have K1081 := K1068.wr W1071 (Or.inr sz913)
                          have N1082 := Fr.snoc X1071 N1069 ge912
                          have Z1083 : n0 ≤ h1071.size := by rw [W1071.size]; exact Z1070
                          have V1071' : Arv Z h1071 a908 k908 .int (3 : Int32) [(.int (0 : Int32)), (.int (1 : Int32)), (.int (0 : Int32))] (.int (0 : Int32)) := V1071
                          refine g_aloadN X1071 hx 328 (hb hby d3_327) rfl rfl rfl ?_
                          refine g_getF X1071 hx hZ hown (hw _ (List.mem_of_getElem? (i := 12) rfl)) Via.refl e1071 F1074 331 (hb hby d3_328) rfl ?_
                          intro T1084 X1084 e1084
                          refine g_iload X1084 hx 333 (hb hby d3_331) rfl rfl ?_
                          refine g_aloadN X1084 hx 334 (hb hby d3_333) rfl rfl rfl ?_
                          refine g_getF X1084 hx hZ hown (hw _ (List.mem_of_getElem? (i := 9) rfl)) Via.refl e1084 F1073 337 (hb hby d3_334) rfl ?_
                          intro T1085 X1085 e1085
                          refine g_imulC X1085 hx (0 : Int32) (by decide) 338 (hb hby d3_337) rfl ?_
                          refine g_iload X1085 hx 340 (hb hby d3_338) rfl rfl ?_
                          refine g_iaddC X1085 hx (1 : Int32) (by decide) 341 (hb hby d3_340) rfl ?_
                          refine g_daload X1085 hx hZ e1085 F1076 (by decide) (by decide) (by rw [show ((1 : Int32) : Int32).toNatClampNeg = 1 by decide] <;> rfl) 342 (hb hby d3_341) rfl ?_
                          refine g_dconst0 X1085 hx 343 (hb hby d3_342) rfl ?_
                          refine g_dc_eq X1085 hx 344 377 347 (hb hby d3_343) rfl (hb hby d3_344) (by decide) (by decide) rfl (Jvm.FP.Core.dcmp_int hx1 own_dzero) (fun c1086 => ?_) (fun c1086 => ?_)
                          · skip
                            refine g_iincC X1085 hx (w := (1 : Int32)) (2 : Int32) (by decide) (l' := #[.val (.ref ob), .val (.ref cs), .val (.ref vs_), .val (.ref wk), .val (.int (0 : Int32)), .val (.int (0 : Int32)), .val (.double w0), .second, .val (.ref a908), .val (.ref a922), .val (.int (2 : Int32)), .val (.int (1 : Int32)), .val (.int (2 : Int32)), .unset, .unset, .unset, .unset]) 380 (hb hby d3_377) rfl rfl (by decide) rfl ?_
                            refine g_goto X1085 hx 274 (hb hby d3_380) (by decide) (by decide) ?_
                            refine g_iload X1085 hx 276 (hb hby d3_274) rfl rfl ?_
                            refine g_aloadN X1085 hx 277 (hb hby d3_276) rfl rfl rfl ?_
                            refine g_getF X1085 hx hZ hown (hw _ (List.mem_of_getElem? (i := 9) rfl)) Via.refl e1085 F1073 280 (hb hby d3_277) rfl ?_
                            intro T1087 X1087 e1087
                            have ll1089 : ((3 : Int32) : Int32).toInt = 3 := by decide
                            have ll1090 : ((2 : Int32) : Int32).toInt = 2 := by decide
                            refine g_ic_ge X1087 hx 383 283 (hb hby d3_280) (by decide) (by decide) rfl (fun c1088 => ?_) (fun c1088 => ?_)
                            · skip
                              exfalso; revert c1088; decide
                            · skip
                              refine g_aloadN X1087 hx 284 (hb hby d3_283) rfl rfl rfl ?_
                              refine g_iload X1087 hx 286 (hb hby d3_284) rfl rfl ?_
                              refine g_aloadN X1087 hx 287 (hb hby d3_286) rfl rfl rfl ?_
                              refine g_getF X1087 hx hZ hown (hw _ (List.mem_of_getElem? (i := 9) rfl)) Via.refl e1087 F1073 290 (hb hby d3_287) rfl ?_
                              intro T1091 X1091 e1091
                              refine g_imulC X1091 hx (0 : Int32) (by decide) 291 (hb hby d3_290) rfl ?_
                              refine g_iload X1091 hx 293 (hb hby d3_291) rfl rfl ?_
                              refine g_iaddC X1091 hx (2 : Int32) (by decide) 294 (hb hby d3_293) rfl ?_
                              refine g_daload X1091 hx hZ e1091 F1075 (by decide) (by decide) (by rw [show ((2 : Int32) : Int32).toNatClampNeg = 2 by decide] <;> rfl) 295 (hb hby d3_294) rfl ?_
                              refine g_dconst0 X1091 hx 296 (hb hby d3_295) rfl ?_
                              refine g_dc_eq X1091 hx 297 327 300 (hb hby d3_296) rfl (hb hby d3_297) (by decide) (by decide) rfl (Jvm.FP.Core.dcmp_int hw2 own_dzero) (fun c1092 => ?_) (fun c1092 => ?_)
                              · skip
                                refine g_aloadN X1091 hx 328 (hb hby d3_327) rfl rfl rfl ?_
                                refine g_getF X1091 hx hZ hown (hw _ (List.mem_of_getElem? (i := 12) rfl)) Via.refl e1091 F1074 331 (hb hby d3_328) rfl ?_
                                intro T1093 X1093 e1093
                                refine g_iload X1093 hx 333 (hb hby d3_331) rfl rfl ?_
                                refine g_aloadN X1093 hx 334 (hb hby d3_333) rfl rfl rfl ?_
                                refine g_getF X1093 hx hZ hown (hw _ (List.mem_of_getElem? (i := 9) rfl)) Via.refl e1093 F1073 337 (hb hby d3_334) rfl ?_
                                intro T1094 X1094 e1094
                                refine g_imulC X1094 hx (0 : Int32) (by decide) 338 (hb hby d3_337) rfl ?_
                                refine g_iload X1094 hx 340 (hb hby d3_338) rfl rfl ?_
                                refine g_iaddC X1094 hx (2 : Int32) (by decide) 341 (hb hby d3_340) rfl ?_
                                refine g_daload X1094 hx hZ e1094 F1076 (by decide) (by decide) (by rw [show ((2 : Int32) : Int32).toNatClampNeg = 2 by decide] <;> rfl) 342 (hb hby d3_341) rfl ?_
                                refine g_dconst0 X1094 hx 343 (hb hby d3_342) rfl ?_
                                refine g_dc_eq X1094 hx 344 377 347 (hb hby d3_343) rfl (hb hby d3_344) (by decide) (by decide) rfl (Jvm.FP.Core.dcmp_int hx2 own_dzero) (fun c1095 => ?_) (fun c1095 => ?_)
                                · skip
                                  refine g_iincC X1094 hx (w := (1 : Int32)) (3 : Int32) (by decide) (l' := #[.val (.ref ob), .val (.ref cs), .val (.ref vs_), .val (.ref wk), .val (.int (0 : Int32)), .val (.int (0 : Int32)), .val (.double w0), .second, .val (.ref a908), .val (.ref a922), .val (.int (2 : Int32)), .val (.int (1 : Int32)), .val (.int (3 : Int32)), .unset, .unset, .unset, .unset]) 380 (hb hby d3_377) rfl rfl (by decide) rfl ?_
                                  refine g_goto X1094 hx 274 (hb hby d3_380) (by decide) (by decide) ?_
                                  refine g_iload X1094 hx 276 (hb hby d3_274) rfl rfl ?_
                                  refine g_aloadN X1094 hx 277 (hb hby d3_276) rfl rfl rfl ?_
                                  refine g_getF X1094 hx hZ hown (hw _ (List.mem_of_getElem? (i := 9) rfl)) Via.refl e1094 F1073 280 (hb hby d3_277) rfl ?_
                                  intro T1096 X1096 e1096
                                  have ll1098 : ((3 : Int32) : Int32).toInt = 3 := by decide
                                  have ll1099 : ((3 : Int32) : Int32).toInt = 3 := by decide
                                  refine g_ic_ge X1096 hx 383 283 (hb hby d3_280) (by decide) (by decide) rfl (fun c1097 => ?_) (fun c1097 => ?_)
                                  · skip
                                    refine g_iconst X1096 hx (0 : Int32) 384 (hb hby d3_383) rfl (by decide) ?_
                                    refine g_istore (l' := #[.val (.ref ob), .val (.ref cs), .val (.ref vs_), .val (.ref wk), .val (.int (0 : Int32)), .val (.int (0 : Int32)), .val (.double w0), .second, .val (.ref a908), .val (.ref a922), .val (.int (2 : Int32)), .val (.int (1 : Int32)), .val (.int (0 : Int32)), .unset, .unset, .unset, .unset]) X1096 hx 386 (hb hby d3_384) rfl rfl ?_
                                    refine g_iload X1096 hx 388 (hb hby d3_386) rfl rfl ?_
                                    refine g_aloadN X1096 hx 389 (hb hby d3_388) rfl rfl rfl ?_
                                    refine g_getF X1096 hx hZ hown (hw _ (List.mem_of_getElem? (i := 9) rfl)) Via.refl e1096 F1073 392 (hb hby d3_389) rfl ?_
                                    intro T1100 X1100 e1100
                                    have ll1102 : ((3 : Int32) : Int32).toInt = 3 := by decide
                                    have ll1103 : ((0 : Int32) : Int32).toInt = 0 := by decide
                                    refine g_ic_ge X1100 hx 541 395 (hb hby d3_392) (by decide) (by decide) rfl (fun c1101 => ?_) (fun c1101 => ?_)
                                    · skip
                                      exfalso; revert c1101; decide
                                    · skip
                                      refine g_aloadN X1100 hx 396 (hb hby d3_395) rfl rfl rfl ?_
                                      refine g_iload X1100 hx 398 (hb hby d3_396) rfl rfl ?_
                                      refine g_aloadN X1100 hx 399 (hb hby d3_398) rfl rfl rfl ?_
                                      refine g_getF X1100 hx hZ hown (hw _ (List.mem_of_getElem? (i := 9) rfl)) Via.refl e1100 F1073 402 (hb hby d3_399) rfl ?_
                                      intro T1104 X1104 e1104
                                      refine g_imulC X1104 hx (0 : Int32) (by decide) 403 (hb hby d3_402) rfl ?_
                                      refine g_iload X1104 hx 405 (hb hby d3_403) rfl rfl ?_
                                      refine g_iaddC X1104 hx (0 : Int32) (by decide) 406 (hb hby d3_405) rfl ?_
                                      refine g_daload X1104 hx hZ e1104 F1075 (by decide) (by decide) (by rw [show ((0 : Int32) : Int32).toNatClampNeg = 0 by decide] <;> rfl) 407 (hb hby d3_406) rfl ?_
                                      refine g_dstore (l' := #[.val (.ref ob), .val (.ref cs), .val (.ref vs_), .val (.ref wk), .val (.int (0 : Int32)), .val (.int (0 : Int32)), .val (.double w0), .second, .val (.ref a908), .val (.ref a922), .val (.int (2 : Int32)), .val (.int (1 : Int32)), .val (.int (0 : Int32)), .val (.double (FP.ddiv w0 w0)), .second, .unset, .unset]) X1104 hx 409 (hb hby d3_407) rfl rfl ?_
                                      refine g_iload X1104 hx 411 (hb hby d3_409) rfl rfl ?_
                                      refine g_iload X1104 hx 413 (hb hby d3_411) rfl rfl ?_
                                      have ll1106 : ((0 : Int32) : Int32).toInt = 0 := by decide
                                      have ll1107 : ((0 : Int32) : Int32).toInt = 0 := by decide
                                      refine g_ic_eq X1104 hx 535 416 (hb hby d3_413) (by decide) (by decide) rfl (fun c1105 => ?_) (fun c1105 => ?_)
                                      · skip
                                        refine g_iincC X1104 hx (w := (1 : Int32)) (1 : Int32) (by decide) (l' := #[.val (.ref ob), .val (.ref cs), .val (.ref vs_), .val (.ref wk), .val (.int (0 : Int32)), .val (.int (0 : Int32)), .val (.double w0), .second, .val (.ref a908), .val (.ref a922), .val (.int (2 : Int32)), .val (.int (1 : Int32)), .val (.int (1 : Int32)), .val (.double (FP.ddiv w0 w0)), .second, .unset, .unset]) 538 (hb hby d3_535) rfl rfl (by decide) rfl ?_
                                        refine g_goto X1104 hx 386 (hb hby d3_538) (by decide) (by decide) ?_
                                        refine g_iload X1104 hx 388 (hb hby d3_386) rfl rfl ?_
                                        refine g_aloadN X1104 hx 389 (hb hby d3_388) rfl rfl rfl ?_
                                        refine g_getF X1104 hx hZ hown (hw _ (List.mem_of_getElem? (i := 9) rfl)) Via.refl e1104 F1073 392 (hb hby d3_389) rfl ?_
                                        intro T1108 X1108 e1108
                                        have ll1110 : ((3 : Int32) : Int32).toInt = 3 := by decide
                                        have ll1111 : ((1 : Int32) : Int32).toInt = 1 := by decide
                                        refine g_ic_ge X1108 hx 541 395 (hb hby d3_392) (by decide) (by decide) rfl (fun c1109 => ?_) (fun c1109 => ?_)
                                        · skip
                                          exfalso; revert c1109; decide
                                        · skip
                                          refine g_aloadN X1108 hx 396 (hb hby d3_395) rfl rfl rfl ?_
                                          refine g_iload X1108 hx 398 (hb hby d3_396) rfl rfl ?_
                                          refine g_aloadN X1108 hx 399 (hb hby d3_398) rfl rfl rfl ?_
                                          refine g_getF X1108 hx hZ hown (hw _ (List.mem_of_getElem? (i := 9) rfl)) Via.refl e1108 F1073 402 (hb hby d3_399) rfl ?_
                                          intro T1112 X1112 e1112
                                          refine g_imulC X1112 hx (3 : Int32) (by decide) 403 (hb hby d3_402) rfl ?_
                                          refine g_iload X1112 hx 405 (hb hby d3_403) rfl rfl ?_
                                          refine g_iaddC X1112 hx (3 : Int32) (by decide) 406 (hb hby d3_405) rfl ?_
                                          refine g_daload X1112 hx hZ e1112 F1075 (by decide) (by decide) (by rw [show ((3 : Int32) : Int32).toNatClampNeg = 3 by decide] <;> rfl) 407 (hb hby d3_406) rfl ?_
                                          refine g_dstore (l' := #[.val (.ref ob), .val (.ref cs), .val (.ref vs_), .val (.ref wk), .val (.int (0 : Int32)), .val (.int (0 : Int32)), .val (.double w0), .second, .val (.ref a908), .val (.ref a922), .val (.int (2 : Int32)), .val (.int (1 : Int32)), .val (.int (1 : Int32)), .val (.double w3), .second, .unset, .unset]) X1112 hx 409 (hb hby d3_407) rfl rfl ?_
                                          refine g_iload X1112 hx 411 (hb hby d3_409) rfl rfl ?_
                                          refine g_iload X1112 hx 413 (hb hby d3_411) rfl rfl ?_
                                          have ll1114 : ((0 : Int32) : Int32).toInt = 0 := by decide
                                          have ll1115 : ((1 : Int32) : Int32).toInt = 1 := by decide
                                          refine g_ic_eq X1112 hx 535 416 (hb hby d3_413) (by decide) (by decide) rfl (fun c1113 => ?_) (fun c1113 => ?_)
                                          · skip
                                            exfalso; revert c1113; decide
                                          · skip
                                            refine g_dload X1112 hx 418 (hb hby d3_416) rfl rfl ?_
                                            refine g_dconst0 X1112 hx 419 (hb hby d3_418) rfl ?_
                                            refine g_dc_eq X1112 hx 420 535 423 (hb hby d3_419) rfl (hb hby d3_420) (by decide) (by decide) rfl (Jvm.FP.Core.dcmp_int hw3 own_dzero) (fun c1116 => ?_) (fun c1116 => ?_)
                                            · skip
                                              refine g_iincC X1112 hx (w := (1 : Int32)) (2 : Int32) (by decide) (l' := #[.val (.ref ob), .val (.ref cs), .val (.ref vs_), .val (.ref wk), .val (.int (0 : Int32)), .val (.int (0 : Int32)), .val (.double w0), .second, .val (.ref a908), .val (.ref a922), .val (.int (2 : Int32)), .val (.int (1 : Int32)), .val (.int (2 : Int32)), .val (.double w3), .second, .unset, .unset]) 538 (hb hby d3_535) rfl rfl (by decide) rfl ?_
                                              refine g_goto X1112 hx 386 (hb hby d3_538) (by decide) (by decide) ?_
                                              refine g_iload X1112 hx 388 (hb hby d3_386) rfl rfl ?_
                                              refine g_aloadN X1112 hx 389 (hb hby d3_388) rfl rfl rfl ?_
                                              refine g_getF X1112 hx hZ hown (hw _ (List.mem_of_getElem? (i := 9) rfl)) Via.refl e1112 F1073 392 (hb hby d3_389) rfl ?_
                                              intro T1117 X1117 e1117
                                              have ll1119 : ((3 : Int32) : Int32).toInt = 3 := by decide
                                              have ll1120 : ((2 : Int32) : Int32).toInt = 2 := by decide
                                              refine g_ic_ge X1117 hx 541 395 (hb hby d3_392) (by decide) (by decide) rfl (fun c1118 => ?_) (fun c1118 => ?_)
                                              · skip
                                                exfalso; revert c1118; decide
                                              · skip
                                                refine g_aloadN X1117 hx 396 (hb hby d3_395) rfl rfl rfl ?_
                                                refine g_iload X1117 hx 398 (hb hby d3_396) rfl rfl ?_
                                                refine g_aloadN X1117 hx 399 (hb hby d3_398) rfl rfl rfl ?_
                                                refine g_getF X1117 hx hZ hown (hw _ (List.mem_of_getElem? (i := 9) rfl)) Via.refl e1117 F1073 402 (hb hby d3_399) rfl ?_
                                                intro T1121 X1121 e1121
                                                refine g_imulC X1121 hx (6 : Int32) (by decide) 403 (hb hby d3_402) rfl ?_
                                                refine g_iload X1121 hx 405 (hb hby d3_403) rfl rfl ?_
                                                refine g_iaddC X1121 hx (6 : Int32) (by decide) 406 (hb hby d3_405) rfl ?_
                                                refine g_daload X1121 hx hZ e1121 F1075 (by decide) (by decide) (by rw [show ((6 : Int32) : Int32).toNatClampNeg = 6 by decide] <;> rfl) 407 (hb hby d3_406) rfl ?_
                                                refine g_dstore (l' := #[.val (.ref ob), .val (.ref cs), .val (.ref vs_), .val (.ref wk), .val (.int (0 : Int32)), .val (.int (0 : Int32)), .val (.double w0), .second, .val (.ref a908), .val (.ref a922), .val (.int (2 : Int32)), .val (.int (1 : Int32)), .val (.int (2 : Int32)), .val (.double w6), .second, .unset, .unset]) X1121 hx 409 (hb hby d3_407) rfl rfl ?_
                                                refine g_iload X1121 hx 411 (hb hby d3_409) rfl rfl ?_
                                                refine g_iload X1121 hx 413 (hb hby d3_411) rfl rfl ?_
                                                have ll1123 : ((0 : Int32) : Int32).toInt = 0 := by decide
                                                have ll1124 : ((2 : Int32) : Int32).toInt = 2 := by decide
                                                refine g_ic_eq X1121 hx 535 416 (hb hby d3_413) (by decide) (by decide) rfl (fun c1122 => ?_) (fun c1122 => ?_)
                                                · skip
                                                  exfalso; revert c1122; decide
                                                · skip
                                                  refine g_dload X1121 hx 418 (hb hby d3_416) rfl rfl ?_
                                                  refine g_dconst0 X1121 hx 419 (hb hby d3_418) rfl ?_
                                                  refine g_dc_eq X1121 hx 420 535 423 (hb hby d3_419) rfl (hb hby d3_420) (by decide) (by decide) rfl (Jvm.FP.Core.dcmp_int hw6 own_dzero) (fun c1125 => ?_) (fun c1125 => ?_)
                                                  · skip
                                                    refine g_iincC X1121 hx (w := (1 : Int32)) (3 : Int32) (by decide) (l' := #[.val (.ref ob), .val (.ref cs), .val (.ref vs_), .val (.ref wk), .val (.int (0 : Int32)), .val (.int (0 : Int32)), .val (.double w0), .second, .val (.ref a908), .val (.ref a922), .val (.int (2 : Int32)), .val (.int (1 : Int32)), .val (.int (3 : Int32)), .val (.double w6), .second, .unset, .unset]) 538 (hb hby d3_535) rfl rfl (by decide) rfl ?_
                                                    refine g_goto X1121 hx 386 (hb hby d3_538) (by decide) (by decide) ?_
                                                    refine g_iload X1121 hx 388 (hb hby d3_386) rfl rfl ?_
                                                    refine g_aloadN X1121 hx 389 (hb hby d3_388) rfl rfl rfl ?_
                                                    refine g_getF X1121 hx hZ hown (hw _ (List.mem_of_getElem? (i := 9) rfl)) Via.refl e1121 F1073 392 (hb hby d3_389) rfl ?_
                                                    intro T1126 X1126 e1126
                                                    have ll1128 : ((3 : Int32) : Int32).toInt = 3 := by decide
                                                    have ll1129 : ((3 : Int32) : Int32).toInt = 3 := by decide
                                                    refine g_ic_ge X1126 hx 541 395 (hb hby d3_392) (by decide) (by decide) rfl (fun c1127 => ?_) (fun c1127 => ?_)
                                                    · skip
                                                      refine g_iincC X1126 hx (w := (1 : Int32)) (1 : Int32) (by decide) (l' := #[.val (.ref ob), .val (.ref cs), .val (.ref vs_), .val (.ref wk), .val (.int (1 : Int32)), .val (.int (0 : Int32)), .val (.double w0), .second, .val (.ref a908), .val (.ref a922), .val (.int (2 : Int32)), .val (.int (1 : Int32)), .val (.int (3 : Int32)), .val (.double w6), .second, .unset, .unset]) 544 (hb hby d3_541) rfl rfl (by decide) rfl ?_
                                                      refine g_goto X1126 hx 118 (hb hby d3_544) (by decide) (by decide) ?_
                                                      exact rmV_1 (o15 := none) (o16 := none) X1126 hx hby hml hret hlk hown hZ hw e1126 Z1083 N1082 ba bb bab F1072 F1073 F1074 F1075 F1076 K1081  gw gv sw n1 n2 n3 D945 D1057 hw2 hw3 hw4 hw5 hw6 hw7 hw8 D977 hx1 hx2 hx3 hx4 hx5 hx6 hx7 hx8
                                                    · skip
                                                      exfalso; revert c1127; decide
                                                  · skip
                                                    exfalso; omega
                                            · skip
                                              exfalso; omega
                                      · skip
                                        exfalso; revert c1105; decide
                                  · skip
                                    exfalso; revert c1097; decide
                                · skip
                                  exfalso; omega
                              · skip
                                exfalso; omega
                          · skip
                            exfalso; omega
              · skip
                exfalso; omega
            · skip
              exfalso; revert c895; decide
          · skip
            exfalso; omega
      · skip
        exfalso; omega
theorem own_pf3 : plainFor (⟨"com/example/tracefold/tracefold/mining/DenseInverse", "invert", "([[I[[D)Z"⟩ : MethodName) = true := plainFor_of_name (by first | (simp [plainName, overriddenIn]; done) | decide +kernel)
theorem ef_rmV (ob cs vs_ : Addr) (m : MethodId) : entryFrame m #[(.ref ob), (.ref cs), (.ref vs_)] 17 = mkF m 0 #[.val (.ref ob), .val (.ref cs), .val (.ref vs_), .unset, .unset, .unset, .unset, .unset, .unset, .unset, .unset, .unset, .unset, .unset, .unset, .unset, .unset] [] := by first | (simp [entryFrame, mkF, argsToLocals, Value.category]; done) | rfl
set_option maxRecDepth 65536 in
set_option maxHeartbeats 40000000 in
theorem rmV (l : Launch) (Z : State) (a0 : Array Value) (hw : ∀ d ∈ tables_1, d.before a0 Z = true) (ob cs vs_ : Addr) (h0 : Heap) (n0 : Nat) (Z0 : n0 ≤ h0.size) (vi c1 c2 c3 d1 d2 d3 : Addr) (kv kc ks kc1 kc2 kc3 kd1 kd2 kd3 : ClassId) (ia ib : Int) (fa fb : UInt64) (ha : Jvm.FP.Core.DInt ia fa) (hb_ : Jvm.FP.Core.DInt ib fb) (ba : -128 ≤ ia ∧ ia ≤ 127) (bb : -128 ≤ ib ∧ ib ≤ 127) (bab : -20000 ≤ ia * ib ∧ ia * ib ≤ 20000) (Eo : Exa Z h0 ob "com/example/tracefold/tracefold/mining/DenseInverse") (Fn : Fld Z h0 ob "com/example/tracefold/tracefold/mining/DenseInverse" "n" "I" (.int 3)) (Fv : Fld Z h0 ob "com/example/tracefold/tracefold/mining/DenseInverse" "inverse" "[D" (.ref vi)) (Vv : Arv Z h0 vi kv .double 9 [(.double 0), (.double 0), (.double 0), (.double 0), (.double 0), (.double 0), (.double 0), (.double 0), (.double 0)] (.double 0)) (Vc : Arv Z h0 cs kc (.array .int) 3 [(.ref c1), (.ref c2), (.ref c3)] .null) (Vs : Arv Z h0 vs_ ks (.array .double) 3 [(.ref d1), (.ref d2), (.ref d3)] .null) (Vc1 : Arv Z h0 c1 kc1 .int 2 [(.int 0), (.int 1)] (.int 0)) (Vc2 : Arv Z h0 c2 kc2 .int 2 [(.int 1), (.int 2)] (.int 0)) (Vc3 : Arv Z h0 c3 kc3 .int 1 [(.int 2)] (.int 0)) (Vd1 : Arv Z h0 d1 kd1 .double 2 [(.double 4607182418800017408), (.double fa)] (.double 0)) (Vd2 : Arv Z h0 d2 kd2 .double 2 [(.double 4607182418800017408), (.double fb)] (.double 0)) (Vd3 : Arv Z h0 d3 kd3 .double 1 [(.double 4607182418800017408)] (.double 0)) (gv : n0 ≤ vi) (n2 : ob ≠ vi) (n_cs : cs ≠ vi) (n_vs_ : vs_ ≠ vi) (n_c1 : c1 ≠ vi) (n_c2 : c2 ≠ vi) (n_c3 : c3 ≠ vi) (n_d1 : d1 ≠ vi) (n_d2 : d2 ≠ vi) (n_d3 : d3 ≠ vi) :
    MetFree l (⟨"com/example/tracefold/tracefold/mining/DenseInverse", "invert", "([[I[[D)Z"⟩ : MethodName) (head1 [Jvm.Cond.code (⟨"com/example/tracefold/tracefold/mining/DenseInverse", "invert", "([[I[[D)Z"⟩ : MethodName) prog_33_method_2_code 17 (some .boolean)] ({ frames := 1, cells := 7, slots := 27, locals := 40 } : Room)) (fun as_ U => as_ = #[(.ref ob), (.ref cs), (.ref vs_)] ∧ Z.Warmed39 U.vm ∧ U.heap = h0) (fun _ _ _ _ _ => True) (fun _ U o U' => ∃ v L, o = .returned v ∧ Q_rmV Z vi kv ia ib n0 h0 v U'.heap L ∧ FrameEnd U o U' L ({ frames := 1, cells := 7, slots := 27, locals := 40 } : Room).cells ({ frames := 1, cells := 7, slots := 27, locals := 40 } : Room).slots) := by
  refine own_met own_pf3 (ef_rmV ob cs vs_) ?_
  intro p e s m below meth c T0 X0 hx hby hml hret hlk hnm hown hZ e0
  have N0 := Fr.nil n0
  refine g_aloadN X0 hx 1 (hb hby d3_0) rfl rfl rfl ?_
  refine g_getF X0 hx hZ hown (hw _ (List.mem_of_getElem? (i := 9) rfl)) Via.refl e0 Fn 4 (hb hby d3_1) rfl ?_
  intro T1130 X1130 e1130
  refine g_aloadN X1130 hx 5 (hb hby d3_4) rfl rfl rfl ?_
  refine g_getF X1130 hx hZ hown (hw _ (List.mem_of_getElem? (i := 9) rfl)) Via.refl e1130 Fn 8 (hb hby d3_5) rfl ?_
  intro T1131 X1131 e1131
  refine g_imulC X1131 hx (9 : Int32) (by decide) 9 (hb hby d3_8) rfl ?_
  refine g_newP X1131 hx hZ (aty := .double) (hw _ (List.mem_of_getElem? (i := 11) rfl)) e1131 (by decide) (cap := 9) (by decide) (by decide) 11 (hb hby d3_9) rfl (by decide) (by decide) (ad := "[D") (by decide) ?_
  intro T1132 h1132 k1132 a1132 g1132 X1132 e1132 E1132 V1132 A1132
  have ne1133 : ob ≠ a1132 := Nat.ne_of_lt (by rw [g1132]; exact Eo.lt)
  have ne1134 : vi ≠ a1132 := Nat.ne_of_lt (by rw [g1132]; exact Vv.lt)
  have ne1135 : cs ≠ a1132 := Nat.ne_of_lt (by rw [g1132]; exact Vc.lt)
  have ne1136 : vs_ ≠ a1132 := Nat.ne_of_lt (by rw [g1132]; exact Vs.lt)
  have ne1137 : c1 ≠ a1132 := Nat.ne_of_lt (by rw [g1132]; exact Vc1.lt)
  have ne1138 : d1 ≠ a1132 := Nat.ne_of_lt (by rw [g1132]; exact Vd1.lt)
  have ne1139 : c2 ≠ a1132 := Nat.ne_of_lt (by rw [g1132]; exact Vc2.lt)
  have ne1140 : d2 ≠ a1132 := Nat.ne_of_lt (by rw [g1132]; exact Vd2.lt)
  have ne1141 : c3 ≠ a1132 := Nat.ne_of_lt (by rw [g1132]; exact Vc3.lt)
  have ne1142 : d3 ≠ a1132 := Nat.ne_of_lt (by rw [g1132]; exact Vd3.lt)
  have ge1143 : n0 ≤ a1132 := by rw [g1132]; exact Z0
  have sz1144 : h0.size ≤ a1132 := by rw [g1132]; exact (Keep.refl h0 [vi]).1
  have F1145 := Eo.ext E1132
  have F1146 := Fn.ext E1132
  have F1147 := Fv.ext E1132
  have F1148 := Vv.ext E1132
  have F1149 := Vc.ext E1132
  have F1150 := Vs.ext E1132
  have F1151 := Vc1.ext E1132
  have F1152 := Vd1.ext E1132
  have F1153 := Vc2.ext E1132
  have F1154 := Vd2.ext E1132
  have F1155 := Vc3.ext E1132
  have F1156 := Vd3.ext E1132
  have K1157 := (Keep.refl h0 [vi]).ext E1132
  have Z1158 : n0 ≤ h1132.size := Nat.le_trans Z0 E1132.1
  have V1132' : Arv Z h1132 a1132 k1132 .double (9 : Int32) [(.double (0 : UInt64)), (.double (0 : UInt64)), (.double (0 : UInt64)), (.double (0 : UInt64)), (.double (0 : UInt64)), (.double (0 : UInt64)), (.double (0 : UInt64)), (.double (0 : UInt64)), (.double (0 : UInt64))] (.double (0 : UInt64)) := V1132.pad (pad_rep [] (.double (0 : UInt64)) 9)
  refine g_astoreN (l' := #[.val (.ref ob), .val (.ref cs), .val (.ref vs_), .val (.ref a1132), .unset, .unset, .unset, .unset, .unset, .unset, .unset, .unset, .unset, .unset, .unset, .unset, .unset]) X1132 hx 12 (hb hby d3_11) rfl rfl rfl ?_
  refine g_iconst X1132 hx (0 : Int32) 13 (hb hby d3_12) rfl (by decide) ?_
  refine g_istore (l' := #[.val (.ref ob), .val (.ref cs), .val (.ref vs_), .val (.ref a1132), .val (.int (0 : Int32)), .unset, .unset, .unset, .unset, .unset, .unset, .unset, .unset, .unset, .unset, .unset, .unset]) X1132 hx 15 (hb hby d3_13) rfl rfl ?_
  refine g_iload X1132 hx 17 (hb hby d3_15) rfl rfl ?_
  refine g_aloadN X1132 hx 18 (hb hby d3_17) rfl rfl rfl ?_
  refine g_getF X1132 hx hZ hown (hw _ (List.mem_of_getElem? (i := 9) rfl)) Via.refl e1132 F1146 21 (hb hby d3_18) rfl ?_
  intro T1159 X1159 e1159
  have ll1161 : ((3 : Int32) : Int32).toInt = 3 := by decide
  have ll1162 : ((0 : Int32) : Int32).toInt = 0 := by decide
  refine g_ic_ge X1159 hx 73 24 (hb hby d3_21) (by decide) (by decide) rfl (fun c1160 => ?_) (fun c1160 => ?_)
  · skip
    exfalso; revert c1160; decide
  · skip
    refine g_iconst X1159 hx (0 : Int32) 25 (hb hby d3_24) rfl (by decide) ?_
    refine g_istore (l' := #[.val (.ref ob), .val (.ref cs), .val (.ref vs_), .val (.ref a1132), .val (.int (0 : Int32)), .val (.int (0 : Int32)), .unset, .unset, .unset, .unset, .unset, .unset, .unset, .unset, .unset, .unset, .unset]) X1159 hx 27 (hb hby d3_25) rfl rfl ?_
    refine g_iload X1159 hx 29 (hb hby d3_27) rfl rfl ?_
    refine g_aloadN X1159 hx 30 (hb hby d3_29) rfl rfl rfl ?_
    refine g_iload X1159 hx 32 (hb hby d3_30) rfl rfl ?_
    refine g_aaload X1159 hx hZ e1159 F1149 rfl (by decide) (by decide) (by rw [show ((0 : Int32) : Int32).toNatClampNeg = 0 by decide] <;> rfl) 33 (hb hby d3_32) rfl ?_
    refine g_len X1159 hx hZ e1159 F1151 34 (hb hby d3_33) rfl ?_
    have ll1164 : ((2 : Int32) : Int32).toInt = 2 := by decide
    have ll1165 : ((0 : Int32) : Int32).toInt = 0 := by decide
    refine g_ic_ge X1159 hx 67 37 (hb hby d3_34) (by decide) (by decide) rfl (fun c1163 => ?_) (fun c1163 => ?_)
    · skip
      exfalso; revert c1163; decide
    · skip
      refine g_aloadN X1159 hx 38 (hb hby d3_37) rfl rfl rfl ?_
      refine g_iload X1159 hx 40 (hb hby d3_38) rfl rfl ?_
      refine g_aloadN X1159 hx 41 (hb hby d3_40) rfl rfl rfl ?_
      refine g_getF X1159 hx hZ hown (hw _ (List.mem_of_getElem? (i := 9) rfl)) Via.refl e1159 F1146 44 (hb hby d3_41) rfl ?_
      intro T1166 X1166 e1166
      refine g_imulC X1166 hx (0 : Int32) (by decide) 45 (hb hby d3_44) rfl ?_
      refine g_aloadN X1166 hx 46 (hb hby d3_45) rfl rfl rfl ?_
      refine g_iload X1166 hx 48 (hb hby d3_46) rfl rfl ?_
      refine g_aaload X1166 hx hZ e1166 F1149 rfl (by decide) (by decide) (by rw [show ((0 : Int32) : Int32).toNatClampNeg = 0 by decide] <;> rfl) 49 (hb hby d3_48) rfl ?_
      refine g_iload X1166 hx 51 (hb hby d3_49) rfl rfl ?_
      refine g_iaload X1166 hx hZ e1166 F1151 (by decide) (by decide) (by rw [show ((0 : Int32) : Int32).toNatClampNeg = 0 by decide] <;> rfl) 52 (hb hby d3_51) rfl ?_
      refine g_iaddC X1166 hx (0 : Int32) (by decide) 53 (hb hby d3_52) rfl ?_
      refine g_aloadN X1166 hx 54 (hb hby d3_53) rfl rfl rfl ?_
      refine g_iload X1166 hx 56 (hb hby d3_54) rfl rfl ?_
      refine g_aaload X1166 hx hZ e1166 F1150 rfl (by decide) (by decide) (by rw [show ((0 : Int32) : Int32).toNatClampNeg = 0 by decide] <;> rfl) 57 (hb hby d3_56) rfl ?_
      refine g_iload X1166 hx 59 (hb hby d3_57) rfl rfl ?_
      refine g_daload X1166 hx hZ e1166 F1152 (by decide) (by decide) (by rw [show ((0 : Int32) : Int32).toNatClampNeg = 0 by decide] <;> rfl) 60 (hb hby d3_59) rfl ?_
      refine g_dastore X1166 hx hZ e1166 V1132' 0 (by decide) (by decide) (by show 0 < 9; decide) 61 (hb hby d3_60) rfl ?_
      intro T1167 h1167 X1167 e1167 W1167 V1167
      have F1168 := F1145.wr W1167
      have F1169 := F1146.other W1167 (Or.inl ne1133)
      have F1170 := F1147.other W1167 (Or.inl ne1133)
      have F1171 := F1148.other W1167 ne1134
      have F1172 := F1149.other W1167 ne1135
      have F1173 := F1150.other W1167 ne1136
      have F1174 := F1151.other W1167 ne1137
      have F1175 := F1152.other W1167 ne1138
      have F1176 := F1153.other W1167 ne1139
      have F1177 := F1154.other W1167 ne1140
      have F1178 := F1155.other W1167 ne1141
      have F1179 := F1156.other W1167 ne1142
      have F1180 := A1132.wr W1167
      have K1182 := K1157.wr W1167 (Or.inr sz1144)
      have N1183 := Fr.snoc X1167 N0 ge1143
      have Z1184 : n0 ≤ h1167.size := by rw [W1167.size]; exact Z1158
      have V1167' : Arv Z h1167 a1132 k1132 .double (9 : Int32) [(.double 4607182418800017408), (.double (0 : UInt64)), (.double (0 : UInt64)), (.double (0 : UInt64)), (.double (0 : UInt64)), (.double (0 : UInt64)), (.double (0 : UInt64)), (.double (0 : UInt64)), (.double (0 : UInt64))] (.double (0 : UInt64)) := V1167
      refine g_iincC X1167 hx (w := (1 : Int32)) (1 : Int32) (by decide) (l' := #[.val (.ref ob), .val (.ref cs), .val (.ref vs_), .val (.ref a1132), .val (.int (0 : Int32)), .val (.int (1 : Int32)), .unset, .unset, .unset, .unset, .unset, .unset, .unset, .unset, .unset, .unset, .unset]) 64 (hb hby d3_61) rfl rfl (by decide) rfl ?_
      refine g_goto X1167 hx 27 (hb hby d3_64) (by decide) (by decide) ?_
      refine g_iload X1167 hx 29 (hb hby d3_27) rfl rfl ?_
      refine g_aloadN X1167 hx 30 (hb hby d3_29) rfl rfl rfl ?_
      refine g_iload X1167 hx 32 (hb hby d3_30) rfl rfl ?_
      refine g_aaload X1167 hx hZ e1167 F1172 rfl (by decide) (by decide) (by rw [show ((0 : Int32) : Int32).toNatClampNeg = 0 by decide] <;> rfl) 33 (hb hby d3_32) rfl ?_
      refine g_len X1167 hx hZ e1167 F1174 34 (hb hby d3_33) rfl ?_
      have ll1186 : ((2 : Int32) : Int32).toInt = 2 := by decide
      have ll1187 : ((1 : Int32) : Int32).toInt = 1 := by decide
      refine g_ic_ge X1167 hx 67 37 (hb hby d3_34) (by decide) (by decide) rfl (fun c1185 => ?_) (fun c1185 => ?_)
      · skip
        exfalso; revert c1185; decide
      · skip
        refine g_aloadN X1167 hx 38 (hb hby d3_37) rfl rfl rfl ?_
        refine g_iload X1167 hx 40 (hb hby d3_38) rfl rfl ?_
        refine g_aloadN X1167 hx 41 (hb hby d3_40) rfl rfl rfl ?_
        refine g_getF X1167 hx hZ hown (hw _ (List.mem_of_getElem? (i := 9) rfl)) Via.refl e1167 F1169 44 (hb hby d3_41) rfl ?_
        intro T1188 X1188 e1188
        refine g_imulC X1188 hx (0 : Int32) (by decide) 45 (hb hby d3_44) rfl ?_
        refine g_aloadN X1188 hx 46 (hb hby d3_45) rfl rfl rfl ?_
        refine g_iload X1188 hx 48 (hb hby d3_46) rfl rfl ?_
        refine g_aaload X1188 hx hZ e1188 F1172 rfl (by decide) (by decide) (by rw [show ((0 : Int32) : Int32).toNatClampNeg = 0 by decide] <;> rfl) 49 (hb hby d3_48) rfl ?_
        refine g_iload X1188 hx 51 (hb hby d3_49) rfl rfl ?_
        refine g_iaload X1188 hx hZ e1188 F1174 (by decide) (by decide) (by rw [show ((1 : Int32) : Int32).toNatClampNeg = 1 by decide] <;> rfl) 52 (hb hby d3_51) rfl ?_
        refine g_iaddC X1188 hx (1 : Int32) (by decide) 53 (hb hby d3_52) rfl ?_
        refine g_aloadN X1188 hx 54 (hb hby d3_53) rfl rfl rfl ?_
        refine g_iload X1188 hx 56 (hb hby d3_54) rfl rfl ?_
        refine g_aaload X1188 hx hZ e1188 F1173 rfl (by decide) (by decide) (by rw [show ((0 : Int32) : Int32).toNatClampNeg = 0 by decide] <;> rfl) 57 (hb hby d3_56) rfl ?_
        refine g_iload X1188 hx 59 (hb hby d3_57) rfl rfl ?_
        refine g_daload X1188 hx hZ e1188 F1175 (by decide) (by decide) (by rw [show ((1 : Int32) : Int32).toNatClampNeg = 1 by decide] <;> rfl) 60 (hb hby d3_59) rfl ?_
        refine g_dastore X1188 hx hZ e1188 V1167' 1 (by decide) (by decide) (by show 1 < 9; decide) 61 (hb hby d3_60) rfl ?_
        intro T1189 h1189 X1189 e1189 W1189 V1189
        have F1190 := F1168.wr W1189
        have F1191 := F1169.other W1189 (Or.inl ne1133)
        have F1192 := F1170.other W1189 (Or.inl ne1133)
        have F1193 := F1171.other W1189 ne1134
        have F1194 := F1172.other W1189 ne1135
        have F1195 := F1173.other W1189 ne1136
        have F1196 := F1174.other W1189 ne1137
        have F1197 := F1175.other W1189 ne1138
        have F1198 := F1176.other W1189 ne1139
        have F1199 := F1177.other W1189 ne1140
        have F1200 := F1178.other W1189 ne1141
        have F1201 := F1179.other W1189 ne1142
        have F1202 := F1180.wr W1189
        have K1204 := K1182.wr W1189 (Or.inr sz1144)
        have N1205 := Fr.snoc X1189 N1183 ge1143
        have Z1206 : n0 ≤ h1189.size := by rw [W1189.size]; exact Z1184
        have V1189' : Arv Z h1189 a1132 k1132 .double (9 : Int32) [(.double 4607182418800017408), (.double fa), (.double (0 : UInt64)), (.double (0 : UInt64)), (.double (0 : UInt64)), (.double (0 : UInt64)), (.double (0 : UInt64)), (.double (0 : UInt64)), (.double (0 : UInt64))] (.double (0 : UInt64)) := V1189
        refine g_iincC X1189 hx (w := (1 : Int32)) (2 : Int32) (by decide) (l' := #[.val (.ref ob), .val (.ref cs), .val (.ref vs_), .val (.ref a1132), .val (.int (0 : Int32)), .val (.int (2 : Int32)), .unset, .unset, .unset, .unset, .unset, .unset, .unset, .unset, .unset, .unset, .unset]) 64 (hb hby d3_61) rfl rfl (by decide) rfl ?_
        refine g_goto X1189 hx 27 (hb hby d3_64) (by decide) (by decide) ?_
        refine g_iload X1189 hx 29 (hb hby d3_27) rfl rfl ?_
        refine g_aloadN X1189 hx 30 (hb hby d3_29) rfl rfl rfl ?_
        refine g_iload X1189 hx 32 (hb hby d3_30) rfl rfl ?_
        refine g_aaload X1189 hx hZ e1189 F1194 rfl (by decide) (by decide) (by rw [show ((0 : Int32) : Int32).toNatClampNeg = 0 by decide] <;> rfl) 33 (hb hby d3_32) rfl ?_
        refine g_len X1189 hx hZ e1189 F1196 34 (hb hby d3_33) rfl ?_
        have ll1208 : ((2 : Int32) : Int32).toInt = 2 := by decide
        have ll1209 : ((2 : Int32) : Int32).toInt = 2 := by decide
        refine g_ic_ge X1189 hx 67 37 (hb hby d3_34) (by decide) (by decide) rfl (fun c1207 => ?_) (fun c1207 => ?_)
        · skip
          refine g_iincC X1189 hx (w := (1 : Int32)) (1 : Int32) (by decide) (l' := #[.val (.ref ob), .val (.ref cs), .val (.ref vs_), .val (.ref a1132), .val (.int (1 : Int32)), .val (.int (2 : Int32)), .unset, .unset, .unset, .unset, .unset, .unset, .unset, .unset, .unset, .unset, .unset]) 70 (hb hby d3_67) rfl rfl (by decide) rfl ?_
          refine g_goto X1189 hx 15 (hb hby d3_70) (by decide) (by decide) ?_
          refine g_iload X1189 hx 17 (hb hby d3_15) rfl rfl ?_
          refine g_aloadN X1189 hx 18 (hb hby d3_17) rfl rfl rfl ?_
          refine g_getF X1189 hx hZ hown (hw _ (List.mem_of_getElem? (i := 9) rfl)) Via.refl e1189 F1191 21 (hb hby d3_18) rfl ?_
          intro T1210 X1210 e1210
          have ll1212 : ((3 : Int32) : Int32).toInt = 3 := by decide
          have ll1213 : ((1 : Int32) : Int32).toInt = 1 := by decide
          refine g_ic_ge X1210 hx 73 24 (hb hby d3_21) (by decide) (by decide) rfl (fun c1211 => ?_) (fun c1211 => ?_)
          · skip
            exfalso; revert c1211; decide
          · skip
            refine g_iconst X1210 hx (0 : Int32) 25 (hb hby d3_24) rfl (by decide) ?_
            refine g_istore (l' := #[.val (.ref ob), .val (.ref cs), .val (.ref vs_), .val (.ref a1132), .val (.int (1 : Int32)), .val (.int (0 : Int32)), .unset, .unset, .unset, .unset, .unset, .unset, .unset, .unset, .unset, .unset, .unset]) X1210 hx 27 (hb hby d3_25) rfl rfl ?_
            refine g_iload X1210 hx 29 (hb hby d3_27) rfl rfl ?_
            refine g_aloadN X1210 hx 30 (hb hby d3_29) rfl rfl rfl ?_
            refine g_iload X1210 hx 32 (hb hby d3_30) rfl rfl ?_
            refine g_aaload X1210 hx hZ e1210 F1194 rfl (by decide) (by decide) (by rw [show ((1 : Int32) : Int32).toNatClampNeg = 1 by decide] <;> rfl) 33 (hb hby d3_32) rfl ?_
            refine g_len X1210 hx hZ e1210 F1198 34 (hb hby d3_33) rfl ?_
            have ll1215 : ((2 : Int32) : Int32).toInt = 2 := by decide
            have ll1216 : ((0 : Int32) : Int32).toInt = 0 := by decide
            refine g_ic_ge X1210 hx 67 37 (hb hby d3_34) (by decide) (by decide) rfl (fun c1214 => ?_) (fun c1214 => ?_)
            · skip
              exfalso; revert c1214; decide
            · skip
              refine g_aloadN X1210 hx 38 (hb hby d3_37) rfl rfl rfl ?_
              refine g_iload X1210 hx 40 (hb hby d3_38) rfl rfl ?_
              refine g_aloadN X1210 hx 41 (hb hby d3_40) rfl rfl rfl ?_
              refine g_getF X1210 hx hZ hown (hw _ (List.mem_of_getElem? (i := 9) rfl)) Via.refl e1210 F1191 44 (hb hby d3_41) rfl ?_
              intro T1217 X1217 e1217
              refine g_imulC X1217 hx (3 : Int32) (by decide) 45 (hb hby d3_44) rfl ?_
              refine g_aloadN X1217 hx 46 (hb hby d3_45) rfl rfl rfl ?_
              refine g_iload X1217 hx 48 (hb hby d3_46) rfl rfl ?_
              refine g_aaload X1217 hx hZ e1217 F1194 rfl (by decide) (by decide) (by rw [show ((1 : Int32) : Int32).toNatClampNeg = 1 by decide] <;> rfl) 49 (hb hby d3_48) rfl ?_
              refine g_iload X1217 hx 51 (hb hby d3_49) rfl rfl ?_
              refine g_iaload X1217 hx hZ e1217 F1198 (by decide) (by decide) (by rw [show ((0 : Int32) : Int32).toNatClampNeg = 0 by decide] <;> rfl) 52 (hb hby d3_51) rfl ?_
              refine g_iaddC X1217 hx (4 : Int32) (by decide) 53 (hb hby d3_52) rfl ?_
              refine g_aloadN X1217 hx 54 (hb hby d3_53) rfl rfl rfl ?_
              refine g_iload X1217 hx 56 (hb hby d3_54) rfl rfl ?_
              refine g_aaload X1217 hx hZ e1217 F1195 rfl (by decide) (by decide) (by rw [show ((1 : Int32) : Int32).toNatClampNeg = 1 by decide] <;> rfl) 57 (hb hby d3_56) rfl ?_
              refine g_iload X1217 hx 59 (hb hby d3_57) rfl rfl ?_
              refine g_daload X1217 hx hZ e1217 F1199 (by decide) (by decide) (by rw [show ((0 : Int32) : Int32).toNatClampNeg = 0 by decide] <;> rfl) 60 (hb hby d3_59) rfl ?_
              refine g_dastore X1217 hx hZ e1217 V1189' 4 (by decide) (by decide) (by show 4 < 9; decide) 61 (hb hby d3_60) rfl ?_
              intro T1218 h1218 X1218 e1218 W1218 V1218
              have F1219 := F1190.wr W1218
              have F1220 := F1191.other W1218 (Or.inl ne1133)
              have F1221 := F1192.other W1218 (Or.inl ne1133)
              have F1222 := F1193.other W1218 ne1134
              have F1223 := F1194.other W1218 ne1135
              have F1224 := F1195.other W1218 ne1136
              have F1225 := F1196.other W1218 ne1137
              have F1226 := F1197.other W1218 ne1138
              have F1227 := F1198.other W1218 ne1139
              have F1228 := F1199.other W1218 ne1140
              have F1229 := F1200.other W1218 ne1141
              have F1230 := F1201.other W1218 ne1142
              have F1231 := F1202.wr W1218
              have K1233 := K1204.wr W1218 (Or.inr sz1144)
              have N1234 := Fr.snoc X1218 N1205 ge1143
              have Z1235 : n0 ≤ h1218.size := by rw [W1218.size]; exact Z1206
              have V1218' : Arv Z h1218 a1132 k1132 .double (9 : Int32) [(.double 4607182418800017408), (.double fa), (.double (0 : UInt64)), (.double (0 : UInt64)), (.double 4607182418800017408), (.double (0 : UInt64)), (.double (0 : UInt64)), (.double (0 : UInt64)), (.double (0 : UInt64))] (.double (0 : UInt64)) := V1218
              refine g_iincC X1218 hx (w := (1 : Int32)) (1 : Int32) (by decide) (l' := #[.val (.ref ob), .val (.ref cs), .val (.ref vs_), .val (.ref a1132), .val (.int (1 : Int32)), .val (.int (1 : Int32)), .unset, .unset, .unset, .unset, .unset, .unset, .unset, .unset, .unset, .unset, .unset]) 64 (hb hby d3_61) rfl rfl (by decide) rfl ?_
              refine g_goto X1218 hx 27 (hb hby d3_64) (by decide) (by decide) ?_
              refine g_iload X1218 hx 29 (hb hby d3_27) rfl rfl ?_
              refine g_aloadN X1218 hx 30 (hb hby d3_29) rfl rfl rfl ?_
              refine g_iload X1218 hx 32 (hb hby d3_30) rfl rfl ?_
              refine g_aaload X1218 hx hZ e1218 F1223 rfl (by decide) (by decide) (by rw [show ((1 : Int32) : Int32).toNatClampNeg = 1 by decide] <;> rfl) 33 (hb hby d3_32) rfl ?_
              refine g_len X1218 hx hZ e1218 F1227 34 (hb hby d3_33) rfl ?_
              have ll1237 : ((2 : Int32) : Int32).toInt = 2 := by decide
              have ll1238 : ((1 : Int32) : Int32).toInt = 1 := by decide
              refine g_ic_ge X1218 hx 67 37 (hb hby d3_34) (by decide) (by decide) rfl (fun c1236 => ?_) (fun c1236 => ?_)
              · skip
                exfalso; revert c1236; decide
              · skip
                refine g_aloadN X1218 hx 38 (hb hby d3_37) rfl rfl rfl ?_
                refine g_iload X1218 hx 40 (hb hby d3_38) rfl rfl ?_
                refine g_aloadN X1218 hx 41 (hb hby d3_40) rfl rfl rfl ?_
                refine g_getF X1218 hx hZ hown (hw _ (List.mem_of_getElem? (i := 9) rfl)) Via.refl e1218 F1220 44 (hb hby d3_41) rfl ?_
                intro T1239 X1239 e1239
                refine g_imulC X1239 hx (3 : Int32) (by decide) 45 (hb hby d3_44) rfl ?_
                refine g_aloadN X1239 hx 46 (hb hby d3_45) rfl rfl rfl ?_
                refine g_iload X1239 hx 48 (hb hby d3_46) rfl rfl ?_
                refine g_aaload X1239 hx hZ e1239 F1223 rfl (by decide) (by decide) (by rw [show ((1 : Int32) : Int32).toNatClampNeg = 1 by decide] <;> rfl) 49 (hb hby d3_48) rfl ?_
                refine g_iload X1239 hx 51 (hb hby d3_49) rfl rfl ?_
                refine g_iaload X1239 hx hZ e1239 F1227 (by decide) (by decide) (by rw [show ((1 : Int32) : Int32).toNatClampNeg = 1 by decide] <;> rfl) 52 (hb hby d3_51) rfl ?_
                refine g_iaddC X1239 hx (5 : Int32) (by decide) 53 (hb hby d3_52) rfl ?_
                refine g_aloadN X1239 hx 54 (hb hby d3_53) rfl rfl rfl ?_
                refine g_iload X1239 hx 56 (hb hby d3_54) rfl rfl ?_
                refine g_aaload X1239 hx hZ e1239 F1224 rfl (by decide) (by decide) (by rw [show ((1 : Int32) : Int32).toNatClampNeg = 1 by decide] <;> rfl) 57 (hb hby d3_56) rfl ?_
                refine g_iload X1239 hx 59 (hb hby d3_57) rfl rfl ?_
                refine g_daload X1239 hx hZ e1239 F1228 (by decide) (by decide) (by rw [show ((1 : Int32) : Int32).toNatClampNeg = 1 by decide] <;> rfl) 60 (hb hby d3_59) rfl ?_
                refine g_dastore X1239 hx hZ e1239 V1218' 5 (by decide) (by decide) (by show 5 < 9; decide) 61 (hb hby d3_60) rfl ?_
                intro T1240 h1240 X1240 e1240 W1240 V1240
                have F1241 := F1219.wr W1240
                have F1242 := F1220.other W1240 (Or.inl ne1133)
                have F1243 := F1221.other W1240 (Or.inl ne1133)
                have F1244 := F1222.other W1240 ne1134
                have F1245 := F1223.other W1240 ne1135
                have F1246 := F1224.other W1240 ne1136
                have F1247 := F1225.other W1240 ne1137
                have F1248 := F1226.other W1240 ne1138
                have F1249 := F1227.other W1240 ne1139
                have F1250 := F1228.other W1240 ne1140
                have F1251 := F1229.other W1240 ne1141
                have F1252 := F1230.other W1240 ne1142
                have F1253 := F1231.wr W1240
                have K1255 := K1233.wr W1240 (Or.inr sz1144)
                have N1256 := Fr.snoc X1240 N1234 ge1143
                have Z1257 : n0 ≤ h1240.size := by rw [W1240.size]; exact Z1235
                have V1240' : Arv Z h1240 a1132 k1132 .double (9 : Int32) [(.double 4607182418800017408), (.double fa), (.double (0 : UInt64)), (.double (0 : UInt64)), (.double 4607182418800017408), (.double fb), (.double (0 : UInt64)), (.double (0 : UInt64)), (.double (0 : UInt64))] (.double (0 : UInt64)) := V1240
                refine g_iincC X1240 hx (w := (1 : Int32)) (2 : Int32) (by decide) (l' := #[.val (.ref ob), .val (.ref cs), .val (.ref vs_), .val (.ref a1132), .val (.int (1 : Int32)), .val (.int (2 : Int32)), .unset, .unset, .unset, .unset, .unset, .unset, .unset, .unset, .unset, .unset, .unset]) 64 (hb hby d3_61) rfl rfl (by decide) rfl ?_
                refine g_goto X1240 hx 27 (hb hby d3_64) (by decide) (by decide) ?_
                refine g_iload X1240 hx 29 (hb hby d3_27) rfl rfl ?_
                refine g_aloadN X1240 hx 30 (hb hby d3_29) rfl rfl rfl ?_
                refine g_iload X1240 hx 32 (hb hby d3_30) rfl rfl ?_
                refine g_aaload X1240 hx hZ e1240 F1245 rfl (by decide) (by decide) (by rw [show ((1 : Int32) : Int32).toNatClampNeg = 1 by decide] <;> rfl) 33 (hb hby d3_32) rfl ?_
                refine g_len X1240 hx hZ e1240 F1249 34 (hb hby d3_33) rfl ?_
                have ll1259 : ((2 : Int32) : Int32).toInt = 2 := by decide
                have ll1260 : ((2 : Int32) : Int32).toInt = 2 := by decide
                refine g_ic_ge X1240 hx 67 37 (hb hby d3_34) (by decide) (by decide) rfl (fun c1258 => ?_) (fun c1258 => ?_)
                · skip
                  refine g_iincC X1240 hx (w := (1 : Int32)) (2 : Int32) (by decide) (l' := #[.val (.ref ob), .val (.ref cs), .val (.ref vs_), .val (.ref a1132), .val (.int (2 : Int32)), .val (.int (2 : Int32)), .unset, .unset, .unset, .unset, .unset, .unset, .unset, .unset, .unset, .unset, .unset]) 70 (hb hby d3_67) rfl rfl (by decide) rfl ?_
                  refine g_goto X1240 hx 15 (hb hby d3_70) (by decide) (by decide) ?_
                  refine g_iload X1240 hx 17 (hb hby d3_15) rfl rfl ?_
                  refine g_aloadN X1240 hx 18 (hb hby d3_17) rfl rfl rfl ?_
                  refine g_getF X1240 hx hZ hown (hw _ (List.mem_of_getElem? (i := 9) rfl)) Via.refl e1240 F1242 21 (hb hby d3_18) rfl ?_
                  intro T1261 X1261 e1261
                  have ll1263 : ((3 : Int32) : Int32).toInt = 3 := by decide
                  have ll1264 : ((2 : Int32) : Int32).toInt = 2 := by decide
                  refine g_ic_ge X1261 hx 73 24 (hb hby d3_21) (by decide) (by decide) rfl (fun c1262 => ?_) (fun c1262 => ?_)
                  · skip
                    exfalso; revert c1262; decide
                  · skip
                    refine g_iconst X1261 hx (0 : Int32) 25 (hb hby d3_24) rfl (by decide) ?_
                    refine g_istore (l' := #[.val (.ref ob), .val (.ref cs), .val (.ref vs_), .val (.ref a1132), .val (.int (2 : Int32)), .val (.int (0 : Int32)), .unset, .unset, .unset, .unset, .unset, .unset, .unset, .unset, .unset, .unset, .unset]) X1261 hx 27 (hb hby d3_25) rfl rfl ?_
                    refine g_iload X1261 hx 29 (hb hby d3_27) rfl rfl ?_
                    refine g_aloadN X1261 hx 30 (hb hby d3_29) rfl rfl rfl ?_
                    refine g_iload X1261 hx 32 (hb hby d3_30) rfl rfl ?_
                    refine g_aaload X1261 hx hZ e1261 F1245 rfl (by decide) (by decide) (by rw [show ((2 : Int32) : Int32).toNatClampNeg = 2 by decide] <;> rfl) 33 (hb hby d3_32) rfl ?_
                    refine g_len X1261 hx hZ e1261 F1251 34 (hb hby d3_33) rfl ?_
                    have ll1266 : ((1 : Int32) : Int32).toInt = 1 := by decide
                    have ll1267 : ((0 : Int32) : Int32).toInt = 0 := by decide
                    refine g_ic_ge X1261 hx 67 37 (hb hby d3_34) (by decide) (by decide) rfl (fun c1265 => ?_) (fun c1265 => ?_)
                    · skip
                      exfalso; revert c1265; decide
                    · skip
                      refine g_aloadN X1261 hx 38 (hb hby d3_37) rfl rfl rfl ?_
                      refine g_iload X1261 hx 40 (hb hby d3_38) rfl rfl ?_
                      refine g_aloadN X1261 hx 41 (hb hby d3_40) rfl rfl rfl ?_
                      refine g_getF X1261 hx hZ hown (hw _ (List.mem_of_getElem? (i := 9) rfl)) Via.refl e1261 F1242 44 (hb hby d3_41) rfl ?_
                      intro T1268 X1268 e1268
                      refine g_imulC X1268 hx (6 : Int32) (by decide) 45 (hb hby d3_44) rfl ?_
                      refine g_aloadN X1268 hx 46 (hb hby d3_45) rfl rfl rfl ?_
                      refine g_iload X1268 hx 48 (hb hby d3_46) rfl rfl ?_
                      refine g_aaload X1268 hx hZ e1268 F1245 rfl (by decide) (by decide) (by rw [show ((2 : Int32) : Int32).toNatClampNeg = 2 by decide] <;> rfl) 49 (hb hby d3_48) rfl ?_
                      refine g_iload X1268 hx 51 (hb hby d3_49) rfl rfl ?_
                      refine g_iaload X1268 hx hZ e1268 F1251 (by decide) (by decide) (by rw [show ((0 : Int32) : Int32).toNatClampNeg = 0 by decide] <;> rfl) 52 (hb hby d3_51) rfl ?_
                      refine g_iaddC X1268 hx (8 : Int32) (by decide) 53 (hb hby d3_52) rfl ?_
                      refine g_aloadN X1268 hx 54 (hb hby d3_53) rfl rfl rfl ?_
                      refine g_iload X1268 hx 56 (hb hby d3_54) rfl rfl ?_
                      refine g_aaload X1268 hx hZ e1268 F1246 rfl (by decide) (by decide) (by rw [show ((2 : Int32) : Int32).toNatClampNeg = 2 by decide] <;> rfl) 57 (hb hby d3_56) rfl ?_
                      refine g_iload X1268 hx 59 (hb hby d3_57) rfl rfl ?_
                      refine g_daload X1268 hx hZ e1268 F1252 (by decide) (by decide) (by rw [show ((0 : Int32) : Int32).toNatClampNeg = 0 by decide] <;> rfl) 60 (hb hby d3_59) rfl ?_
                      refine g_dastore X1268 hx hZ e1268 V1240' 8 (by decide) (by decide) (by show 8 < 9; decide) 61 (hb hby d3_60) rfl ?_
                      intro T1269 h1269 X1269 e1269 W1269 V1269
                      have F1270 := F1241.wr W1269
                      have F1271 := F1242.other W1269 (Or.inl ne1133)
                      have F1272 := F1243.other W1269 (Or.inl ne1133)
                      have F1273 := F1244.other W1269 ne1134
                      have F1274 := F1245.other W1269 ne1135
                      have F1275 := F1246.other W1269 ne1136
                      have F1276 := F1247.other W1269 ne1137
                      have F1277 := F1248.other W1269 ne1138
                      have F1278 := F1249.other W1269 ne1139
                      have F1279 := F1250.other W1269 ne1140
                      have F1280 := F1251.other W1269 ne1141
                      have F1281 := F1252.other W1269 ne1142
                      have F1282 := F1253.wr W1269
                      have K1284 := K1255.wr W1269 (Or.inr sz1144)
                      have N1285 := Fr.snoc X1269 N1256 ge1143
                      have Z1286 : n0 ≤ h1269.size := by rw [W1269.size]; exact Z1257
                      have V1269' : Arv Z h1269 a1132 k1132 .double (9 : Int32) [(.double 4607182418800017408), (.double fa), (.double (0 : UInt64)), (.double (0 : UInt64)), (.double 4607182418800017408), (.double fb), (.double (0 : UInt64)), (.double (0 : UInt64)), (.double 4607182418800017408)] (.double (0 : UInt64)) := V1269
                      refine g_iincC X1269 hx (w := (1 : Int32)) (1 : Int32) (by decide) (l' := #[.val (.ref ob), .val (.ref cs), .val (.ref vs_), .val (.ref a1132), .val (.int (2 : Int32)), .val (.int (1 : Int32)), .unset, .unset, .unset, .unset, .unset, .unset, .unset, .unset, .unset, .unset, .unset]) 64 (hb hby d3_61) rfl rfl (by decide) rfl ?_
                      refine g_goto X1269 hx 27 (hb hby d3_64) (by decide) (by decide) ?_
                      refine g_iload X1269 hx 29 (hb hby d3_27) rfl rfl ?_
                      refine g_aloadN X1269 hx 30 (hb hby d3_29) rfl rfl rfl ?_
                      refine g_iload X1269 hx 32 (hb hby d3_30) rfl rfl ?_
                      refine g_aaload X1269 hx hZ e1269 F1274 rfl (by decide) (by decide) (by rw [show ((2 : Int32) : Int32).toNatClampNeg = 2 by decide] <;> rfl) 33 (hb hby d3_32) rfl ?_
                      refine g_len X1269 hx hZ e1269 F1280 34 (hb hby d3_33) rfl ?_
                      have ll1288 : ((1 : Int32) : Int32).toInt = 1 := by decide
                      have ll1289 : ((1 : Int32) : Int32).toInt = 1 := by decide
                      refine g_ic_ge X1269 hx 67 37 (hb hby d3_34) (by decide) (by decide) rfl (fun c1287 => ?_) (fun c1287 => ?_)
                      · skip
                        refine g_iincC X1269 hx (w := (1 : Int32)) (3 : Int32) (by decide) (l' := #[.val (.ref ob), .val (.ref cs), .val (.ref vs_), .val (.ref a1132), .val (.int (3 : Int32)), .val (.int (1 : Int32)), .unset, .unset, .unset, .unset, .unset, .unset, .unset, .unset, .unset, .unset, .unset]) 70 (hb hby d3_67) rfl rfl (by decide) rfl ?_
                        refine g_goto X1269 hx 15 (hb hby d3_70) (by decide) (by decide) ?_
                        refine g_iload X1269 hx 17 (hb hby d3_15) rfl rfl ?_
                        refine g_aloadN X1269 hx 18 (hb hby d3_17) rfl rfl rfl ?_
                        refine g_getF X1269 hx hZ hown (hw _ (List.mem_of_getElem? (i := 9) rfl)) Via.refl e1269 F1271 21 (hb hby d3_18) rfl ?_
                        intro T1290 X1290 e1290
                        have ll1292 : ((3 : Int32) : Int32).toInt = 3 := by decide
                        have ll1293 : ((3 : Int32) : Int32).toInt = 3 := by decide
                        refine g_ic_ge X1290 hx 73 24 (hb hby d3_21) (by decide) (by decide) rfl (fun c1291 => ?_) (fun c1291 => ?_)
                        · skip
                          refine g_aloadN X1290 hx 74 (hb hby d3_73) rfl rfl rfl ?_
                          refine g_getF X1290 hx hZ hown (hw _ (List.mem_of_getElem? (i := 12) rfl)) Via.refl e1290 F1272 77 (hb hby d3_74) rfl ?_
                          intro T1294 X1294 e1294
                          refine g_dconst0 X1294 hx 78 (hb hby d3_77) rfl ?_
                          refine g_static X1294 hx hZ hown (hw _ (List.mem_of_getElem? (i := 26) rfl)) (hw _ (List.mem_of_getElem? (i := 27) rfl)) (hw _ (List.mem_of_getElem? (i := 28) rfl)) (hw _ (List.mem_of_getElem? (i := 29) rfl)) (by decide) (rmF l Z a0 hw vi 0 h1269 n0 Z1286 kv 0 0 0 0 0 0 0 0 0 gv F1273) e1294 (argsL := [(.ref vi), (.double 0)]) (rest := []) rfl rfl 0 81 rfl (by rw [hml]; rfl) (lenOf own_pd3 rfl) (Nat.le_refl _) (by decide) (by decide) (by decide) (by decide) (hb hby d3_78) ?_
                          intro v1295 T1295 L1295 X1295 hQ1295
                          obtain ⟨rfl, N1295, K1295, V1295⟩ := hQ1295
                          have N1296 := Fr.app N1285 N1295
                          have F1297 := F1270.keep K1295
                          have F1298 := F1271.keep K1295 (ninS n2 nin0)
                          have F1299 := F1272.keep K1295 (ninS n2 nin0)
                          have F1301 := F1282.keep K1295
                          have F1302 := V1269'.keep K1295 (ninS (Ne.symm ne1134) nin0)
                          have Z1303 : n0 ≤ T1295.heap.size := Nat.le_trans Z1286 K1295.1
                          have K1304 := K1284.trans K1295 (allS (Or.inl (List.mem_of_getElem? (i := 0) rfl)) all0)
                          show Go p e below _ T1295 (mkF m 81 #[.val (.ref ob), .val (.ref cs), .val (.ref vs_), .val (.ref a1132), .val (.int (3 : Int32)), .val (.int (1 : Int32)), .unset, .unset, .unset, .unset, .unset, .unset, .unset, .unset, .unset, .unset, .unset] [])
                          refine g_iconst X1295 hx (0 : Int32) 82 (hb hby d3_81) rfl (by decide) ?_
                          refine g_istore (l' := #[.val (.ref ob), .val (.ref cs), .val (.ref vs_), .val (.ref a1132), .val (.int (0 : Int32)), .val (.int (1 : Int32)), .unset, .unset, .unset, .unset, .unset, .unset, .unset, .unset, .unset, .unset, .unset]) X1295 hx 84 (hb hby d3_82) rfl rfl ?_
                          refine g_iload X1295 hx 86 (hb hby d3_84) rfl rfl ?_
                          refine g_aloadN X1295 hx 87 (hb hby d3_86) rfl rfl rfl ?_
                          refine g_getF X1295 hx hZ hown (hw _ (List.mem_of_getElem? (i := 9) rfl)) Via.refl rfl F1298 90 (hb hby d3_87) rfl ?_
                          intro T1305 X1305 e1305
                          have ll1307 : ((3 : Int32) : Int32).toInt = 3 := by decide
                          have ll1308 : ((0 : Int32) : Int32).toInt = 0 := by decide
                          refine g_ic_ge X1305 hx 115 93 (hb hby d3_90) (by decide) (by decide) rfl (fun c1306 => ?_) (fun c1306 => ?_)
                          · skip
                            exfalso; revert c1306; decide
                          · skip
                            refine g_aloadN X1305 hx 94 (hb hby d3_93) rfl rfl rfl ?_
                            refine g_getF X1305 hx hZ hown (hw _ (List.mem_of_getElem? (i := 12) rfl)) Via.refl e1305 F1299 97 (hb hby d3_94) rfl ?_
                            intro T1309 X1309 e1309
                            refine g_iload X1309 hx 99 (hb hby d3_97) rfl rfl ?_
                            refine g_aloadN X1309 hx 100 (hb hby d3_99) rfl rfl rfl ?_
                            refine g_getF X1309 hx hZ hown (hw _ (List.mem_of_getElem? (i := 9) rfl)) Via.refl e1309 F1298 103 (hb hby d3_100) rfl ?_
                            intro T1310 X1310 e1310
                            refine g_imulC X1310 hx (0 : Int32) (by decide) 104 (hb hby d3_103) rfl ?_
                            refine g_iload X1310 hx 106 (hb hby d3_104) rfl rfl ?_
                            refine g_iaddC X1310 hx (0 : Int32) (by decide) 107 (hb hby d3_106) rfl ?_
                            refine g_dconst1 X1310 hx 108 (hb hby d3_107) rfl ?_
                            refine g_dastore X1310 hx hZ e1310 V1295 0 (by decide) (by decide) (by show 0 < 9; decide) 109 (hb hby d3_108) rfl ?_
                            intro T1311 h1311 X1311 e1311 W1311 V1311
                            have F1312 := F1297.wr W1311
                            have F1313 := F1298.other W1311 (Or.inl n2)
                            have F1314 := F1299.other W1311 (Or.inl n2)
                            have F1315 := F1301.wr W1311
                            have F1316 := F1302.other W1311 (Ne.symm ne1134)
                            have K1318 := K1304.wr W1311 (Or.inl (List.mem_of_getElem? (i := 0) rfl))
                            have N1319 := Fr.snoc X1311 N1296 gv
                            have Z1320 : n0 ≤ h1311.size := by rw [W1311.size]; exact Z1303
                            have V1311' : Arv Z h1311 vi kv .double (9 : Int32) [(.double 4607182418800017408), (.double 0), (.double 0), (.double 0), (.double 0), (.double 0), (.double 0), (.double 0), (.double 0)] (.double 0) := V1311
                            refine g_iincC X1311 hx (w := (1 : Int32)) (1 : Int32) (by decide) (l' := #[.val (.ref ob), .val (.ref cs), .val (.ref vs_), .val (.ref a1132), .val (.int (1 : Int32)), .val (.int (1 : Int32)), .unset, .unset, .unset, .unset, .unset, .unset, .unset, .unset, .unset, .unset, .unset]) 112 (hb hby d3_109) rfl rfl (by decide) rfl ?_
                            refine g_goto X1311 hx 84 (hb hby d3_112) (by decide) (by decide) ?_
                            refine g_iload X1311 hx 86 (hb hby d3_84) rfl rfl ?_
                            refine g_aloadN X1311 hx 87 (hb hby d3_86) rfl rfl rfl ?_
                            refine g_getF X1311 hx hZ hown (hw _ (List.mem_of_getElem? (i := 9) rfl)) Via.refl e1311 F1313 90 (hb hby d3_87) rfl ?_
                            intro T1321 X1321 e1321
                            have ll1323 : ((3 : Int32) : Int32).toInt = 3 := by decide
                            have ll1324 : ((1 : Int32) : Int32).toInt = 1 := by decide
                            refine g_ic_ge X1321 hx 115 93 (hb hby d3_90) (by decide) (by decide) rfl (fun c1322 => ?_) (fun c1322 => ?_)
                            · skip
                              exfalso; revert c1322; decide
                            · skip
                              refine g_aloadN X1321 hx 94 (hb hby d3_93) rfl rfl rfl ?_
                              refine g_getF X1321 hx hZ hown (hw _ (List.mem_of_getElem? (i := 12) rfl)) Via.refl e1321 F1314 97 (hb hby d3_94) rfl ?_
                              intro T1325 X1325 e1325
                              refine g_iload X1325 hx 99 (hb hby d3_97) rfl rfl ?_
                              refine g_aloadN X1325 hx 100 (hb hby d3_99) rfl rfl rfl ?_
                              refine g_getF X1325 hx hZ hown (hw _ (List.mem_of_getElem? (i := 9) rfl)) Via.refl e1325 F1313 103 (hb hby d3_100) rfl ?_
                              intro T1326 X1326 e1326
                              refine g_imulC X1326 hx (3 : Int32) (by decide) 104 (hb hby d3_103) rfl ?_
                              refine g_iload X1326 hx 106 (hb hby d3_104) rfl rfl ?_
                              refine g_iaddC X1326 hx (4 : Int32) (by decide) 107 (hb hby d3_106) rfl ?_
                              refine g_dconst1 X1326 hx 108 (hb hby d3_107) rfl ?_
                              refine g_dastore X1326 hx hZ e1326 V1311' 4 (by decide) (by decide) (by show 4 < 9; decide) 109 (hb hby d3_108) rfl ?_
                              intro T1327 h1327 X1327 e1327 W1327 V1327
                              have F1328 := F1312.wr W1327
                              have F1329 := F1313.other W1327 (Or.inl n2)
                              have F1330 := F1314.other W1327 (Or.inl n2)
                              have F1331 := F1315.wr W1327
                              have F1332 := F1316.other W1327 (Ne.symm ne1134)
                              have K1334 := K1318.wr W1327 (Or.inl (List.mem_of_getElem? (i := 0) rfl))
                              have N1335 := Fr.snoc X1327 N1319 gv
                              have Z1336 : n0 ≤ h1327.size := by rw [W1327.size]; exact Z1320
                              have V1327' : Arv Z h1327 vi kv .double (9 : Int32) [(.double 4607182418800017408), (.double 0), (.double 0), (.double 0), (.double 4607182418800017408), (.double 0), (.double 0), (.double 0), (.double 0)] (.double 0) := V1327
                              refine g_iincC X1327 hx (w := (1 : Int32)) (2 : Int32) (by decide) (l' := #[.val (.ref ob), .val (.ref cs), .val (.ref vs_), .val (.ref a1132), .val (.int (2 : Int32)), .val (.int (1 : Int32)), .unset, .unset, .unset, .unset, .unset, .unset, .unset, .unset, .unset, .unset, .unset]) 112 (hb hby d3_109) rfl rfl (by decide) rfl ?_
                              refine g_goto X1327 hx 84 (hb hby d3_112) (by decide) (by decide) ?_
                              refine g_iload X1327 hx 86 (hb hby d3_84) rfl rfl ?_
                              refine g_aloadN X1327 hx 87 (hb hby d3_86) rfl rfl rfl ?_
                              refine g_getF X1327 hx hZ hown (hw _ (List.mem_of_getElem? (i := 9) rfl)) Via.refl e1327 F1329 90 (hb hby d3_87) rfl ?_
                              intro T1337 X1337 e1337
                              have ll1339 : ((3 : Int32) : Int32).toInt = 3 := by decide
                              have ll1340 : ((2 : Int32) : Int32).toInt = 2 := by decide
                              refine g_ic_ge X1337 hx 115 93 (hb hby d3_90) (by decide) (by decide) rfl (fun c1338 => ?_) (fun c1338 => ?_)
                              · skip
                                exfalso; revert c1338; decide
                              · skip
                                refine g_aloadN X1337 hx 94 (hb hby d3_93) rfl rfl rfl ?_
                                refine g_getF X1337 hx hZ hown (hw _ (List.mem_of_getElem? (i := 12) rfl)) Via.refl e1337 F1330 97 (hb hby d3_94) rfl ?_
                                intro T1341 X1341 e1341
                                refine g_iload X1341 hx 99 (hb hby d3_97) rfl rfl ?_
                                refine g_aloadN X1341 hx 100 (hb hby d3_99) rfl rfl rfl ?_
                                refine g_getF X1341 hx hZ hown (hw _ (List.mem_of_getElem? (i := 9) rfl)) Via.refl e1341 F1329 103 (hb hby d3_100) rfl ?_
                                intro T1342 X1342 e1342
                                refine g_imulC X1342 hx (6 : Int32) (by decide) 104 (hb hby d3_103) rfl ?_
                                refine g_iload X1342 hx 106 (hb hby d3_104) rfl rfl ?_
                                refine g_iaddC X1342 hx (8 : Int32) (by decide) 107 (hb hby d3_106) rfl ?_
                                refine g_dconst1 X1342 hx 108 (hb hby d3_107) rfl ?_
                                refine g_dastore X1342 hx hZ e1342 V1327' 8 (by decide) (by decide) (by show 8 < 9; decide) 109 (hb hby d3_108) rfl ?_
                                intro T1343 h1343 X1343 e1343 W1343 V1343
                                have F1344 := F1328.wr W1343
                                have F1345 := F1329.other W1343 (Or.inl n2)
                                have F1346 := F1330.other W1343 (Or.inl n2)
                                have F1347 := F1331.wr W1343
                                have F1348 := F1332.other W1343 (Ne.symm ne1134)
                                have K1350 := K1334.wr W1343 (Or.inl (List.mem_of_getElem? (i := 0) rfl))
                                have N1351 := Fr.snoc X1343 N1335 gv
                                have Z1352 : n0 ≤ h1343.size := by rw [W1343.size]; exact Z1336
                                have V1343' : Arv Z h1343 vi kv .double (9 : Int32) [(.double 4607182418800017408), (.double 0), (.double 0), (.double 0), (.double 4607182418800017408), (.double 0), (.double 0), (.double 0), (.double 4607182418800017408)] (.double 0) := V1343
                                refine g_iincC X1343 hx (w := (1 : Int32)) (3 : Int32) (by decide) (l' := #[.val (.ref ob), .val (.ref cs), .val (.ref vs_), .val (.ref a1132), .val (.int (3 : Int32)), .val (.int (1 : Int32)), .unset, .unset, .unset, .unset, .unset, .unset, .unset, .unset, .unset, .unset, .unset]) 112 (hb hby d3_109) rfl rfl (by decide) rfl ?_
                                refine g_goto X1343 hx 84 (hb hby d3_112) (by decide) (by decide) ?_
                                refine g_iload X1343 hx 86 (hb hby d3_84) rfl rfl ?_
                                refine g_aloadN X1343 hx 87 (hb hby d3_86) rfl rfl rfl ?_
                                refine g_getF X1343 hx hZ hown (hw _ (List.mem_of_getElem? (i := 9) rfl)) Via.refl e1343 F1345 90 (hb hby d3_87) rfl ?_
                                intro T1353 X1353 e1353
                                have ll1355 : ((3 : Int32) : Int32).toInt = 3 := by decide
                                have ll1356 : ((3 : Int32) : Int32).toInt = 3 := by decide
                                refine g_ic_ge X1353 hx 115 93 (hb hby d3_90) (by decide) (by decide) rfl (fun c1354 => ?_) (fun c1354 => ?_)
                                · skip
                                  refine g_iconst X1353 hx (0 : Int32) 116 (hb hby d3_115) rfl (by decide) ?_
                                  refine g_istore (l' := #[.val (.ref ob), .val (.ref cs), .val (.ref vs_), .val (.ref a1132), .val (.int (0 : Int32)), .val (.int (1 : Int32)), .unset, .unset, .unset, .unset, .unset, .unset, .unset, .unset, .unset, .unset, .unset]) X1353 hx 118 (hb hby d3_116) rfl rfl ?_
                                  exact rmV_0 X1353 hx hby hml hret hlk hown hZ hw e1353 Z1352 N1351 ba bb bab F1344 F1345 F1346 F1348 V1343' K1350 ge1143 gv sz1144 ne1133 n2 (Ne.symm ne1134) own_done ha own_dzero own_dzero own_done hb_ own_dzero own_dzero own_done own_done own_dzero own_dzero own_dzero own_done own_dzero own_dzero own_dzero own_done
                                · skip
                                  exfalso; revert c1354; decide
                        · skip
                          exfalso; revert c1291; decide
                      · skip
                        exfalso; revert c1287; decide
                · skip
                  exfalso; revert c1258; decide
        · skip
          exfalso; revert c1207; decide
def Q_rmT (Z : State) (f0 f1 f2 : Int) (n0 : Nat) (hE : Heap) (v : Option Value) (h : Heap) (L : List Loc) : Prop := ∃ (r : Addr) (k : ClassId) (q0 q1 q2 : UInt64), v = some (.ref r) ∧ Fr n0 L ∧ Keep hE h [] ∧ hE.size ≤ r ∧ Arv Z h r k .double 3 [(.double q0), (.double q1), (.double q2)] (.double 0) ∧ Jvm.FP.Core.DInt f0 q0 ∧ Jvm.FP.Core.DInt f1 q1 ∧ Jvm.FP.Core.DInt f2 q2
theorem d7_0 : decode prog_33_method_5_code 0 = .ok (.aload_n 0, 1) := by decide +kernel
theorem d7_1 : decode prog_33_method_5_code 1 = .ok (.getfield 7, 3) := by decide +kernel
theorem d7_4 : decode prog_33_method_5_code 4 = .ok (.newarray .double, 2) := by decide +kernel
theorem d7_6 : decode prog_33_method_5_code 6 = .ok (.astore_n 2, 1) := by decide +kernel
theorem d7_7 : decode prog_33_method_5_code 7 = .ok (.iconst 0, 1) := by decide +kernel
theorem d7_8 : decode prog_33_method_5_code 8 = .ok (.istore_n 3, 1) := by decide +kernel
theorem d7_9 : decode prog_33_method_5_code 9 = .ok (.iload_n 3, 1) := by decide +kernel
theorem d7_10 : decode prog_33_method_5_code 10 = .ok (.aload_n 0, 1) := by decide +kernel
theorem d7_11 : decode prog_33_method_5_code 11 = .ok (.getfield 7, 3) := by decide +kernel
theorem d7_14 : decode prog_33_method_5_code 14 = .ok (.if_icmp .ge 60, 3) := by decide +kernel
theorem d7_17 : decode prog_33_method_5_code 17 = .ok (.aload_n 1, 1) := by decide +kernel
theorem d7_18 : decode prog_33_method_5_code 18 = .ok (.iload_n 3, 1) := by decide +kernel
theorem d7_19 : decode prog_33_method_5_code 19 = .ok (.daload, 1) := by decide +kernel
theorem d7_20 : decode prog_33_method_5_code 20 = .ok (.dconst 0, 1) := by decide +kernel
theorem d7_21 : decode prog_33_method_5_code 21 = .ok (.dcmp .l, 1) := by decide +kernel
theorem d7_22 : decode prog_33_method_5_code 22 = .ok (.ifCond .eq 46, 3) := by decide +kernel
theorem d7_25 : decode prog_33_method_5_code 25 = .ok (.iconst 0, 1) := by decide +kernel
theorem d7_26 : decode prog_33_method_5_code 26 = .ok (.istore 4, 2) := by decide +kernel
theorem d7_28 : decode prog_33_method_5_code 28 = .ok (.iload 4, 2) := by decide +kernel
theorem d7_30 : decode prog_33_method_5_code 30 = .ok (.aload_n 0, 1) := by decide +kernel
theorem d7_31 : decode prog_33_method_5_code 31 = .ok (.getfield 7, 3) := by decide +kernel
theorem d7_34 : decode prog_33_method_5_code 34 = .ok (.if_icmp .ge 34, 3) := by decide +kernel
theorem d7_37 : decode prog_33_method_5_code 37 = .ok (.aload_n 2, 1) := by decide +kernel
theorem d7_38 : decode prog_33_method_5_code 38 = .ok (.iload 4, 2) := by decide +kernel
theorem d7_40 : decode prog_33_method_5_code 40 = .ok (.dup2, 1) := by decide +kernel
theorem d7_41 : decode prog_33_method_5_code 41 = .ok (.daload, 1) := by decide +kernel
theorem d7_42 : decode prog_33_method_5_code 42 = .ok (.aload_n 0, 1) := by decide +kernel
theorem d7_43 : decode prog_33_method_5_code 43 = .ok (.getfield 13, 3) := by decide +kernel
theorem d7_46 : decode prog_33_method_5_code 46 = .ok (.iload 4, 2) := by decide +kernel
theorem d7_48 : decode prog_33_method_5_code 48 = .ok (.aload_n 0, 1) := by decide +kernel
theorem d7_49 : decode prog_33_method_5_code 49 = .ok (.getfield 7, 3) := by decide +kernel
theorem d7_52 : decode prog_33_method_5_code 52 = .ok (.imul, 1) := by decide +kernel
theorem d7_53 : decode prog_33_method_5_code 53 = .ok (.iload_n 3, 1) := by decide +kernel
theorem d7_54 : decode prog_33_method_5_code 54 = .ok (.iadd, 1) := by decide +kernel
theorem d7_55 : decode prog_33_method_5_code 55 = .ok (.daload, 1) := by decide +kernel
theorem d7_56 : decode prog_33_method_5_code 56 = .ok (.aload_n 1, 1) := by decide +kernel
theorem d7_57 : decode prog_33_method_5_code 57 = .ok (.iload_n 3, 1) := by decide +kernel
theorem d7_58 : decode prog_33_method_5_code 58 = .ok (.daload, 1) := by decide +kernel
theorem d7_59 : decode prog_33_method_5_code 59 = .ok (.dmul, 1) := by decide +kernel
theorem d7_60 : decode prog_33_method_5_code 60 = .ok (.dadd, 1) := by decide +kernel
theorem d7_61 : decode prog_33_method_5_code 61 = .ok (.dastore, 1) := by decide +kernel
theorem d7_62 : decode prog_33_method_5_code 62 = .ok (.iinc 4 1, 3) := by decide +kernel
theorem d7_65 : decode prog_33_method_5_code 65 = .ok (.goto (-37), 3) := by decide +kernel
theorem d7_68 : decode prog_33_method_5_code 68 = .ok (.iinc 3 1, 3) := by decide +kernel
theorem d7_71 : decode prog_33_method_5_code 71 = .ok (.goto (-62), 3) := by decide +kernel
theorem d7_74 : decode prog_33_method_5_code 74 = .ok (.aload_n 2, 1) := by decide +kernel
theorem d7_75 : decode prog_33_method_5_code 75 = .ok (.areturn, 1) := by decide +kernel
set_option maxRecDepth 65536 in
set_option maxHeartbeats 40000000 in
theorem rmT_2 {p : Program} {l : Launch} {e : Env} {s : State} {m : MethodId} {args : Array Value} {below : List Frame} {meth : Method} {c : Code} {T0 Z : State} {a0 : Array Value} {h0 : Heap} {n0 : Nat} {ob vc pr vi : Addr} {kv kc kp : ClassId} {f0 f1 f2 i0 i1 i2 i3 i4 i5 i6 i7 i8 j0 j1 j2 k0 k1 k2 : Int} {hE : Heap} {L0 : List Loc} {o4 : Option Int32} {x0 x1 x2 x3 x4 x5 x6 x7 x8 y0 y1 y2 z0 z1 z2 : UInt64} (X0 : Stand p l e ({ frames := 0, cells := 1, slots := 3, locals := 0 } : Room) s m args below meth c T0 L0 1 3) (hx : p.tables.exec = Jvm.exec) (hby : c.code = prog_33_method_5_code) (hml : c.maxLocals = 5) (hret : meth.sig.returnType = (some (.array .double))) (hlk : meth.locks = false) (hown : s.vm.findClass "com/example/tracefold/tracefold/mining/DenseInverse" = some m.cls) (hZ : Z.Warmed39 s.vm) (hw : ∀ d ∈ tables_1, d.before a0 Z = true) (e0 : T0.heap = h0) (Z0 : n0 ≤ h0.size) (N0 : Fr n0 L0) (bx : (-70368744177664 ≤ i0 * j0 ∧ i0 * j0 ≤ 70368744177664) ∧ (-70368744177664 ≤ i1 * j1 ∧ i1 * j1 ≤ 70368744177664) ∧ (-70368744177664 ≤ i2 * j2 ∧ i2 * j2 ≤ 70368744177664) ∧ (-70368744177664 ≤ i3 * j0 ∧ i3 * j0 ≤ 70368744177664) ∧ (-70368744177664 ≤ i4 * j1 ∧ i4 * j1 ≤ 70368744177664) ∧ (-70368744177664 ≤ i5 * j2 ∧ i5 * j2 ≤ 70368744177664) ∧ (-70368744177664 ≤ i6 * j0 ∧ i6 * j0 ≤ 70368744177664) ∧ (-70368744177664 ≤ i7 * j1 ∧ i7 * j1 ≤ 70368744177664) ∧ (-70368744177664 ≤ i8 * j2 ∧ i8 * j2 ≤ 70368744177664)) (Eo : Exa Z h0 ob "com/example/tracefold/tracefold/mining/DenseInverse") (Fn : Fld Z h0 ob "com/example/tracefold/tracefold/mining/DenseInverse" "n" "I" (.int 3)) (Fv : Fld Z h0 ob "com/example/tracefold/tracefold/mining/DenseInverse" "inverse" "[D" (.ref vi)) (Vv : Arv Z h0 vi kv .double 9 [(.double x0), (.double x1), (.double x2), (.double x3), (.double x4), (.double x5), (.double x6), (.double x7), (.double x8)] (.double 0)) (Vc : Arv Z h0 vc kc .double 3 [(.double y0), (.double y1), (.double y2)] (.double 0)) (Vp : Arv Z h0 pr kp .double 3 [(.double z0), (.double z1), (.double z2)] (.double 0)) (KE : Keep hE h0 []) (gp : n0 ≤ pr) (sp : hE.size ≤ pr) (n1 : ob ≠ pr) (n2 : vi ≠ pr) (n3 : vc ≠ pr) (hx0 : Jvm.FP.Core.DInt i0 x0) (hx1 : Jvm.FP.Core.DInt i1 x1) (hx2 : Jvm.FP.Core.DInt i2 x2) (hx3 : Jvm.FP.Core.DInt i3 x3) (hx4 : Jvm.FP.Core.DInt i4 x4) (hx5 : Jvm.FP.Core.DInt i5 x5) (hx6 : Jvm.FP.Core.DInt i6 x6) (hx7 : Jvm.FP.Core.DInt i7 x7) (hx8 : Jvm.FP.Core.DInt i8 x8) (hy0 : Jvm.FP.Core.DInt j0 y0) (hy1 : Jvm.FP.Core.DInt j1 y1) (hy2 : Jvm.FP.Core.DInt j2 y2) (hz0 : Jvm.FP.Core.DInt k0 z0) (hz1 : Jvm.FP.Core.DInt k1 z1) (hz2 : Jvm.FP.Core.DInt k2 z2) (bk0 : -140737488355328 ≤ k0 ∧ k0 ≤ 140737488355328) (bk1 : -140737488355328 ≤ k1 ∧ k1 ≤ 140737488355328) (bk2 : -140737488355328 ≤ k2 ∧ k2 ≤ 140737488355328) (hf0 : k0 + i2 * j2 = f0) (hf1 : k1 + i5 * j2 = f1) (hf2 : k2 + i8 * j2 = f2) :
    Go p e below (EndQ s (Q_rmT Z f0 f1 f2 n0 hE) 1 3) T0 (mkF m 9 #[.val (.ref ob), .val (.ref vc), .val (.ref pr), .val (.int (2 : Int32)), (own_sl o4)] []) := by
  obtain ⟨c0, c1, c2, c3, c4, c5, c6, c7, c8⟩ := bx
  refine g_iloadN X0 hx 10 (hb hby d7_9) rfl rfl ?_
  refine g_aloadN X0 hx 11 (hb hby d7_10) rfl rfl rfl ?_
  refine g_getF X0 hx hZ hown (hw _ (List.mem_of_getElem? (i := 9) rfl)) Via.refl e0 Fn 14 (hb hby d7_11) rfl ?_
  intro T1357 X1357 e1357
  have ll1359 : ((3 : Int32) : Int32).toInt = 3 := by decide
  have ll1360 : ((2 : Int32) : Int32).toInt = 2 := by decide
  refine g_ic_ge X1357 hx 74 17 (hb hby d7_14) (by decide) (by decide) rfl (fun c1358 => ?_) (fun c1358 => ?_)
  · skip
    exfalso; revert c1358; decide
  · skip
    refine g_aloadN X1357 hx 18 (hb hby d7_17) rfl rfl rfl ?_
    refine g_iloadN X1357 hx 19 (hb hby d7_18) rfl rfl ?_
    refine g_daload X1357 hx hZ e1357 Vc (by decide) (by decide) (by rw [show ((2 : Int32) : Int32).toNatClampNeg = 2 by decide] <;> rfl) 20 (hb hby d7_19) rfl ?_
    refine g_dconst0 X1357 hx 21 (hb hby d7_20) rfl ?_
    refine g_dc_eq X1357 hx 22 68 25 (hb hby d7_21) rfl (hb hby d7_22) (by decide) (by decide) rfl (Jvm.FP.Core.dcmp_int hy2 own_dzero) (fun c1361 => ?_) (fun c1361 => ?_)
    · skip
      refine g_iincC X1357 hx (w := (1 : Int32)) (3 : Int32) (by decide) (l' := #[.val (.ref ob), .val (.ref vc), .val (.ref pr), .val (.int (3 : Int32)), (own_sl o4)]) 71 (hb hby d7_68) rfl rfl (by decide) rfl ?_
      refine g_goto X1357 hx 9 (hb hby d7_71) (by decide) (by decide) ?_
      refine g_iloadN X1357 hx 10 (hb hby d7_9) rfl rfl ?_
      refine g_aloadN X1357 hx 11 (hb hby d7_10) rfl rfl rfl ?_
      refine g_getF X1357 hx hZ hown (hw _ (List.mem_of_getElem? (i := 9) rfl)) Via.refl e1357 Fn 14 (hb hby d7_11) rfl ?_
      intro T1362 X1362 e1362
      have ll1364 : ((3 : Int32) : Int32).toInt = 3 := by decide
      have ll1365 : ((3 : Int32) : Int32).toInt = 3 := by decide
      refine g_ic_ge X1362 hx 74 17 (hb hby d7_14) (by decide) (by decide) rfl (fun c1363 => ?_) (fun c1363 => ?_)
      · skip
        refine g_aloadN X1362 hx 75 (hb hby d7_74) rfl rfl rfl ?_
        exact g_retA X1362 hx hlk hret rfl rfl rfl (hb hby d7_75) (by decide) (by decide) e1362 ⟨_, _, _, _, _, rfl, N0, KE, sp, Vp, own_as (by first | omega | (rw [c1361, Int.mul_zero] at hf0; omega)) hz0, own_as (by first | omega | (rw [c1361, Int.mul_zero] at hf1; omega)) hz1, own_as (by first | omega | (rw [c1361, Int.mul_zero] at hf2; omega)) hz2⟩
      · skip
        exfalso; revert c1363; decide
    · skip
      refine g_iconst X1357 hx (0 : Int32) 26 (hb hby d7_25) rfl (by decide) ?_
      refine g_istore (l' := #[.val (.ref ob), .val (.ref vc), .val (.ref pr), .val (.int (2 : Int32)), .val (.int (0 : Int32))]) X1357 hx 28 (hb hby d7_26) rfl (by cases o4 <;> rfl) ?_
      refine g_iload X1357 hx 30 (hb hby d7_28) rfl rfl ?_
      refine g_aloadN X1357 hx 31 (hb hby d7_30) rfl rfl rfl ?_
      refine g_getF X1357 hx hZ hown (hw _ (List.mem_of_getElem? (i := 9) rfl)) Via.refl e1357 Fn 34 (hb hby d7_31) rfl ?_
      intro T1366 X1366 e1366
      have ll1368 : ((3 : Int32) : Int32).toInt = 3 := by decide
      have ll1369 : ((0 : Int32) : Int32).toInt = 0 := by decide
      refine g_ic_ge X1366 hx 68 37 (hb hby d7_34) (by decide) (by decide) rfl (fun c1367 => ?_) (fun c1367 => ?_)
      · skip
        exfalso; revert c1367; decide
      · skip
        refine g_aloadN X1366 hx 38 (hb hby d7_37) rfl rfl rfl ?_
        refine g_iload X1366 hx 40 (hb hby d7_38) rfl rfl ?_
        refine g_dup2 X1366 hx 41 (hb hby d7_40) rfl rfl rfl ?_
        refine g_daload X1366 hx hZ e1366 Vp (by decide) (by decide) (by rw [show ((0 : Int32) : Int32).toNatClampNeg = 0 by decide] <;> rfl) 42 (hb hby d7_41) rfl ?_
        refine g_aloadN X1366 hx 43 (hb hby d7_42) rfl rfl rfl ?_
        refine g_getF X1366 hx hZ hown (hw _ (List.mem_of_getElem? (i := 12) rfl)) Via.refl e1366 Fv 46 (hb hby d7_43) rfl ?_
        intro T1370 X1370 e1370
        refine g_iload X1370 hx 48 (hb hby d7_46) rfl rfl ?_
        refine g_aloadN X1370 hx 49 (hb hby d7_48) rfl rfl rfl ?_
        refine g_getF X1370 hx hZ hown (hw _ (List.mem_of_getElem? (i := 9) rfl)) Via.refl e1370 Fn 52 (hb hby d7_49) rfl ?_
        intro T1371 X1371 e1371
        refine g_imulC X1371 hx (0 : Int32) (by decide) 53 (hb hby d7_52) rfl ?_
        refine g_iloadN X1371 hx 54 (hb hby d7_53) rfl rfl ?_
        refine g_iaddC X1371 hx (2 : Int32) (by decide) 55 (hb hby d7_54) rfl ?_
        refine g_daload X1371 hx hZ e1371 Vv (by decide) (by decide) (by rw [show ((2 : Int32) : Int32).toNatClampNeg = 2 by decide] <;> rfl) 56 (hb hby d7_55) rfl ?_
        refine g_aloadN X1371 hx 57 (hb hby d7_56) rfl rfl rfl ?_
        refine g_iloadN X1371 hx 58 (hb hby d7_57) rfl rfl ?_
        refine g_daload X1371 hx hZ e1371 Vc (by decide) (by decide) (by rw [show ((2 : Int32) : Int32).toNatClampNeg = 2 by decide] <;> rfl) 59 (hb hby d7_58) rfl ?_
        have D1372 : Jvm.FP.Core.DInt (i2 * j2) (FP.dmul x2 y2) := own_as (by omega) (Jvm.FP.Core.dmul_int hx2 hy2 (by omega))
        refine g_dmul X1371 hx 60 (hb hby d7_59) rfl (own_dnn D1372) ?_
        have D1373 : Jvm.FP.Core.DInt (k0 + (i2 * j2)) (FP.dadd z0 (FP.dmul x2 y2)) := own_as (by omega) (Jvm.FP.Core.dadd_int hz0 D1372 (by omega))
        refine g_dadd X1371 hx 61 (hb hby d7_60) rfl (own_dnn D1373) ?_
        refine g_dastore X1371 hx hZ e1371 Vp 0 (by decide) (by decide) (by show 0 < 3; decide) 62 (hb hby d7_61) rfl ?_
        intro T1374 h1374 X1374 e1374 W1374 V1374
        have F1375 := Eo.wr W1374
        have F1376 := Fn.other W1374 (Or.inl n1)
        have F1377 := Fv.other W1374 (Or.inl n1)
        have F1378 := Vv.other W1374 n2
        have F1379 := Vc.other W1374 n3
        have K1381 := KE.wr W1374 (Or.inr sp)
        have N1382 := Fr.snoc X1374 N0 gp
        have Z1383 : n0 ≤ h1374.size := by rw [W1374.size]; exact Z0
        have V1374' : Arv Z h1374 pr kp .double (3 : Int32) [(.double (FP.dadd z0 (FP.dmul x2 y2))), (.double z1), (.double z2)] (.double 0) := V1374
        refine g_iincC X1374 hx (w := (1 : Int32)) (1 : Int32) (by decide) (l' := #[.val (.ref ob), .val (.ref vc), .val (.ref pr), .val (.int (2 : Int32)), .val (.int (1 : Int32))]) 65 (hb hby d7_62) rfl rfl (by decide) rfl ?_
        refine g_goto X1374 hx 28 (hb hby d7_65) (by decide) (by decide) ?_
        refine g_iload X1374 hx 30 (hb hby d7_28) rfl rfl ?_
        refine g_aloadN X1374 hx 31 (hb hby d7_30) rfl rfl rfl ?_
        refine g_getF X1374 hx hZ hown (hw _ (List.mem_of_getElem? (i := 9) rfl)) Via.refl e1374 F1376 34 (hb hby d7_31) rfl ?_
        intro T1384 X1384 e1384
        have ll1386 : ((3 : Int32) : Int32).toInt = 3 := by decide
        have ll1387 : ((1 : Int32) : Int32).toInt = 1 := by decide
        refine g_ic_ge X1384 hx 68 37 (hb hby d7_34) (by decide) (by decide) rfl (fun c1385 => ?_) (fun c1385 => ?_)
        · skip
          exfalso; revert c1385; decide
        · skip
          refine g_aloadN X1384 hx 38 (hb hby d7_37) rfl rfl rfl ?_
          refine g_iload X1384 hx 40 (hb hby d7_38) rfl rfl ?_
          refine g_dup2 X1384 hx 41 (hb hby d7_40) rfl rfl rfl ?_
          refine g_daload X1384 hx hZ e1384 V1374' (by decide) (by decide) (by rw [show ((1 : Int32) : Int32).toNatClampNeg = 1 by decide] <;> rfl) 42 (hb hby d7_41) rfl ?_
          refine g_aloadN X1384 hx 43 (hb hby d7_42) rfl rfl rfl ?_
          refine g_getF X1384 hx hZ hown (hw _ (List.mem_of_getElem? (i := 12) rfl)) Via.refl e1384 F1377 46 (hb hby d7_43) rfl ?_
          intro T1388 X1388 e1388
          refine g_iload X1388 hx 48 (hb hby d7_46) rfl rfl ?_
          refine g_aloadN X1388 hx 49 (hb hby d7_48) rfl rfl rfl ?_
          refine g_getF X1388 hx hZ hown (hw _ (List.mem_of_getElem? (i := 9) rfl)) Via.refl e1388 F1376 52 (hb hby d7_49) rfl ?_
          intro T1389 X1389 e1389
          refine g_imulC X1389 hx (3 : Int32) (by decide) 53 (hb hby d7_52) rfl ?_
          refine g_iloadN X1389 hx 54 (hb hby d7_53) rfl rfl ?_
          refine g_iaddC X1389 hx (5 : Int32) (by decide) 55 (hb hby d7_54) rfl ?_
          refine g_daload X1389 hx hZ e1389 F1378 (by decide) (by decide) (by rw [show ((5 : Int32) : Int32).toNatClampNeg = 5 by decide] <;> rfl) 56 (hb hby d7_55) rfl ?_
          refine g_aloadN X1389 hx 57 (hb hby d7_56) rfl rfl rfl ?_
          refine g_iloadN X1389 hx 58 (hb hby d7_57) rfl rfl ?_
          refine g_daload X1389 hx hZ e1389 F1379 (by decide) (by decide) (by rw [show ((2 : Int32) : Int32).toNatClampNeg = 2 by decide] <;> rfl) 59 (hb hby d7_58) rfl ?_
          have D1390 : Jvm.FP.Core.DInt (i5 * j2) (FP.dmul x5 y2) := own_as (by omega) (Jvm.FP.Core.dmul_int hx5 hy2 (by omega))
          refine g_dmul X1389 hx 60 (hb hby d7_59) rfl (own_dnn D1390) ?_
          have D1391 : Jvm.FP.Core.DInt (k1 + (i5 * j2)) (FP.dadd z1 (FP.dmul x5 y2)) := own_as (by omega) (Jvm.FP.Core.dadd_int hz1 D1390 (by omega))
          refine g_dadd X1389 hx 61 (hb hby d7_60) rfl (own_dnn D1391) ?_
          refine g_dastore X1389 hx hZ e1389 V1374' 1 (by decide) (by decide) (by show 1 < 3; decide) 62 (hb hby d7_61) rfl ?_
          intro T1392 h1392 X1392 e1392 W1392 V1392
          have F1393 := F1375.wr W1392
          have F1394 := F1376.other W1392 (Or.inl n1)
          have F1395 := F1377.other W1392 (Or.inl n1)
          have F1396 := F1378.other W1392 n2
          have F1397 := F1379.other W1392 n3
          have K1399 := K1381.wr W1392 (Or.inr sp)
          have N1400 := Fr.snoc X1392 N1382 gp
          have Z1401 : n0 ≤ h1392.size := by rw [W1392.size]; exact Z1383
          have V1392' : Arv Z h1392 pr kp .double (3 : Int32) [(.double (FP.dadd z0 (FP.dmul x2 y2))), (.double (FP.dadd z1 (FP.dmul x5 y2))), (.double z2)] (.double 0) := V1392
          refine g_iincC X1392 hx (w := (1 : Int32)) (2 : Int32) (by decide) (l' := #[.val (.ref ob), .val (.ref vc), .val (.ref pr), .val (.int (2 : Int32)), .val (.int (2 : Int32))]) 65 (hb hby d7_62) rfl rfl (by decide) rfl ?_
          refine g_goto X1392 hx 28 (hb hby d7_65) (by decide) (by decide) ?_
          refine g_iload X1392 hx 30 (hb hby d7_28) rfl rfl ?_
          refine g_aloadN X1392 hx 31 (hb hby d7_30) rfl rfl rfl ?_
          refine g_getF X1392 hx hZ hown (hw _ (List.mem_of_getElem? (i := 9) rfl)) Via.refl e1392 F1394 34 (hb hby d7_31) rfl ?_
          intro T1402 X1402 e1402
          have ll1404 : ((3 : Int32) : Int32).toInt = 3 := by decide
          have ll1405 : ((2 : Int32) : Int32).toInt = 2 := by decide
          refine g_ic_ge X1402 hx 68 37 (hb hby d7_34) (by decide) (by decide) rfl (fun c1403 => ?_) (fun c1403 => ?_)
          · skip
            exfalso; revert c1403; decide
          · skip
            refine g_aloadN X1402 hx 38 (hb hby d7_37) rfl rfl rfl ?_
            refine g_iload X1402 hx 40 (hb hby d7_38) rfl rfl ?_
            refine g_dup2 X1402 hx 41 (hb hby d7_40) rfl rfl rfl ?_
            refine g_daload X1402 hx hZ e1402 V1392' (by decide) (by decide) (by rw [show ((2 : Int32) : Int32).toNatClampNeg = 2 by decide] <;> rfl) 42 (hb hby d7_41) rfl ?_
            refine g_aloadN X1402 hx 43 (hb hby d7_42) rfl rfl rfl ?_
            refine g_getF X1402 hx hZ hown (hw _ (List.mem_of_getElem? (i := 12) rfl)) Via.refl e1402 F1395 46 (hb hby d7_43) rfl ?_
            intro T1406 X1406 e1406
            refine g_iload X1406 hx 48 (hb hby d7_46) rfl rfl ?_
            refine g_aloadN X1406 hx 49 (hb hby d7_48) rfl rfl rfl ?_
            refine g_getF X1406 hx hZ hown (hw _ (List.mem_of_getElem? (i := 9) rfl)) Via.refl e1406 F1394 52 (hb hby d7_49) rfl ?_
            intro T1407 X1407 e1407
            refine g_imulC X1407 hx (6 : Int32) (by decide) 53 (hb hby d7_52) rfl ?_
            refine g_iloadN X1407 hx 54 (hb hby d7_53) rfl rfl ?_
            refine g_iaddC X1407 hx (8 : Int32) (by decide) 55 (hb hby d7_54) rfl ?_
            refine g_daload X1407 hx hZ e1407 F1396 (by decide) (by decide) (by rw [show ((8 : Int32) : Int32).toNatClampNeg = 8 by decide] <;> rfl) 56 (hb hby d7_55) rfl ?_
            refine g_aloadN X1407 hx 57 (hb hby d7_56) rfl rfl rfl ?_
            refine g_iloadN X1407 hx 58 (hb hby d7_57) rfl rfl ?_
            refine g_daload X1407 hx hZ e1407 F1397 (by decide) (by decide) (by rw [show ((2 : Int32) : Int32).toNatClampNeg = 2 by decide] <;> rfl) 59 (hb hby d7_58) rfl ?_
            have D1408 : Jvm.FP.Core.DInt (i8 * j2) (FP.dmul x8 y2) := own_as (by omega) (Jvm.FP.Core.dmul_int hx8 hy2 (by omega))
            refine g_dmul X1407 hx 60 (hb hby d7_59) rfl (own_dnn D1408) ?_
            have D1409 : Jvm.FP.Core.DInt (k2 + (i8 * j2)) (FP.dadd z2 (FP.dmul x8 y2)) := own_as (by omega) (Jvm.FP.Core.dadd_int hz2 D1408 (by omega))
            refine g_dadd X1407 hx 61 (hb hby d7_60) rfl (own_dnn D1409) ?_
            refine g_dastore X1407 hx hZ e1407 V1392' 2 (by decide) (by decide) (by show 2 < 3; decide) 62 (hb hby d7_61) rfl ?_
            intro T1410 h1410 X1410 e1410 W1410 V1410
            have F1411 := F1393.wr W1410
            have F1412 := F1394.other W1410 (Or.inl n1)
            have F1413 := F1395.other W1410 (Or.inl n1)
            have F1414 := F1396.other W1410 n2
            have F1415 := F1397.other W1410 n3
            have K1417 := K1399.wr W1410 (Or.inr sp)
            have N1418 := Fr.snoc X1410 N1400 gp
            have Z1419 : n0 ≤ h1410.size := by rw [W1410.size]; exact Z1401
            have V1410' : Arv Z h1410 pr kp .double (3 : Int32) [(.double (FP.dadd z0 (FP.dmul x2 y2))), (.double (FP.dadd z1 (FP.dmul x5 y2))), (.double (FP.dadd z2 (FP.dmul x8 y2)))] (.double 0) := V1410
            refine g_iincC X1410 hx (w := (1 : Int32)) (3 : Int32) (by decide) (l' := #[.val (.ref ob), .val (.ref vc), .val (.ref pr), .val (.int (2 : Int32)), .val (.int (3 : Int32))]) 65 (hb hby d7_62) rfl rfl (by decide) rfl ?_
            refine g_goto X1410 hx 28 (hb hby d7_65) (by decide) (by decide) ?_
            refine g_iload X1410 hx 30 (hb hby d7_28) rfl rfl ?_
            refine g_aloadN X1410 hx 31 (hb hby d7_30) rfl rfl rfl ?_
            refine g_getF X1410 hx hZ hown (hw _ (List.mem_of_getElem? (i := 9) rfl)) Via.refl e1410 F1412 34 (hb hby d7_31) rfl ?_
            intro T1420 X1420 e1420
            have ll1422 : ((3 : Int32) : Int32).toInt = 3 := by decide
            have ll1423 : ((3 : Int32) : Int32).toInt = 3 := by decide
            refine g_ic_ge X1420 hx 68 37 (hb hby d7_34) (by decide) (by decide) rfl (fun c1421 => ?_) (fun c1421 => ?_)
            · skip
              refine g_iincC X1420 hx (w := (1 : Int32)) (3 : Int32) (by decide) (l' := #[.val (.ref ob), .val (.ref vc), .val (.ref pr), .val (.int (3 : Int32)), .val (.int (3 : Int32))]) 71 (hb hby d7_68) rfl rfl (by decide) rfl ?_
              refine g_goto X1420 hx 9 (hb hby d7_71) (by decide) (by decide) ?_
              refine g_iloadN X1420 hx 10 (hb hby d7_9) rfl rfl ?_
              refine g_aloadN X1420 hx 11 (hb hby d7_10) rfl rfl rfl ?_
              refine g_getF X1420 hx hZ hown (hw _ (List.mem_of_getElem? (i := 9) rfl)) Via.refl e1420 F1412 14 (hb hby d7_11) rfl ?_
              intro T1424 X1424 e1424
              have ll1426 : ((3 : Int32) : Int32).toInt = 3 := by decide
              have ll1427 : ((3 : Int32) : Int32).toInt = 3 := by decide
              refine g_ic_ge X1424 hx 74 17 (hb hby d7_14) (by decide) (by decide) rfl (fun c1425 => ?_) (fun c1425 => ?_)
              · skip
                refine g_aloadN X1424 hx 75 (hb hby d7_74) rfl rfl rfl ?_
                exact g_retA X1424 hx hlk hret rfl rfl rfl (hb hby d7_75) (by decide) (by decide) e1424 ⟨_, _, _, _, _, rfl, N1418, K1417, sp, V1410', own_as (by first | omega) D1373, own_as (by first | omega) D1391, own_as (by first | omega) D1409⟩
              · skip
                exfalso; revert c1425; decide
            · skip
              exfalso; revert c1421; decide
set_option maxRecDepth 65536 in
set_option maxHeartbeats 40000000 in
theorem rmT_1 {p : Program} {l : Launch} {e : Env} {s : State} {m : MethodId} {args : Array Value} {below : List Frame} {meth : Method} {c : Code} {T0 Z : State} {a0 : Array Value} {h0 : Heap} {n0 : Nat} {ob vc pr vi : Addr} {kv kc kp : ClassId} {f0 f1 f2 i0 i1 i2 i3 i4 i5 i6 i7 i8 j0 j1 j2 k0 k1 k2 : Int} {hE : Heap} {L0 : List Loc} {o4 : Option Int32} {x0 x1 x2 x3 x4 x5 x6 x7 x8 y0 y1 y2 z0 z1 z2 : UInt64} (X0 : Stand p l e ({ frames := 0, cells := 1, slots := 3, locals := 0 } : Room) s m args below meth c T0 L0 1 3) (hx : p.tables.exec = Jvm.exec) (hby : c.code = prog_33_method_5_code) (hml : c.maxLocals = 5) (hret : meth.sig.returnType = (some (.array .double))) (hlk : meth.locks = false) (hown : s.vm.findClass "com/example/tracefold/tracefold/mining/DenseInverse" = some m.cls) (hZ : Z.Warmed39 s.vm) (hw : ∀ d ∈ tables_1, d.before a0 Z = true) (e0 : T0.heap = h0) (Z0 : n0 ≤ h0.size) (N0 : Fr n0 L0) (bx : (-70368744177664 ≤ i0 * j0 ∧ i0 * j0 ≤ 70368744177664) ∧ (-70368744177664 ≤ i1 * j1 ∧ i1 * j1 ≤ 70368744177664) ∧ (-70368744177664 ≤ i2 * j2 ∧ i2 * j2 ≤ 70368744177664) ∧ (-70368744177664 ≤ i3 * j0 ∧ i3 * j0 ≤ 70368744177664) ∧ (-70368744177664 ≤ i4 * j1 ∧ i4 * j1 ≤ 70368744177664) ∧ (-70368744177664 ≤ i5 * j2 ∧ i5 * j2 ≤ 70368744177664) ∧ (-70368744177664 ≤ i6 * j0 ∧ i6 * j0 ≤ 70368744177664) ∧ (-70368744177664 ≤ i7 * j1 ∧ i7 * j1 ≤ 70368744177664) ∧ (-70368744177664 ≤ i8 * j2 ∧ i8 * j2 ≤ 70368744177664)) (Eo : Exa Z h0 ob "com/example/tracefold/tracefold/mining/DenseInverse") (Fn : Fld Z h0 ob "com/example/tracefold/tracefold/mining/DenseInverse" "n" "I" (.int 3)) (Fv : Fld Z h0 ob "com/example/tracefold/tracefold/mining/DenseInverse" "inverse" "[D" (.ref vi)) (Vv : Arv Z h0 vi kv .double 9 [(.double x0), (.double x1), (.double x2), (.double x3), (.double x4), (.double x5), (.double x6), (.double x7), (.double x8)] (.double 0)) (Vc : Arv Z h0 vc kc .double 3 [(.double y0), (.double y1), (.double y2)] (.double 0)) (Vp : Arv Z h0 pr kp .double 3 [(.double z0), (.double z1), (.double z2)] (.double 0)) (KE : Keep hE h0 []) (gp : n0 ≤ pr) (sp : hE.size ≤ pr) (n1 : ob ≠ pr) (n2 : vi ≠ pr) (n3 : vc ≠ pr) (hx0 : Jvm.FP.Core.DInt i0 x0) (hx1 : Jvm.FP.Core.DInt i1 x1) (hx2 : Jvm.FP.Core.DInt i2 x2) (hx3 : Jvm.FP.Core.DInt i3 x3) (hx4 : Jvm.FP.Core.DInt i4 x4) (hx5 : Jvm.FP.Core.DInt i5 x5) (hx6 : Jvm.FP.Core.DInt i6 x6) (hx7 : Jvm.FP.Core.DInt i7 x7) (hx8 : Jvm.FP.Core.DInt i8 x8) (hy0 : Jvm.FP.Core.DInt j0 y0) (hy1 : Jvm.FP.Core.DInt j1 y1) (hy2 : Jvm.FP.Core.DInt j2 y2) (hz0 : Jvm.FP.Core.DInt k0 z0) (hz1 : Jvm.FP.Core.DInt k1 z1) (hz2 : Jvm.FP.Core.DInt k2 z2) (bk0 : -70368744177664 ≤ k0 ∧ k0 ≤ 70368744177664) (bk1 : -70368744177664 ≤ k1 ∧ k1 ≤ 70368744177664) (bk2 : -70368744177664 ≤ k2 ∧ k2 ≤ 70368744177664) (hf0 : k0 + i1 * j1 + i2 * j2 = f0) (hf1 : k1 + i4 * j1 + i5 * j2 = f1) (hf2 : k2 + i7 * j1 + i8 * j2 = f2) :
    Go p e below (EndQ s (Q_rmT Z f0 f1 f2 n0 hE) 1 3) T0 (mkF m 9 #[.val (.ref ob), .val (.ref vc), .val (.ref pr), .val (.int (1 : Int32)), (own_sl o4)] []) := by
  obtain ⟨c0, c1, c2, c3, c4, c5, c6, c7, c8⟩ := bx
  refine g_iloadN X0 hx 10 (hb hby d7_9) rfl rfl ?_
  refine g_aloadN X0 hx 11 (hb hby d7_10) rfl rfl rfl ?_
  refine g_getF X0 hx hZ hown (hw _ (List.mem_of_getElem? (i := 9) rfl)) Via.refl e0 Fn 14 (hb hby d7_11) rfl ?_
  intro T1428 X1428 e1428
  have ll1430 : ((3 : Int32) : Int32).toInt = 3 := by decide
  have ll1431 : ((1 : Int32) : Int32).toInt = 1 := by decide
  refine g_ic_ge X1428 hx 74 17 (hb hby d7_14) (by decide) (by decide) rfl (fun c1429 => ?_) (fun c1429 => ?_)
  · skip
    exfalso; revert c1429; decide
  · skip
    refine g_aloadN X1428 hx 18 (hb hby d7_17) rfl rfl rfl ?_
    refine g_iloadN X1428 hx 19 (hb hby d7_18) rfl rfl ?_
    refine g_daload X1428 hx hZ e1428 Vc (by decide) (by decide) (by rw [show ((1 : Int32) : Int32).toNatClampNeg = 1 by decide] <;> rfl) 20 (hb hby d7_19) rfl ?_
    refine g_dconst0 X1428 hx 21 (hb hby d7_20) rfl ?_
    refine g_dc_eq X1428 hx 22 68 25 (hb hby d7_21) rfl (hb hby d7_22) (by decide) (by decide) rfl (Jvm.FP.Core.dcmp_int hy1 own_dzero) (fun c1432 => ?_) (fun c1432 => ?_)
    · skip
      refine g_iincC X1428 hx (w := (1 : Int32)) (2 : Int32) (by decide) (l' := #[.val (.ref ob), .val (.ref vc), .val (.ref pr), .val (.int (2 : Int32)), (own_sl o4)]) 71 (hb hby d7_68) rfl rfl (by decide) rfl ?_
      refine g_goto X1428 hx 9 (hb hby d7_71) (by decide) (by decide) ?_
      exact rmT_2 (o4 := o4) X1428 hx hby hml hret hlk hown hZ hw e1428 Z0 N0 ⟨c0, c1, c2, c3, c4, c5, c6, c7, c8⟩ Eo Fn Fv Vv Vc Vp KE gp sp n1 n2 n3 hx0 hx1 hx2 hx3 hx4 hx5 hx6 hx7 hx8 hy0 hy1 hy2 (own_as (j := (k0 + i1 * j1)) (by first | omega | (rw [c1432]; omega)) hz0) (own_as (j := (k1 + i4 * j1)) (by first | omega | (rw [c1432]; omega)) hz1) (own_as (j := (k2 + i7 * j1)) (by first | omega | (rw [c1432]; omega)) hz2) (by omega) (by omega) (by omega) hf0 hf1 hf2
    · skip
      refine g_iconst X1428 hx (0 : Int32) 26 (hb hby d7_25) rfl (by decide) ?_
      refine g_istore (l' := #[.val (.ref ob), .val (.ref vc), .val (.ref pr), .val (.int (1 : Int32)), .val (.int (0 : Int32))]) X1428 hx 28 (hb hby d7_26) rfl (by cases o4 <;> rfl) ?_
      refine g_iload X1428 hx 30 (hb hby d7_28) rfl rfl ?_
      refine g_aloadN X1428 hx 31 (hb hby d7_30) rfl rfl rfl ?_
      refine g_getF X1428 hx hZ hown (hw _ (List.mem_of_getElem? (i := 9) rfl)) Via.refl e1428 Fn 34 (hb hby d7_31) rfl ?_
      intro T1433 X1433 e1433
      have ll1435 : ((3 : Int32) : Int32).toInt = 3 := by decide
      have ll1436 : ((0 : Int32) : Int32).toInt = 0 := by decide
      refine g_ic_ge X1433 hx 68 37 (hb hby d7_34) (by decide) (by decide) rfl (fun c1434 => ?_) (fun c1434 => ?_)
      · skip
        exfalso; revert c1434; decide
      · skip
        refine g_aloadN X1433 hx 38 (hb hby d7_37) rfl rfl rfl ?_
        refine g_iload X1433 hx 40 (hb hby d7_38) rfl rfl ?_
        refine g_dup2 X1433 hx 41 (hb hby d7_40) rfl rfl rfl ?_
        refine g_daload X1433 hx hZ e1433 Vp (by decide) (by decide) (by rw [show ((0 : Int32) : Int32).toNatClampNeg = 0 by decide] <;> rfl) 42 (hb hby d7_41) rfl ?_
        refine g_aloadN X1433 hx 43 (hb hby d7_42) rfl rfl rfl ?_
        refine g_getF X1433 hx hZ hown (hw _ (List.mem_of_getElem? (i := 12) rfl)) Via.refl e1433 Fv 46 (hb hby d7_43) rfl ?_
        intro T1437 X1437 e1437
        refine g_iload X1437 hx 48 (hb hby d7_46) rfl rfl ?_
        refine g_aloadN X1437 hx 49 (hb hby d7_48) rfl rfl rfl ?_
        refine g_getF X1437 hx hZ hown (hw _ (List.mem_of_getElem? (i := 9) rfl)) Via.refl e1437 Fn 52 (hb hby d7_49) rfl ?_
        intro T1438 X1438 e1438
        refine g_imulC X1438 hx (0 : Int32) (by decide) 53 (hb hby d7_52) rfl ?_
        refine g_iloadN X1438 hx 54 (hb hby d7_53) rfl rfl ?_
        refine g_iaddC X1438 hx (1 : Int32) (by decide) 55 (hb hby d7_54) rfl ?_
        refine g_daload X1438 hx hZ e1438 Vv (by decide) (by decide) (by rw [show ((1 : Int32) : Int32).toNatClampNeg = 1 by decide] <;> rfl) 56 (hb hby d7_55) rfl ?_
        refine g_aloadN X1438 hx 57 (hb hby d7_56) rfl rfl rfl ?_
        refine g_iloadN X1438 hx 58 (hb hby d7_57) rfl rfl ?_
        refine g_daload X1438 hx hZ e1438 Vc (by decide) (by decide) (by rw [show ((1 : Int32) : Int32).toNatClampNeg = 1 by decide] <;> rfl) 59 (hb hby d7_58) rfl ?_
        have D1439 : Jvm.FP.Core.DInt (i1 * j1) (FP.dmul x1 y1) := own_as (by omega) (Jvm.FP.Core.dmul_int hx1 hy1 (by omega))
        refine g_dmul X1438 hx 60 (hb hby d7_59) rfl (own_dnn D1439) ?_
        have D1440 : Jvm.FP.Core.DInt (k0 + (i1 * j1)) (FP.dadd z0 (FP.dmul x1 y1)) := own_as (by omega) (Jvm.FP.Core.dadd_int hz0 D1439 (by omega))
        refine g_dadd X1438 hx 61 (hb hby d7_60) rfl (own_dnn D1440) ?_
        refine g_dastore X1438 hx hZ e1438 Vp 0 (by decide) (by decide) (by show 0 < 3; decide) 62 (hb hby d7_61) rfl ?_
        intro T1441 h1441 X1441 e1441 W1441 V1441
        have F1442 := Eo.wr W1441
        have F1443 := Fn.other W1441 (Or.inl n1)
        have F1444 := Fv.other W1441 (Or.inl n1)
        have F1445 := Vv.other W1441 n2
        have F1446 := Vc.other W1441 n3
        have K1448 := KE.wr W1441 (Or.inr sp)
        have N1449 := Fr.snoc X1441 N0 gp
        have Z1450 : n0 ≤ h1441.size := by rw [W1441.size]; exact Z0
        have V1441' : Arv Z h1441 pr kp .double (3 : Int32) [(.double (FP.dadd z0 (FP.dmul x1 y1))), (.double z1), (.double z2)] (.double 0) := V1441
        refine g_iincC X1441 hx (w := (1 : Int32)) (1 : Int32) (by decide) (l' := #[.val (.ref ob), .val (.ref vc), .val (.ref pr), .val (.int (1 : Int32)), .val (.int (1 : Int32))]) 65 (hb hby d7_62) rfl rfl (by decide) rfl ?_
        refine g_goto X1441 hx 28 (hb hby d7_65) (by decide) (by decide) ?_
        refine g_iload X1441 hx 30 (hb hby d7_28) rfl rfl ?_
        refine g_aloadN X1441 hx 31 (hb hby d7_30) rfl rfl rfl ?_
        refine g_getF X1441 hx hZ hown (hw _ (List.mem_of_getElem? (i := 9) rfl)) Via.refl e1441 F1443 34 (hb hby d7_31) rfl ?_
        intro T1451 X1451 e1451
        have ll1453 : ((3 : Int32) : Int32).toInt = 3 := by decide
        have ll1454 : ((1 : Int32) : Int32).toInt = 1 := by decide
        refine g_ic_ge X1451 hx 68 37 (hb hby d7_34) (by decide) (by decide) rfl (fun c1452 => ?_) (fun c1452 => ?_)
        · skip
          exfalso; revert c1452; decide
        · skip
          refine g_aloadN X1451 hx 38 (hb hby d7_37) rfl rfl rfl ?_
          refine g_iload X1451 hx 40 (hb hby d7_38) rfl rfl ?_
          refine g_dup2 X1451 hx 41 (hb hby d7_40) rfl rfl rfl ?_
          refine g_daload X1451 hx hZ e1451 V1441' (by decide) (by decide) (by rw [show ((1 : Int32) : Int32).toNatClampNeg = 1 by decide] <;> rfl) 42 (hb hby d7_41) rfl ?_
          refine g_aloadN X1451 hx 43 (hb hby d7_42) rfl rfl rfl ?_
          refine g_getF X1451 hx hZ hown (hw _ (List.mem_of_getElem? (i := 12) rfl)) Via.refl e1451 F1444 46 (hb hby d7_43) rfl ?_
          intro T1455 X1455 e1455
          refine g_iload X1455 hx 48 (hb hby d7_46) rfl rfl ?_
          refine g_aloadN X1455 hx 49 (hb hby d7_48) rfl rfl rfl ?_
          refine g_getF X1455 hx hZ hown (hw _ (List.mem_of_getElem? (i := 9) rfl)) Via.refl e1455 F1443 52 (hb hby d7_49) rfl ?_
          intro T1456 X1456 e1456
          refine g_imulC X1456 hx (3 : Int32) (by decide) 53 (hb hby d7_52) rfl ?_
          refine g_iloadN X1456 hx 54 (hb hby d7_53) rfl rfl ?_
          refine g_iaddC X1456 hx (4 : Int32) (by decide) 55 (hb hby d7_54) rfl ?_
          refine g_daload X1456 hx hZ e1456 F1445 (by decide) (by decide) (by rw [show ((4 : Int32) : Int32).toNatClampNeg = 4 by decide] <;> rfl) 56 (hb hby d7_55) rfl ?_
          refine g_aloadN X1456 hx 57 (hb hby d7_56) rfl rfl rfl ?_
          refine g_iloadN X1456 hx 58 (hb hby d7_57) rfl rfl ?_
          refine g_daload X1456 hx hZ e1456 F1446 (by decide) (by decide) (by rw [show ((1 : Int32) : Int32).toNatClampNeg = 1 by decide] <;> rfl) 59 (hb hby d7_58) rfl ?_
          have D1457 : Jvm.FP.Core.DInt (i4 * j1) (FP.dmul x4 y1) := own_as (by omega) (Jvm.FP.Core.dmul_int hx4 hy1 (by omega))
          refine g_dmul X1456 hx 60 (hb hby d7_59) rfl (own_dnn D1457) ?_
          have D1458 : Jvm.FP.Core.DInt (k1 + (i4 * j1)) (FP.dadd z1 (FP.dmul x4 y1)) := own_as (by omega) (Jvm.FP.Core.dadd_int hz1 D1457 (by omega))
          refine g_dadd X1456 hx 61 (hb hby d7_60) rfl (own_dnn D1458) ?_
          refine g_dastore X1456 hx hZ e1456 V1441' 1 (by decide) (by decide) (by show 1 < 3; decide) 62 (hb hby d7_61) rfl ?_
          intro T1459 h1459 X1459 e1459 W1459 V1459
          have F1460 := F1442.wr W1459
          have F1461 := F1443.other W1459 (Or.inl n1)
          have F1462 := F1444.other W1459 (Or.inl n1)
          have F1463 := F1445.other W1459 n2
          have F1464 := F1446.other W1459 n3
          have K1466 := K1448.wr W1459 (Or.inr sp)
          have N1467 := Fr.snoc X1459 N1449 gp
          have Z1468 : n0 ≤ h1459.size := by rw [W1459.size]; exact Z1450
          have V1459' : Arv Z h1459 pr kp .double (3 : Int32) [(.double (FP.dadd z0 (FP.dmul x1 y1))), (.double (FP.dadd z1 (FP.dmul x4 y1))), (.double z2)] (.double 0) := V1459
          refine g_iincC X1459 hx (w := (1 : Int32)) (2 : Int32) (by decide) (l' := #[.val (.ref ob), .val (.ref vc), .val (.ref pr), .val (.int (1 : Int32)), .val (.int (2 : Int32))]) 65 (hb hby d7_62) rfl rfl (by decide) rfl ?_
          refine g_goto X1459 hx 28 (hb hby d7_65) (by decide) (by decide) ?_
          refine g_iload X1459 hx 30 (hb hby d7_28) rfl rfl ?_
          refine g_aloadN X1459 hx 31 (hb hby d7_30) rfl rfl rfl ?_
          refine g_getF X1459 hx hZ hown (hw _ (List.mem_of_getElem? (i := 9) rfl)) Via.refl e1459 F1461 34 (hb hby d7_31) rfl ?_
          intro T1469 X1469 e1469
          have ll1471 : ((3 : Int32) : Int32).toInt = 3 := by decide
          have ll1472 : ((2 : Int32) : Int32).toInt = 2 := by decide
          refine g_ic_ge X1469 hx 68 37 (hb hby d7_34) (by decide) (by decide) rfl (fun c1470 => ?_) (fun c1470 => ?_)
          · skip
            exfalso; revert c1470; decide
          · skip
            refine g_aloadN X1469 hx 38 (hb hby d7_37) rfl rfl rfl ?_
            refine g_iload X1469 hx 40 (hb hby d7_38) rfl rfl ?_
            refine g_dup2 X1469 hx 41 (hb hby d7_40) rfl rfl rfl ?_
            refine g_daload X1469 hx hZ e1469 V1459' (by decide) (by decide) (by rw [show ((2 : Int32) : Int32).toNatClampNeg = 2 by decide] <;> rfl) 42 (hb hby d7_41) rfl ?_
            refine g_aloadN X1469 hx 43 (hb hby d7_42) rfl rfl rfl ?_
            refine g_getF X1469 hx hZ hown (hw _ (List.mem_of_getElem? (i := 12) rfl)) Via.refl e1469 F1462 46 (hb hby d7_43) rfl ?_
            intro T1473 X1473 e1473
            refine g_iload X1473 hx 48 (hb hby d7_46) rfl rfl ?_
            refine g_aloadN X1473 hx 49 (hb hby d7_48) rfl rfl rfl ?_
            refine g_getF X1473 hx hZ hown (hw _ (List.mem_of_getElem? (i := 9) rfl)) Via.refl e1473 F1461 52 (hb hby d7_49) rfl ?_
            intro T1474 X1474 e1474
            refine g_imulC X1474 hx (6 : Int32) (by decide) 53 (hb hby d7_52) rfl ?_
            refine g_iloadN X1474 hx 54 (hb hby d7_53) rfl rfl ?_
            refine g_iaddC X1474 hx (7 : Int32) (by decide) 55 (hb hby d7_54) rfl ?_
            refine g_daload X1474 hx hZ e1474 F1463 (by decide) (by decide) (by rw [show ((7 : Int32) : Int32).toNatClampNeg = 7 by decide] <;> rfl) 56 (hb hby d7_55) rfl ?_
            refine g_aloadN X1474 hx 57 (hb hby d7_56) rfl rfl rfl ?_
            refine g_iloadN X1474 hx 58 (hb hby d7_57) rfl rfl ?_
            refine g_daload X1474 hx hZ e1474 F1464 (by decide) (by decide) (by rw [show ((1 : Int32) : Int32).toNatClampNeg = 1 by decide] <;> rfl) 59 (hb hby d7_58) rfl ?_
            have D1475 : Jvm.FP.Core.DInt (i7 * j1) (FP.dmul x7 y1) := own_as (by omega) (Jvm.FP.Core.dmul_int hx7 hy1 (by omega))
            refine g_dmul X1474 hx 60 (hb hby d7_59) rfl (own_dnn D1475) ?_
            have D1476 : Jvm.FP.Core.DInt (k2 + (i7 * j1)) (FP.dadd z2 (FP.dmul x7 y1)) := own_as (by omega) (Jvm.FP.Core.dadd_int hz2 D1475 (by omega))
            refine g_dadd X1474 hx 61 (hb hby d7_60) rfl (own_dnn D1476) ?_
            refine g_dastore X1474 hx hZ e1474 V1459' 2 (by decide) (by decide) (by show 2 < 3; decide) 62 (hb hby d7_61) rfl ?_
            intro T1477 h1477 X1477 e1477 W1477 V1477
            have F1478 := F1460.wr W1477
            have F1479 := F1461.other W1477 (Or.inl n1)
            have F1480 := F1462.other W1477 (Or.inl n1)
            have F1481 := F1463.other W1477 n2
            have F1482 := F1464.other W1477 n3
            have K1484 := K1466.wr W1477 (Or.inr sp)
            have N1485 := Fr.snoc X1477 N1467 gp
            have Z1486 : n0 ≤ h1477.size := by rw [W1477.size]; exact Z1468
            have V1477' : Arv Z h1477 pr kp .double (3 : Int32) [(.double (FP.dadd z0 (FP.dmul x1 y1))), (.double (FP.dadd z1 (FP.dmul x4 y1))), (.double (FP.dadd z2 (FP.dmul x7 y1)))] (.double 0) := V1477
            refine g_iincC X1477 hx (w := (1 : Int32)) (3 : Int32) (by decide) (l' := #[.val (.ref ob), .val (.ref vc), .val (.ref pr), .val (.int (1 : Int32)), .val (.int (3 : Int32))]) 65 (hb hby d7_62) rfl rfl (by decide) rfl ?_
            refine g_goto X1477 hx 28 (hb hby d7_65) (by decide) (by decide) ?_
            refine g_iload X1477 hx 30 (hb hby d7_28) rfl rfl ?_
            refine g_aloadN X1477 hx 31 (hb hby d7_30) rfl rfl rfl ?_
            refine g_getF X1477 hx hZ hown (hw _ (List.mem_of_getElem? (i := 9) rfl)) Via.refl e1477 F1479 34 (hb hby d7_31) rfl ?_
            intro T1487 X1487 e1487
            have ll1489 : ((3 : Int32) : Int32).toInt = 3 := by decide
            have ll1490 : ((3 : Int32) : Int32).toInt = 3 := by decide
            refine g_ic_ge X1487 hx 68 37 (hb hby d7_34) (by decide) (by decide) rfl (fun c1488 => ?_) (fun c1488 => ?_)
            · skip
              refine g_iincC X1487 hx (w := (1 : Int32)) (2 : Int32) (by decide) (l' := #[.val (.ref ob), .val (.ref vc), .val (.ref pr), .val (.int (2 : Int32)), .val (.int (3 : Int32))]) 71 (hb hby d7_68) rfl rfl (by decide) rfl ?_
              refine g_goto X1487 hx 9 (hb hby d7_71) (by decide) (by decide) ?_
              exact rmT_2 (o4 := (some (3 : Int32))) X1487 hx hby hml hret hlk hown hZ hw e1487 Z1486 N1485 ⟨c0, c1, c2, c3, c4, c5, c6, c7, c8⟩ F1478 F1479 F1480 F1481 F1482 V1477' K1484 gp sp n1 n2 n3 hx0 hx1 hx2 hx3 hx4 hx5 hx6 hx7 hx8 hy0 hy1 hy2 (own_as (j := (k0 + i1 * j1)) (by first | omega) D1440) (own_as (j := (k1 + i4 * j1)) (by first | omega) D1458) (own_as (j := (k2 + i7 * j1)) (by first | omega) D1476) (by omega) (by omega) (by omega) hf0 hf1 hf2
            · skip
              exfalso; revert c1488; decide
set_option maxRecDepth 65536 in
set_option maxHeartbeats 40000000 in
theorem rmT_0 {p : Program} {l : Launch} {e : Env} {s : State} {m : MethodId} {args : Array Value} {below : List Frame} {meth : Method} {c : Code} {T0 Z : State} {a0 : Array Value} {h0 : Heap} {n0 : Nat} {ob vc pr vi : Addr} {kv kc kp : ClassId} {f0 f1 f2 i0 i1 i2 i3 i4 i5 i6 i7 i8 j0 j1 j2 k0 k1 k2 : Int} {hE : Heap} {L0 : List Loc} {o4 : Option Int32} {x0 x1 x2 x3 x4 x5 x6 x7 x8 y0 y1 y2 z0 z1 z2 : UInt64} (X0 : Stand p l e ({ frames := 0, cells := 1, slots := 3, locals := 0 } : Room) s m args below meth c T0 L0 1 3) (hx : p.tables.exec = Jvm.exec) (hby : c.code = prog_33_method_5_code) (hml : c.maxLocals = 5) (hret : meth.sig.returnType = (some (.array .double))) (hlk : meth.locks = false) (hown : s.vm.findClass "com/example/tracefold/tracefold/mining/DenseInverse" = some m.cls) (hZ : Z.Warmed39 s.vm) (hw : ∀ d ∈ tables_1, d.before a0 Z = true) (e0 : T0.heap = h0) (Z0 : n0 ≤ h0.size) (N0 : Fr n0 L0) (bx : (-70368744177664 ≤ i0 * j0 ∧ i0 * j0 ≤ 70368744177664) ∧ (-70368744177664 ≤ i1 * j1 ∧ i1 * j1 ≤ 70368744177664) ∧ (-70368744177664 ≤ i2 * j2 ∧ i2 * j2 ≤ 70368744177664) ∧ (-70368744177664 ≤ i3 * j0 ∧ i3 * j0 ≤ 70368744177664) ∧ (-70368744177664 ≤ i4 * j1 ∧ i4 * j1 ≤ 70368744177664) ∧ (-70368744177664 ≤ i5 * j2 ∧ i5 * j2 ≤ 70368744177664) ∧ (-70368744177664 ≤ i6 * j0 ∧ i6 * j0 ≤ 70368744177664) ∧ (-70368744177664 ≤ i7 * j1 ∧ i7 * j1 ≤ 70368744177664) ∧ (-70368744177664 ≤ i8 * j2 ∧ i8 * j2 ≤ 70368744177664)) (Eo : Exa Z h0 ob "com/example/tracefold/tracefold/mining/DenseInverse") (Fn : Fld Z h0 ob "com/example/tracefold/tracefold/mining/DenseInverse" "n" "I" (.int 3)) (Fv : Fld Z h0 ob "com/example/tracefold/tracefold/mining/DenseInverse" "inverse" "[D" (.ref vi)) (Vv : Arv Z h0 vi kv .double 9 [(.double x0), (.double x1), (.double x2), (.double x3), (.double x4), (.double x5), (.double x6), (.double x7), (.double x8)] (.double 0)) (Vc : Arv Z h0 vc kc .double 3 [(.double y0), (.double y1), (.double y2)] (.double 0)) (Vp : Arv Z h0 pr kp .double 3 [(.double z0), (.double z1), (.double z2)] (.double 0)) (KE : Keep hE h0 []) (gp : n0 ≤ pr) (sp : hE.size ≤ pr) (n1 : ob ≠ pr) (n2 : vi ≠ pr) (n3 : vc ≠ pr) (hx0 : Jvm.FP.Core.DInt i0 x0) (hx1 : Jvm.FP.Core.DInt i1 x1) (hx2 : Jvm.FP.Core.DInt i2 x2) (hx3 : Jvm.FP.Core.DInt i3 x3) (hx4 : Jvm.FP.Core.DInt i4 x4) (hx5 : Jvm.FP.Core.DInt i5 x5) (hx6 : Jvm.FP.Core.DInt i6 x6) (hx7 : Jvm.FP.Core.DInt i7 x7) (hx8 : Jvm.FP.Core.DInt i8 x8) (hy0 : Jvm.FP.Core.DInt j0 y0) (hy1 : Jvm.FP.Core.DInt j1 y1) (hy2 : Jvm.FP.Core.DInt j2 y2) (hz0 : Jvm.FP.Core.DInt k0 z0) (hz1 : Jvm.FP.Core.DInt k1 z1) (hz2 : Jvm.FP.Core.DInt k2 z2) (bk0 : -0 ≤ k0 ∧ k0 ≤ 0) (bk1 : -0 ≤ k1 ∧ k1 ≤ 0) (bk2 : -0 ≤ k2 ∧ k2 ≤ 0) (hf0 : k0 + i0 * j0 + i1 * j1 + i2 * j2 = f0) (hf1 : k1 + i3 * j0 + i4 * j1 + i5 * j2 = f1) (hf2 : k2 + i6 * j0 + i7 * j1 + i8 * j2 = f2) :
    Go p e below (EndQ s (Q_rmT Z f0 f1 f2 n0 hE) 1 3) T0 (mkF m 9 #[.val (.ref ob), .val (.ref vc), .val (.ref pr), .val (.int (0 : Int32)), .unset] []) := by
  obtain ⟨c0, c1, c2, c3, c4, c5, c6, c7, c8⟩ := bx
  refine g_iloadN X0 hx 10 (hb hby d7_9) rfl rfl ?_
  refine g_aloadN X0 hx 11 (hb hby d7_10) rfl rfl rfl ?_
  refine g_getF X0 hx hZ hown (hw _ (List.mem_of_getElem? (i := 9) rfl)) Via.refl e0 Fn 14 (hb hby d7_11) rfl ?_
  intro T1491 X1491 e1491
  have ll1493 : ((3 : Int32) : Int32).toInt = 3 := by decide
  have ll1494 : ((0 : Int32) : Int32).toInt = 0 := by decide
  refine g_ic_ge X1491 hx 74 17 (hb hby d7_14) (by decide) (by decide) rfl (fun c1492 => ?_) (fun c1492 => ?_)
  · skip
    exfalso; revert c1492; decide
  · skip
    refine g_aloadN X1491 hx 18 (hb hby d7_17) rfl rfl rfl ?_
    refine g_iloadN X1491 hx 19 (hb hby d7_18) rfl rfl ?_
    refine g_daload X1491 hx hZ e1491 Vc (by decide) (by decide) (by rw [show ((0 : Int32) : Int32).toNatClampNeg = 0 by decide] <;> rfl) 20 (hb hby d7_19) rfl ?_
    refine g_dconst0 X1491 hx 21 (hb hby d7_20) rfl ?_
    refine g_dc_eq X1491 hx 22 68 25 (hb hby d7_21) rfl (hb hby d7_22) (by decide) (by decide) rfl (Jvm.FP.Core.dcmp_int hy0 own_dzero) (fun c1495 => ?_) (fun c1495 => ?_)
    · skip
      refine g_iincC X1491 hx (w := (1 : Int32)) (1 : Int32) (by decide) (l' := #[.val (.ref ob), .val (.ref vc), .val (.ref pr), .val (.int (1 : Int32)), .unset]) 71 (hb hby d7_68) rfl rfl (by decide) rfl ?_
      refine g_goto X1491 hx 9 (hb hby d7_71) (by decide) (by decide) ?_
      exact rmT_1 (o4 := none) X1491 hx hby hml hret hlk hown hZ hw e1491 Z0 N0 ⟨c0, c1, c2, c3, c4, c5, c6, c7, c8⟩ Eo Fn Fv Vv Vc Vp KE gp sp n1 n2 n3 hx0 hx1 hx2 hx3 hx4 hx5 hx6 hx7 hx8 hy0 hy1 hy2 (own_as (j := (k0 + i0 * j0)) (by first | omega | (rw [c1495]; omega)) hz0) (own_as (j := (k1 + i3 * j0)) (by first | omega | (rw [c1495]; omega)) hz1) (own_as (j := (k2 + i6 * j0)) (by first | omega | (rw [c1495]; omega)) hz2) (by omega) (by omega) (by omega) hf0 hf1 hf2
    · skip
      refine g_iconst X1491 hx (0 : Int32) 26 (hb hby d7_25) rfl (by decide) ?_
      refine g_istore (l' := #[.val (.ref ob), .val (.ref vc), .val (.ref pr), .val (.int (0 : Int32)), .val (.int (0 : Int32))]) X1491 hx 28 (hb hby d7_26) rfl rfl ?_
      refine g_iload X1491 hx 30 (hb hby d7_28) rfl rfl ?_
      refine g_aloadN X1491 hx 31 (hb hby d7_30) rfl rfl rfl ?_
      refine g_getF X1491 hx hZ hown (hw _ (List.mem_of_getElem? (i := 9) rfl)) Via.refl e1491 Fn 34 (hb hby d7_31) rfl ?_
      intro T1496 X1496 e1496
      have ll1498 : ((3 : Int32) : Int32).toInt = 3 := by decide
      have ll1499 : ((0 : Int32) : Int32).toInt = 0 := by decide
      refine g_ic_ge X1496 hx 68 37 (hb hby d7_34) (by decide) (by decide) rfl (fun c1497 => ?_) (fun c1497 => ?_)
      · skip
        exfalso; revert c1497; decide
      · skip
        refine g_aloadN X1496 hx 38 (hb hby d7_37) rfl rfl rfl ?_
        refine g_iload X1496 hx 40 (hb hby d7_38) rfl rfl ?_
        refine g_dup2 X1496 hx 41 (hb hby d7_40) rfl rfl rfl ?_
        refine g_daload X1496 hx hZ e1496 Vp (by decide) (by decide) (by rw [show ((0 : Int32) : Int32).toNatClampNeg = 0 by decide] <;> rfl) 42 (hb hby d7_41) rfl ?_
        refine g_aloadN X1496 hx 43 (hb hby d7_42) rfl rfl rfl ?_
        refine g_getF X1496 hx hZ hown (hw _ (List.mem_of_getElem? (i := 12) rfl)) Via.refl e1496 Fv 46 (hb hby d7_43) rfl ?_
        intro T1500 X1500 e1500
        refine g_iload X1500 hx 48 (hb hby d7_46) rfl rfl ?_
        refine g_aloadN X1500 hx 49 (hb hby d7_48) rfl rfl rfl ?_
        refine g_getF X1500 hx hZ hown (hw _ (List.mem_of_getElem? (i := 9) rfl)) Via.refl e1500 Fn 52 (hb hby d7_49) rfl ?_
        intro T1501 X1501 e1501
        refine g_imulC X1501 hx (0 : Int32) (by decide) 53 (hb hby d7_52) rfl ?_
        refine g_iloadN X1501 hx 54 (hb hby d7_53) rfl rfl ?_
        refine g_iaddC X1501 hx (0 : Int32) (by decide) 55 (hb hby d7_54) rfl ?_
        refine g_daload X1501 hx hZ e1501 Vv (by decide) (by decide) (by rw [show ((0 : Int32) : Int32).toNatClampNeg = 0 by decide] <;> rfl) 56 (hb hby d7_55) rfl ?_
        refine g_aloadN X1501 hx 57 (hb hby d7_56) rfl rfl rfl ?_
        refine g_iloadN X1501 hx 58 (hb hby d7_57) rfl rfl ?_
        refine g_daload X1501 hx hZ e1501 Vc (by decide) (by decide) (by rw [show ((0 : Int32) : Int32).toNatClampNeg = 0 by decide] <;> rfl) 59 (hb hby d7_58) rfl ?_
        have D1502 : Jvm.FP.Core.DInt (i0 * j0) (FP.dmul x0 y0) := own_as (by omega) (Jvm.FP.Core.dmul_int hx0 hy0 (by omega))
        refine g_dmul X1501 hx 60 (hb hby d7_59) rfl (own_dnn D1502) ?_
        have D1503 : Jvm.FP.Core.DInt (k0 + (i0 * j0)) (FP.dadd z0 (FP.dmul x0 y0)) := own_as (by omega) (Jvm.FP.Core.dadd_int hz0 D1502 (by omega))
        refine g_dadd X1501 hx 61 (hb hby d7_60) rfl (own_dnn D1503) ?_
        refine g_dastore X1501 hx hZ e1501 Vp 0 (by decide) (by decide) (by show 0 < 3; decide) 62 (hb hby d7_61) rfl ?_
        intro T1504 h1504 X1504 e1504 W1504 V1504
        have F1505 := Eo.wr W1504
        have F1506 := Fn.other W1504 (Or.inl n1)
        have F1507 := Fv.other W1504 (Or.inl n1)
        have F1508 := Vv.other W1504 n2
        have F1509 := Vc.other W1504 n3
        have K1511 := KE.wr W1504 (Or.inr sp)
        have N1512 := Fr.snoc X1504 N0 gp
        have Z1513 : n0 ≤ h1504.size := by rw [W1504.size]; exact Z0
        have V1504' : Arv Z h1504 pr kp .double (3 : Int32) [(.double (FP.dadd z0 (FP.dmul x0 y0))), (.double z1), (.double z2)] (.double 0) := V1504
        refine g_iincC X1504 hx (w := (1 : Int32)) (1 : Int32) (by decide) (l' := #[.val (.ref ob), .val (.ref vc), .val (.ref pr), .val (.int (0 : Int32)), .val (.int (1 : Int32))]) 65 (hb hby d7_62) rfl rfl (by decide) rfl ?_
        refine g_goto X1504 hx 28 (hb hby d7_65) (by decide) (by decide) ?_
        refine g_iload X1504 hx 30 (hb hby d7_28) rfl rfl ?_
        refine g_aloadN X1504 hx 31 (hb hby d7_30) rfl rfl rfl ?_
        refine g_getF X1504 hx hZ hown (hw _ (List.mem_of_getElem? (i := 9) rfl)) Via.refl e1504 F1506 34 (hb hby d7_31) rfl ?_
        intro T1514 X1514 e1514
        have ll1516 : ((3 : Int32) : Int32).toInt = 3 := by decide
        have ll1517 : ((1 : Int32) : Int32).toInt = 1 := by decide
        refine g_ic_ge X1514 hx 68 37 (hb hby d7_34) (by decide) (by decide) rfl (fun c1515 => ?_) (fun c1515 => ?_)
        · skip
          exfalso; revert c1515; decide
        · skip
          refine g_aloadN X1514 hx 38 (hb hby d7_37) rfl rfl rfl ?_
          refine g_iload X1514 hx 40 (hb hby d7_38) rfl rfl ?_
          refine g_dup2 X1514 hx 41 (hb hby d7_40) rfl rfl rfl ?_
          refine g_daload X1514 hx hZ e1514 V1504' (by decide) (by decide) (by rw [show ((1 : Int32) : Int32).toNatClampNeg = 1 by decide] <;> rfl) 42 (hb hby d7_41) rfl ?_
          refine g_aloadN X1514 hx 43 (hb hby d7_42) rfl rfl rfl ?_
          refine g_getF X1514 hx hZ hown (hw _ (List.mem_of_getElem? (i := 12) rfl)) Via.refl e1514 F1507 46 (hb hby d7_43) rfl ?_
          intro T1518 X1518 e1518
          refine g_iload X1518 hx 48 (hb hby d7_46) rfl rfl ?_
          refine g_aloadN X1518 hx 49 (hb hby d7_48) rfl rfl rfl ?_
          refine g_getF X1518 hx hZ hown (hw _ (List.mem_of_getElem? (i := 9) rfl)) Via.refl e1518 F1506 52 (hb hby d7_49) rfl ?_
          intro T1519 X1519 e1519
          refine g_imulC X1519 hx (3 : Int32) (by decide) 53 (hb hby d7_52) rfl ?_
          refine g_iloadN X1519 hx 54 (hb hby d7_53) rfl rfl ?_
          refine g_iaddC X1519 hx (3 : Int32) (by decide) 55 (hb hby d7_54) rfl ?_
          refine g_daload X1519 hx hZ e1519 F1508 (by decide) (by decide) (by rw [show ((3 : Int32) : Int32).toNatClampNeg = 3 by decide] <;> rfl) 56 (hb hby d7_55) rfl ?_
          refine g_aloadN X1519 hx 57 (hb hby d7_56) rfl rfl rfl ?_
          refine g_iloadN X1519 hx 58 (hb hby d7_57) rfl rfl ?_
          refine g_daload X1519 hx hZ e1519 F1509 (by decide) (by decide) (by rw [show ((0 : Int32) : Int32).toNatClampNeg = 0 by decide] <;> rfl) 59 (hb hby d7_58) rfl ?_
          have D1520 : Jvm.FP.Core.DInt (i3 * j0) (FP.dmul x3 y0) := own_as (by omega) (Jvm.FP.Core.dmul_int hx3 hy0 (by omega))
          refine g_dmul X1519 hx 60 (hb hby d7_59) rfl (own_dnn D1520) ?_
          have D1521 : Jvm.FP.Core.DInt (k1 + (i3 * j0)) (FP.dadd z1 (FP.dmul x3 y0)) := own_as (by omega) (Jvm.FP.Core.dadd_int hz1 D1520 (by omega))
          refine g_dadd X1519 hx 61 (hb hby d7_60) rfl (own_dnn D1521) ?_
          refine g_dastore X1519 hx hZ e1519 V1504' 1 (by decide) (by decide) (by show 1 < 3; decide) 62 (hb hby d7_61) rfl ?_
          intro T1522 h1522 X1522 e1522 W1522 V1522
          have F1523 := F1505.wr W1522
          have F1524 := F1506.other W1522 (Or.inl n1)
          have F1525 := F1507.other W1522 (Or.inl n1)
          have F1526 := F1508.other W1522 n2
          have F1527 := F1509.other W1522 n3
          have K1529 := K1511.wr W1522 (Or.inr sp)
          have N1530 := Fr.snoc X1522 N1512 gp
          have Z1531 : n0 ≤ h1522.size := by rw [W1522.size]; exact Z1513
          have V1522' : Arv Z h1522 pr kp .double (3 : Int32) [(.double (FP.dadd z0 (FP.dmul x0 y0))), (.double (FP.dadd z1 (FP.dmul x3 y0))), (.double z2)] (.double 0) := V1522
          refine g_iincC X1522 hx (w := (1 : Int32)) (2 : Int32) (by decide) (l' := #[.val (.ref ob), .val (.ref vc), .val (.ref pr), .val (.int (0 : Int32)), .val (.int (2 : Int32))]) 65 (hb hby d7_62) rfl rfl (by decide) rfl ?_
          refine g_goto X1522 hx 28 (hb hby d7_65) (by decide) (by decide) ?_
          refine g_iload X1522 hx 30 (hb hby d7_28) rfl rfl ?_
          refine g_aloadN X1522 hx 31 (hb hby d7_30) rfl rfl rfl ?_
          refine g_getF X1522 hx hZ hown (hw _ (List.mem_of_getElem? (i := 9) rfl)) Via.refl e1522 F1524 34 (hb hby d7_31) rfl ?_
          intro T1532 X1532 e1532
          have ll1534 : ((3 : Int32) : Int32).toInt = 3 := by decide
          have ll1535 : ((2 : Int32) : Int32).toInt = 2 := by decide
          refine g_ic_ge X1532 hx 68 37 (hb hby d7_34) (by decide) (by decide) rfl (fun c1533 => ?_) (fun c1533 => ?_)
          · skip
            exfalso; revert c1533; decide
          · skip
            refine g_aloadN X1532 hx 38 (hb hby d7_37) rfl rfl rfl ?_
            refine g_iload X1532 hx 40 (hb hby d7_38) rfl rfl ?_
            refine g_dup2 X1532 hx 41 (hb hby d7_40) rfl rfl rfl ?_
            refine g_daload X1532 hx hZ e1532 V1522' (by decide) (by decide) (by rw [show ((2 : Int32) : Int32).toNatClampNeg = 2 by decide] <;> rfl) 42 (hb hby d7_41) rfl ?_
            refine g_aloadN X1532 hx 43 (hb hby d7_42) rfl rfl rfl ?_
            refine g_getF X1532 hx hZ hown (hw _ (List.mem_of_getElem? (i := 12) rfl)) Via.refl e1532 F1525 46 (hb hby d7_43) rfl ?_
            intro T1536 X1536 e1536
            refine g_iload X1536 hx 48 (hb hby d7_46) rfl rfl ?_
            refine g_aloadN X1536 hx 49 (hb hby d7_48) rfl rfl rfl ?_
            refine g_getF X1536 hx hZ hown (hw _ (List.mem_of_getElem? (i := 9) rfl)) Via.refl e1536 F1524 52 (hb hby d7_49) rfl ?_
            intro T1537 X1537 e1537
            refine g_imulC X1537 hx (6 : Int32) (by decide) 53 (hb hby d7_52) rfl ?_
            refine g_iloadN X1537 hx 54 (hb hby d7_53) rfl rfl ?_
            refine g_iaddC X1537 hx (6 : Int32) (by decide) 55 (hb hby d7_54) rfl ?_
            refine g_daload X1537 hx hZ e1537 F1526 (by decide) (by decide) (by rw [show ((6 : Int32) : Int32).toNatClampNeg = 6 by decide] <;> rfl) 56 (hb hby d7_55) rfl ?_
            refine g_aloadN X1537 hx 57 (hb hby d7_56) rfl rfl rfl ?_
            refine g_iloadN X1537 hx 58 (hb hby d7_57) rfl rfl ?_
            refine g_daload X1537 hx hZ e1537 F1527 (by decide) (by decide) (by rw [show ((0 : Int32) : Int32).toNatClampNeg = 0 by decide] <;> rfl) 59 (hb hby d7_58) rfl ?_
            have D1538 : Jvm.FP.Core.DInt (i6 * j0) (FP.dmul x6 y0) := own_as (by omega) (Jvm.FP.Core.dmul_int hx6 hy0 (by omega))
            refine g_dmul X1537 hx 60 (hb hby d7_59) rfl (own_dnn D1538) ?_
            have D1539 : Jvm.FP.Core.DInt (k2 + (i6 * j0)) (FP.dadd z2 (FP.dmul x6 y0)) := own_as (by omega) (Jvm.FP.Core.dadd_int hz2 D1538 (by omega))
            refine g_dadd X1537 hx 61 (hb hby d7_60) rfl (own_dnn D1539) ?_
            refine g_dastore X1537 hx hZ e1537 V1522' 2 (by decide) (by decide) (by show 2 < 3; decide) 62 (hb hby d7_61) rfl ?_
            intro T1540 h1540 X1540 e1540 W1540 V1540
            have F1541 := F1523.wr W1540
            have F1542 := F1524.other W1540 (Or.inl n1)
            have F1543 := F1525.other W1540 (Or.inl n1)
            have F1544 := F1526.other W1540 n2
            have F1545 := F1527.other W1540 n3
            have K1547 := K1529.wr W1540 (Or.inr sp)
            have N1548 := Fr.snoc X1540 N1530 gp
            have Z1549 : n0 ≤ h1540.size := by rw [W1540.size]; exact Z1531
            have V1540' : Arv Z h1540 pr kp .double (3 : Int32) [(.double (FP.dadd z0 (FP.dmul x0 y0))), (.double (FP.dadd z1 (FP.dmul x3 y0))), (.double (FP.dadd z2 (FP.dmul x6 y0)))] (.double 0) := V1540
            refine g_iincC X1540 hx (w := (1 : Int32)) (3 : Int32) (by decide) (l' := #[.val (.ref ob), .val (.ref vc), .val (.ref pr), .val (.int (0 : Int32)), .val (.int (3 : Int32))]) 65 (hb hby d7_62) rfl rfl (by decide) rfl ?_
            refine g_goto X1540 hx 28 (hb hby d7_65) (by decide) (by decide) ?_
            refine g_iload X1540 hx 30 (hb hby d7_28) rfl rfl ?_
            refine g_aloadN X1540 hx 31 (hb hby d7_30) rfl rfl rfl ?_
            refine g_getF X1540 hx hZ hown (hw _ (List.mem_of_getElem? (i := 9) rfl)) Via.refl e1540 F1542 34 (hb hby d7_31) rfl ?_
            intro T1550 X1550 e1550
            have ll1552 : ((3 : Int32) : Int32).toInt = 3 := by decide
            have ll1553 : ((3 : Int32) : Int32).toInt = 3 := by decide
            refine g_ic_ge X1550 hx 68 37 (hb hby d7_34) (by decide) (by decide) rfl (fun c1551 => ?_) (fun c1551 => ?_)
            · skip
              refine g_iincC X1550 hx (w := (1 : Int32)) (1 : Int32) (by decide) (l' := #[.val (.ref ob), .val (.ref vc), .val (.ref pr), .val (.int (1 : Int32)), .val (.int (3 : Int32))]) 71 (hb hby d7_68) rfl rfl (by decide) rfl ?_
              refine g_goto X1550 hx 9 (hb hby d7_71) (by decide) (by decide) ?_
              exact rmT_1 (o4 := (some (3 : Int32))) X1550 hx hby hml hret hlk hown hZ hw e1550 Z1549 N1548 ⟨c0, c1, c2, c3, c4, c5, c6, c7, c8⟩ F1541 F1542 F1543 F1544 F1545 V1540' K1547 gp sp n1 n2 n3 hx0 hx1 hx2 hx3 hx4 hx5 hx6 hx7 hx8 hy0 hy1 hy2 (own_as (j := (k0 + i0 * j0)) (by first | omega) D1503) (own_as (j := (k1 + i3 * j0)) (by first | omega) D1521) (own_as (j := (k2 + i6 * j0)) (by first | omega) D1539) (by omega) (by omega) (by omega) hf0 hf1 hf2
            · skip
              exfalso; revert c1551; decide
theorem own_pf4 : plainFor (⟨"com/example/tracefold/tracefold/mining/DenseInverse", "times", "([D)[D"⟩ : MethodName) = true := plainFor_of_name (by first | (simp [plainName, overriddenIn]; done) | decide +kernel)
theorem ef_rmT (ob vc : Addr) (m : MethodId) : entryFrame m #[(.ref ob), (.ref vc)] 5 = mkF m 0 #[.val (.ref ob), .val (.ref vc), .unset, .unset, .unset] [] := by first | (simp [entryFrame, mkF, argsToLocals, Value.category]; done) | rfl
set_option maxRecDepth 65536 in
set_option maxHeartbeats 40000000 in
theorem rmT (l : Launch) (Z : State) (a0 : Array Value) (hw : ∀ d ∈ tables_1, d.before a0 Z = true) (ob vc : Addr) (h0 : Heap) (n0 : Nat) (Z0 : n0 ≤ h0.size) (vi : Addr) (kv kc : ClassId) (i0 i1 i2 i3 i4 i5 i6 i7 i8 j0 j1 j2 : Int) (x0 x1 x2 x3 x4 x5 x6 x7 x8 y0 y1 y2 : UInt64) (bx : (-70368744177664 ≤ i0 * j0 ∧ i0 * j0 ≤ 70368744177664) ∧ (-70368744177664 ≤ i1 * j1 ∧ i1 * j1 ≤ 70368744177664) ∧ (-70368744177664 ≤ i2 * j2 ∧ i2 * j2 ≤ 70368744177664) ∧ (-70368744177664 ≤ i3 * j0 ∧ i3 * j0 ≤ 70368744177664) ∧ (-70368744177664 ≤ i4 * j1 ∧ i4 * j1 ≤ 70368744177664) ∧ (-70368744177664 ≤ i5 * j2 ∧ i5 * j2 ≤ 70368744177664) ∧ (-70368744177664 ≤ i6 * j0 ∧ i6 * j0 ≤ 70368744177664) ∧ (-70368744177664 ≤ i7 * j1 ∧ i7 * j1 ≤ 70368744177664) ∧ (-70368744177664 ≤ i8 * j2 ∧ i8 * j2 ≤ 70368744177664)) (Eo : Exa Z h0 ob "com/example/tracefold/tracefold/mining/DenseInverse") (Fn : Fld Z h0 ob "com/example/tracefold/tracefold/mining/DenseInverse" "n" "I" (.int 3)) (Fv : Fld Z h0 ob "com/example/tracefold/tracefold/mining/DenseInverse" "inverse" "[D" (.ref vi)) (Vv : Arv Z h0 vi kv .double 9 [(.double x0), (.double x1), (.double x2), (.double x3), (.double x4), (.double x5), (.double x6), (.double x7), (.double x8)] (.double 0)) (Vc : Arv Z h0 vc kc .double 3 [(.double y0), (.double y1), (.double y2)] (.double 0)) (hx0 : Jvm.FP.Core.DInt i0 x0) (hx1 : Jvm.FP.Core.DInt i1 x1) (hx2 : Jvm.FP.Core.DInt i2 x2) (hx3 : Jvm.FP.Core.DInt i3 x3) (hx4 : Jvm.FP.Core.DInt i4 x4) (hx5 : Jvm.FP.Core.DInt i5 x5) (hx6 : Jvm.FP.Core.DInt i6 x6) (hx7 : Jvm.FP.Core.DInt i7 x7) (hx8 : Jvm.FP.Core.DInt i8 x8) (hy0 : Jvm.FP.Core.DInt j0 y0) (hy1 : Jvm.FP.Core.DInt j1 y1) (hy2 : Jvm.FP.Core.DInt j2 y2) :
    MetFree l (⟨"com/example/tracefold/tracefold/mining/DenseInverse", "times", "([D)[D"⟩ : MethodName) (head1 [Jvm.Cond.code (⟨"com/example/tracefold/tracefold/mining/DenseInverse", "times", "([D)[D"⟩ : MethodName) prog_33_method_5_code 5 (some (.array .double))] ({ frames := 0, cells := 1, slots := 3, locals := 0 } : Room)) (fun as_ U => as_ = #[(.ref ob), (.ref vc)] ∧ Z.Warmed39 U.vm ∧ U.heap = h0) (fun _ _ _ _ _ => True) (fun _ U o U' => ∃ v L, o = .returned v ∧ Q_rmT Z (i0 * j0 + i1 * j1 + i2 * j2) (i3 * j0 + i4 * j1 + i5 * j2) (i6 * j0 + i7 * j1 + i8 * j2) n0 h0 v U'.heap L ∧ FrameEnd U o U' L ({ frames := 0, cells := 1, slots := 3, locals := 0 } : Room).cells ({ frames := 0, cells := 1, slots := 3, locals := 0 } : Room).slots) := by
  refine own_met own_pf4 (ef_rmT ob vc) ?_
  intro p e s m below meth c T0 X0 hx hby hml hret hlk hnm hown hZ e0
  have N0 := Fr.nil n0
  refine g_aloadN X0 hx 1 (hb hby d7_0) rfl rfl rfl ?_
  refine g_getF X0 hx hZ hown (hw _ (List.mem_of_getElem? (i := 9) rfl)) Via.refl e0 Fn 4 (hb hby d7_1) rfl ?_
  intro T1554 X1554 e1554
  refine g_newP X1554 hx hZ (aty := .double) (hw _ (List.mem_of_getElem? (i := 11) rfl)) e1554 (by decide) (cap := 3) (by decide) (by decide) 6 (hb hby d7_4) rfl (by decide) (by decide) (ad := "[D") (by decide) ?_
  intro T1555 h1555 k1555 a1555 g1555 X1555 e1555 E1555 V1555 A1555
  have ne1556 : ob ≠ a1555 := Nat.ne_of_lt (by rw [g1555]; exact Eo.lt)
  have ne1557 : vi ≠ a1555 := Nat.ne_of_lt (by rw [g1555]; exact Vv.lt)
  have ne1558 : vc ≠ a1555 := Nat.ne_of_lt (by rw [g1555]; exact Vc.lt)
  have ge1559 : n0 ≤ a1555 := by rw [g1555]; exact Z0
  have sz1560 : h0.size ≤ a1555 := by rw [g1555]; exact (Keep.refl h0 []).1
  have F1561 := Eo.ext E1555
  have F1562 := Fn.ext E1555
  have F1563 := Fv.ext E1555
  have F1564 := Vv.ext E1555
  have F1565 := Vc.ext E1555
  have K1566 := (Keep.refl h0 []).ext E1555
  have Z1567 : n0 ≤ h1555.size := Nat.le_trans Z0 E1555.1
  have V1555' : Arv Z h1555 a1555 k1555 .double (3 : Int32) [(.double (0 : UInt64)), (.double (0 : UInt64)), (.double (0 : UInt64))] (.double (0 : UInt64)) := V1555.pad (pad_rep [] (.double (0 : UInt64)) 3)
  refine g_astoreN (l' := #[.val (.ref ob), .val (.ref vc), .val (.ref a1555), .unset, .unset]) X1555 hx 7 (hb hby d7_6) rfl rfl rfl ?_
  refine g_iconst X1555 hx (0 : Int32) 8 (hb hby d7_7) rfl (by decide) ?_
  refine g_istoreN (l' := #[.val (.ref ob), .val (.ref vc), .val (.ref a1555), .val (.int (0 : Int32)), .unset]) X1555 hx 9 (hb hby d7_8) rfl rfl ?_
  exact rmT_0 (o4 := none) X1555 hx hby hml hret hlk hown hZ hw e1555 Z1567 N0 bx F1561 F1562 F1563 F1564 F1565 V1555' K1566 ge1559 sz1560 ne1556 ne1557 ne1558 hx0 hx1 hx2 hx3 hx4 hx5 hx6 hx7 hx8 hy0 hy1 hy2 own_dzero own_dzero own_dzero (by omega) (by omega) (by omega) (by omega) (by omega) (by omega)
theorem own_mb {x y : Int} {A B : Nat} (hx : x.natAbs ≤ A) (hy : y.natAbs ≤ B) : (x * y).natAbs ≤ A * B := by rw [Int.natAbs_mul]; exact Nat.mul_le_mul hx hy
theorem own_pfx : plainFor x = true := plainFor_of_name (show plainName "com/example/tracefold/tracefold/mining/DenseInverseTimesPinLaw" = true by first | (simp [plainName, overriddenIn]; done) | decide +kernel)
theorem ef_rm0 (p0 : Int32) (p1 : Int32) (p2 : Int32) (p3 : Int32) (p4 : Int32) (m : MethodId) : entryFrame m #[(.int p0), (.int p1), (.int p2), (.int p3), (.int p4)] maxLocals = mkF m 0 #[.val (.int p0), .val (.int p1), .val (.int p2), .val (.int p3), .val (.int p4), .unset, .unset, .unset, .unset, .unset, .unset, .unset, .unset, .unset, .unset, .unset, .unset, .unset, .unset, .unset] [] := by first | (simp [entryFrame, mkF, argsToLocals, Value.category, maxLocals]; done) | rfl
set_option maxRecDepth 65536 in
set_option maxHeartbeats 40000000 in
theorem rm0 (l : Launch) (Z : State) (a0 : Array Value) (hw : ∀ d ∈ tables_1, d.before a0 Z = true) (ws : List Jvm.Cond) (p0 : Int32) (p1 : Int32) (p2 : Int32) (p3 : Int32) (p4 : Int32) (h0 : Heap) (n0 : Nat) (Z0 : n0 ≤ h0.size)  :
    MetFree l x (head1 (Jvm.Cond.code x code maxLocals ret :: ws) room_1) (fun as_ U => as_ = #[(.int p0), (.int p1), (.int p2), (.int p3), (.int p4)] ∧ Z.Warmed39 U.vm ∧ U.heap = h0) (fun _ _ _ _ _ => True) (fun _ U o U' => ∃ v L, o = .returned v ∧ Q_rm0 n0 v U'.heap L ∧ FrameEnd U o U' L 48 192) := by
  refine own_met own_pfx (ef_rm0 p0 p1 p2 p3 p4) ?_
  intro p e s m below meth c T0 X0 hx hby hml hret hlk hnm hown hZ e0
  have N0 := Fr.nil n0
  refine g_iloadN X0 hx 1 (hb hby at_0) rfl rfl ?_
  refine g_i2b X0 hx 2 (hb hby at_1) rfl ?_
  refine g_i2l X0 hx 3 (hb hby at_2) rfl ?_
  refine g_lstore (l' := #[.val (.int p0), .val (.int p1), .val (.int p2), .val (.int p3), .val (.int p4), .val (.long ((p0.toInt8.toInt32).toInt64)), .second, .unset, .unset, .unset, .unset, .unset, .unset, .unset, .unset, .unset, .unset, .unset, .unset, .unset]) X0 hx 5 (hb hby at_3) rfl rfl ?_
  refine g_iloadN X0 hx 6 (hb hby at_5) rfl rfl ?_
  refine g_i2b X0 hx 7 (hb hby at_6) rfl ?_
  refine g_i2l X0 hx 8 (hb hby at_7) rfl ?_
  refine g_lstore (l' := #[.val (.int p0), .val (.int p1), .val (.int p2), .val (.int p3), .val (.int p4), .val (.long ((p0.toInt8.toInt32).toInt64)), .second, .val (.long ((p1.toInt8.toInt32).toInt64)), .second, .unset, .unset, .unset, .unset, .unset, .unset, .unset, .unset, .unset, .unset, .unset]) X0 hx 10 (hb hby at_8) rfl rfl ?_
  generalize hla : ((p0.toInt8.toInt32).toInt64) = la
  have bla : -128 ≤ la.toInt ∧ la.toInt ≤ 127 := by
    have e1 := c_i2b p0
    have e2 := c_i2l p0.toInt8.toInt32
    rw [hla] at e2
    omega
  generalize hlb : ((p1.toInt8.toInt32).toInt64) = lb
  have blb : -128 ≤ lb.toInt ∧ lb.toInt ≤ 127 := by
    have e1 := c_i2b p1
    have e2 := c_i2l p1.toInt8.toInt32
    rw [hlb] at e2
    omega
  have mab := own_mb (x := la.toInt) (y := lb.toInt) (A := 128) (B := 128) (by omega) (by omega)
  have bab : -20000 ≤ la.toInt * lb.toInt ∧ la.toInt * lb.toInt ≤ 20000 := by omega
  refine g_new X0 hx hZ hown (hw _ (List.mem_of_getElem? (i := 0) rfl)) (hw _ (List.mem_of_getElem? (i := 1) rfl)) (hw _ (List.mem_of_getElem? (i := 2) rfl)) e0 13 (hb hby at_10) rfl (by decide) (by decide) ?_
  intro T1568 h1568 a1568 g1568 X1568 e1568 E1568 A1568 D1568
  have ge1569 : n0 ≤ a1568 := by rw [g1568]; exact Z0
  have Z1570 : n0 ≤ h1568.size := Nat.le_trans Z0 E1568.1
  have F1571 : Fld Z h1568 a1568 "com/example/tracefold/tracefold/mining/DenseInverse" "n" "I" (.int (0 : Int32)) := D1568 (Or.inr (hw _ (List.mem_of_getElem? (i := 10) rfl))) (ty := .int) (by decide)
  have F1572 : Fld Z h1568 a1568 "com/example/tracefold/tracefold/mining/DenseInverse" "inverse" "[D" .null := D1568 (Or.inr (hw _ (List.mem_of_getElem? (i := 13) rfl))) (ty := (.array .double)) (by decide)
  refine g_dup X1568 hx 14 (hb hby at_13) rfl rfl ?_
  refine g_iconst X1568 hx (3 : Int32) 15 (hb hby at_14) rfl (by decide) ?_
  refine g_init X1568 hx hZ rfl hown (hw _ (List.mem_of_getElem? (i := 3) rfl)) (hw _ (List.mem_of_getElem? (i := 4) rfl)) (hw _ (List.mem_of_getElem? (i := 2) rfl)) (hw _ (List.mem_of_getElem? (i := 5) rfl)) (by decide) (rmI l Z a0 hw a1568 h1568 n0 Z1570 A1568 ge1569 F1571 F1572) e1568 (a := a1568) (argsL := [(.int (3 : Int32))]) (rest := [(.ref a1568)]) rfl rfl 1 18 rfl (by rw [hml]; rfl) (lenOf own_pd0 rfl) (Nat.le_refl _) (by decide) (by decide) (by decide) (by decide) (hb hby at_15) ?_
  intro v1573 T1573 L1573 X1573 hQ1573
  obtain ⟨rfl, N1573, K1573, vi, kv, Fn1573, Fv1573, Vv1573, gv, sv⟩ := hQ1573
  have N1574 := Fr.app N0 N1573
  have F1575 := A1568.keep K1573
  have Z1578 : n0 ≤ T1573.heap.size := Nat.le_trans Z1570 K1573.1
  have n2 : a1568 ≠ vi := Nat.ne_of_lt (Nat.lt_of_lt_of_le A1568.lt sv)
  show Go p e below _ T1573 (mkF m 18 #[.val (.int p0), .val (.int p1), .val (.int p2), .val (.int p3), .val (.int p4), .val (.long la), .second, .val (.long lb), .second, .unset, .unset, .unset, .unset, .unset, .unset, .unset, .unset, .unset, .unset, .unset] [(.ref a1568)])
  refine g_astore (l' := #[.val (.int p0), .val (.int p1), .val (.int p2), .val (.int p3), .val (.int p4), .val (.long la), .second, .val (.long lb), .second, .val (.ref a1568), .unset, .unset, .unset, .unset, .unset, .unset, .unset, .unset, .unset, .unset]) X1573 hx 20 (hb hby at_18) rfl rfl rfl ?_
  refine g_iconst X1573 hx (3 : Int32) 21 (hb hby at_20) rfl (by decide) ?_
  refine g_anewA X1573 hx hZ hown (ty := .int) (C := "[I") (by decide) (hw _ (List.mem_of_getElem? (i := 14) rfl)) (hw _ (List.mem_of_getElem? (i := 15) rfl)) rfl (by decide) (cap := 3) (by decide) (by decide) 24 (hb hby at_21) rfl (by decide) (by decide) (ad := "[[I") (by decide) ?_
  intro T1579 h1579 k1579 a1579 g1579 X1579 e1579 E1579 V1579 A1579 O1579
  have ne1580 : a1568 ≠ a1579 := Nat.ne_of_lt (by rw [g1579]; exact F1575.lt)
  have ne1581 : vi ≠ a1579 := Nat.ne_of_lt (by rw [g1579]; exact Vv1573.lt)
  have ge1582 : n0 ≤ a1579 := by rw [g1579]; exact Z1578
  have F1583 := F1575.ext E1579
  have F1584 := Fn1573.ext E1579
  have F1585 := Fv1573.ext E1579
  have F1586 := Vv1573.ext E1579
  have Z1587 : n0 ≤ h1579.size := Nat.le_trans Z1578 E1579.1
  have V1579' : Arv Z h1579 a1579 k1579 (.array .int) (3 : Int32) [.null, .null, .null] .null := V1579.pad (pad_rep [] .null 3)
  refine g_dup X1579 hx 25 (hb hby at_24) rfl rfl ?_
  refine g_iconst X1579 hx (0 : Int32) 26 (hb hby at_25) rfl (by decide) ?_
  refine g_iconst X1579 hx (2 : Int32) 27 (hb hby at_26) rfl (by decide) ?_
  refine g_newP X1579 hx hZ (aty := .int) (hw _ (List.mem_of_getElem? (i := 16) rfl)) e1579 (by decide) (cap := 2) (by decide) (by decide) 29 (hb hby at_27) rfl (by decide) (by decide) (ad := "[I") (by decide) ?_
  intro T1588 h1588 k1588 a1588 g1588 X1588 e1588 E1588 V1588 A1588
  have ne1589 : a1568 ≠ a1588 := Nat.ne_of_lt (by rw [g1588]; exact F1583.lt)
  have ne1590 : vi ≠ a1588 := Nat.ne_of_lt (by rw [g1588]; exact F1586.lt)
  have ne1591 : a1579 ≠ a1588 := Nat.ne_of_lt (by rw [g1588]; exact A1579.lt)
  have ge1592 : n0 ≤ a1588 := by rw [g1588]; exact Z1587
  have F1593 := F1583.ext E1588
  have F1594 := F1584.ext E1588
  have F1595 := F1585.ext E1588
  have F1596 := F1586.ext E1588
  have F1597 := A1579.ext E1588
  have F1598 := V1579'.ext E1588
  have Z1599 : n0 ≤ h1588.size := Nat.le_trans Z1587 E1588.1
  have V1588' : Arv Z h1588 a1588 k1588 .int (2 : Int32) [(.int (0 : Int32)), (.int (0 : Int32))] (.int (0 : Int32)) := V1588.pad (pad_rep [] (.int (0 : Int32)) 2)
  refine g_dup X1588 hx 30 (hb hby at_29) rfl rfl ?_
  refine g_iconst X1588 hx (0 : Int32) 31 (hb hby at_30) rfl (by decide) ?_
  refine g_iconst X1588 hx (0 : Int32) 32 (hb hby at_31) rfl (by decide) ?_
  refine g_iastore X1588 hx hZ e1588 V1588' 0 (by decide) (by decide) (by show 0 < 2; decide) 33 (hb hby at_32) rfl ?_
  intro T1600 h1600 X1600 e1600 W1600 V1600
  have F1601 := F1593.wr W1600
  have F1602 := F1594.other W1600 (Or.inl ne1589)
  have F1603 := F1595.other W1600 (Or.inl ne1589)
  have F1604 := F1596.other W1600 ne1590
  have F1605 := F1597.wr W1600
  have F1606 := F1598.other W1600 ne1591
  have F1607 := A1588.wr W1600
  have N1609 := Fr.snoc X1600 N1574 ge1592
  have Z1610 : n0 ≤ h1600.size := by rw [W1600.size]; exact Z1599
  have V1600' : Arv Z h1600 a1588 k1588 .int (2 : Int32) [(.int (0 : Int32)), (.int (0 : Int32))] (.int (0 : Int32)) := V1600
  refine g_dup X1600 hx 34 (hb hby at_33) rfl rfl ?_
  refine g_iconst X1600 hx (1 : Int32) 35 (hb hby at_34) rfl (by decide) ?_
  refine g_iconst X1600 hx (1 : Int32) 36 (hb hby at_35) rfl (by decide) ?_
  refine g_iastore X1600 hx hZ e1600 V1600' 1 (by decide) (by decide) (by show 1 < 2; decide) 37 (hb hby at_36) rfl ?_
  intro T1611 h1611 X1611 e1611 W1611 V1611
  have F1612 := F1601.wr W1611
  have F1613 := F1602.other W1611 (Or.inl ne1589)
  have F1614 := F1603.other W1611 (Or.inl ne1589)
  have F1615 := F1604.other W1611 ne1590
  have F1616 := F1605.wr W1611
  have F1617 := F1606.other W1611 ne1591
  have F1618 := F1607.wr W1611
  have N1620 := Fr.snoc X1611 N1609 ge1592
  have Z1621 : n0 ≤ h1611.size := by rw [W1611.size]; exact Z1610
  have V1611' : Arv Z h1611 a1588 k1588 .int (2 : Int32) [(.int (0 : Int32)), (.int (1 : Int32))] (.int (0 : Int32)) := V1611
  refine g_aastoreA X1611 hx hZ e1611 F1617 O1579 (Ins.self F1618) 0 (by decide) (by decide) (by show 0 < 3; decide) 38 (hb hby at_37) rfl ?_
  intro T1622 h1622 X1622 e1622 W1622 V1622
  have F1623 := F1612.wr W1622
  have F1624 := F1613.other W1622 (Or.inl ne1580)
  have F1625 := F1614.other W1622 (Or.inl ne1580)
  have F1626 := F1615.other W1622 ne1581
  have F1627 := F1616.wr W1622
  have F1629 := F1618.wr W1622
  have F1630 := V1611'.other W1622 (Ne.symm ne1591)
  have N1631 := Fr.snoc X1622 N1620 ge1582
  have Z1632 : n0 ≤ h1622.size := by rw [W1622.size]; exact Z1621
  have V1622' : Arv Z h1622 a1579 k1579 (.array .int) (3 : Int32) [(.ref a1588), .null, .null] .null := V1622
  refine g_dup X1622 hx 39 (hb hby at_38) rfl rfl ?_
  refine g_iconst X1622 hx (1 : Int32) 40 (hb hby at_39) rfl (by decide) ?_
  refine g_iconst X1622 hx (2 : Int32) 41 (hb hby at_40) rfl (by decide) ?_
  refine g_newP X1622 hx hZ (aty := .int) (hw _ (List.mem_of_getElem? (i := 16) rfl)) e1622 (by decide) (cap := 2) (by decide) (by decide) 43 (hb hby at_41) rfl (by decide) (by decide) (ad := "[I") (by decide) ?_
  intro T1633 h1633 k1633 a1633 g1633 X1633 e1633 E1633 V1633 A1633
  have ne1634 : a1568 ≠ a1633 := Nat.ne_of_lt (by rw [g1633]; exact F1623.lt)
  have ne1635 : vi ≠ a1633 := Nat.ne_of_lt (by rw [g1633]; exact F1626.lt)
  have ne1636 : a1579 ≠ a1633 := Nat.ne_of_lt (by rw [g1633]; exact F1627.lt)
  have ne1637 : a1588 ≠ a1633 := Nat.ne_of_lt (by rw [g1633]; exact F1629.lt)
  have ge1638 : n0 ≤ a1633 := by rw [g1633]; exact Z1632
  have F1639 := F1623.ext E1633
  have F1640 := F1624.ext E1633
  have F1641 := F1625.ext E1633
  have F1642 := F1626.ext E1633
  have F1643 := F1627.ext E1633
  have F1644 := V1622'.ext E1633
  have F1645 := F1629.ext E1633
  have F1646 := F1630.ext E1633
  have Z1647 : n0 ≤ h1633.size := Nat.le_trans Z1632 E1633.1
  have V1633' : Arv Z h1633 a1633 k1633 .int (2 : Int32) [(.int (0 : Int32)), (.int (0 : Int32))] (.int (0 : Int32)) := V1633.pad (pad_rep [] (.int (0 : Int32)) 2)
  refine g_dup X1633 hx 44 (hb hby at_43) rfl rfl ?_
  refine g_iconst X1633 hx (0 : Int32) 45 (hb hby at_44) rfl (by decide) ?_
  refine g_iconst X1633 hx (1 : Int32) 46 (hb hby at_45) rfl (by decide) ?_
  refine g_iastore X1633 hx hZ e1633 V1633' 0 (by decide) (by decide) (by show 0 < 2; decide) 47 (hb hby at_46) rfl ?_
  intro T1648 h1648 X1648 e1648 W1648 V1648
  have F1649 := F1639.wr W1648
  have F1650 := F1640.other W1648 (Or.inl ne1634)
  have F1651 := F1641.other W1648 (Or.inl ne1634)
  have F1652 := F1642.other W1648 ne1635
  have F1653 := F1643.wr W1648
  have F1654 := F1644.other W1648 ne1636
  have F1655 := F1645.wr W1648
  have F1656 := F1646.other W1648 ne1637
  have F1657 := A1633.wr W1648
  have N1659 := Fr.snoc X1648 N1631 ge1638
  have Z1660 : n0 ≤ h1648.size := by rw [W1648.size]; exact Z1647
  have V1648' : Arv Z h1648 a1633 k1633 .int (2 : Int32) [(.int (1 : Int32)), (.int (0 : Int32))] (.int (0 : Int32)) := V1648
  refine g_dup X1648 hx 48 (hb hby at_47) rfl rfl ?_
  refine g_iconst X1648 hx (1 : Int32) 49 (hb hby at_48) rfl (by decide) ?_
  refine g_iconst X1648 hx (2 : Int32) 50 (hb hby at_49) rfl (by decide) ?_
  refine g_iastore X1648 hx hZ e1648 V1648' 1 (by decide) (by decide) (by show 1 < 2; decide) 51 (hb hby at_50) rfl ?_
  intro T1661 h1661 X1661 e1661 W1661 V1661
  have F1662 := F1649.wr W1661
  have F1663 := F1650.other W1661 (Or.inl ne1634)
  have F1664 := F1651.other W1661 (Or.inl ne1634)
  have F1665 := F1652.other W1661 ne1635
  have F1666 := F1653.wr W1661
  have F1667 := F1654.other W1661 ne1636
  have F1668 := F1655.wr W1661
  have F1669 := F1656.other W1661 ne1637
  have F1670 := F1657.wr W1661
  have N1672 := Fr.snoc X1661 N1659 ge1638
  have Z1673 : n0 ≤ h1661.size := by rw [W1661.size]; exact Z1660
  have V1661' : Arv Z h1661 a1633 k1633 .int (2 : Int32) [(.int (1 : Int32)), (.int (2 : Int32))] (.int (0 : Int32)) := V1661
  refine g_aastoreA X1661 hx hZ e1661 F1667 O1579 (Ins.self F1670) 1 (by decide) (by decide) (by show 1 < 3; decide) 52 (hb hby at_51) rfl ?_
  intro T1674 h1674 X1674 e1674 W1674 V1674
  have F1675 := F1662.wr W1674
  have F1676 := F1663.other W1674 (Or.inl ne1580)
  have F1677 := F1664.other W1674 (Or.inl ne1580)
  have F1678 := F1665.other W1674 ne1581
  have F1679 := F1666.wr W1674
  have F1681 := F1668.wr W1674
  have F1682 := F1669.other W1674 (Ne.symm ne1591)
  have F1683 := F1670.wr W1674
  have F1684 := V1661'.other W1674 (Ne.symm ne1636)
  have N1685 := Fr.snoc X1674 N1672 ge1582
  have Z1686 : n0 ≤ h1674.size := by rw [W1674.size]; exact Z1673
  have V1674' : Arv Z h1674 a1579 k1579 (.array .int) (3 : Int32) [(.ref a1588), (.ref a1633), .null] .null := V1674
  refine g_dup X1674 hx 53 (hb hby at_52) rfl rfl ?_
  refine g_iconst X1674 hx (2 : Int32) 54 (hb hby at_53) rfl (by decide) ?_
  refine g_iconst X1674 hx (1 : Int32) 55 (hb hby at_54) rfl (by decide) ?_
  refine g_newP X1674 hx hZ (aty := .int) (hw _ (List.mem_of_getElem? (i := 16) rfl)) e1674 (by decide) (cap := 1) (by decide) (by decide) 57 (hb hby at_55) rfl (by decide) (by decide) (ad := "[I") (by decide) ?_
  intro T1687 h1687 k1687 a1687 g1687 X1687 e1687 E1687 V1687 A1687
  have ne1688 : a1568 ≠ a1687 := Nat.ne_of_lt (by rw [g1687]; exact F1675.lt)
  have ne1689 : vi ≠ a1687 := Nat.ne_of_lt (by rw [g1687]; exact F1678.lt)
  have ne1690 : a1579 ≠ a1687 := Nat.ne_of_lt (by rw [g1687]; exact F1679.lt)
  have ne1691 : a1588 ≠ a1687 := Nat.ne_of_lt (by rw [g1687]; exact F1681.lt)
  have ne1692 : a1633 ≠ a1687 := Nat.ne_of_lt (by rw [g1687]; exact F1683.lt)
  have ge1693 : n0 ≤ a1687 := by rw [g1687]; exact Z1686
  have F1694 := F1675.ext E1687
  have F1695 := F1676.ext E1687
  have F1696 := F1677.ext E1687
  have F1697 := F1678.ext E1687
  have F1698 := F1679.ext E1687
  have F1699 := V1674'.ext E1687
  have F1700 := F1681.ext E1687
  have F1701 := F1682.ext E1687
  have F1702 := F1683.ext E1687
  have F1703 := F1684.ext E1687
  have Z1704 : n0 ≤ h1687.size := Nat.le_trans Z1686 E1687.1
  have V1687' : Arv Z h1687 a1687 k1687 .int (1 : Int32) [(.int (0 : Int32))] (.int (0 : Int32)) := V1687.pad (pad_rep [] (.int (0 : Int32)) 1)
  refine g_dup X1687 hx 58 (hb hby at_57) rfl rfl ?_
  refine g_iconst X1687 hx (0 : Int32) 59 (hb hby at_58) rfl (by decide) ?_
  refine g_iconst X1687 hx (2 : Int32) 60 (hb hby at_59) rfl (by decide) ?_
  refine g_iastore X1687 hx hZ e1687 V1687' 0 (by decide) (by decide) (by show 0 < 1; decide) 61 (hb hby at_60) rfl ?_
  intro T1705 h1705 X1705 e1705 W1705 V1705
  have F1706 := F1694.wr W1705
  have F1707 := F1695.other W1705 (Or.inl ne1688)
  have F1708 := F1696.other W1705 (Or.inl ne1688)
  have F1709 := F1697.other W1705 ne1689
  have F1710 := F1698.wr W1705
  have F1711 := F1699.other W1705 ne1690
  have F1712 := F1700.wr W1705
  have F1713 := F1701.other W1705 ne1691
  have F1714 := F1702.wr W1705
  have F1715 := F1703.other W1705 ne1692
  have F1716 := A1687.wr W1705
  have N1718 := Fr.snoc X1705 N1685 ge1693
  have Z1719 : n0 ≤ h1705.size := by rw [W1705.size]; exact Z1704
  have V1705' : Arv Z h1705 a1687 k1687 .int (1 : Int32) [(.int (2 : Int32))] (.int (0 : Int32)) := V1705
  refine g_aastoreA X1705 hx hZ e1705 F1711 O1579 (Ins.self F1716) 2 (by decide) (by decide) (by show 2 < 3; decide) 62 (hb hby at_61) rfl ?_
  intro T1720 h1720 X1720 e1720 W1720 V1720
  have F1721 := F1706.wr W1720
  have F1722 := F1707.other W1720 (Or.inl ne1580)
  have F1723 := F1708.other W1720 (Or.inl ne1580)
  have F1724 := F1709.other W1720 ne1581
  have F1725 := F1710.wr W1720
  have F1727 := F1712.wr W1720
  have F1728 := F1713.other W1720 (Ne.symm ne1591)
  have F1729 := F1714.wr W1720
  have F1730 := F1715.other W1720 (Ne.symm ne1636)
  have F1731 := F1716.wr W1720
  have F1732 := V1705'.other W1720 (Ne.symm ne1690)
  have N1733 := Fr.snoc X1720 N1718 ge1582
  have Z1734 : n0 ≤ h1720.size := by rw [W1720.size]; exact Z1719
  have V1720' : Arv Z h1720 a1579 k1579 (.array .int) (3 : Int32) [(.ref a1588), (.ref a1633), (.ref a1687)] .null := V1720
  refine g_astore (l' := #[.val (.int p0), .val (.int p1), .val (.int p2), .val (.int p3), .val (.int p4), .val (.long la), .second, .val (.long lb), .second, .val (.ref a1568), .val (.ref a1579), .unset, .unset, .unset, .unset, .unset, .unset, .unset, .unset, .unset]) X1720 hx 64 (hb hby at_62) rfl rfl rfl ?_
  refine g_iconst X1720 hx (3 : Int32) 65 (hb hby at_64) rfl (by decide) ?_
  refine g_anewA X1720 hx hZ hown (ty := .double) (C := "[D") (by decide) (hw _ (List.mem_of_getElem? (i := 18) rfl)) (hw _ (List.mem_of_getElem? (i := 19) rfl)) e1720 (by decide) (cap := 3) (by decide) (by decide) 68 (hb hby at_65) rfl (by decide) (by decide) (ad := "[[D") (by decide) ?_
  intro T1735 h1735 k1735 a1735 g1735 X1735 e1735 E1735 V1735 A1735 O1735
  have ne1736 : a1568 ≠ a1735 := Nat.ne_of_lt (by rw [g1735]; exact F1721.lt)
  have ne1737 : vi ≠ a1735 := Nat.ne_of_lt (by rw [g1735]; exact F1724.lt)
  have ne1738 : a1579 ≠ a1735 := Nat.ne_of_lt (by rw [g1735]; exact F1725.lt)
  have ne1739 : a1588 ≠ a1735 := Nat.ne_of_lt (by rw [g1735]; exact F1727.lt)
  have ne1740 : a1633 ≠ a1735 := Nat.ne_of_lt (by rw [g1735]; exact F1729.lt)
  have ne1741 : a1687 ≠ a1735 := Nat.ne_of_lt (by rw [g1735]; exact F1731.lt)
  have ge1742 : n0 ≤ a1735 := by rw [g1735]; exact Z1734
  have F1743 := F1721.ext E1735
  have F1744 := F1722.ext E1735
  have F1745 := F1723.ext E1735
  have F1746 := F1724.ext E1735
  have F1747 := F1725.ext E1735
  have F1748 := V1720'.ext E1735
  have F1749 := F1727.ext E1735
  have F1750 := F1728.ext E1735
  have F1751 := F1729.ext E1735
  have F1752 := F1730.ext E1735
  have F1753 := F1731.ext E1735
  have F1754 := F1732.ext E1735
  have Z1755 : n0 ≤ h1735.size := Nat.le_trans Z1734 E1735.1
  have V1735' : Arv Z h1735 a1735 k1735 (.array .double) (3 : Int32) [.null, .null, .null] .null := V1735.pad (pad_rep [] .null 3)
  refine g_dup X1735 hx 69 (hb hby at_68) rfl rfl ?_
  refine g_iconst X1735 hx (0 : Int32) 70 (hb hby at_69) rfl (by decide) ?_
  refine g_iconst X1735 hx (2 : Int32) 71 (hb hby at_70) rfl (by decide) ?_
  refine g_newP X1735 hx hZ (aty := .double) (hw _ (List.mem_of_getElem? (i := 11) rfl)) e1735 (by decide) (cap := 2) (by decide) (by decide) 73 (hb hby at_71) rfl (by decide) (by decide) (ad := "[D") (by decide) ?_
  intro T1756 h1756 k1756 a1756 g1756 X1756 e1756 E1756 V1756 A1756
  have ne1757 : a1568 ≠ a1756 := Nat.ne_of_lt (by rw [g1756]; exact F1743.lt)
  have ne1758 : vi ≠ a1756 := Nat.ne_of_lt (by rw [g1756]; exact F1746.lt)
  have ne1759 : a1579 ≠ a1756 := Nat.ne_of_lt (by rw [g1756]; exact F1747.lt)
  have ne1760 : a1588 ≠ a1756 := Nat.ne_of_lt (by rw [g1756]; exact F1749.lt)
  have ne1761 : a1633 ≠ a1756 := Nat.ne_of_lt (by rw [g1756]; exact F1751.lt)
  have ne1762 : a1687 ≠ a1756 := Nat.ne_of_lt (by rw [g1756]; exact F1753.lt)
  have ne1763 : a1735 ≠ a1756 := Nat.ne_of_lt (by rw [g1756]; exact A1735.lt)
  have ge1764 : n0 ≤ a1756 := by rw [g1756]; exact Z1755
  have F1765 := F1743.ext E1756
  have F1766 := F1744.ext E1756
  have F1767 := F1745.ext E1756
  have F1768 := F1746.ext E1756
  have F1769 := F1747.ext E1756
  have F1770 := F1748.ext E1756
  have F1771 := F1749.ext E1756
  have F1772 := F1750.ext E1756
  have F1773 := F1751.ext E1756
  have F1774 := F1752.ext E1756
  have F1775 := F1753.ext E1756
  have F1776 := F1754.ext E1756
  have F1777 := A1735.ext E1756
  have F1778 := V1735'.ext E1756
  have Z1779 : n0 ≤ h1756.size := Nat.le_trans Z1755 E1756.1
  have V1756' : Arv Z h1756 a1756 k1756 .double (2 : Int32) [(.double (0 : UInt64)), (.double (0 : UInt64))] (.double (0 : UInt64)) := V1756.pad (pad_rep [] (.double (0 : UInt64)) 2)
  refine g_dup X1756 hx 74 (hb hby at_73) rfl rfl ?_
  refine g_iconst X1756 hx (0 : Int32) 75 (hb hby at_74) rfl (by decide) ?_
  refine g_dconst1 X1756 hx 76 (hb hby at_75) rfl ?_
  refine g_dastore X1756 hx hZ e1756 V1756' 0 (by decide) (by decide) (by show 0 < 2; decide) 77 (hb hby at_76) rfl ?_
  intro T1780 h1780 X1780 e1780 W1780 V1780
  have F1781 := F1765.wr W1780
  have F1782 := F1766.other W1780 (Or.inl ne1757)
  have F1783 := F1767.other W1780 (Or.inl ne1757)
  have F1784 := F1768.other W1780 ne1758
  have F1785 := F1769.wr W1780
  have F1786 := F1770.other W1780 ne1759
  have F1787 := F1771.wr W1780
  have F1788 := F1772.other W1780 ne1760
  have F1789 := F1773.wr W1780
  have F1790 := F1774.other W1780 ne1761
  have F1791 := F1775.wr W1780
  have F1792 := F1776.other W1780 ne1762
  have F1793 := F1777.wr W1780
  have F1794 := F1778.other W1780 ne1763
  have F1795 := A1756.wr W1780
  have N1797 := Fr.snoc X1780 N1733 ge1764
  have Z1798 : n0 ≤ h1780.size := by rw [W1780.size]; exact Z1779
  have V1780' : Arv Z h1780 a1756 k1756 .double (2 : Int32) [(.double 4607182418800017408), (.double (0 : UInt64))] (.double (0 : UInt64)) := V1780
  refine g_dup X1780 hx 78 (hb hby at_77) rfl rfl ?_
  refine g_iconst X1780 hx (1 : Int32) 79 (hb hby at_78) rfl (by decide) ?_
  refine g_lload X1780 hx 81 (hb hby at_79) rfl rfl ?_
  refine g_l2d X1780 hx 82 (hb hby at_81) rfl ?_
  refine g_dastore X1780 hx hZ e1780 V1780' 1 (by decide) (by decide) (by show 1 < 2; decide) 83 (hb hby at_82) rfl ?_
  intro T1799 h1799 X1799 e1799 W1799 V1799
  have F1800 := F1781.wr W1799
  have F1801 := F1782.other W1799 (Or.inl ne1757)
  have F1802 := F1783.other W1799 (Or.inl ne1757)
  have F1803 := F1784.other W1799 ne1758
  have F1804 := F1785.wr W1799
  have F1805 := F1786.other W1799 ne1759
  have F1806 := F1787.wr W1799
  have F1807 := F1788.other W1799 ne1760
  have F1808 := F1789.wr W1799
  have F1809 := F1790.other W1799 ne1761
  have F1810 := F1791.wr W1799
  have F1811 := F1792.other W1799 ne1762
  have F1812 := F1793.wr W1799
  have F1813 := F1794.other W1799 ne1763
  have F1814 := F1795.wr W1799
  have N1816 := Fr.snoc X1799 N1797 ge1764
  have Z1817 : n0 ≤ h1799.size := by rw [W1799.size]; exact Z1798
  have V1799' : Arv Z h1799 a1756 k1756 .double (2 : Int32) [(.double 4607182418800017408), (.double (FP.l2d la))] (.double (0 : UInt64)) := V1799
  refine g_aastoreA X1799 hx hZ e1799 F1813 O1735 (Ins.self F1814) 0 (by decide) (by decide) (by show 0 < 3; decide) 84 (hb hby at_83) rfl ?_
  intro T1818 h1818 X1818 e1818 W1818 V1818
  have F1819 := F1800.wr W1818
  have F1820 := F1801.other W1818 (Or.inl ne1736)
  have F1821 := F1802.other W1818 (Or.inl ne1736)
  have F1822 := F1803.other W1818 ne1737
  have F1823 := F1804.wr W1818
  have F1824 := F1805.other W1818 ne1738
  have F1825 := F1806.wr W1818
  have F1826 := F1807.other W1818 ne1739
  have F1827 := F1808.wr W1818
  have F1828 := F1809.other W1818 ne1740
  have F1829 := F1810.wr W1818
  have F1830 := F1811.other W1818 ne1741
  have F1831 := F1812.wr W1818
  have F1833 := F1814.wr W1818
  have F1834 := V1799'.other W1818 (Ne.symm ne1763)
  have N1835 := Fr.snoc X1818 N1816 ge1742
  have Z1836 : n0 ≤ h1818.size := by rw [W1818.size]; exact Z1817
  have V1818' : Arv Z h1818 a1735 k1735 (.array .double) (3 : Int32) [(.ref a1756), .null, .null] .null := V1818
  refine g_dup X1818 hx 85 (hb hby at_84) rfl rfl ?_
  refine g_iconst X1818 hx (1 : Int32) 86 (hb hby at_85) rfl (by decide) ?_
  refine g_iconst X1818 hx (2 : Int32) 87 (hb hby at_86) rfl (by decide) ?_
  refine g_newP X1818 hx hZ (aty := .double) (hw _ (List.mem_of_getElem? (i := 11) rfl)) e1818 (by decide) (cap := 2) (by decide) (by decide) 89 (hb hby at_87) rfl (by decide) (by decide) (ad := "[D") (by decide) ?_
  intro T1837 h1837 k1837 a1837 g1837 X1837 e1837 E1837 V1837 A1837
  have ne1838 : a1568 ≠ a1837 := Nat.ne_of_lt (by rw [g1837]; exact F1819.lt)
  have ne1839 : vi ≠ a1837 := Nat.ne_of_lt (by rw [g1837]; exact F1822.lt)
  have ne1840 : a1579 ≠ a1837 := Nat.ne_of_lt (by rw [g1837]; exact F1823.lt)
  have ne1841 : a1588 ≠ a1837 := Nat.ne_of_lt (by rw [g1837]; exact F1825.lt)
  have ne1842 : a1633 ≠ a1837 := Nat.ne_of_lt (by rw [g1837]; exact F1827.lt)
  have ne1843 : a1687 ≠ a1837 := Nat.ne_of_lt (by rw [g1837]; exact F1829.lt)
  have ne1844 : a1735 ≠ a1837 := Nat.ne_of_lt (by rw [g1837]; exact F1831.lt)
  have ne1845 : a1756 ≠ a1837 := Nat.ne_of_lt (by rw [g1837]; exact F1833.lt)
  have ge1846 : n0 ≤ a1837 := by rw [g1837]; exact Z1836
  have F1847 := F1819.ext E1837
  have F1848 := F1820.ext E1837
  have F1849 := F1821.ext E1837
  have F1850 := F1822.ext E1837
  have F1851 := F1823.ext E1837
  have F1852 := F1824.ext E1837
  have F1853 := F1825.ext E1837
  have F1854 := F1826.ext E1837
  have F1855 := F1827.ext E1837
  have F1856 := F1828.ext E1837
  have F1857 := F1829.ext E1837
  have F1858 := F1830.ext E1837
  have F1859 := F1831.ext E1837
  have F1860 := V1818'.ext E1837
  have F1861 := F1833.ext E1837
  have F1862 := F1834.ext E1837
  have Z1863 : n0 ≤ h1837.size := Nat.le_trans Z1836 E1837.1
  have V1837' : Arv Z h1837 a1837 k1837 .double (2 : Int32) [(.double (0 : UInt64)), (.double (0 : UInt64))] (.double (0 : UInt64)) := V1837.pad (pad_rep [] (.double (0 : UInt64)) 2)
  refine g_dup X1837 hx 90 (hb hby at_89) rfl rfl ?_
  refine g_iconst X1837 hx (0 : Int32) 91 (hb hby at_90) rfl (by decide) ?_
  refine g_dconst1 X1837 hx 92 (hb hby at_91) rfl ?_
  refine g_dastore X1837 hx hZ e1837 V1837' 0 (by decide) (by decide) (by show 0 < 2; decide) 93 (hb hby at_92) rfl ?_
  intro T1864 h1864 X1864 e1864 W1864 V1864
  have F1865 := F1847.wr W1864
  have F1866 := F1848.other W1864 (Or.inl ne1838)
  have F1867 := F1849.other W1864 (Or.inl ne1838)
  have F1868 := F1850.other W1864 ne1839
  have F1869 := F1851.wr W1864
  have F1870 := F1852.other W1864 ne1840
  have F1871 := F1853.wr W1864
  have F1872 := F1854.other W1864 ne1841
  have F1873 := F1855.wr W1864
  have F1874 := F1856.other W1864 ne1842
  have F1875 := F1857.wr W1864
  have F1876 := F1858.other W1864 ne1843
  have F1877 := F1859.wr W1864
  have F1878 := F1860.other W1864 ne1844
  have F1879 := F1861.wr W1864
  have F1880 := F1862.other W1864 ne1845
  have F1881 := A1837.wr W1864
  have N1883 := Fr.snoc X1864 N1835 ge1846
  have Z1884 : n0 ≤ h1864.size := by rw [W1864.size]; exact Z1863
  have V1864' : Arv Z h1864 a1837 k1837 .double (2 : Int32) [(.double 4607182418800017408), (.double (0 : UInt64))] (.double (0 : UInt64)) := V1864
  refine g_dup X1864 hx 94 (hb hby at_93) rfl rfl ?_
  refine g_iconst X1864 hx (1 : Int32) 95 (hb hby at_94) rfl (by decide) ?_
  refine g_lload X1864 hx 97 (hb hby at_95) rfl rfl ?_
  refine g_l2d X1864 hx 98 (hb hby at_97) rfl ?_
  refine g_dastore X1864 hx hZ e1864 V1864' 1 (by decide) (by decide) (by show 1 < 2; decide) 99 (hb hby at_98) rfl ?_
  intro T1885 h1885 X1885 e1885 W1885 V1885
  have F1886 := F1865.wr W1885
  have F1887 := F1866.other W1885 (Or.inl ne1838)
  have F1888 := F1867.other W1885 (Or.inl ne1838)
  have F1889 := F1868.other W1885 ne1839
  have F1890 := F1869.wr W1885
  have F1891 := F1870.other W1885 ne1840
  have F1892 := F1871.wr W1885
  have F1893 := F1872.other W1885 ne1841
  have F1894 := F1873.wr W1885
  have F1895 := F1874.other W1885 ne1842
  have F1896 := F1875.wr W1885
  have F1897 := F1876.other W1885 ne1843
  have F1898 := F1877.wr W1885
  have F1899 := F1878.other W1885 ne1844
  have F1900 := F1879.wr W1885
  have F1901 := F1880.other W1885 ne1845
  have F1902 := F1881.wr W1885
  have N1904 := Fr.snoc X1885 N1883 ge1846
  have Z1905 : n0 ≤ h1885.size := by rw [W1885.size]; exact Z1884
  have V1885' : Arv Z h1885 a1837 k1837 .double (2 : Int32) [(.double 4607182418800017408), (.double (FP.l2d lb))] (.double (0 : UInt64)) := V1885
  refine g_aastoreA X1885 hx hZ e1885 F1899 O1735 (Ins.self F1902) 1 (by decide) (by decide) (by show 1 < 3; decide) 100 (hb hby at_99) rfl ?_
  intro T1906 h1906 X1906 e1906 W1906 V1906
  have F1907 := F1886.wr W1906
  have F1908 := F1887.other W1906 (Or.inl ne1736)
  have F1909 := F1888.other W1906 (Or.inl ne1736)
  have F1910 := F1889.other W1906 ne1737
  have F1911 := F1890.wr W1906
  have F1912 := F1891.other W1906 ne1738
  have F1913 := F1892.wr W1906
  have F1914 := F1893.other W1906 ne1739
  have F1915 := F1894.wr W1906
  have F1916 := F1895.other W1906 ne1740
  have F1917 := F1896.wr W1906
  have F1918 := F1897.other W1906 ne1741
  have F1919 := F1898.wr W1906
  have F1921 := F1900.wr W1906
  have F1922 := F1901.other W1906 (Ne.symm ne1763)
  have F1923 := F1902.wr W1906
  have F1924 := V1885'.other W1906 (Ne.symm ne1844)
  have N1925 := Fr.snoc X1906 N1904 ge1742
  have Z1926 : n0 ≤ h1906.size := by rw [W1906.size]; exact Z1905
  have V1906' : Arv Z h1906 a1735 k1735 (.array .double) (3 : Int32) [(.ref a1756), (.ref a1837), .null] .null := V1906
  refine g_dup X1906 hx 101 (hb hby at_100) rfl rfl ?_
  refine g_iconst X1906 hx (2 : Int32) 102 (hb hby at_101) rfl (by decide) ?_
  refine g_iconst X1906 hx (1 : Int32) 103 (hb hby at_102) rfl (by decide) ?_
  refine g_newP X1906 hx hZ (aty := .double) (hw _ (List.mem_of_getElem? (i := 11) rfl)) e1906 (by decide) (cap := 1) (by decide) (by decide) 105 (hb hby at_103) rfl (by decide) (by decide) (ad := "[D") (by decide) ?_
  intro T1927 h1927 k1927 a1927 g1927 X1927 e1927 E1927 V1927 A1927
  have ne1928 : a1568 ≠ a1927 := Nat.ne_of_lt (by rw [g1927]; exact F1907.lt)
  have ne1929 : vi ≠ a1927 := Nat.ne_of_lt (by rw [g1927]; exact F1910.lt)
  have ne1930 : a1579 ≠ a1927 := Nat.ne_of_lt (by rw [g1927]; exact F1911.lt)
  have ne1931 : a1588 ≠ a1927 := Nat.ne_of_lt (by rw [g1927]; exact F1913.lt)
  have ne1932 : a1633 ≠ a1927 := Nat.ne_of_lt (by rw [g1927]; exact F1915.lt)
  have ne1933 : a1687 ≠ a1927 := Nat.ne_of_lt (by rw [g1927]; exact F1917.lt)
  have ne1934 : a1735 ≠ a1927 := Nat.ne_of_lt (by rw [g1927]; exact F1919.lt)
  have ne1935 : a1756 ≠ a1927 := Nat.ne_of_lt (by rw [g1927]; exact F1921.lt)
  have ne1936 : a1837 ≠ a1927 := Nat.ne_of_lt (by rw [g1927]; exact F1923.lt)
  have ge1937 : n0 ≤ a1927 := by rw [g1927]; exact Z1926
  have F1938 := F1907.ext E1927
  have F1939 := F1908.ext E1927
  have F1940 := F1909.ext E1927
  have F1941 := F1910.ext E1927
  have F1942 := F1911.ext E1927
  have F1943 := F1912.ext E1927
  have F1944 := F1913.ext E1927
  have F1945 := F1914.ext E1927
  have F1946 := F1915.ext E1927
  have F1947 := F1916.ext E1927
  have F1948 := F1917.ext E1927
  have F1949 := F1918.ext E1927
  have F1950 := F1919.ext E1927
  have F1951 := V1906'.ext E1927
  have F1952 := F1921.ext E1927
  have F1953 := F1922.ext E1927
  have F1954 := F1923.ext E1927
  have F1955 := F1924.ext E1927
  have Z1956 : n0 ≤ h1927.size := Nat.le_trans Z1926 E1927.1
  have V1927' : Arv Z h1927 a1927 k1927 .double (1 : Int32) [(.double (0 : UInt64))] (.double (0 : UInt64)) := V1927.pad (pad_rep [] (.double (0 : UInt64)) 1)
  refine g_dup X1927 hx 106 (hb hby at_105) rfl rfl ?_
  refine g_iconst X1927 hx (0 : Int32) 107 (hb hby at_106) rfl (by decide) ?_
  refine g_dconst1 X1927 hx 108 (hb hby at_107) rfl ?_
  refine g_dastore X1927 hx hZ e1927 V1927' 0 (by decide) (by decide) (by show 0 < 1; decide) 109 (hb hby at_108) rfl ?_
  intro T1957 h1957 X1957 e1957 W1957 V1957
  have F1958 := F1938.wr W1957
  have F1959 := F1939.other W1957 (Or.inl ne1928)
  have F1960 := F1940.other W1957 (Or.inl ne1928)
  have F1961 := F1941.other W1957 ne1929
  have F1962 := F1942.wr W1957
  have F1963 := F1943.other W1957 ne1930
  have F1964 := F1944.wr W1957
  have F1965 := F1945.other W1957 ne1931
  have F1966 := F1946.wr W1957
  have F1967 := F1947.other W1957 ne1932
  have F1968 := F1948.wr W1957
  have F1969 := F1949.other W1957 ne1933
  have F1970 := F1950.wr W1957
  have F1971 := F1951.other W1957 ne1934
  have F1972 := F1952.wr W1957
  have F1973 := F1953.other W1957 ne1935
  have F1974 := F1954.wr W1957
  have F1975 := F1955.other W1957 ne1936
  have F1976 := A1927.wr W1957
  have N1978 := Fr.snoc X1957 N1925 ge1937
  have Z1979 : n0 ≤ h1957.size := by rw [W1957.size]; exact Z1956
  have V1957' : Arv Z h1957 a1927 k1927 .double (1 : Int32) [(.double 4607182418800017408)] (.double (0 : UInt64)) := V1957
  refine g_aastoreA X1957 hx hZ e1957 F1971 O1735 (Ins.self F1976) 2 (by decide) (by decide) (by show 2 < 3; decide) 110 (hb hby at_109) rfl ?_
  intro T1980 h1980 X1980 e1980 W1980 V1980
  have F1981 := F1958.wr W1980
  have F1982 := F1959.other W1980 (Or.inl ne1736)
  have F1983 := F1960.other W1980 (Or.inl ne1736)
  have F1984 := F1961.other W1980 ne1737
  have F1985 := F1962.wr W1980
  have F1986 := F1963.other W1980 ne1738
  have F1987 := F1964.wr W1980
  have F1988 := F1965.other W1980 ne1739
  have F1989 := F1966.wr W1980
  have F1990 := F1967.other W1980 ne1740
  have F1991 := F1968.wr W1980
  have F1992 := F1969.other W1980 ne1741
  have F1993 := F1970.wr W1980
  have F1995 := F1972.wr W1980
  have F1996 := F1973.other W1980 (Ne.symm ne1763)
  have F1997 := F1974.wr W1980
  have F1998 := F1975.other W1980 (Ne.symm ne1844)
  have F1999 := F1976.wr W1980
  have F2000 := V1957'.other W1980 (Ne.symm ne1934)
  have N2001 := Fr.snoc X1980 N1978 ge1742
  have Z2002 : n0 ≤ h1980.size := by rw [W1980.size]; exact Z1979
  have V1980' : Arv Z h1980 a1735 k1735 (.array .double) (3 : Int32) [(.ref a1756), (.ref a1837), (.ref a1927)] .null := V1980
  refine g_astore (l' := #[.val (.int p0), .val (.int p1), .val (.int p2), .val (.int p3), .val (.int p4), .val (.long la), .second, .val (.long lb), .second, .val (.ref a1568), .val (.ref a1579), .val (.ref a1735), .unset, .unset, .unset, .unset, .unset, .unset, .unset, .unset]) X1980 hx 112 (hb hby at_110) rfl rfl rfl ?_
  refine g_aload X1980 hx 114 (hb hby at_112) rfl rfl rfl ?_
  refine g_aload X1980 hx 116 (hb hby at_114) rfl rfl rfl ?_
  refine g_aload X1980 hx 118 (hb hby at_116) rfl rfl rfl ?_
  have ha := Jvm.FP.Core.l2d_int (a := la) (by omega)
  have hb_ := Jvm.FP.Core.l2d_int (a := lb) (by omega)
  refine g_virt X1980 hx hZ (C := "com/example/tracefold/tracefold/mining/DenseInverse") hown (hw _ (List.mem_of_getElem? (i := 21) rfl)) (hw _ (List.mem_of_getElem? (i := 22) rfl)) (hw _ (List.mem_of_getElem? (i := 24) rfl)) (hw _ (List.mem_of_getElem? (i := 24) rfl)) (hw _ (List.mem_of_getElem? (i := 23) rfl)) (hw _ (List.mem_of_getElem? (i := 2) rfl)) (hw _ (List.mem_of_getElem? (i := 25) rfl)) (by decide) (rmV l Z a0 hw a1568 a1579 a1735 h1980 n0 Z2002 vi a1588 a1633 a1687 a1756 a1837 a1927 kv k1579 k1735 k1588 k1633 k1687 k1756 k1837 k1927 la.toInt lb.toInt (FP.l2d la) (FP.l2d lb) ha hb_ bla blb bab F1981 F1982 F1983 F1984 F1986 V1980' F1988 F1990 F1992 F1996 F1998 F2000 gv n2 (Ne.symm ne1581) (Ne.symm ne1737) (Ne.symm ne1590) (Ne.symm ne1635) (Ne.symm ne1689) (Ne.symm ne1758) (Ne.symm ne1839) (Ne.symm ne1929)) e1980 (b := a1568) F1981 (argsL := [(.ref a1579), (.ref a1735)]) (rest := []) rfl rfl 0 121 rfl (by rw [hml]; rfl) (lenOf own_pd2 rfl) (Nat.le_refl _) (by decide) (by decide) (by decide) (by decide) (hb hby at_118) ?_
  intro v2003 T2003 L2003 X2003 hQ2003
  obtain ⟨rfl, N2003, K2003, x0, x1, x2, x3, x4, x5, x6, x7, x8, Vv2003, hx0, hx1, hx2, hx3, hx4, hx5, hx6, hx7, hx8⟩ := hQ2003
  have N2004 := Fr.app N2001 N2003
  have F2005 := F1981.keep K2003
  have F2006 := F1982.keep K2003 (ninS n2 nin0)
  have F2007 := F1983.keep K2003 (ninS n2 nin0)
  have F2009 := F1985.keep K2003
  have F2010 := F1986.keep K2003 (ninS (Ne.symm ne1581) nin0)
  have F2011 := F1987.keep K2003
  have F2012 := F1988.keep K2003 (ninS (Ne.symm ne1590) nin0)
  have F2013 := F1989.keep K2003
  have F2014 := F1990.keep K2003 (ninS (Ne.symm ne1635) nin0)
  have F2015 := F1991.keep K2003
  have F2016 := F1992.keep K2003 (ninS (Ne.symm ne1689) nin0)
  have F2017 := F1993.keep K2003
  have F2018 := V1980'.keep K2003 (ninS (Ne.symm ne1737) nin0)
  have F2019 := F1995.keep K2003
  have F2020 := F1996.keep K2003 (ninS (Ne.symm ne1758) nin0)
  have F2021 := F1997.keep K2003
  have F2022 := F1998.keep K2003 (ninS (Ne.symm ne1839) nin0)
  have F2023 := F1999.keep K2003
  have F2024 := F2000.keep K2003 (ninS (Ne.symm ne1929) nin0)
  have Z2025 : n0 ≤ T2003.heap.size := Nat.le_trans Z2002 K2003.1
  show Go p e below _ T2003 (mkF m 121 #[.val (.int p0), .val (.int p1), .val (.int p2), .val (.int p3), .val (.int p4), .val (.long la), .second, .val (.long lb), .second, .val (.ref a1568), .val (.ref a1579), .val (.ref a1735), .unset, .unset, .unset, .unset, .unset, .unset, .unset, .unset] [(.int (1 : Int32))])
  have ll2027 : ((1 : Int32) : Int32).toInt = 1 := by decide
  refine g_if_ne X2003 hx 126 124 (hb hby at_121) (by decide) (by decide) rfl (fun c2026 => ?_) (fun c2026 => ?_)
  · skip
    refine g_iconst X2003 hx (3 : Int32) 127 (hb hby at_126) rfl (by decide) ?_
    refine g_newP X2003 hx hZ (aty := .double) (hw _ (List.mem_of_getElem? (i := 11) rfl)) rfl (by decide) (cap := 3) (by decide) (by decide) 129 (hb hby at_127) rfl (by decide) (by decide) (ad := "[D") (by decide) ?_
    intro T2028 h2028 k2028 a2028 g2028 X2028 e2028 E2028 V2028 A2028
    have ne2029 : a1568 ≠ a2028 := Nat.ne_of_lt (by rw [g2028]; exact F2005.lt)
    have ne2030 : vi ≠ a2028 := Nat.ne_of_lt (by rw [g2028]; exact Vv2003.lt)
    have ge2031 : n0 ≤ a2028 := by rw [g2028]; exact Z2025
    have F2032 := F2005.ext E2028
    have F2033 := F2006.ext E2028
    have F2034 := F2007.ext E2028
    have F2035 := Vv2003.ext E2028
    have Z2036 : n0 ≤ h2028.size := Nat.le_trans Z2025 E2028.1
    have V2028' : Arv Z h2028 a2028 k2028 .double (3 : Int32) [(.double (0 : UInt64)), (.double (0 : UInt64)), (.double (0 : UInt64))] (.double (0 : UInt64)) := V2028.pad (pad_rep [] (.double (0 : UInt64)) 3)
    refine g_dup X2028 hx 130 (hb hby at_129) rfl rfl ?_
    refine g_iconst X2028 hx (0 : Int32) 131 (hb hby at_130) rfl (by decide) ?_
    refine g_iloadN X2028 hx 132 (hb hby at_131) rfl rfl ?_
    refine g_i2d X2028 hx 133 (hb hby at_132) rfl ?_
    refine g_dastore X2028 hx hZ e2028 V2028' 0 (by decide) (by decide) (by show 0 < 3; decide) 134 (hb hby at_133) rfl ?_
    intro T2037 h2037 X2037 e2037 W2037 V2037
    have F2038 := F2032.wr W2037
    have F2039 := F2033.other W2037 (Or.inl ne2029)
    have F2040 := F2034.other W2037 (Or.inl ne2029)
    have F2041 := F2035.other W2037 ne2030
    have F2042 := A2028.wr W2037
    have N2044 := Fr.snoc X2037 N2004 ge2031
    have Z2045 : n0 ≤ h2037.size := by rw [W2037.size]; exact Z2036
    have V2037' : Arv Z h2037 a2028 k2028 .double (3 : Int32) [(.double (FP.i2d p2)), (.double (0 : UInt64)), (.double (0 : UInt64))] (.double (0 : UInt64)) := V2037
    refine g_dup X2037 hx 135 (hb hby at_134) rfl rfl ?_
    refine g_iconst X2037 hx (1 : Int32) 136 (hb hby at_135) rfl (by decide) ?_
    refine g_iloadN X2037 hx 137 (hb hby at_136) rfl rfl ?_
    refine g_i2d X2037 hx 138 (hb hby at_137) rfl ?_
    refine g_dastore X2037 hx hZ e2037 V2037' 1 (by decide) (by decide) (by show 1 < 3; decide) 139 (hb hby at_138) rfl ?_
    intro T2046 h2046 X2046 e2046 W2046 V2046
    have F2047 := F2038.wr W2046
    have F2048 := F2039.other W2046 (Or.inl ne2029)
    have F2049 := F2040.other W2046 (Or.inl ne2029)
    have F2050 := F2041.other W2046 ne2030
    have F2051 := F2042.wr W2046
    have N2053 := Fr.snoc X2046 N2044 ge2031
    have Z2054 : n0 ≤ h2046.size := by rw [W2046.size]; exact Z2045
    have V2046' : Arv Z h2046 a2028 k2028 .double (3 : Int32) [(.double (FP.i2d p2)), (.double (FP.i2d p3)), (.double (0 : UInt64))] (.double (0 : UInt64)) := V2046
    refine g_dup X2046 hx 140 (hb hby at_139) rfl rfl ?_
    refine g_iconst X2046 hx (2 : Int32) 141 (hb hby at_140) rfl (by decide) ?_
    refine g_iload X2046 hx 143 (hb hby at_141) rfl rfl ?_
    refine g_i2d X2046 hx 144 (hb hby at_143) rfl ?_
    refine g_dastore X2046 hx hZ e2046 V2046' 2 (by decide) (by decide) (by show 2 < 3; decide) 145 (hb hby at_144) rfl ?_
    intro T2055 h2055 X2055 e2055 W2055 V2055
    have F2056 := F2047.wr W2055
    have F2057 := F2048.other W2055 (Or.inl ne2029)
    have F2058 := F2049.other W2055 (Or.inl ne2029)
    have F2059 := F2050.other W2055 ne2030
    have F2060 := F2051.wr W2055
    have N2062 := Fr.snoc X2055 N2053 ge2031
    have Z2063 : n0 ≤ h2055.size := by rw [W2055.size]; exact Z2054
    have V2055' : Arv Z h2055 a2028 k2028 .double (3 : Int32) [(.double (FP.i2d p2)), (.double (FP.i2d p3)), (.double (FP.i2d p4))] (.double (0 : UInt64)) := V2055
    refine g_astore (l' := #[.val (.int p0), .val (.int p1), .val (.int p2), .val (.int p3), .val (.int p4), .val (.long la), .second, .val (.long lb), .second, .val (.ref a1568), .val (.ref a1579), .val (.ref a1735), .val (.ref a2028), .unset, .unset, .unset, .unset, .unset, .unset, .unset]) X2055 hx 147 (hb hby at_145) rfl rfl rfl ?_
    refine g_aload X2055 hx 149 (hb hby at_147) rfl rfl rfl ?_
    refine g_aload X2055 hx 151 (hb hby at_149) rfl rfl rfl ?_
    have r1 := rng32 p2
    have r2 := rng32 p3
    have r3 := rng32 p4
    have m1 := own_mb (x := la.toInt) (y := p3.toInt) (A := 128) (B := 2147483648) (by omega) (by omega)
    have m2 := own_mb (x := la.toInt * lb.toInt) (y := p4.toInt) (A := 20000) (B := 2147483648) (by omega) (by omega)
    have m3 := own_mb (x := lb.toInt) (y := p4.toInt) (A := 128) (B := 2147483648) (by omega) (by omega)
    have s1 : -la.toInt * p3.toInt = -(la.toInt * p3.toInt) := Int.neg_mul _ _
    have s2 : -lb.toInt * p4.toInt = -(lb.toInt * p4.toInt) := Int.neg_mul _ _
    refine g_virt X2055 hx hZ (C := "com/example/tracefold/tracefold/mining/DenseInverse") hown (hw _ (List.mem_of_getElem? (i := 39) rfl)) (hw _ (List.mem_of_getElem? (i := 40) rfl)) (hw _ (List.mem_of_getElem? (i := 42) rfl)) (hw _ (List.mem_of_getElem? (i := 42) rfl)) (hw _ (List.mem_of_getElem? (i := 41) rfl)) (hw _ (List.mem_of_getElem? (i := 2) rfl)) (hw _ (List.mem_of_getElem? (i := 43) rfl)) (by decide) (rmT l Z a0 hw a1568 a2028 h2055 n0 Z2063 vi kv k2028 1 (-la.toInt) (la.toInt * lb.toInt) 0 1 (-lb.toInt) 0 0 1 p2.toInt p3.toInt p4.toInt x0 x1 x2 x3 x4 x5 x6 x7 x8 (FP.i2d p2) (FP.i2d p3) (FP.i2d p4) (by omega) F2056 F2057 F2058 F2059 V2055' hx0 hx1 hx2 hx3 hx4 hx5 hx6 hx7 hx8 (Jvm.FP.Core.i2d_int p2) (Jvm.FP.Core.i2d_int p3) (Jvm.FP.Core.i2d_int p4)) e2055 (b := a1568) F2056 (argsL := [(.ref a2028)]) (rest := []) rfl rfl 0 154 rfl (by rw [hml]; rfl) (lenOf own_pd6 rfl) (Nat.le_refl _) (by decide) (by decide) (by decide) (by decide) (hb hby at_151) ?_
    intro v2064 T2064 L2064 X2064 hQ2064
    obtain ⟨r, kr, q0, q1, q2, rfl, N2064, K2064, sr, Vr, hq0, hq1, hq2⟩ := hQ2064
    have N2065 := Fr.app N2062 N2064
    have F2066 := F2056.keep K2064
    have F2067 := F2057.keep K2064 nin0
    have F2068 := F2058.keep K2064 nin0
    have F2069 := F2059.keep K2064 nin0
    have F2070 := F2060.keep K2064
    have F2071 := V2055'.keep K2064 nin0
    have Z2072 : n0 ≤ T2064.heap.size := Nat.le_trans Z2063 K2064.1
    show Go p e below _ T2064 (mkF m 154 #[.val (.int p0), .val (.int p1), .val (.int p2), .val (.int p3), .val (.int p4), .val (.long la), .second, .val (.long lb), .second, .val (.ref a1568), .val (.ref a1579), .val (.ref a1735), .val (.ref a2028), .unset, .unset, .unset, .unset, .unset, .unset, .unset] [(.ref r)])
    refine g_astore (l' := #[.val (.int p0), .val (.int p1), .val (.int p2), .val (.int p3), .val (.int p4), .val (.long la), .second, .val (.long lb), .second, .val (.ref a1568), .val (.ref a1579), .val (.ref a1735), .val (.ref a2028), .val (.ref r), .unset, .unset, .unset, .unset, .unset, .unset]) X2064 hx 156 (hb hby at_154) rfl rfl rfl ?_
    refine g_aload X2064 hx 158 (hb hby at_156) rfl rfl rfl ?_
    refine g_len X2064 hx hZ rfl Vr 159 (hb hby at_158) rfl ?_
    refine g_iconst X2064 hx (3 : Int32) 160 (hb hby at_159) rfl (by decide) ?_
    have ll2074 : ((3 : Int32) : Int32).toInt = 3 := by decide
    have ll2075 : ((3 : Int32) : Int32).toInt = 3 := by decide
    refine g_ic_eq X2064 hx 165 163 (hb hby at_160) (by decide) (by decide) rfl (fun c2073 => ?_) (fun c2073 => ?_)
    · skip
      refine g_iloadN X2064 hx 166 (hb hby at_165) rfl rfl ?_
      refine g_i2l X2064 hx 167 (hb hby at_166) rfl ?_
      refine g_lload X2064 hx 169 (hb hby at_167) rfl rfl ?_
      refine g_iloadN X2064 hx 170 (hb hby at_169) rfl rfl ?_
      refine g_i2l X2064 hx 171 (hb hby at_170) rfl ?_
      refine g_lmul X2064 hx 172 (hb hby at_171) rfl ?_
      refine g_lsub X2064 hx 173 (hb hby at_172) rfl ?_
      refine g_lload X2064 hx 175 (hb hby at_173) rfl rfl ?_
      refine g_lload X2064 hx 177 (hb hby at_175) rfl rfl ?_
      refine g_lmul X2064 hx 178 (hb hby at_177) rfl ?_
      refine g_iload X2064 hx 180 (hb hby at_178) rfl rfl ?_
      refine g_i2l X2064 hx 181 (hb hby at_180) rfl ?_
      refine g_lmul X2064 hx 182 (hb hby at_181) rfl ?_
      refine g_ladd X2064 hx 183 (hb hby at_182) rfl ?_
      refine g_lstore (l' := #[.val (.int p0), .val (.int p1), .val (.int p2), .val (.int p3), .val (.int p4), .val (.long la), .second, .val (.long lb), .second, .val (.ref a1568), .val (.ref a1579), .val (.ref a1735), .val (.ref a2028), .val (.ref r), .val (.long (((p2.toInt64) - (la * (p3.toInt64))) + ((la * lb) * (p4.toInt64)))), .second, .unset, .unset, .unset, .unset]) X2064 hx 185 (hb hby at_183) rfl rfl ?_
      refine g_iloadN X2064 hx 186 (hb hby at_185) rfl rfl ?_
      refine g_i2l X2064 hx 187 (hb hby at_186) rfl ?_
      refine g_lload X2064 hx 189 (hb hby at_187) rfl rfl ?_
      refine g_iload X2064 hx 191 (hb hby at_189) rfl rfl ?_
      refine g_i2l X2064 hx 192 (hb hby at_191) rfl ?_
      refine g_lmul X2064 hx 193 (hb hby at_192) rfl ?_
      refine g_lsub X2064 hx 194 (hb hby at_193) rfl ?_
      refine g_lstore (l' := #[.val (.int p0), .val (.int p1), .val (.int p2), .val (.int p3), .val (.int p4), .val (.long la), .second, .val (.long lb), .second, .val (.ref a1568), .val (.ref a1579), .val (.ref a1735), .val (.ref a2028), .val (.ref r), .val (.long (((p2.toInt64) - (la * (p3.toInt64))) + ((la * lb) * (p4.toInt64)))), .second, .val (.long ((p3.toInt64) - (lb * (p4.toInt64)))), .second, .unset, .unset]) X2064 hx 196 (hb hby at_194) rfl rfl ?_
      refine g_iload X2064 hx 198 (hb hby at_196) rfl rfl ?_
      refine g_i2l X2064 hx 199 (hb hby at_198) rfl ?_
      refine g_lstore (l' := #[.val (.int p0), .val (.int p1), .val (.int p2), .val (.int p3), .val (.int p4), .val (.long la), .second, .val (.long lb), .second, .val (.ref a1568), .val (.ref a1579), .val (.ref a1735), .val (.ref a2028), .val (.ref r), .val (.long (((p2.toInt64) - (la * (p3.toInt64))) + ((la * lb) * (p4.toInt64)))), .second, .val (.long ((p3.toInt64) - (lb * (p4.toInt64)))), .second, .val (.long (p4.toInt64)), .second]) X2064 hx 201 (hb hby at_199) rfl rfl ?_
      refine g_aload X2064 hx 203 (hb hby at_201) rfl rfl rfl ?_
      refine g_iconst X2064 hx (0 : Int32) 204 (hb hby at_203) rfl (by decide) ?_
      refine g_daload X2064 hx hZ rfl Vr (by decide) (by decide) (by rw [show ((0 : Int32) : Int32).toNatClampNeg = 0 by decide] <;> rfl) 205 (hb hby at_204) rfl ?_
      refine g_lload X2064 hx 207 (hb hby at_205) rfl rfl ?_
      refine g_l2d X2064 hx 208 (hb hby at_207) rfl ?_
      generalize hr0_ : (((p2.toInt64) - (la * (p3.toInt64))) + ((la * lb) * (p4.toInt64))) = r0_
      generalize hr1_ : ((p3.toInt64) - (lb * (p4.toInt64))) = r1_
      have e1 := c_lmul la p3.toInt64
      have e2 := rng64 (la * p3.toInt64)
      have e3 := c_lsub p2.toInt64 (la * p3.toInt64)
      have e4 := rng64 (p2.toInt64 - la * p3.toInt64)
      have e5 := c_lmul la lb
      have e6 := rng64 (la * lb)
      have e7 := c_lmul (la * lb) p4.toInt64
      have e8 := rng64 (la * lb * p4.toInt64)
      have e9 := c_ladd (p2.toInt64 - la * p3.toInt64) (la * lb * p4.toInt64)
      have f1 := rng64 r0_
      have f2 := c_lmul lb p4.toInt64
      have f3 := rng64 (lb * p4.toInt64)
      have f4 := c_lsub p3.toInt64 (lb * p4.toInt64)
      have f5 := rng64 r1_
      rw [c_i2l] at e1 e3 e7 f2 f4
      rw [hr0_] at e9
      rw [hr1_] at f4
      have g5 : (la * lb).toInt = la.toInt * lb.toInt := by omega
      rw [g5] at e7
      have t0 : r0_.toInt = 1 * p2.toInt + -la.toInt * p3.toInt + la.toInt * lb.toInt * p4.toInt := by omega
      have t1 : r1_.toInt = 0 * p2.toInt + 1 * p3.toInt + -lb.toInt * p4.toInt := by omega
      have t2 : p4.toInt64.toInt = 0 * p2.toInt + 0 * p3.toInt + 1 * p4.toInt := by rw [c_i2l]; omega
      refine g_dc_ne X2064 hx 209 238 212 (hb hby at_208) rfl (hb hby at_209) (by decide) (by decide) rfl (Jvm.FP.Core.dcmp_int hq0 (own_as t0 (Jvm.FP.Core.l2d_int (a := r0_) (by omega)))) (fun c2076 => ?_) (fun c2076 => ?_)
      · skip
        exact absurd rfl c2076
      · skip
        refine g_aload X2064 hx 214 (hb hby at_212) rfl rfl rfl ?_
        refine g_iconst X2064 hx (1 : Int32) 215 (hb hby at_214) rfl (by decide) ?_
        refine g_daload X2064 hx hZ rfl Vr (by decide) (by decide) (by rw [show ((1 : Int32) : Int32).toNatClampNeg = 1 by decide] <;> rfl) 216 (hb hby at_215) rfl ?_
        refine g_lload X2064 hx 218 (hb hby at_216) rfl rfl ?_
        refine g_l2d X2064 hx 219 (hb hby at_218) rfl ?_
        refine g_dc_ne X2064 hx 220 238 223 (hb hby at_219) rfl (hb hby at_220) (by decide) (by decide) rfl (Jvm.FP.Core.dcmp_int hq1 (own_as t1 (Jvm.FP.Core.l2d_int (a := r1_) (by omega)))) (fun c2077 => ?_) (fun c2077 => ?_)
        · skip
          exact absurd rfl c2077
        · skip
          refine g_aload X2064 hx 225 (hb hby at_223) rfl rfl rfl ?_
          refine g_iconst X2064 hx (2 : Int32) 226 (hb hby at_225) rfl (by decide) ?_
          refine g_daload X2064 hx hZ rfl Vr (by decide) (by decide) (by rw [show ((2 : Int32) : Int32).toNatClampNeg = 2 by decide] <;> rfl) 227 (hb hby at_226) rfl ?_
          refine g_lload X2064 hx 229 (hb hby at_227) rfl rfl ?_
          refine g_l2d X2064 hx 230 (hb hby at_229) rfl ?_
          refine g_dc_ne X2064 hx 231 238 234 (hb hby at_230) rfl (hb hby at_231) (by decide) (by decide) rfl (Jvm.FP.Core.dcmp_int hq2 (own_as t2 (Jvm.FP.Core.l2d_int (a := p4.toInt64) (by omega)))) (fun c2078 => ?_) (fun c2078 => ?_)
          · skip
            exact absurd rfl c2078
          · skip
            refine g_iconst X2064 hx (1 : Int32) 235 (hb hby at_234) rfl (by decide) ?_
            refine g_goto X2064 hx 239 (hb hby at_235) (by decide) (by decide) ?_
            exact g_retZ X2064 hx hlk hret (hb hby at_239) (by decide) (by decide) rfl ⟨rfl, N2065⟩
    · skip
      exfalso; revert c2073; decide
  · skip
    exfalso; revert c2026; decide
set_option maxRecDepth 65536 in
set_option maxHeartbeats 40000000 in
theorem comes_1 {Post : Tables → Env → Array Value → State → Outcome → State → Prop} (hpost : ∀ tb e args s v u, (limb_1_1.after args s (.returned v) u = true ∧ limb_1_2.after args s (.returned v) u = true ∧ True) → FrameEnd s (.returned v) u (Jvm.fieldLocs frame_1_writes args s ++ Jvm.arrayLocs frame_1_arrays args s ++ Jvm.staticLocs frame_1_statics s) 48 192 → Post tb e args s (.returned v) u) :
    ArmFor flags0 classFile x code maxLocals ret World_1 tables_1 room_1 Calls_1 rest_1 Pre_1 Post := by
  intro l hfl _ _ p e ha hc hk s m args below hf hA hF happ hP
  obtain ⟨hcalls, hrest, hpre⟩ := hP
  obtain ⟨-, -, -, hnamed, -, -, -, hat⟩ := (Spec.applies_iff hf).mp happ
  obtain ⟨hg, hn⟩ := and_e (Cond.before_iff.mp (show (Jvm.Cond.and given_1 narrow_1).before args s = true from hpre))
  obtain ⟨h1, g0⟩ := and_e hg
  obtain ⟨t0, g1⟩ := and_e g0
  obtain ⟨t1, g2⟩ := and_e g1
  obtain ⟨t2, g3⟩ := and_e g2
  obtain ⟨t3, g4⟩ := and_e g3
  have t4 := g4
  obtain ⟨w0, w1, w2, w3, w4, rfl⟩ : ∃ w0 w1 w2 w3 w4 : Value, args = #[w0, w1, w2, w3, w4] := by
    have hs : args.size = 5 := by simpa [Cond.value, given_1] using h1
    obtain ⟨L⟩ := args
    match L, hs with
    | [w0, w1, w2, w3, w4], _ => exact ⟨w0, w1, w2, w3, w4, rfl⟩
  have hw := fun d (hd : d ∈ tables_1) => atoms_spec (ws := Jvm.Cond.code x code maxLocals ret :: tables_1) hat d (List.mem_cons_of_mem _ hd)
  obtain ⟨i0, e0⟩ := is_v t0
  obtain rfl : w0 = (.int i0) := Option.some.inj e0
  obtain ⟨i1, e1⟩ := is_v t1
  obtain rfl : w1 = (.int i1) := Option.some.inj e1
  obtain ⟨i2, e2⟩ := is_v t2
  obtain rfl : w2 = (.int i2) := Option.some.inj e2
  obtain ⟨i3, e3⟩ := is_v t3
  obtain rfl : w3 = (.int i3) := Option.some.inj e3
  obtain ⟨i4, e4⟩ := is_v t4
  obtain rfl : w4 = (.int i4) := Option.some.inj e4
  obtain ⟨n, o, h1, h2, h3, _, L, rfl, ⟨rfl, N⟩, hq⟩ := rm0 l s _ hw tables_1 i0 i1 i2 i3 i4 s.heap s.heap.size (Nat.le_refl _)  p e ha hc hk s m _ below hf ((Spec.applies_iff_loose hf).mp happ).1 ⟨rfl, State.Warmed39.refl s, rfl⟩ trivial
  refine ⟨n, _, h1, h2, h3, hpost _ _ _ _ _ _ ⟨Cond.after_iff.mpr rfl, Cond.after_iff.mpr (eq_i res_at (Term.int_eval (1)) rfl), trivial⟩ ⟨hq.1, hq.2.1, (hq.2.2.sift fun y hy => Or.inr (N y hy)).mono (by decide) (by decide)⟩⟩
theorem main_1_1 : Claimed_1_1 := comes_1 fun _ _ _ _ _ _ h hF => ⟨h.1, hF⟩
theorem main_1_2 : Claimed_1_2 := comes_1 fun _ _ _ _ _ _ h hF => ⟨h.2.1, hF⟩
end Jvm.Pilot.@@N@@
namespace Jvm.Pilot.@@N@@
open Jvm Jvm.ClassFile Sem Op Lib Jvm.Free Jvm.Stand Jvm.Pilot.@@N@@.Jvm.D
/-! MADE BY PROGRAM (witnessworld.py) out of the Statement's table words and the real class files: 14 classes; the members and pool entries that the words name. The judged class is class 1, her method 1. -/
namespace start1
open Jvm.ClassFile
def u (s : String) : CpInfo := .utf8 (stringToUtf16 s)
/-- a pool by its gaps: so many unusable entries, then the entry; so many at the end -/
def gap : Nat → List CpInfo → List CpInfo
  | 0, r => r
  | n + 1, r => .unusable :: gap n r
def poolList (es : List (Nat × CpInfo)) (last : Nat) : List CpInfo := es.foldr (fun e r => gap e.1 (e.2 :: r)) (gap last [])
def pool (es : List (Nat × CpInfo)) (last : Nat) : Array CpInfo := ⟨poolList es last⟩
def fileOf (pool : Array CpInfo) (this : Nat) (attrs : Array Attribute := #[]) (ms : Array MethodInfo := #[]) (fl : Nat := 33) (sup : Nat := 0) (ifs : Array Nat := #[]) (fds : Array FieldInfo := #[]) : ClassFile where
  minorVersion := 0
  majorVersion := 65
  constantPool := pool
  accessFlags := fl
  thisClass := this
  superClass := sup
  interfaces := ifs
  fields := fds
  methods := ms
  attributes := attrs
def plain (name : String) (sup : Option ClassId) : Class where
  name := name
  kind := .ordinary
  loader := none
  accessFlags := 33
  super := sup
  interfaces := #[]
  cf := none
  fields := #[]
  methods := #[]
  instanceTypes := #[]
  staticTypes := #[]
  resolved := #[]
  callSites := []
  init := .initialized
  statics := none
  mirror := none

def pool0 : Array CpInfo := pool [(5, u "<init>"), (0, u "()V"), (1, .class_ 10), (1, u "java/lang/Object")] 113

def k0c0 : Code := { maxStack := 0, maxLocals := 1, code := object_method_1_code, exceptionTable := #[], attributes := #[] }
def k0m0 : Method := { name := "<init>", desc := "()V", sig := { parameters := [], returnType := none }, accessFlags := 1, code := some k0c0 }
/-- java/lang/Object -/
def k0 : Class := { plain "java/lang/Object" none with
  accessFlags := 33
  interfaces := #[]
  cf := some (fileOf pool0 8 #[] #[{ accessFlags := 1, nameIndex := 5, descriptorIndex := 6, attributes := #[] }] 33 0 #[] #[])
  fields := #[]
  methods := #[k0m0]
  instanceTypes := #[]
  staticTypes := #[]
  resolved := Array.replicate 124 none
  statics := none }

def pool1 : Array CpInfo := pool [(2, .class_ 4), (1, u "java/lang/Object"), (0, u "<init>"), (0, u "()V"), (0, .class_ 8), (0, u "com/example/tracefold/tracefold/mining/DenseInverse"), (0, .methodref 7 10), (0, .nameAndType 5 11), (0, u "(I)V"), (0, .class_ 13), (0, u "[I"), (0, .class_ 15), (0, u "[D"), (0, .methodref 7 17), (0, .nameAndType 18 19), (0, u "invert"), (0, u "([[I[[D)Z"), (0, .methodref 7 21), (0, .nameAndType 22 23), (0, u "times"), (0, u "([D)[D"), (0, .class_ 25), (0, u "com/example/tracefold/tracefold/mining/DenseInverseTimesPinLaw"), (2, u "law"), (0, u "(IIIII)Z")] 7

def k1m0 : Method := { name := "<init>", desc := "()V", sig := { parameters := [], returnType := none }, accessFlags := 1, code := none }
def k1c1 : Code := { maxStack := 8, maxLocals := 20, code := code, exceptionTable := #[], attributes := #[] }
def k1m1 : Method := { name := "law", desc := "(IIIII)Z", sig := { parameters := [.int, .int, .int, .int, .int], returnType := some .boolean }, accessFlags := 9, code := some k1c1 }
/-- com/example/tracefold/tracefold/mining/DenseInverseTimesPinLaw -/
def k1 : Class := { plain "com/example/tracefold/tracefold/mining/DenseInverseTimesPinLaw" (some 0) with
  accessFlags := 49
  interfaces := #[]
  cf := some (fileOf pool1 24 #[] #[{ accessFlags := 1, nameIndex := 5, descriptorIndex := 6, attributes := #[] }, { accessFlags := 9, nameIndex := 28, descriptorIndex := 29, attributes := #[] }] 49 2 #[] #[])
  fields := #[]
  methods := #[k1m0, k1m1]
  instanceTypes := #[]
  staticTypes := #[]
  resolved := Array.replicate 37 none
  statics := none }

def pool2 : Array CpInfo := pool [(1, .class_ 2), (0, u "com/example/tracefold/tracefold/mining/BasisInverse"), (0, .class_ 4), (0, u "java/lang/Object")] 14

/-- com/example/tracefold/tracefold/mining/BasisInverse -/
def k2 : Class := { plain "com/example/tracefold/tracefold/mining/BasisInverse" (some 0) with
  accessFlags := 1536
  interfaces := #[]
  cf := some (fileOf pool2 1 #[] #[] 1536 3 #[] #[])
  fields := #[]
  methods := #[]
  instanceTypes := #[]
  staticTypes := #[]
  resolved := Array.replicate 19 none
  statics := none }

def pool3 : Array CpInfo := pool [(1, .methodref 2 3), (0, .class_ 4), (0, .nameAndType 5 6), (0, u "java/lang/Object"), (0, u "<init>"), (0, u "()V"), (0, .fieldref 8 9), (0, .class_ 10), (0, .nameAndType 11 12), (0, u "com/example/tracefold/tracefold/mining/DenseInverse"), (0, u "n"), (0, u "I"), (0, .fieldref 8 14), (0, .nameAndType 15 16), (0, u "inverse"), (0, u "[D"), (0, .methodref 18 19), (0, .class_ 20), (0, .nameAndType 21 22), (0, u "java/util/Arrays"), (0, u "fill"), (0, u "([DD)V"), (0, .methodref 24 25), (0, .class_ 26), (0, .nameAndType 27 28), (0, u "java/lang/Math"), (0, u "abs"), (0, u "(D)D"), (0, .double 4472406533629990549), (1, .methodref 8 32), (0, .nameAndType 33 34), (0, u "swapRows"), (0, u "([DII)V"), (3, u "([D)[D"), (18, .class_ 58), (0, u "com/example/tracefold/tracefold/mining/BasisInverse"), (0, u "PIVOT"), (0, u "D"), (1, u "CANCELLATION"), (0, u "(I)V"), (2, u "invert"), (0, u "([[I[[D)Z"), (10, u "times")] 7

def k3c0 : Code := { maxStack := 3, maxLocals := 2, code := prog_33_method_1_code, exceptionTable := #[], attributes := #[] }
def k3m0 : Method := { name := "<init>", desc := "(I)V", sig := { parameters := [.int], returnType := none }, accessFlags := 0, code := some k3c0 }
def k3c1 : Code := { maxStack := 9, maxLocals := 17, code := prog_33_method_2_code, exceptionTable := #[], attributes := #[] }
def k3m1 : Method := { name := "invert", desc := "([[I[[D)Z", sig := { parameters := [(.array (.array .int)), (.array (.array .double))], returnType := some .boolean }, accessFlags := 1, code := some k3c1 }
def k3c2 : Code := { maxStack := 5, maxLocals := 7, code := prog_33_method_4_code, exceptionTable := #[], attributes := #[] }
def k3m2 : Method := { name := "swapRows", desc := "([DII)V", sig := { parameters := [(.array .double), .int, .int], returnType := none }, accessFlags := 2, code := some k3c2 }
def k3c3 : Code := { maxStack := 8, maxLocals := 5, code := prog_33_method_5_code, exceptionTable := #[], attributes := #[] }
def k3m3 : Method := { name := "times", desc := "([D)[D", sig := { parameters := [(.array .double)], returnType := some (.array .double) }, accessFlags := 1, code := some k3c3 }
/-- com/example/tracefold/tracefold/mining/DenseInverse -/
def k3 : Class := { plain "com/example/tracefold/tracefold/mining/DenseInverse" (some 0) with
  accessFlags := 48
  interfaces := #[2]
  cf := some (fileOf pool3 8 #[] #[{ accessFlags := 0, nameIndex := 5, descriptorIndex := 63, attributes := #[] }, { accessFlags := 1, nameIndex := 66, descriptorIndex := 67, attributes := #[] }, { accessFlags := 2, nameIndex := 33, descriptorIndex := 34, attributes := #[] }, { accessFlags := 1, nameIndex := 78, descriptorIndex := 38, attributes := #[] }] 48 2 #[57] #[{ accessFlags := 26, nameIndex := 59, descriptorIndex := 60, attributes := #[] }, { accessFlags := 26, nameIndex := 62, descriptorIndex := 60, attributes := #[] }, { accessFlags := 18, nameIndex := 11, descriptorIndex := 12, attributes := #[] }, { accessFlags := 18, nameIndex := 15, descriptorIndex := 16, attributes := #[] }])
  fields := #[{ name := "PIVOT", type := .double, accessFlags := 26, slot := 0, constantValue := 0 }, { name := "CANCELLATION", type := .double, accessFlags := 26, slot := 1, constantValue := 0 }, { name := "n", type := .int, accessFlags := 18, slot := 0, constantValue := 0 }, { name := "inverse", type := (.array .double), accessFlags := 18, slot := 1, constantValue := 0 }]
  methods := #[k3m0, k3m1, k3m2, k3m3]
  instanceTypes := #[.int, (.array .double)]
  staticTypes := #[.double, .double]
  resolved := Array.replicate 86 none
  statics := none }

def pool4 : Array CpInfo := pool [(2, .class_ 4), (1, u "java/lang/Object"), (0, u "<init>"), (0, u "()V"), (7, .class_ 16), (1, u "java/util/Arrays"), (57, .class_ 76), (1, u "java/util/Arrays$NaturalOrder"), (36, .class_ 115), (1, u "java/util/Arrays$LegacyMergeSort"), (1, u "Z"), (257, .class_ 376), (0, u "java/util/Arrays$ArrayList"), (68, u "$assertionsDisabled"), (269, u "MIN_ARRAY_SORT_GRAN"), (0, u "I"), (2, u "INSERTIONSORT_THRESHOLD"), (120, u "fill"), (13, u "([DD)V"), (120, .class_ 976), (0, u "java/util/Arrays$ArrayItr")] 52

def k4m0 : Method := { name := "<init>", desc := "()V", sig := { parameters := [], returnType := none }, accessFlags := 2, code := none }
def k4c1 : Code := { maxStack := 4, maxLocals := 5, code := jdk_65_method_113_code, exceptionTable := #[], attributes := #[] }
def k4m1 : Method := { name := "fill", desc := "([DD)V", sig := { parameters := [(.array .double), .double], returnType := none }, accessFlags := 9, code := some k4c1 }
/-- java/util/Arrays -/
def k4 : Class := { plain "java/util/Arrays" (some 0) with
  accessFlags := 49
  interfaces := #[]
  cf := some (fileOf pool4 14 #[.nestMembers #[975, 375, 113, 74]] #[{ accessFlags := 2, nameIndex := 5, descriptorIndex := 6, attributes := #[] }, { accessFlags := 9, nameIndex := 840, descriptorIndex := 854, attributes := #[] }] 49 2 #[] #[{ accessFlags := 26, nameIndex := 715, descriptorIndex := 716, attributes := #[] }, { accessFlags := 26, nameIndex := 719, descriptorIndex := 716, attributes := #[] }, { accessFlags := 4120, nameIndex := 445, descriptorIndex := 117, attributes := #[] }])
  fields := #[{ name := "MIN_ARRAY_SORT_GRAN", type := .int, accessFlags := 26, slot := 0, constantValue := 0 }, { name := "INSERTIONSORT_THRESHOLD", type := .int, accessFlags := 26, slot := 1, constantValue := 0 }, { name := "$assertionsDisabled", type := .boolean, accessFlags := 4120, slot := 2, constantValue := 0 }]
  methods := #[k4m0, k4m1]
  instanceTypes := #[]
  staticTypes := #[.int, .int, .boolean]
  resolved := Array.replicate 1029 none
  statics := none }

def pool5 : Array CpInfo := pool [(1, .class_ 2), (0, u "java/lang/Math"), (1, .class_ 6), (1, u "java/lang/Object"), (0, u "<init>"), (0, u "()V"), (5, u "(D)D"), (83, .class_ 100), (1, u "java/lang/Math$RandomNumberGeneratorHolder"), (23, u "abs"), (47, u "negativeZeroFloatBits"), (0, u "J"), (2, u "negativeZeroDoubleBits"), (68, u "$assertionsDisabled"), (0, u "Z"), (91, u "twoToTheDoubleScaleDown"), (0, u "D"), (4, u "twoToTheDoubleScaleUp"), (9, u "E"), (3, u "PI"), (2, u "TAU"), (2, u "DEGREES_TO_RADIANS"), (0, u "RADIANS_TO_DEGREES")] 94

def k5m0 : Method := { name := "<init>", desc := "()V", sig := { parameters := [], returnType := none }, accessFlags := 2, code := none }
def k5c1 : Code := { maxStack := 4, maxLocals := 2, code := jdk_29_method_64_code, exceptionTable := #[], attributes := #[] }
def k5m1 : Method := { name := "abs", desc := "(D)D", sig := { parameters := [.double], returnType := some .double }, accessFlags := 9, code := some k5c1 }
/-- java/lang/Math -/
def k5 : Class := { plain "java/lang/Math" (some 0) with
  accessFlags := 49
  interfaces := #[]
  cf := some (fileOf pool5 1 #[.nestMembers #[98]] #[{ accessFlags := 2, nameIndex := 7, descriptorIndex := 8, attributes := #[] }, { accessFlags := 9, nameIndex := 124, descriptorIndex := 14, attributes := #[] }] 49 4 #[] #[{ accessFlags := 25, nameIndex := 354, descriptorIndex := 339, attributes := #[] }, { accessFlags := 25, nameIndex := 358, descriptorIndex := 339, attributes := #[] }, { accessFlags := 25, nameIndex := 361, descriptorIndex := 339, attributes := #[] }, { accessFlags := 26, nameIndex := 364, descriptorIndex := 339, attributes := #[] }, { accessFlags := 26, nameIndex := 365, descriptorIndex := 339, attributes := #[] }, { accessFlags := 26, nameIndex := 172, descriptorIndex := 173, attributes := #[] }, { accessFlags := 26, nameIndex := 176, descriptorIndex := 173, attributes := #[] }, { accessFlags := 8, nameIndex := 344, descriptorIndex := 339, attributes := #[] }, { accessFlags := 8, nameIndex := 338, descriptorIndex := 339, attributes := #[] }, { accessFlags := 4120, nameIndex := 245, descriptorIndex := 246, attributes := #[] }])
  fields := #[{ name := "E", type := .double, accessFlags := 25, slot := 0, constantValue := 0 }, { name := "PI", type := .double, accessFlags := 25, slot := 1, constantValue := 0 }, { name := "TAU", type := .double, accessFlags := 25, slot := 2, constantValue := 0 }, { name := "DEGREES_TO_RADIANS", type := .double, accessFlags := 26, slot := 3, constantValue := 0 }, { name := "RADIANS_TO_DEGREES", type := .double, accessFlags := 26, slot := 4, constantValue := 0 }, { name := "negativeZeroFloatBits", type := .long, accessFlags := 26, slot := 5, constantValue := 0 }, { name := "negativeZeroDoubleBits", type := .long, accessFlags := 26, slot := 6, constantValue := 0 }, { name := "twoToTheDoubleScaleUp", type := .double, accessFlags := 8, slot := 7, constantValue := 0 }, { name := "twoToTheDoubleScaleDown", type := .double, accessFlags := 8, slot := 8, constantValue := 0 }, { name := "$assertionsDisabled", type := .boolean, accessFlags := 4120, slot := 9, constantValue := 0 }]
  methods := #[k5m0, k5m1]
  instanceTypes := #[]
  staticTypes := #[.double, .double, .double, .double, .double, .long, .long, .double, .double, .boolean]
  resolved := Array.replicate 460 none
  statics := none }

def pool6 : Array CpInfo := pool [(1, u "java/lang/Cloneable"), (0, .class_ 1), (0, u "java/lang/Object"), (0, .class_ 3)] 3

/-- java/lang/Cloneable -/
def k6 : Class := { plain "java/lang/Cloneable" (some 0) with
  accessFlags := 1537
  interfaces := #[]
  cf := some (fileOf pool6 2 #[] #[] 1537 4 #[] #[])
  fields := #[]
  methods := #[]
  instanceTypes := #[]
  staticTypes := #[]
  resolved := Array.replicate 8 none
  statics := none }

def pool7 : Array CpInfo := pool [(1, u "java/io/Serializable"), (0, .class_ 1), (0, u "java/lang/Object"), (0, .class_ 3)] 3

/-- java/io/Serializable -/
def k7 : Class := { plain "java/io/Serializable" (some 0) with
  accessFlags := 1537
  interfaces := #[]
  cf := some (fileOf pool7 2 #[] #[] 1537 4 #[] #[])
  fields := #[]
  methods := #[]
  instanceTypes := #[]
  staticTypes := #[]
  resolved := Array.replicate 8 none
  statics := none }

/-- the primitive byte -/
def k8 : Class := { plain "byte" none with kind := .primitive 'B', accessFlags := 0x411 }
/-- [B -/
def k9 : Class := { plain "[B" (some 0) with kind := .array 8 .byte, interfaces := #[6, 7], accessFlags := 1041 }

/-- the primitive double -/
def k10 : Class := { plain "double" none with kind := .primitive 'D', accessFlags := 0x411 }
/-- [D -/
def k11 : Class := { plain "[D" (some 0) with kind := .array 10 .double, interfaces := #[6, 7], accessFlags := 1041 }

/-- the primitive int -/
def k12 : Class := { plain "int" none with kind := .primitive 'I', accessFlags := 0x411 }
/-- [I -/
def k13 : Class := { plain "[I" (some 0) with kind := .array 12 .int, interfaces := #[6, 7], accessFlags := 1041 }

/-- [[D -/
def k14 : Class := { plain "[[D" (some 0) with kind := .array 11 (.array .double), interfaces := #[6, 7], accessFlags := 1041 }

/-- [[I -/
def k15 : Class := { plain "[[I" (some 0) with kind := .array 13 (.array .int), interfaces := #[6, 7], accessFlags := 1041 }

def heap : Heap := #[]
def classes : Array Class := #[k0, k1, k2, k3, k4, k5, k6, k7, k8, k9, k10, k11, k12, k13, k14, k15]
def interned : List (Array UInt16 × Addr) := []
def slotsUsed : Nat := 0
def theMethod : MethodId := ⟨1, 1⟩
def args0 : Array Value := #[.int 5, .int 3, .int 4, .int 7, .int 1]
def aboutOver (below : List Frame) : State where
  vm := { classes := classes, interned := interned.toArray }
  heap := heap
  slotsUsed := slotsUsed
  threads := #[{ frames := .invoking theMethod args0 :: below }]
def below0 : List Frame := [.native { method := ⟨0, 0⟩, args := #[] }]
def about1 : State := aboutOver below0
def p0 : Program := .bare "" "" ""
def e0 : Env := launch0.env 0 0 0
theorem w_frames : about1.frames = Frame.invoking theMethod args0 :: below0 := rfl
set_option maxRecDepth 65536 in
theorem w_args : argsFit about1.vm theMethod args0 = true := by decide +kernel
set_option maxRecDepth 65536 in
theorem w_heap : heapFits about1 = true := by decide +kernel
set_option maxRecDepth 65536 in
theorem w_runnable : about1.curStatus? = some .runnable := by decide +kernel
set_option maxRecDepth 65536 in
theorem w_alone : about1.alone = true := by decide +kernel
set_option maxRecDepth 65536 in
theorem w_named : about1.methodNamed? x = some theMethod := by decide +kernel
set_option maxRecDepth 65536 in
theorem w_hears : about1.hears theMethod below0 = true := by decide +kernel
set_option maxRecDepth 65536 in
theorem w_ripe : about1.ripe theMethod args0 below0 = true := by decide +kernel
theorem w_running : about1.status = .running := rfl
set_option maxRecDepth 65536 in
theorem w_room : about1.hasRoom e0.platform room_1 = true :=
  launch0.hasRoom_least _ room_1 (by decide +kernel) (by decide +kernel) (by decide +kernel) (by decide +kernel) (by decide +kernel) (by decide +kernel)
theorem allAtoms_all (ts : List Jvm.Cond) (a : Array Jvm.Value) (st : Jvm.State) : (allAtoms ts).before a st = ts.all (fun c => c.before a st) := by
  induction ts with
  | nil => rfl
  | cons c t ih =>
    show (Jvm.Cond.and c (allAtoms t)).before a st = _
    rw [Jvm.Cond.before_and, ih, List.all_cons]
def words1 : List Jvm.Cond := Jvm.Cond.code x code maxLocals ret :: tables_1
/-- a 'code' word, met by the world's own term for the bytes: nothing is compared byte by byte -/
theorem code_word {y : MethodName} {bytes : ByteArray} {mx : Nat} {rt : Option FieldType} {a : Array Value} {s : State} {m : MethodId} {meth : Method} {c : Code} (h1 : s.methodNamed? y = some m) (h2 : s.vm.method? m = some meth) (h3 : meth.code = some c) (h4 : c.code = bytes)
    (h5 : (c.maxLocals == mx && c.exceptionTable.isEmpty && decide (c.maxStack ≤ mostOperands) && decide (meth.sig.returnType = rt) && !meth.locks && decide (parseMethodDescriptor y.desc = some meth.sig)) = true) : (Jvm.Cond.code y bytes mx rt).before a s = true := by
  simp only [Bool.and_eq_true, beq_iff_eq, Bool.not_eq_true', decide_eq_true_eq] at h5
  obtain ⟨⟨⟨⟨⟨g1, g2⟩, g3⟩, g4⟩, g5⟩, g6⟩ := h5
  simp [Cond.before, Cond.holds, Cond.value, h1, h2, h3, h4, g1, g2, g3, g4, g5, g6]
def isCode : Jvm.Cond → Bool
  | .code _ _ _ _ => true
  | _ => false
theorem all_split {L : List Jvm.Cond} {P : Jvm.Cond → Bool} (h1 : L.all (fun c => isCode c || P c) = true) (h2 : ∀ c ∈ L.filter isCode, P c = true) : L.all P = true := by
  refine List.all_eq_true.mpr fun c hc => ?_
  have h := List.all_eq_true.mp h1 c hc
  rcases Bool.eq_false_or_eq_true (isCode c) with hi | hi
  · exact h2 c (List.mem_filter.mpr ⟨hc, hi⟩)
  · simpa [hi] using h
set_option maxRecDepth 65536 in
theorem w_c0 : (Jvm.Cond.code x code maxLocals ret).before args0 about1 = true := code_word (m := ⟨1, 1⟩) (meth := k1m1) (c := k1c1) (by decide +kernel) rfl rfl rfl (by decide +kernel)
set_option maxRecDepth 65536 in
theorem w_c1 : (Jvm.Cond.code ({ cls := "com/example/tracefold/tracefold/mining/DenseInverse", name := "<init>", desc := "(I)V" } : Jvm.MethodName) prog_33_method_1_code (2 : Nat) (Option.none : Option Jvm.ClassFile.FieldType)).before args0 about1 = true := code_word (m := ⟨3, 0⟩) (meth := k3m0) (c := k3c0) (by decide +kernel) rfl rfl rfl (by decide +kernel)
set_option maxRecDepth 65536 in
theorem w_c2 : (Jvm.Cond.code ({ cls := "java/lang/Object", name := "<init>", desc := "()V" } : Jvm.MethodName) object_method_1_code (1 : Nat) (Option.none : Option Jvm.ClassFile.FieldType)).before args0 about1 = true := code_word (m := ⟨0, 0⟩) (meth := k0m0) (c := k0c0) (by decide +kernel) rfl rfl rfl (by decide +kernel)
set_option maxRecDepth 65536 in
theorem w_c3 : (Jvm.Cond.code ({ cls := "com/example/tracefold/tracefold/mining/DenseInverse", name := "invert", desc := "([[I[[D)Z" } : Jvm.MethodName) prog_33_method_2_code (17 : Nat) (Option.some Jvm.ClassFile.FieldType.boolean)).before args0 about1 = true := code_word (m := ⟨3, 1⟩) (meth := k3m1) (c := k3c1) (by decide +kernel) rfl rfl rfl (by decide +kernel)
set_option maxRecDepth 65536 in
theorem w_c4 : (Jvm.Cond.code ({ cls := "java/util/Arrays", name := "fill", desc := "([DD)V" } : Jvm.MethodName) jdk_65_method_113_code (5 : Nat) (Option.none : Option Jvm.ClassFile.FieldType)).before args0 about1 = true := code_word (m := ⟨4, 1⟩) (meth := k4m1) (c := k4c1) (by decide +kernel) rfl rfl rfl (by decide +kernel)
set_option maxRecDepth 65536 in
theorem w_c5 : (Jvm.Cond.code ({ cls := "java/lang/Math", name := "abs", desc := "(D)D" } : Jvm.MethodName) jdk_29_method_64_code (2 : Nat) (Option.some Jvm.ClassFile.FieldType.double)).before args0 about1 = true := code_word (m := ⟨5, 1⟩) (meth := k5m1) (c := k5c1) (by decide +kernel) rfl rfl rfl (by decide +kernel)
set_option maxRecDepth 65536 in
theorem w_c6 : (Jvm.Cond.code ({ cls := "com/example/tracefold/tracefold/mining/DenseInverse", name := "swapRows", desc := "([DII)V" } : Jvm.MethodName) prog_33_method_4_code (7 : Nat) (Option.none : Option Jvm.ClassFile.FieldType)).before args0 about1 = true := code_word (m := ⟨3, 2⟩) (meth := k3m2) (c := k3c2) (by decide +kernel) rfl rfl rfl (by decide +kernel)
set_option maxRecDepth 65536 in
theorem w_c7 : (Jvm.Cond.code ({ cls := "com/example/tracefold/tracefold/mining/DenseInverse", name := "times", desc := "([D)[D" } : Jvm.MethodName) prog_33_method_5_code (5 : Nat) (Option.some (Jvm.ClassFile.FieldType.array Jvm.ClassFile.FieldType.double))).before args0 about1 = true := code_word (m := ⟨3, 3⟩) (meth := k3m3) (c := k3c3) (by decide +kernel) rfl rfl rfl (by decide +kernel)
def codes1 : List Jvm.Cond := [Jvm.Cond.code x code maxLocals ret, Jvm.Cond.code ({ cls := "com/example/tracefold/tracefold/mining/DenseInverse", name := "<init>", desc := "(I)V" } : Jvm.MethodName) prog_33_method_1_code (2 : Nat) (Option.none : Option Jvm.ClassFile.FieldType), Jvm.Cond.code ({ cls := "java/lang/Object", name := "<init>", desc := "()V" } : Jvm.MethodName) object_method_1_code (1 : Nat) (Option.none : Option Jvm.ClassFile.FieldType), Jvm.Cond.code ({ cls := "com/example/tracefold/tracefold/mining/DenseInverse", name := "invert", desc := "([[I[[D)Z" } : Jvm.MethodName) prog_33_method_2_code (17 : Nat) (Option.some Jvm.ClassFile.FieldType.boolean), Jvm.Cond.code ({ cls := "java/util/Arrays", name := "fill", desc := "([DD)V" } : Jvm.MethodName) jdk_65_method_113_code (5 : Nat) (Option.none : Option Jvm.ClassFile.FieldType), Jvm.Cond.code ({ cls := "java/lang/Math", name := "abs", desc := "(D)D" } : Jvm.MethodName) jdk_29_method_64_code (2 : Nat) (Option.some Jvm.ClassFile.FieldType.double), Jvm.Cond.code ({ cls := "com/example/tracefold/tracefold/mining/DenseInverse", name := "swapRows", desc := "([DII)V" } : Jvm.MethodName) prog_33_method_4_code (7 : Nat) (Option.none : Option Jvm.ClassFile.FieldType), Jvm.Cond.code ({ cls := "com/example/tracefold/tracefold/mining/DenseInverse", name := "times", desc := "([D)[D" } : Jvm.MethodName) prog_33_method_5_code (5 : Nat) (Option.some (Jvm.ClassFile.FieldType.array Jvm.ClassFile.FieldType.double))]
set_option maxRecDepth 65536 in
theorem codes_eq : words1.filter isCode = codes1 := rfl
theorem w_codes : ∀ c ∈ words1.filter isCode, c.before args0 about1 = true := by
  rw [codes_eq]
  intro c hc
  simp only [codes1, List.mem_cons, List.not_mem_nil, or_false] at hc
  rcases hc with rfl | rfl | rfl | rfl | rfl | rfl | rfl | rfl
  · exact w_c0
  · exact w_c1
  · exact w_c2
  · exact w_c3
  · exact w_c4
  · exact w_c5
  · exact w_c6
  · exact w_c7
set_option maxRecDepth 65536 in
theorem w_t1 : (words1.take 24).all (fun c => isCode c || c.before args0 about1) = true := by decide +kernel
set_option maxRecDepth 65536 in
theorem w_t2 : (words1.drop 24).all (fun c => isCode c || c.before args0 about1) = true := by decide +kernel
theorem w_tables : (allAtoms (Jvm.Cond.code x code maxLocals ret :: tables_1)).before args0 about1 = true := by
  rw [allAtoms_all]
  show words1.all (fun c => c.before args0 about1) = true
  refine all_split ?_ w_codes
  rw [← List.take_append_drop 24 words1, List.all_append, w_t1, w_t2]
  rfl
set_option maxRecDepth 65536 in
theorem w_case : (Jvm.Cond.and given_1 narrow_1).before args0 about1 = true := by decide +kernel
theorem w_applies : (headSpec (Jvm.Cond.code x code maxLocals ret :: tables_1) room_1).applies x e0.platform about1 = true :=
  (Spec.applies_iff w_frames).mpr ⟨w_running, w_runnable, w_alone, w_named, w_hears, w_ripe, w_room, w_tables⟩
theorem atStart : AtStart classFile x code maxLocals ret World_1 tables_1 room_1 Calls_1 rest_1 Pre_1 launch0 p0 e0 about1 theMethod args0 below0 :=
  ⟨lists_1, trivial, launch0.admits_env _ _ _, launch0.least_env, fairChoices_fair.cas, fairChoices_fair.clock, w_frames, w_args, w_heap, w_applies, trivial, trivial, w_case⟩
end start1
theorem witness_1 : WitnessClaimed_1 := ⟨start1.p0, start1.e0, start1.about1, start1.theMethod, start1.args0, start1.below0, start1.atStart⟩
end Jvm.Pilot.@@N@@
