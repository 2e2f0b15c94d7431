import JvmDerived
import JvmDerived.Pilot.@@N@@Statement
import JvmDerived.Pilot.@@N@@Code
set_option linter.unusedVariables false
set_option linter.unusedSimpArgs false
namespace Jvm.Pilot.@@N@@
open Jvm Jvm.ClassFile Sem Op Lib Jvm.Free Jvm.Stand Jvm.LawKit Jvm.RoadKit Bundle Jvm.Pilot.@@N@@.Jvm.D
section OwnKit
variable {p : Program} {l : Launch} {e : Env} {R : Room} {s : State} {m : MethodId} {args : Array Value} {below : List Frame} {meth : Method} {c : Code} {T : State} {locs : List Loc} {cells slots : Nat} {Z : State} {a0 : Array Value} {h h' : Heap} {Ev : State → Outcome → Prop}
def Go (p : Program) (e : Env) (below : List Frame) (Ev : State → Outcome → Prop) (T : State) (g : JFrame) : Prop :=
  ∃ (U : State) (o : Outcome), Steps p.tables e below (T.setTop g) U ∧ U.status = .running ∧ Ended U below o ∧ Ev U o
theorem Go.on {T T' : State} {g g' : JFrame} (K : Go p e below Ev T' g') (st : ∀ t, Steps p.tables e below (T'.setTop g') t → Steps p.tables e below (T.setTop g) t) : Go p e below Ev T g := by
  obtain ⟨U, o, h1, h2⟩ := K
  exact ⟨U, o, st _ h1, h2⟩
/-- what a body leaves -/
abbrev EndQ (s : State) (Q : Option Value → Heap → List Loc → Prop) (K N : Nat) : State → Outcome → Prop := fun U o => ∃ (v : Option Value) (L : List Loc), o = .returned v ∧ Q v U.heap L ∧ FrameEnd s o U L K N
theorem own_met {x : MethodName} {code : ByteArray} {ml : Nat} {ret : Option FieldType} {ws : List Jvm.Cond} {rm : Room} {as : Array Value} {h0 : Heap} {Q : Option Value → Heap → List Loc → Prop} {K N : Nat} {Ls : Array Slot} (hpn : plainFor x = true) (hef : ∀ m, entryFrame m as ml = mkF m 0 Ls [])
    (body : ∀ (p : Program) (e : Env) (s : State) (m : MethodId) (below : List Frame) (meth : Method) (c : Code) (T : State), Stand p l e rm s m as below meth c T [] 0 0 → p.tables.exec = Jvm.exec → c.code = code → c.maxLocals = ml → meth.sig.returnType = ret → meth.locks = false → meth.name = x.name → s.vm.findClass x.cls = some m.cls → Z.Warmed39 s.vm → T.heap = h0 → Go p e below (EndQ s Q K N) T (mkF m 0 Ls [])) :
    MetFree l x (head1 (Jvm.Cond.code x code ml ret :: ws) rm) (fun a U => a = as ∧ Z.Warmed39 U.vm ∧ U.heap = h0) (fun _ _ _ _ _ => True) (fun _ U o U' => ∃ v L, o = .returned v ∧ Q v U'.heap L ∧ FrameEnd U o U' L K N) := by
  refine MetFree.of_bodySF hpn hisR ?_
  intro p e s m args below meth c s₁ Bd hml0 hP hK
  obtain ⟨rfl, hZ, hh⟩ := hP
  have e0 : s₁.heap = h0 := by rw [← hh, Bd.state]; rfl
  obtain ⟨U, o, h1, h2, h3, h4⟩ := body p e s m below meth c s₁ (Stand.of_body Bd) Bd.exec Bd.bytes hml0 Bd.returns (BodyLoose.notSynchronized Bd) (name_of_methodNamed Bd.named Bd.method).1 (findClass_of_methodNamed Bd.named) hZ e0
  rw [← hef m] at h1
  exact ⟨U, o, h1, h2, h3, h4⟩
theorem g_leave (X : Stand p l e R s m args below meth c T locs cells slots) (hlk : meth.locks = false) {Q : Option Value → Heap → List Loc → Prop} {K N : Nat} {g : JFrame} {v : Option Value} (hv : meth.sig.returnType = none → v = none) (hK : cells ≤ K) (hN : slots ≤ N) (eT : T.heap = h) (hQ : Q v h locs)
    (hst : ∀ fs, (∀ (f : JFrame) (acts : List Action), f.method = m → f.locked = none → f.entered = [] → (doReturn e (T.setTop f) acts v).1 = T.setFrames fs) → Steps p.tables e below (T.setTop g) (T.setFrames fs)) : Go p e below (EndQ s Q K N) T g := by
  obtain ⟨fs, hr, hrun, hended, hW, hsame⟩ := X.leave (v := v) hv hlk
  exact ⟨_, _, hst fs hr, hrun, hended, _, _, rfl, by rw [show (T.setFrames fs).heap = T.heap from rfl, eT]; exact hQ, ⟨_, rfl⟩, hW, hsame.mono hK hN⟩
theorem g_retI (X : Stand p l e R s m args below meth c T locs cells slots) (hx : p.tables.exec = Jvm.exec) (hlk : meth.locks = false) {Q : Option Value → Heap → List Loc → Prop} {K N : Nat} {pc : Nat} {Ls : Array Slot} {z : Int32} {rest : List Value} (hret : meth.sig.returnType = some .int) (hd : decode c.code pc = .ok (.ireturn, 1)) (hK : cells ≤ K) (hN : slots ≤ N) (eT : T.heap = h) (hQ : Q (some (.int z)) h locs) : Go p e below (EndQ s Q K N) T (mkF m pc Ls (.int z :: rest)) :=
  g_leave X hlk (fun q => by rw [hret] at q; cases q) hK hN eT hQ (fun fs hr => retOut X hx hret rfl (Or.inl ⟨rfl, Or.inl rfl, _, rfl⟩) hd hr)
theorem g_retZ (X : Stand p l e R s m args below meth c T locs cells slots) (hx : p.tables.exec = Jvm.exec) (hlk : meth.locks = false) {Q : Option Value → Heap → List Loc → Prop} {K N : Nat} {pc : Nat} {Ls : Array Slot} {z : Int32} {rest : List Value} (hret : meth.sig.returnType = some .boolean) (hd : decode c.code pc = .ok (.ireturn, 1)) (hK : cells ≤ K) (hN : slots ≤ N) (eT : T.heap = h) (hQ : Q (some (.int (nar .boolean z))) h locs) : Go p e below (EndQ s Q K N) T (mkF m pc Ls (.int z :: rest)) :=
  g_leave X hlk (fun q => by rw [hret] at q; cases q) hK hN eT hQ (fun fs hr => retN X hx (t := .boolean) hret (by simp) hd hr)
theorem g_retD (X : Stand p l e R s m args below meth c T locs cells slots) (hx : p.tables.exec = Jvm.exec) (hlk : meth.locks = false) {Q : Option Value → Heap → List Loc → Prop} {K N : Nat} {pc : Nat} {Ls : Array Slot} {z : UInt64} {rest : List Value} (hret : meth.sig.returnType = some .double) (hd : decode c.code pc = .ok (.dreturn, 1)) (hK : cells ≤ K) (hN : slots ≤ N) (eT : T.heap = h) (hQ : Q (some (.double z)) h locs) : Go p e below (EndQ s Q K N) T (mkF m pc Ls (.double z :: rest)) :=
  g_leave X hlk (fun q => by rw [hret] at q; cases q) hK hN eT hQ (fun fs hr => retOut X hx hret rfl (Or.inr (Or.inr (Or.inl ⟨rfl, rfl, _, rfl⟩))) hd hr)
theorem g_retJ (X : Stand p l e R s m args below meth c T locs cells slots) (hx : p.tables.exec = Jvm.exec) (hlk : meth.locks = false) {Q : Option Value → Heap → List Loc → Prop} {K N : Nat} {pc : Nat} {Ls : Array Slot} {z : Int64} {rest : List Value} (hret : meth.sig.returnType = some .long) (hd : decode c.code pc = .ok (.lreturn, 1)) (hK : cells ≤ K) (hN : slots ≤ N) (eT : T.heap = h) (hQ : Q (some (.long z)) h locs) : Go p e below (EndQ s Q K N) T (mkF m pc Ls (.long z :: rest)) :=
  g_leave X hlk (fun q => by rw [hret] at q; cases q) hK hN eT hQ (fun fs hr => retOut X hx hret rfl (Or.inr (Or.inl ⟨rfl, rfl, _, rfl⟩)) hd hr)
theorem g_retA (X : Stand p l e R s m args below meth c T locs cells slots) (hx : p.tables.exec = Jvm.exec) (hlk : meth.locks = false) {Q : Option Value → Heap → List Loc → Prop} {K N : Nat} {pc : Nat} {Ls : Array Slot} {w : Value} {rest : List Value} {t : FieldType} (hret : meth.sig.returnType = some t) (ht : t.isReference = true) (hw : w.isRef = true) (hn : narrow t w = w) (hd : decode c.code pc = .ok (.areturn, 1)) (hK : cells ≤ K) (hN : slots ≤ N) (eT : T.heap = h) (hQ : Q (some w) h locs) : Go p e below (EndQ s Q K N) T (mkF m pc Ls (w :: rest)) :=
  g_leave X hlk (fun q => by rw [hret] at q; cases q) hK hN eT hQ (fun fs hr => retOut X hx hret hn (Or.inr (Or.inr (Or.inr (Or.inr ⟨rfl, ht, hw⟩)))) hd hr)
theorem g_retV (X : Stand p l e R s m args below meth c T locs cells slots) (hx : p.tables.exec = Jvm.exec) (hlk : meth.locks = false) {Q : Option Value → Heap → List Loc → Prop} {K N : Nat} {pc : Nat} {Ls : Array Slot} (hret : meth.sig.returnType = none) (hd : decode c.code pc = .ok (.return_, 1)) (hK : cells ≤ K) (hN : slots ≤ N) (eT : T.heap = h) (hQ : Q none h locs) : Go p e below (EndQ s Q K N) T (mkF m pc Ls []) :=
  g_leave X hlk (fun _ => rfl) hK hN eT hQ (fun fs hr => X.returnOut hx hret hd hr)
theorem g_iloadN (X : Stand p l e R s m args below meth c T locs cells slots) (hx : p.tables.exec = Jvm.exec) {pc : Nat} {Ls : Array Slot} {st : List Value} {k : Fin 4} {v : Int32} (q : Nat) (hd : decode c.code pc = .ok (.iload_n k, 1)) (hq : pc + 1 = q) (hl : Ls[k.val]? = some (.val (.int v))) (K : Go p e below Ev T (mkF m q Ls (.int v :: st))) : Go p e below Ev T (mkF m pc Ls st) := by
  subst hq
  exact K.on fun _ k => XS.iloadN X.here hx rfl hd hl k
theorem g_iload (X : Stand p l e R s m args below meth c T locs cells slots) (hx : p.tables.exec = Jvm.exec) {pc : Nat} {Ls : Array Slot} {st : List Value} {k : Nat} {v : Int32} (q : Nat) (hd : decode c.code pc = .ok (.iload k, 2)) (hq : pc + 2 = q) (hl : Ls[k]? = some (.val (.int v))) (K : Go p e below Ev T (mkF m q Ls (.int v :: st))) : Go p e below Ev T (mkF m pc Ls st) := by
  subst hq
  exact K.on fun _ k => XS.iload X.here hx rfl hd hl k
theorem g_istoreN (X : Stand p l e R s m args below meth c T locs cells slots) (hx : p.tables.exec = Jvm.exec) {pc : Nat} {Ls : Array Slot} {st : List Value} {k : Fin 4} {v : Int32} {l' : Array Slot} (q : Nat) (hd : decode c.code pc = .ok (.istore_n k, 1)) (hq : pc + 1 = q) (hl : storeLocals Ls k.val (.int v) = some l') (K : Go p e below Ev T (mkF m q l' st)) : Go p e below Ev T (mkF m pc Ls (.int v :: st)) := by
  subst hq
  exact K.on fun _ k => XS.istoreN X.here hx rfl hd rfl hl k
theorem g_istore (X : Stand p l e R s m args below meth c T locs cells slots) (hx : p.tables.exec = Jvm.exec) {pc : Nat} {Ls : Array Slot} {st : List Value} {k : Nat} {v : Int32} {l' : Array Slot} (q : Nat) (hd : decode c.code pc = .ok (.istore k, 2)) (hq : pc + 2 = q) (hl : storeLocals Ls k (.int v) = some l') (K : Go p e below Ev T (mkF m q l' st)) : Go p e below Ev T (mkF m pc Ls (.int v :: st)) := by
  subst hq
  exact K.on fun _ k => XS.istore X.here hx rfl hd rfl hl k
theorem g_lloadN (X : Stand p l e R s m args below meth c T locs cells slots) (hx : p.tables.exec = Jvm.exec) {pc : Nat} {Ls : Array Slot} {st : List Value} {k : Fin 4} {v : Int64} (q : Nat) (hd : decode c.code pc = .ok (.lload_n k, 1)) (hq : pc + 1 = q) (hl : Ls[k.val]? = some (.val (.long v))) (K : Go p e below Ev T (mkF m q Ls (.long v :: st))) : Go p e below Ev T (mkF m pc Ls st) := by
  subst hq
  exact K.on fun _ k => XS.lloadN X.here hx rfl hd hl k
theorem g_lload (X : Stand p l e R s m args below meth c T locs cells slots) (hx : p.tables.exec = Jvm.exec) {pc : Nat} {Ls : Array Slot} {st : List Value} {k : Nat} {v : Int64} (q : Nat) (hd : decode c.code pc = .ok (.lload k, 2)) (hq : pc + 2 = q) (hl : Ls[k]? = some (.val (.long v))) (K : Go p e below Ev T (mkF m q Ls (.long v :: st))) : Go p e below Ev T (mkF m pc Ls st) := by
  subst hq
  exact K.on fun _ k => XS.lload X.here hx rfl hd hl k
theorem g_lstoreN (X : Stand p l e R s m args below meth c T locs cells slots) (hx : p.tables.exec = Jvm.exec) {pc : Nat} {Ls : Array Slot} {st : List Value} {k : Fin 4} {v : Int64} {l' : Array Slot} (q : Nat) (hd : decode c.code pc = .ok (.lstore_n k, 1)) (hq : pc + 1 = q) (hl : storeLocals Ls k.val (.long v) = some l') (K : Go p e below Ev T (mkF m q l' st)) : Go p e below Ev T (mkF m pc Ls (.long v :: st)) := by
  subst hq
  exact K.on fun _ k => XS.lstoreN X.here hx rfl hd rfl hl k
theorem g_lstore (X : Stand p l e R s m args below meth c T locs cells slots) (hx : p.tables.exec = Jvm.exec) {pc : Nat} {Ls : Array Slot} {st : List Value} {k : Nat} {v : Int64} {l' : Array Slot} (q : Nat) (hd : decode c.code pc = .ok (.lstore k, 2)) (hq : pc + 2 = q) (hl : storeLocals Ls k (.long v) = some l') (K : Go p e below Ev T (mkF m q l' st)) : Go p e below Ev T (mkF m pc Ls (.long v :: st)) := by
  subst hq
  exact K.on fun _ k => XS.lstore X.here hx rfl hd rfl hl k
theorem g_dloadN (X : Stand p l e R s m args below meth c T locs cells slots) (hx : p.tables.exec = Jvm.exec) {pc : Nat} {Ls : Array Slot} {st : List Value} {k : Fin 4} {v : UInt64} (q : Nat) (hd : decode c.code pc = .ok (.dload_n k, 1)) (hq : pc + 1 = q) (hl : Ls[k.val]? = some (.val (.double v))) (K : Go p e below Ev T (mkF m q Ls (.double v :: st))) : Go p e below Ev T (mkF m pc Ls st) := by
  subst hq
  exact K.on fun _ k => XS.dloadN X.here hx rfl hd hl k
theorem g_dload (X : Stand p l e R s m args below meth c T locs cells slots) (hx : p.tables.exec = Jvm.exec) {pc : Nat} {Ls : Array Slot} {st : List Value} {k : Nat} {v : UInt64} (q : Nat) (hd : decode c.code pc = .ok (.dload k, 2)) (hq : pc + 2 = q) (hl : Ls[k]? = some (.val (.double v))) (K : Go p e below Ev T (mkF m q Ls (.double v :: st))) : Go p e below Ev T (mkF m pc Ls st) := by
  subst hq
  exact K.on fun _ k => XS.dload X.here hx rfl hd hl k
theorem g_dstoreN (X : Stand p l e R s m args below meth c T locs cells slots) (hx : p.tables.exec = Jvm.exec) {pc : Nat} {Ls : Array Slot} {st : List Value} {k : Fin 4} {v : UInt64} {l' : Array Slot} (q : Nat) (hd : decode c.code pc = .ok (.dstore_n k, 1)) (hq : pc + 1 = q) (hl : storeLocals Ls k.val (.double v) = some l') (K : Go p e below Ev T (mkF m q l' st)) : Go p e below Ev T (mkF m pc Ls (.double v :: st)) := by
  subst hq
  exact K.on fun _ k => XS.dstoreN X.here hx rfl hd rfl hl k
theorem g_dstore (X : Stand p l e R s m args below meth c T locs cells slots) (hx : p.tables.exec = Jvm.exec) {pc : Nat} {Ls : Array Slot} {st : List Value} {k : Nat} {v : UInt64} {l' : Array Slot} (q : Nat) (hd : decode c.code pc = .ok (.dstore k, 2)) (hq : pc + 2 = q) (hl : storeLocals Ls k (.double v) = some l') (K : Go p e below Ev T (mkF m q l' st)) : Go p e below Ev T (mkF m pc Ls (.double v :: st)) := by
  subst hq
  exact K.on fun _ k => XS.dstore X.here hx rfl hd rfl hl k
theorem g_aloadN (X : Stand p l e R s m args below meth c T locs cells slots) (hx : p.tables.exec = Jvm.exec) {pc : Nat} {Ls : Array Slot} {st : List Value} {k : Fin 4} {v : Value} (q : Nat) (hd : decode c.code pc = .ok (.aload_n k, 1)) (hq : pc + 1 = q) (hl : Ls[k.val]? = some (.val v)) (hv : v.isRef = true) (K : Go p e below Ev T (mkF m q Ls (v :: st))) : Go p e below Ev T (mkF m pc Ls st) := by
  subst hq
  exact K.on fun _ k => XS.aloadN X.here hx rfl hd hl hv k
theorem g_aload (X : Stand p l e R s m args below meth c T locs cells slots) (hx : p.tables.exec = Jvm.exec) {pc : Nat} {Ls : Array Slot} {st : List Value} {k : Nat} {v : Value} (q : Nat) (hd : decode c.code pc = .ok (.aload k, 2)) (hq : pc + 2 = q) (hl : Ls[k]? = some (.val v)) (hv : v.isRef = true) (K : Go p e below Ev T (mkF m q Ls (v :: st))) : Go p e below Ev T (mkF m pc Ls st) := by
  subst hq
  exact K.on fun _ k => XS.aload X.here hx rfl hd hl hv k
theorem g_astoreN (X : Stand p l e R s m args below meth c T locs cells slots) (hx : p.tables.exec = Jvm.exec) {pc : Nat} {Ls : Array Slot} {st : List Value} {k : Fin 4} {v : Value} {l' : Array Slot} (q : Nat) (hd : decode c.code pc = .ok (.astore_n k, 1)) (hq : pc + 1 = q) (hv : v.isRef = true) (hl : storeLocals Ls k.val v = some l') (K : Go p e below Ev T (mkF m q l' st)) : Go p e below Ev T (mkF m pc Ls (v :: st)) := by
  subst hq
  exact K.on fun _ k => XS.astoreN X.here hx rfl hd rfl hv hl k
theorem g_astore (X : Stand p l e R s m args below meth c T locs cells slots) (hx : p.tables.exec = Jvm.exec) {pc : Nat} {Ls : Array Slot} {st : List Value} {k : Nat} {v : Value} {l' : Array Slot} (q : Nat) (hd : decode c.code pc = .ok (.astore k, 2)) (hq : pc + 2 = q) (hv : v.isRef = true) (hl : storeLocals Ls k v = some l') (K : Go p e below Ev T (mkF m q l' st)) : Go p e below Ev T (mkF m pc Ls (v :: st)) := by
  subst hq
  exact K.on fun _ k => XS.astore X.here hx rfl hd rfl hv hl k
theorem g_iconst (X : Stand p l e R s m args below meth c T locs cells slots) (hx : p.tables.exec = Jvm.exec) {pc : Nat} {Ls : Array Slot} {st : List Value} {i : Int} (v : Int32) (q : Nat) (hd : decode c.code pc = .ok (.iconst i, 1)) (hq : pc + 1 = q) (hv : Int32.ofInt i = v) (K : Go p e below Ev T (mkF m q Ls (.int v :: st))) : Go p e below Ev T (mkF m pc Ls st) := by
  subst hq
  exact K.on fun _ k => XT.iconstV X.here hx rfl v hd hv k
theorem g_bipush (X : Stand p l e R s m args below meth c T locs cells slots) (hx : p.tables.exec = Jvm.exec) {pc : Nat} {Ls : Array Slot} {st : List Value} {i : Int} (v : Int32) (q : Nat) (hd : decode c.code pc = .ok (.bipush i, 2)) (hq : pc + 2 = q) (hv : (Int8.ofInt i).toInt32 = v) (K : Go p e below Ev T (mkF m q Ls (.int v :: st))) : Go p e below Ev T (mkF m pc Ls st) := by
  subst hq
  exact K.on fun _ k => XT.bipushV X.here hx rfl v hd hv k
theorem g_sipush (X : Stand p l e R s m args below meth c T locs cells slots) (hx : p.tables.exec = Jvm.exec) {pc : Nat} {Ls : Array Slot} {st : List Value} {i : Int} (v : Int32) (q : Nat) (hd : decode c.code pc = .ok (.sipush i, 3)) (hq : pc + 3 = q) (hv : (Int16.ofInt i).toInt32 = v) (K : Go p e below Ev T (mkF m q Ls (.int v :: st))) : Go p e below Ev T (mkF m pc Ls st) := by
  subst hq
  exact K.on fun _ k => XT.sipushV X.here hx rfl v hd hv k
theorem g_lconst (X : Stand p l e R s m args below meth c T locs cells slots) (hx : p.tables.exec = Jvm.exec) {pc : Nat} {Ls : Array Slot} {st : List Value} {i : Fin 2} (v : Int64) (q : Nat) (hd : decode c.code pc = .ok (.lconst i, 1)) (hq : pc + 1 = q) (hv : Int64.ofNat i = v) (K : Go p e below Ev T (mkF m q Ls (.long v :: st))) : Go p e below Ev T (mkF m pc Ls st) := by
  subst hq
  exact K.on fun _ k => XT.lconstV X.here hx rfl v hd hv k
theorem g_dconst0 (X : Stand p l e R s m args below meth c T locs cells slots) (hx : p.tables.exec = Jvm.exec) {pc : Nat} {Ls : Array Slot} {st : List Value}  (q : Nat) (hd : decode c.code pc = .ok (.dconst 0, 1)) (hq : pc + 1 = q)  (K : Go p e below Ev T (mkF m q Ls (.double 0 :: st))) : Go p e below Ev T (mkF m pc Ls st) := by
  subst hq
  exact K.on fun _ k => XS.dconst0 X.here hx rfl hd rfl k
theorem g_dconst1 (X : Stand p l e R s m args below meth c T locs cells slots) (hx : p.tables.exec = Jvm.exec) {pc : Nat} {Ls : Array Slot} {st : List Value}  (q : Nat) (hd : decode c.code pc = .ok (.dconst 1, 1)) (hq : pc + 1 = q)  (K : Go p e below Ev T (mkF m q Ls (.double 4607182418800017408 :: st))) : Go p e below Ev T (mkF m pc Ls st) := by
  subst hq
  exact K.on fun _ k => XS.dconst1 X.here hx rfl hd rfl k
theorem g_null (X : Stand p l e R s m args below meth c T locs cells slots) (hx : p.tables.exec = Jvm.exec) {pc : Nat} {Ls : Array Slot} {st : List Value}  (q : Nat) (hd : decode c.code pc = .ok (.aconst_null, 1)) (hq : pc + 1 = q)  (K : Go p e below Ev T (mkF m q Ls (.null :: st))) : Go p e below Ev T (mkF m pc Ls st) := by
  subst hq
  exact K.on fun _ k => XS.aconstNull X.here hx rfl hd k
theorem g_iinc (X : Stand p l e R s m args below meth c T locs cells slots) (hx : p.tables.exec = Jvm.exec) {pc : Nat} {Ls : Array Slot} {st : List Value} {k : Nat} {i : Int} {v w : Int32} {l' : Array Slot} (q : Nat) (hd : decode c.code pc = .ok (.iinc k i, 3)) (hq : pc + 3 = q) (hl : Ls[k]? = some (.val (.int v))) (hv : Int32.ofInt i = w) (hl' : storeLocals Ls k (.int (v + w)) = some l') (K : Go p e below Ev T (mkF m q l' st)) : Go p e below Ev T (mkF m pc Ls st) := by
  subst hq
  exact K.on fun _ k => XT.iincV X.here hx rfl w hd hv hl hl' k
theorem g_iadd (X : Stand p l e R s m args below meth c T locs cells slots) (hx : p.tables.exec = Jvm.exec) {pc : Nat} {Ls : Array Slot} {st : List Value} {x y : Int32} (q : Nat) (hd : decode c.code pc = .ok (.iadd, 1)) (hq : pc + 1 = q)  (K : Go p e below Ev T (mkF m q Ls (.int (x + y) :: st))) : Go p e below Ev T (mkF m pc Ls (.int y :: .int x :: st)) := by
  subst hq
  exact K.on fun _ k => XS.iadd X.here hx rfl hd rfl k
theorem g_ladd (X : Stand p l e R s m args below meth c T locs cells slots) (hx : p.tables.exec = Jvm.exec) {pc : Nat} {Ls : Array Slot} {st : List Value} {x y : Int64} (q : Nat) (hd : decode c.code pc = .ok (.ladd, 1)) (hq : pc + 1 = q)  (K : Go p e below Ev T (mkF m q Ls (.long (x + y) :: st))) : Go p e below Ev T (mkF m pc Ls (.long y :: .long x :: st)) := by
  subst hq
  exact K.on fun _ k => XS.ladd X.here hx rfl hd rfl k
theorem g_isub (X : Stand p l e R s m args below meth c T locs cells slots) (hx : p.tables.exec = Jvm.exec) {pc : Nat} {Ls : Array Slot} {st : List Value} {x y : Int32} (q : Nat) (hd : decode c.code pc = .ok (.isub, 1)) (hq : pc + 1 = q)  (K : Go p e below Ev T (mkF m q Ls (.int (x - y) :: st))) : Go p e below Ev T (mkF m pc Ls (.int y :: .int x :: st)) := by
  subst hq
  exact K.on fun _ k => XS.isub X.here hx rfl hd rfl k
theorem g_lsub (X : Stand p l e R s m args below meth c T locs cells slots) (hx : p.tables.exec = Jvm.exec) {pc : Nat} {Ls : Array Slot} {st : List Value} {x y : Int64} (q : Nat) (hd : decode c.code pc = .ok (.lsub, 1)) (hq : pc + 1 = q)  (K : Go p e below Ev T (mkF m q Ls (.long (x - y) :: st))) : Go p e below Ev T (mkF m pc Ls (.long y :: .long x :: st)) := by
  subst hq
  exact K.on fun _ k => XS.lsub X.here hx rfl hd rfl k
theorem g_imul (X : Stand p l e R s m args below meth c T locs cells slots) (hx : p.tables.exec = Jvm.exec) {pc : Nat} {Ls : Array Slot} {st : List Value} {x y : Int32} (q : Nat) (hd : decode c.code pc = .ok (.imul, 1)) (hq : pc + 1 = q)  (K : Go p e below Ev T (mkF m q Ls (.int (x * y) :: st))) : Go p e below Ev T (mkF m pc Ls (.int y :: .int x :: st)) := by
  subst hq
  exact K.on fun _ k => XS.imul X.here hx rfl hd rfl k
theorem g_lmul (X : Stand p l e R s m args below meth c T locs cells slots) (hx : p.tables.exec = Jvm.exec) {pc : Nat} {Ls : Array Slot} {st : List Value} {x y : Int64} (q : Nat) (hd : decode c.code pc = .ok (.lmul, 1)) (hq : pc + 1 = q)  (K : Go p e below Ev T (mkF m q Ls (.long (x * y) :: st))) : Go p e below Ev T (mkF m pc Ls (.long y :: .long x :: st)) := by
  subst hq
  exact K.on fun _ k => XS.lmul X.here hx rfl hd rfl k
theorem g_iand (X : Stand p l e R s m args below meth c T locs cells slots) (hx : p.tables.exec = Jvm.exec) {pc : Nat} {Ls : Array Slot} {st : List Value} {x y : Int32} (q : Nat) (hd : decode c.code pc = .ok (.iand, 1)) (hq : pc + 1 = q)  (K : Go p e below Ev T (mkF m q Ls (.int (x &&& y) :: st))) : Go p e below Ev T (mkF m pc Ls (.int y :: .int x :: st)) := by
  subst hq
  exact K.on fun _ k => XS.iand X.here hx rfl hd rfl k
theorem g_land (X : Stand p l e R s m args below meth c T locs cells slots) (hx : p.tables.exec = Jvm.exec) {pc : Nat} {Ls : Array Slot} {st : List Value} {x y : Int64} (q : Nat) (hd : decode c.code pc = .ok (.land, 1)) (hq : pc + 1 = q)  (K : Go p e below Ev T (mkF m q Ls (.long (x &&& y) :: st))) : Go p e below Ev T (mkF m pc Ls (.long y :: .long x :: st)) := by
  subst hq
  exact K.on fun _ k => XS.land X.here hx rfl hd rfl k
theorem g_ior (X : Stand p l e R s m args below meth c T locs cells slots) (hx : p.tables.exec = Jvm.exec) {pc : Nat} {Ls : Array Slot} {st : List Value} {x y : Int32} (q : Nat) (hd : decode c.code pc = .ok (.ior, 1)) (hq : pc + 1 = q)  (K : Go p e below Ev T (mkF m q Ls (.int (x ||| y) :: st))) : Go p e below Ev T (mkF m pc Ls (.int y :: .int x :: st)) := by
  subst hq
  exact K.on fun _ k => XS.ior X.here hx rfl hd rfl k
theorem g_lor (X : Stand p l e R s m args below meth c T locs cells slots) (hx : p.tables.exec = Jvm.exec) {pc : Nat} {Ls : Array Slot} {st : List Value} {x y : Int64} (q : Nat) (hd : decode c.code pc = .ok (.lor, 1)) (hq : pc + 1 = q)  (K : Go p e below Ev T (mkF m q Ls (.long (x ||| y) :: st))) : Go p e below Ev T (mkF m pc Ls (.long y :: .long x :: st)) := by
  subst hq
  exact K.on fun _ k => XS.lor X.here hx rfl hd rfl k
theorem g_ixor (X : Stand p l e R s m args below meth c T locs cells slots) (hx : p.tables.exec = Jvm.exec) {pc : Nat} {Ls : Array Slot} {st : List Value} {x y : Int32} (q : Nat) (hd : decode c.code pc = .ok (.ixor, 1)) (hq : pc + 1 = q)  (K : Go p e below Ev T (mkF m q Ls (.int (x ^^^ y) :: st))) : Go p e below Ev T (mkF m pc Ls (.int y :: .int x :: st)) := by
  subst hq
  exact K.on fun _ k => XS.ixor X.here hx rfl hd rfl k
theorem g_lxor (X : Stand p l e R s m args below meth c T locs cells slots) (hx : p.tables.exec = Jvm.exec) {pc : Nat} {Ls : Array Slot} {st : List Value} {x y : Int64} (q : Nat) (hd : decode c.code pc = .ok (.lxor, 1)) (hq : pc + 1 = q)  (K : Go p e below Ev T (mkF m q Ls (.long (x ^^^ y) :: st))) : Go p e below Ev T (mkF m pc Ls (.long y :: .long x :: st)) := by
  subst hq
  exact K.on fun _ k => XS.lxor X.here hx rfl hd rfl k
theorem g_idiv (X : Stand p l e R s m args below meth c T locs cells slots) (hx : p.tables.exec = Jvm.exec) {pc : Nat} {Ls : Array Slot} {st : List Value} {x y : Int32} (q : Nat) (hd : decode c.code pc = .ok (.idiv, 1)) (hq : pc + 1 = q) (hy : y ≠ 0) (K : Go p e below Ev T (mkF m q Ls (.int (x / y) :: st))) : Go p e below Ev T (mkF m pc Ls (.int y :: .int x :: st)) := by
  subst hq
  exact K.on fun _ k => XS.idiv X.here hx rfl hd rfl hy k
theorem g_ineg (X : Stand p l e R s m args below meth c T locs cells slots) (hx : p.tables.exec = Jvm.exec) {pc : Nat} {Ls : Array Slot} {st : List Value} {x : Int32} (q : Nat) (hd : decode c.code pc = .ok (.ineg, 1)) (hq : pc + 1 = q)  (K : Go p e below Ev T (mkF m q Ls (.int (-x) :: st))) : Go p e below Ev T (mkF m pc Ls (.int x :: st)) := by
  subst hq
  exact K.on fun _ k => XS.ineg X.here hx rfl hd rfl k
theorem g_ldiv (X : Stand p l e R s m args below meth c T locs cells slots) (hx : p.tables.exec = Jvm.exec) {pc : Nat} {Ls : Array Slot} {st : List Value} {x y : Int64} (q : Nat) (hd : decode c.code pc = .ok (.ldiv, 1)) (hq : pc + 1 = q) (hy : y ≠ 0) (K : Go p e below Ev T (mkF m q Ls (.long (x / y) :: st))) : Go p e below Ev T (mkF m pc Ls (.long y :: .long x :: st)) := by
  subst hq
  exact K.on fun _ k => XS.ldiv X.here hx rfl hd rfl hy k
theorem g_lneg (X : Stand p l e R s m args below meth c T locs cells slots) (hx : p.tables.exec = Jvm.exec) {pc : Nat} {Ls : Array Slot} {st : List Value} {x : Int64} (q : Nat) (hd : decode c.code pc = .ok (.lneg, 1)) (hq : pc + 1 = q)  (K : Go p e below Ev T (mkF m q Ls (.long (-x) :: st))) : Go p e below Ev T (mkF m pc Ls (.long x :: st)) := by
  subst hq
  exact K.on fun _ k => XS.lneg X.here hx rfl hd rfl k
theorem g_irem (X : Stand p l e R s m args below meth c T locs cells slots) (hx : p.tables.exec = Jvm.exec) {pc : Nat} {Ls : Array Slot} {st : List Value} {x y : Int32} (q : Nat) (hd : decode c.code pc = .ok (.irem, 1)) (hq : pc + 1 = q) (hy : y ≠ 0) (K : Go p e below Ev T (mkF m q Ls (.int (x % y) :: st))) : Go p e below Ev T (mkF m pc Ls (.int y :: .int x :: st)) := by
  subst hq
  exact K.on fun _ k => iremM X hx rfl hd rfl hy k
theorem g_lrem (X : Stand p l e R s m args below meth c T locs cells slots) (hx : p.tables.exec = Jvm.exec) {pc : Nat} {Ls : Array Slot} {st : List Value} {x y : Int64} (q : Nat) (hd : decode c.code pc = .ok (.lrem, 1)) (hq : pc + 1 = q) (hy : y ≠ 0) (K : Go p e below Ev T (mkF m q Ls (.long (x - (x / y) * y) :: st))) : Go p e below Ev T (mkF m pc Ls (.long y :: .long x :: st)) := by
  subst hq
  exact K.on fun _ k => XS.lrem X.here hx rfl hd rfl hy k
theorem g_ishl (X : Stand p l e R s m args below meth c T locs cells slots) (hx : p.tables.exec = Jvm.exec) {pc : Nat} {Ls : Array Slot} {st : List Value} {x y : Int32} (q : Nat) (hd : decode c.code pc = .ok (.ishl, 1)) (hq : pc + 1 = q)  (K : Go p e below Ev T (mkF m q Ls (.int (x <<< (y &&& 31)) :: st))) : Go p e below Ev T (mkF m pc Ls (.int y :: .int x :: st)) := by
  subst hq
  exact K.on fun _ k => XS.ishl X.here hx rfl hd rfl k
theorem g_ishr (X : Stand p l e R s m args below meth c T locs cells slots) (hx : p.tables.exec = Jvm.exec) {pc : Nat} {Ls : Array Slot} {st : List Value} {x y : Int32} (q : Nat) (hd : decode c.code pc = .ok (.ishr, 1)) (hq : pc + 1 = q)  (K : Go p e below Ev T (mkF m q Ls (.int (x >>> (y &&& 31)) :: st))) : Go p e below Ev T (mkF m pc Ls (.int y :: .int x :: st)) := by
  subst hq
  exact K.on fun _ k => XS.ishr X.here hx rfl hd rfl k
theorem g_iushr (X : Stand p l e R s m args below meth c T locs cells slots) (hx : p.tables.exec = Jvm.exec) {pc : Nat} {Ls : Array Slot} {st : List Value} {x y : Int32} (q : Nat) (hd : decode c.code pc = .ok (.iushr, 1)) (hq : pc + 1 = q)  (K : Go p e below Ev T (mkF m q Ls (.int ((x.toUInt32 >>> (y &&& 31).toUInt32).toInt32) :: st))) : Go p e below Ev T (mkF m pc Ls (.int y :: .int x :: st)) := by
  subst hq
  exact K.on fun _ k => XS.iushr X.here hx rfl hd rfl k
theorem g_lshl (X : Stand p l e R s m args below meth c T locs cells slots) (hx : p.tables.exec = Jvm.exec) {pc : Nat} {Ls : Array Slot} {st : List Value} {x : Int64} {y : Int32} (q : Nat) (hd : decode c.code pc = .ok (.lshl, 1)) (hq : pc + 1 = q)  (K : Go p e below Ev T (mkF m q Ls (.long (x <<< (y &&& 0x3f).toInt64) :: st))) : Go p e below Ev T (mkF m pc Ls (.int y :: .long x :: st)) := by
  subst hq
  exact K.on fun _ k => XS.lshl X.here hx rfl hd rfl k
theorem g_lshr (X : Stand p l e R s m args below meth c T locs cells slots) (hx : p.tables.exec = Jvm.exec) {pc : Nat} {Ls : Array Slot} {st : List Value} {x : Int64} {y : Int32} (q : Nat) (hd : decode c.code pc = .ok (.lshr, 1)) (hq : pc + 1 = q)  (K : Go p e below Ev T (mkF m q Ls (.long (x >>> (y &&& 0x3f).toInt64) :: st))) : Go p e below Ev T (mkF m pc Ls (.int y :: .long x :: st)) := by
  subst hq
  exact K.on fun _ k => XS.lshr X.here hx rfl hd rfl k
theorem g_lushr (X : Stand p l e R s m args below meth c T locs cells slots) (hx : p.tables.exec = Jvm.exec) {pc : Nat} {Ls : Array Slot} {st : List Value} {x : Int64} {y : Int32} (q : Nat) (hd : decode c.code pc = .ok (.lushr, 1)) (hq : pc + 1 = q)  (K : Go p e below Ev T (mkF m q Ls (.long ((x.toUInt64 >>> (y &&& 0x3f).toInt64.toUInt64).toInt64) :: st))) : Go p e below Ev T (mkF m pc Ls (.int y :: .long x :: st)) := by
  subst hq
  exact K.on fun _ k => XS.lushr X.here hx rfl hd rfl k
theorem g_i2l (X : Stand p l e R s m args below meth c T locs cells slots) (hx : p.tables.exec = Jvm.exec) {pc : Nat} {Ls : Array Slot} {st : List Value} {x : Int32} (q : Nat) (hd : decode c.code pc = .ok (.i2l, 1)) (hq : pc + 1 = q)  (K : Go p e below Ev T (mkF m q Ls (.long (x.toInt64) :: st))) : Go p e below Ev T (mkF m pc Ls (.int x :: st)) := by
  subst hq
  exact K.on fun _ k => XS.i2l X.here hx rfl hd rfl k
theorem g_l2i (X : Stand p l e R s m args below meth c T locs cells slots) (hx : p.tables.exec = Jvm.exec) {pc : Nat} {Ls : Array Slot} {st : List Value} {x : Int64} (q : Nat) (hd : decode c.code pc = .ok (.l2i, 1)) (hq : pc + 1 = q)  (K : Go p e below Ev T (mkF m q Ls (.int (x.toInt32) :: st))) : Go p e below Ev T (mkF m pc Ls (.long x :: st)) := by
  subst hq
  exact K.on fun _ k => XS.l2i X.here hx rfl hd rfl k
theorem g_i2b (X : Stand p l e R s m args below meth c T locs cells slots) (hx : p.tables.exec = Jvm.exec) {pc : Nat} {Ls : Array Slot} {st : List Value} {x : Int32} (q : Nat) (hd : decode c.code pc = .ok (.i2b, 1)) (hq : pc + 1 = q)  (K : Go p e below Ev T (mkF m q Ls (.int (x.toInt8.toInt32) :: st))) : Go p e below Ev T (mkF m pc Ls (.int x :: st)) := by
  subst hq
  exact K.on fun _ k => XS.i2b X.here hx rfl hd rfl k
theorem g_i2s (X : Stand p l e R s m args below meth c T locs cells slots) (hx : p.tables.exec = Jvm.exec) {pc : Nat} {Ls : Array Slot} {st : List Value} {x : Int32} (q : Nat) (hd : decode c.code pc = .ok (.i2s, 1)) (hq : pc + 1 = q)  (K : Go p e below Ev T (mkF m q Ls (.int (x.toInt16.toInt32) :: st))) : Go p e below Ev T (mkF m pc Ls (.int x :: st)) := by
  subst hq
  exact K.on fun _ k => XS.i2s X.here hx rfl hd rfl k
theorem g_i2c (X : Stand p l e R s m args below meth c T locs cells slots) (hx : p.tables.exec = Jvm.exec) {pc : Nat} {Ls : Array Slot} {st : List Value} {x : Int32} (q : Nat) (hd : decode c.code pc = .ok (.i2c, 1)) (hq : pc + 1 = q)  (K : Go p e below Ev T (mkF m q Ls (.int (x.toUInt32.toUInt16.toUInt32.toInt32) :: st))) : Go p e below Ev T (mkF m pc Ls (.int x :: st)) := by
  subst hq
  exact K.on fun _ k => XS.i2c X.here hx rfl hd rfl k
theorem g_lcmp (X : Stand p l e R s m args below meth c T locs cells slots) (hx : p.tables.exec = Jvm.exec) {pc : Nat} {Ls : Array Slot} {st : List Value} {x y : Int64} (q : Nat) (hd : decode c.code pc = .ok (.lcmp, 1)) (hq : pc + 1 = q)  (K : Go p e below Ev T (mkF m q Ls (.int (lcmpW x y) :: st))) : Go p e below Ev T (mkF m pc Ls (.long y :: .long x :: st)) := by
  subst hq
  exact K.on fun _ k => XS.lcmp X.here hx rfl hd rfl k
theorem g_i2d (X : Stand p l e R s m args below meth c T locs cells slots) (hx : p.tables.exec = Jvm.exec) {pc : Nat} {Ls : Array Slot} {st : List Value} {x : Int32} (q : Nat) (hd : decode c.code pc = .ok (.i2d, 1)) (hq : pc + 1 = q)  (K : Go p e below Ev T (mkF m q Ls (.double (FP.i2d x) :: st))) : Go p e below Ev T (mkF m pc Ls (.int x :: st)) := by
  subst hq
  exact K.on fun _ k => XS.i2dS X.here hx rfl hd rfl rfl k
theorem g_l2d (X : Stand p l e R s m args below meth c T locs cells slots) (hx : p.tables.exec = Jvm.exec) {pc : Nat} {Ls : Array Slot} {st : List Value} {x : Int64} (q : Nat) (hd : decode c.code pc = .ok (.l2d, 1)) (hq : pc + 1 = q)  (K : Go p e below Ev T (mkF m q Ls (.double (FP.l2d x) :: st))) : Go p e below Ev T (mkF m pc Ls (.long x :: st)) := by
  subst hq
  exact K.on fun _ k => XS.l2dS X.here hx rfl hd rfl rfl k
theorem g_dneg (X : Stand p l e R s m args below meth c T locs cells slots) (hx : p.tables.exec = Jvm.exec) {pc : Nat} {Ls : Array Slot} {st : List Value} {x : UInt64} (q : Nat) (hd : decode c.code pc = .ok (.dneg, 1)) (hq : pc + 1 = q)  (K : Go p e below Ev T (mkF m q Ls (.double (FP.dneg x) :: st))) : Go p e below Ev T (mkF m pc Ls (.double x :: st)) := by
  subst hq
  exact K.on fun _ k => XS.dnegS X.here hx rfl hd rfl rfl k
theorem g_dadd (X : Stand p l e R s m args below meth c T locs cells slots) (hx : p.tables.exec = Jvm.exec) {pc : Nat} {Ls : Array Slot} {st : List Value} {x y : UInt64} (q : Nat) (hd : decode c.code pc = .ok (.dadd, 1)) (hq : pc + 1 = q) (hn : Jvm.Free.Fl.NoNaN64 (FP.dadd x y)) (K : Go p e below Ev T (mkF m q Ls (.double (FP.dadd x y) :: st))) : Go p e below Ev T (mkF m pc Ls (.double y :: .double x :: st)) := by
  subst hq
  exact K.on fun _ k => XS.daddS X.here hx rfl hd rfl hn rfl k
theorem g_dsub (X : Stand p l e R s m args below meth c T locs cells slots) (hx : p.tables.exec = Jvm.exec) {pc : Nat} {Ls : Array Slot} {st : List Value} {x y : UInt64} (q : Nat) (hd : decode c.code pc = .ok (.dsub, 1)) (hq : pc + 1 = q) (hn : Jvm.Free.Fl.NoNaN64 (FP.dsub x y)) (K : Go p e below Ev T (mkF m q Ls (.double (FP.dsub x y) :: st))) : Go p e below Ev T (mkF m pc Ls (.double y :: .double x :: st)) := by
  subst hq
  exact K.on fun _ k => XS.dsubS X.here hx rfl hd rfl hn rfl k
theorem g_dmul (X : Stand p l e R s m args below meth c T locs cells slots) (hx : p.tables.exec = Jvm.exec) {pc : Nat} {Ls : Array Slot} {st : List Value} {x y : UInt64} (q : Nat) (hd : decode c.code pc = .ok (.dmul, 1)) (hq : pc + 1 = q) (hn : Jvm.Free.Fl.NoNaN64 (FP.dmul x y)) (K : Go p e below Ev T (mkF m q Ls (.double (FP.dmul x y) :: st))) : Go p e below Ev T (mkF m pc Ls (.double y :: .double x :: st)) := by
  subst hq
  exact K.on fun _ k => XS.dmulS X.here hx rfl hd rfl hn rfl k
theorem g_ddiv (X : Stand p l e R s m args below meth c T locs cells slots) (hx : p.tables.exec = Jvm.exec) {pc : Nat} {Ls : Array Slot} {st : List Value} {x y : UInt64} (q : Nat) (hd : decode c.code pc = .ok (.ddiv, 1)) (hq : pc + 1 = q) (hn : Jvm.Free.Fl.NoNaN64 (FP.ddiv x y)) (K : Go p e below Ev T (mkF m q Ls (.double (FP.ddiv x y) :: st))) : Go p e below Ev T (mkF m pc Ls (.double y :: .double x :: st)) := by
  subst hq
  exact K.on fun _ k => XS.ddivS X.here hx rfl hd rfl hn rfl k
theorem g_dcmp (X : Stand p l e R s m args below meth c T locs cells slots) (hx : p.tables.exec = Jvm.exec) {pc : Nat} {Ls : Array Slot} {st : List Value} {x y : UInt64} {o : CmpOp} {r : Int32} (q : Nat) (hd : decode c.code pc = .ok (.dcmp o, 1)) (hq : pc + 1 = q) (hr : cmpValue (FP.dcmp x y) o = r) (K : Go p e below Ev T (mkF m q Ls (.int r :: st))) : Go p e below Ev T (mkF m pc Ls (.double y :: .double x :: st)) := by
  subst hq
  exact K.on fun _ k => XS.dcmpS X.here hx rfl hd rfl hr k
theorem g_dup (X : Stand p l e R s m args below meth c T locs cells slots) (hx : p.tables.exec = Jvm.exec) {pc : Nat} {Ls : Array Slot} {st : List Value} {x : Value} (q : Nat) (hd : decode c.code pc = .ok (.dup, 1)) (hq : pc + 1 = q) (hc : x.category = 1) (K : Go p e below Ev T (mkF m q Ls (x :: x :: st))) : Go p e below Ev T (mkF m pc Ls (x :: st)) := by
  subst hq
  exact K.on fun _ k => XS.dup X.here hx rfl hd rfl hc k
theorem g_pop (X : Stand p l e R s m args below meth c T locs cells slots) (hx : p.tables.exec = Jvm.exec) {pc : Nat} {Ls : Array Slot} {st : List Value} {x : Value} (q : Nat) (hd : decode c.code pc = .ok (.pop, 1)) (hq : pc + 1 = q) (hc : x.category = 1) (K : Go p e below Ev T (mkF m q Ls st)) : Go p e below Ev T (mkF m pc Ls (x :: st)) := by
  subst hq
  exact K.on fun _ k => XS.pop X.here hx rfl hd rfl hc k
theorem g_dupX1 (X : Stand p l e R s m args below meth c T locs cells slots) (hx : p.tables.exec = Jvm.exec) {pc : Nat} {Ls : Array Slot} {st : List Value} {x y : Value} (q : Nat) (hd : decode c.code pc = .ok (.dup_x1, 1)) (hq : pc + 1 = q) (hc : x.category = 1) (hc' : y.category = 1) (K : Go p e below Ev T (mkF m q Ls (x :: y :: x :: st))) : Go p e below Ev T (mkF m pc Ls (x :: y :: st)) := by
  subst hq
  exact K.on fun _ k => XS.dupX1 X.here hx rfl hd rfl hc hc' k
theorem g_dup2 (X : Stand p l e R s m args below meth c T locs cells slots) (hx : p.tables.exec = Jvm.exec) {pc : Nat} {Ls : Array Slot} {st : List Value} {x y : Value} (q : Nat) (hd : decode c.code pc = .ok (.dup2, 1)) (hq : pc + 1 = q) (hc : x.category = 1) (hc' : y.category = 1) (K : Go p e below Ev T (mkF m q Ls (x :: y :: x :: y :: st))) : Go p e below Ev T (mkF m pc Ls (x :: y :: st)) := by
  subst hq
  exact K.on fun _ k => XT.dup2 X.here hx rfl hd rfl hc hc' k
theorem g_pop2 (X : Stand p l e R s m args below meth c T locs cells slots) (hx : p.tables.exec = Jvm.exec) {pc : Nat} {Ls : Array Slot} {st : List Value} {x : Value} (q : Nat) (hd : decode c.code pc = .ok (.pop2, 1)) (hq : pc + 1 = q) (hc : x.category = 2) (K : Go p e below Ev T (mkF m q Ls st)) : Go p e below Ev T (mkF m pc Ls (x :: st)) := by
  subst hq
  refine K.on fun t k => ?_
  jvm_step X.here [X.here.top, hx, hd, Op.pop2.wp_sem, hc]
  exact k
theorem g_ldcI (X : Stand p l e R s m args below meth c T locs cells slots) (hx : p.tables.exec = Jvm.exec) {pc : Nat} {Ls : Array Slot} {st : List Value} {own : String} {i : Nat} {v : Int32} (q : Nat) (hZ : Z.Warmed39 s.vm) (hown : s.vm.findClass own = some m.cls) (w : (Jvm.Cond.constant own i v).before a0 Z = true) (hd : decode c.code pc = .ok (.ldc i, 2)) (hq : pc + 2 = q) (K : Go p e below Ev T (mkF m q Ls (.int v :: st))) : Go p e below Ev T (mkF m pc Ls st) := by
  subst hq
  exact K.on fun _ k => X.ldcI hx hown (mvT hZ w) rfl hd k
theorem g_ldcWI (X : Stand p l e R s m args below meth c T locs cells slots) (hx : p.tables.exec = Jvm.exec) {pc : Nat} {Ls : Array Slot} {st : List Value} {own : String} {i : Nat} {v : Int32} (q : Nat) (hZ : Z.Warmed39 s.vm) (hown : s.vm.findClass own = some m.cls) (w : (Jvm.Cond.constant own i v).before a0 Z = true) (hd : decode c.code pc = .ok (.ldc_w i, 3)) (hq : pc + 3 = q) (K : Go p e below Ev T (mkF m q Ls (.int v :: st))) : Go p e below Ev T (mkF m pc Ls st) := by
  subst hq
  exact K.on fun _ k => X.ldcWI hx hown (mvT hZ w) rfl hd k
theorem g_ldc2J (X : Stand p l e R s m args below meth c T locs cells slots) (hx : p.tables.exec = Jvm.exec) {pc : Nat} {Ls : Array Slot} {st : List Value} {own : String} {i : Nat} {v : Int64} (q : Nat) (hZ : Z.Warmed39 s.vm) (hown : s.vm.findClass own = some m.cls) (w : (Jvm.Cond.constantLong own i v).before a0 Z = true) (hd : decode c.code pc = .ok (.ldc2_w i, 3)) (hq : pc + 3 = q) (K : Go p e below Ev T (mkF m q Ls (.long v :: st))) : Go p e below Ev T (mkF m pc Ls st) := by
  subst hq
  exact K.on fun _ k => X.ldc2J hx hown (mvT hZ w) rfl hd k
theorem g_ldc2D (X : Stand p l e R s m args below meth c T locs cells slots) (hx : p.tables.exec = Jvm.exec) {pc : Nat} {Ls : Array Slot} {st : List Value} {own : String} {i : Nat} {v : UInt64} (q : Nat) (hZ : Z.Warmed39 s.vm) (hown : s.vm.findClass own = some m.cls) (w : (Jvm.Cond.constantDouble own i v).before a0 Z = true) (hd : decode c.code pc = .ok (.ldc2_w i, 3)) (hq : pc + 3 = q) (K : Go p e below Ev T (mkF m q Ls (.double v :: st))) : Go p e below Ev T (mkF m pc Ls st) := by
  subst hq
  exact K.on (X.ldc2DoubleC hx hown (mvT hZ w) (g := mkF m pc Ls st) rfl hd)
theorem g_goto (X : Stand p l e R s m args below meth c T locs cells slots) (hx : p.tables.exec = Jvm.exec) {pc : Nat} {Ls : Array Slot} {st : List Value} {o : Int} (q : Nat) (hd : decode c.code pc = .ok (.goto o, 3)) (ho : 0 ≤ (pc : Int) + o) (hq : ((pc : Int) + o).toNat = q) (K : Go p e below Ev T (mkF m q Ls st)) : Go p e below Ev T (mkF m pc Ls st) :=
  K.on fun _ k => XS.goto X.here hx rfl rfl hd ho hq k
theorem own_i0 (x : Int32) : (x < 0 ↔ x.toInt < 0) ∧ (0 < x ↔ 0 < x.toInt) ∧ (x = 0 ↔ x.toInt = 0) := by
  refine ⟨by rw [Int32.lt_iff_toInt_lt]; simp, by rw [Int32.lt_iff_toInt_lt]; simp, ?_⟩
  rw [← Int32.toInt_inj]; simp
theorem g_if_eq (X : Stand p l e R s m args below meth c T locs cells slots) (hx : p.tables.exec = Jvm.exec) {pc : Nat} {Ls : Array Slot} {st : List Value} {x : Int32} {o : Int} (q1 q2 : Nat) (hd : decode c.code pc = .ok (.ifCond .eq o, 3)) (ho : 0 ≤ (pc : Int) + o) (h1 : ((pc : Int) + o).toNat = q1) (h2 : pc + 3 = q2) (Kt : x.toInt = 0 → Go p e below Ev T (mkF m q1 Ls st)) (Kf : x.toInt ≠ 0 → Go p e below Ev T (mkF m q2 Ls st)) : Go p e below Ev T (mkF m pc Ls (.int x :: st)) := by
  have Q := own_i0 x
  by_cases hc : x = 0
  · exact (Kt (by first | omega | (simp only [Q] at hc; omega))).on fun _ k => XS.ifYes X.here hx rfl rfl hd rfl (XT.i0_eq_t (by simpa using hc)) ho h1 k
  · subst h2
    exact (Kf (by first | omega | (simp only [Q] at hc; omega))).on fun _ k => XS.ifNo X.here hx rfl hd rfl (XT.i0_eq_f (by simpa using hc)) k
theorem g_if_ne (X : Stand p l e R s m args below meth c T locs cells slots) (hx : p.tables.exec = Jvm.exec) {pc : Nat} {Ls : Array Slot} {st : List Value} {x : Int32} {o : Int} (q1 q2 : Nat) (hd : decode c.code pc = .ok (.ifCond .ne o, 3)) (ho : 0 ≤ (pc : Int) + o) (h1 : ((pc : Int) + o).toNat = q1) (h2 : pc + 3 = q2) (Kt : x.toInt ≠ 0 → Go p e below Ev T (mkF m q1 Ls st)) (Kf : x.toInt = 0 → Go p e below Ev T (mkF m q2 Ls st)) : Go p e below Ev T (mkF m pc Ls (.int x :: st)) := by
  have Q := own_i0 x
  by_cases hc : ¬ x = 0
  · exact (Kt (by first | omega | (simp only [Q] at hc; omega))).on fun _ k => XS.ifYes X.here hx rfl rfl hd rfl (XT.i0_ne_t (by simpa using hc)) ho h1 k
  · subst h2
    exact (Kf (by first | omega | (simp only [Q] at hc; omega))).on fun _ k => XS.ifNo X.here hx rfl hd rfl (XT.i0_ne_f (by simpa using hc)) k
theorem g_if_lt (X : Stand p l e R s m args below meth c T locs cells slots) (hx : p.tables.exec = Jvm.exec) {pc : Nat} {Ls : Array Slot} {st : List Value} {x : Int32} {o : Int} (q1 q2 : Nat) (hd : decode c.code pc = .ok (.ifCond .lt o, 3)) (ho : 0 ≤ (pc : Int) + o) (h1 : ((pc : Int) + o).toNat = q1) (h2 : pc + 3 = q2) (Kt : x.toInt < 0 → Go p e below Ev T (mkF m q1 Ls st)) (Kf : 0 ≤ x.toInt → Go p e below Ev T (mkF m q2 Ls st)) : Go p e below Ev T (mkF m pc Ls (.int x :: st)) := by
  have Q := own_i0 x
  by_cases hc : x < 0
  · exact (Kt (by first | omega | (simp only [Q] at hc; omega))).on fun _ k => XS.ifYes X.here hx rfl rfl hd rfl (XT.i0_lt_t (by simpa using hc)) ho h1 k
  · subst h2
    exact (Kf (by first | omega | (simp only [Q] at hc; omega))).on fun _ k => XS.ifNo X.here hx rfl hd rfl (XT.i0_lt_f (by simpa using hc)) k
theorem g_if_ge (X : Stand p l e R s m args below meth c T locs cells slots) (hx : p.tables.exec = Jvm.exec) {pc : Nat} {Ls : Array Slot} {st : List Value} {x : Int32} {o : Int} (q1 q2 : Nat) (hd : decode c.code pc = .ok (.ifCond .ge o, 3)) (ho : 0 ≤ (pc : Int) + o) (h1 : ((pc : Int) + o).toNat = q1) (h2 : pc + 3 = q2) (Kt : 0 ≤ x.toInt → Go p e below Ev T (mkF m q1 Ls st)) (Kf : x.toInt < 0 → Go p e below Ev T (mkF m q2 Ls st)) : Go p e below Ev T (mkF m pc Ls (.int x :: st)) := by
  have Q := own_i0 x
  by_cases hc : ¬ x < 0
  · exact (Kt (by first | omega | (simp only [Q] at hc; omega))).on fun _ k => XS.ifYes X.here hx rfl rfl hd rfl (XT.i0_ge_t (by simpa using hc)) ho h1 k
  · subst h2
    exact (Kf (by first | omega | (simp only [Q] at hc; omega))).on fun _ k => XS.ifNo X.here hx rfl hd rfl (XT.i0_ge_f (by simpa using hc)) k
theorem g_if_gt (X : Stand p l e R s m args below meth c T locs cells slots) (hx : p.tables.exec = Jvm.exec) {pc : Nat} {Ls : Array Slot} {st : List Value} {x : Int32} {o : Int} (q1 q2 : Nat) (hd : decode c.code pc = .ok (.ifCond .gt o, 3)) (ho : 0 ≤ (pc : Int) + o) (h1 : ((pc : Int) + o).toNat = q1) (h2 : pc + 3 = q2) (Kt : 0 < x.toInt → Go p e below Ev T (mkF m q1 Ls st)) (Kf : x.toInt ≤ 0 → Go p e below Ev T (mkF m q2 Ls st)) : Go p e below Ev T (mkF m pc Ls (.int x :: st)) := by
  have Q := own_i0 x
  by_cases hc : 0 < x
  · exact (Kt (by first | omega | (simp only [Q] at hc; omega))).on fun _ k => XS.ifYes X.here hx rfl rfl hd rfl (XT.i0_gt_t (by simpa using hc)) ho h1 k
  · subst h2
    exact (Kf (by first | omega | (simp only [Q] at hc; omega))).on fun _ k => XS.ifNo X.here hx rfl hd rfl (XT.i0_gt_f (by simpa using hc)) k
theorem g_if_le (X : Stand p l e R s m args below meth c T locs cells slots) (hx : p.tables.exec = Jvm.exec) {pc : Nat} {Ls : Array Slot} {st : List Value} {x : Int32} {o : Int} (q1 q2 : Nat) (hd : decode c.code pc = .ok (.ifCond .le o, 3)) (ho : 0 ≤ (pc : Int) + o) (h1 : ((pc : Int) + o).toNat = q1) (h2 : pc + 3 = q2) (Kt : x.toInt ≤ 0 → Go p e below Ev T (mkF m q1 Ls st)) (Kf : 0 < x.toInt → Go p e below Ev T (mkF m q2 Ls st)) : Go p e below Ev T (mkF m pc Ls (.int x :: st)) := by
  have Q := own_i0 x
  by_cases hc : ¬ 0 < x
  · exact (Kt (by first | omega | (simp only [Q] at hc; omega))).on fun _ k => XS.ifYes X.here hx rfl rfl hd rfl (XT.i0_le_t (by simpa using hc)) ho h1 k
  · subst h2
    exact (Kf (by first | omega | (simp only [Q] at hc; omega))).on fun _ k => XS.ifNo X.here hx rfl hd rfl (XT.i0_le_f (by simpa using hc)) k
theorem own_ii (x y : Int32) : (x < y ↔ x.toInt < y.toInt) ∧ (y < x ↔ y.toInt < x.toInt) ∧ (x = y ↔ x.toInt = y.toInt) := by
  exact ⟨Int32.lt_iff_toInt_lt, Int32.lt_iff_toInt_lt, Int32.toInt_inj.symm⟩
theorem g_ic_eq (X : Stand p l e R s m args below meth c T locs cells slots) (hx : p.tables.exec = Jvm.exec) {pc : Nat} {Ls : Array Slot} {st : List Value} {x y : Int32} {o : Int} (q1 q2 : Nat) (hd : decode c.code pc = .ok (.if_icmp .eq o, 3)) (ho : 0 ≤ (pc : Int) + o) (h1 : ((pc : Int) + o).toNat = q1) (h2 : pc + 3 = q2) (Kt : x.toInt = y.toInt → Go p e below Ev T (mkF m q1 Ls st)) (Kf : x.toInt ≠ y.toInt → Go p e below Ev T (mkF m q2 Ls st)) : Go p e below Ev T (mkF m pc Ls (.int y :: .int x :: st)) := by
  have Q := own_ii x y
  by_cases hc : x = y
  · exact (Kt (by first | omega | (simp only [Q] at hc; omega))).on fun _ k => XS.icmpYes X.here hx rfl rfl hd rfl (XT.ii_eq_t (by simpa using hc)) ho h1 k
  · subst h2
    exact (Kf (by first | omega | (simp only [Q] at hc; omega))).on fun _ k => XS.icmpNo X.here hx rfl hd rfl (XT.ii_eq_f (by simpa using hc)) k
theorem g_ic_ne (X : Stand p l e R s m args below meth c T locs cells slots) (hx : p.tables.exec = Jvm.exec) {pc : Nat} {Ls : Array Slot} {st : List Value} {x y : Int32} {o : Int} (q1 q2 : Nat) (hd : decode c.code pc = .ok (.if_icmp .ne o, 3)) (ho : 0 ≤ (pc : Int) + o) (h1 : ((pc : Int) + o).toNat = q1) (h2 : pc + 3 = q2) (Kt : x.toInt ≠ y.toInt → Go p e below Ev T (mkF m q1 Ls st)) (Kf : x.toInt = y.toInt → Go p e below Ev T (mkF m q2 Ls st)) : Go p e below Ev T (mkF m pc Ls (.int y :: .int x :: st)) := by
  have Q := own_ii x y
  by_cases hc : ¬ x = y
  · exact (Kt (by first | omega | (simp only [Q] at hc; omega))).on fun _ k => XS.icmpYes X.here hx rfl rfl hd rfl (XT.ii_ne_t (by simpa using hc)) ho h1 k
  · subst h2
    exact (Kf (by first | omega | (simp only [Q] at hc; omega))).on fun _ k => XS.icmpNo X.here hx rfl hd rfl (XT.ii_ne_f (by simpa using hc)) k
theorem g_ic_lt (X : Stand p l e R s m args below meth c T locs cells slots) (hx : p.tables.exec = Jvm.exec) {pc : Nat} {Ls : Array Slot} {st : List Value} {x y : Int32} {o : Int} (q1 q2 : Nat) (hd : decode c.code pc = .ok (.if_icmp .lt o, 3)) (ho : 0 ≤ (pc : Int) + o) (h1 : ((pc : Int) + o).toNat = q1) (h2 : pc + 3 = q2) (Kt : x.toInt < y.toInt → Go p e below Ev T (mkF m q1 Ls st)) (Kf : y.toInt ≤ x.toInt → Go p e below Ev T (mkF m q2 Ls st)) : Go p e below Ev T (mkF m pc Ls (.int y :: .int x :: st)) := by
  have Q := own_ii x y
  by_cases hc : x < y
  · exact (Kt (by first | omega | (simp only [Q] at hc; omega))).on fun _ k => XS.icmpYes X.here hx rfl rfl hd rfl (XT.ii_lt_t (by simpa using hc)) ho h1 k
  · subst h2
    exact (Kf (by first | omega | (simp only [Q] at hc; omega))).on fun _ k => XS.icmpNo X.here hx rfl hd rfl (XT.ii_lt_f (by simpa using hc)) k
theorem g_ic_ge (X : Stand p l e R s m args below meth c T locs cells slots) (hx : p.tables.exec = Jvm.exec) {pc : Nat} {Ls : Array Slot} {st : List Value} {x y : Int32} {o : Int} (q1 q2 : Nat) (hd : decode c.code pc = .ok (.if_icmp .ge o, 3)) (ho : 0 ≤ (pc : Int) + o) (h1 : ((pc : Int) + o).toNat = q1) (h2 : pc + 3 = q2) (Kt : y.toInt ≤ x.toInt → Go p e below Ev T (mkF m q1 Ls st)) (Kf : x.toInt < y.toInt → Go p e below Ev T (mkF m q2 Ls st)) : Go p e below Ev T (mkF m pc Ls (.int y :: .int x :: st)) := by
  have Q := own_ii x y
  by_cases hc : ¬ x < y
  · exact (Kt (by first | omega | (simp only [Q] at hc; omega))).on fun _ k => XS.icmpYes X.here hx rfl rfl hd rfl (XT.ii_ge_t (by simpa using hc)) ho h1 k
  · subst h2
    exact (Kf (by first | omega | (simp only [Q] at hc; omega))).on fun _ k => XS.icmpNo X.here hx rfl hd rfl (XT.ii_ge_f (by simpa using hc)) k
theorem g_ic_gt (X : Stand p l e R s m args below meth c T locs cells slots) (hx : p.tables.exec = Jvm.exec) {pc : Nat} {Ls : Array Slot} {st : List Value} {x y : Int32} {o : Int} (q1 q2 : Nat) (hd : decode c.code pc = .ok (.if_icmp .gt o, 3)) (ho : 0 ≤ (pc : Int) + o) (h1 : ((pc : Int) + o).toNat = q1) (h2 : pc + 3 = q2) (Kt : y.toInt < x.toInt → Go p e below Ev T (mkF m q1 Ls st)) (Kf : x.toInt ≤ y.toInt → Go p e below Ev T (mkF m q2 Ls st)) : Go p e below Ev T (mkF m pc Ls (.int y :: .int x :: st)) := by
  have Q := own_ii x y
  by_cases hc : y < x
  · exact (Kt (by first | omega | (simp only [Q] at hc; omega))).on fun _ k => XS.icmpYes X.here hx rfl rfl hd rfl (XT.ii_gt_t (by simpa using hc)) ho h1 k
  · subst h2
    exact (Kf (by first | omega | (simp only [Q] at hc; omega))).on fun _ k => XS.icmpNo X.here hx rfl hd rfl (XT.ii_gt_f (by simpa using hc)) k
theorem g_ic_le (X : Stand p l e R s m args below meth c T locs cells slots) (hx : p.tables.exec = Jvm.exec) {pc : Nat} {Ls : Array Slot} {st : List Value} {x y : Int32} {o : Int} (q1 q2 : Nat) (hd : decode c.code pc = .ok (.if_icmp .le o, 3)) (ho : 0 ≤ (pc : Int) + o) (h1 : ((pc : Int) + o).toNat = q1) (h2 : pc + 3 = q2) (Kt : x.toInt ≤ y.toInt → Go p e below Ev T (mkF m q1 Ls st)) (Kf : y.toInt < x.toInt → Go p e below Ev T (mkF m q2 Ls st)) : Go p e below Ev T (mkF m pc Ls (.int y :: .int x :: st)) := by
  have Q := own_ii x y
  by_cases hc : ¬ y < x
  · exact (Kt (by first | omega | (simp only [Q] at hc; omega))).on fun _ k => XS.icmpYes X.here hx rfl rfl hd rfl (XT.ii_le_t (by simpa using hc)) ho h1 k
  · subst h2
    exact (Kf (by first | omega | (simp only [Q] at hc; omega))).on fun _ k => XS.icmpNo X.here hx rfl hd rfl (XT.ii_le_f (by simpa using hc)) k
theorem g_lc_eq (X : Stand p l e R s m args below meth c T locs cells slots) (hx : p.tables.exec = Jvm.exec) {pc : Nat} {Ls : Array Slot} {st : List Value} {x y : Int64} {o : Int} (q0 q1 q2 : Nat) (hd0 : decode c.code pc = .ok (.lcmp, 1)) (h0 : pc + 1 = q0) (hd : decode c.code q0 = .ok (.ifCond .eq o, 3)) (ho : 0 ≤ (q0 : Int) + o) (h1 : ((q0 : Int) + o).toNat = q1) (h2 : q0 + 3 = q2) (Kt : x.toInt = y.toInt → Go p e below Ev T (mkF m q1 Ls st)) (Kf : x.toInt ≠ y.toInt → Go p e below Ev T (mkF m q2 Ls st)) : Go p e below Ev T (mkF m pc Ls (.long y :: .long x :: st)) := by
  have Q := c_lcmp x y
  have C : x.toInt < y.toInt ∨ x.toInt = y.toInt ∨ y.toInt < x.toInt := by omega
  refine g_lcmp X hx q0 hd0 h0 (g_if_eq X hx q1 q2 hd ho h1 h2 (fun hc => Kt ?_) (fun hc => Kf ?_)) <;> (rcases C with C | C | C <;> first | (have := Q.1 C; omega) | (have := Q.2.1 C; omega) | (have := Q.2.2 C; omega))
theorem g_lc_ne (X : Stand p l e R s m args below meth c T locs cells slots) (hx : p.tables.exec = Jvm.exec) {pc : Nat} {Ls : Array Slot} {st : List Value} {x y : Int64} {o : Int} (q0 q1 q2 : Nat) (hd0 : decode c.code pc = .ok (.lcmp, 1)) (h0 : pc + 1 = q0) (hd : decode c.code q0 = .ok (.ifCond .ne o, 3)) (ho : 0 ≤ (q0 : Int) + o) (h1 : ((q0 : Int) + o).toNat = q1) (h2 : q0 + 3 = q2) (Kt : x.toInt ≠ y.toInt → Go p e below Ev T (mkF m q1 Ls st)) (Kf : x.toInt = y.toInt → Go p e below Ev T (mkF m q2 Ls st)) : Go p e below Ev T (mkF m pc Ls (.long y :: .long x :: st)) := by
  have Q := c_lcmp x y
  have C : x.toInt < y.toInt ∨ x.toInt = y.toInt ∨ y.toInt < x.toInt := by omega
  refine g_lcmp X hx q0 hd0 h0 (g_if_ne X hx q1 q2 hd ho h1 h2 (fun hc => Kt ?_) (fun hc => Kf ?_)) <;> (rcases C with C | C | C <;> first | (have := Q.1 C; omega) | (have := Q.2.1 C; omega) | (have := Q.2.2 C; omega))
theorem g_lc_lt (X : Stand p l e R s m args below meth c T locs cells slots) (hx : p.tables.exec = Jvm.exec) {pc : Nat} {Ls : Array Slot} {st : List Value} {x y : Int64} {o : Int} (q0 q1 q2 : Nat) (hd0 : decode c.code pc = .ok (.lcmp, 1)) (h0 : pc + 1 = q0) (hd : decode c.code q0 = .ok (.ifCond .lt o, 3)) (ho : 0 ≤ (q0 : Int) + o) (h1 : ((q0 : Int) + o).toNat = q1) (h2 : q0 + 3 = q2) (Kt : x.toInt < y.toInt → Go p e below Ev T (mkF m q1 Ls st)) (Kf : y.toInt ≤ x.toInt → Go p e below Ev T (mkF m q2 Ls st)) : Go p e below Ev T (mkF m pc Ls (.long y :: .long x :: st)) := by
  have Q := c_lcmp x y
  have C : x.toInt < y.toInt ∨ x.toInt = y.toInt ∨ y.toInt < x.toInt := by omega
  refine g_lcmp X hx q0 hd0 h0 (g_if_lt X hx q1 q2 hd ho h1 h2 (fun hc => Kt ?_) (fun hc => Kf ?_)) <;> (rcases C with C | C | C <;> first | (have := Q.1 C; omega) | (have := Q.2.1 C; omega) | (have := Q.2.2 C; omega))
theorem g_lc_ge (X : Stand p l e R s m args below meth c T locs cells slots) (hx : p.tables.exec = Jvm.exec) {pc : Nat} {Ls : Array Slot} {st : List Value} {x y : Int64} {o : Int} (q0 q1 q2 : Nat) (hd0 : decode c.code pc = .ok (.lcmp, 1)) (h0 : pc + 1 = q0) (hd : decode c.code q0 = .ok (.ifCond .ge o, 3)) (ho : 0 ≤ (q0 : Int) + o) (h1 : ((q0 : Int) + o).toNat = q1) (h2 : q0 + 3 = q2) (Kt : y.toInt ≤ x.toInt → Go p e below Ev T (mkF m q1 Ls st)) (Kf : x.toInt < y.toInt → Go p e below Ev T (mkF m q2 Ls st)) : Go p e below Ev T (mkF m pc Ls (.long y :: .long x :: st)) := by
  have Q := c_lcmp x y
  have C : x.toInt < y.toInt ∨ x.toInt = y.toInt ∨ y.toInt < x.toInt := by omega
  refine g_lcmp X hx q0 hd0 h0 (g_if_ge X hx q1 q2 hd ho h1 h2 (fun hc => Kt ?_) (fun hc => Kf ?_)) <;> (rcases C with C | C | C <;> first | (have := Q.1 C; omega) | (have := Q.2.1 C; omega) | (have := Q.2.2 C; omega))
theorem g_lc_gt (X : Stand p l e R s m args below meth c T locs cells slots) (hx : p.tables.exec = Jvm.exec) {pc : Nat} {Ls : Array Slot} {st : List Value} {x y : Int64} {o : Int} (q0 q1 q2 : Nat) (hd0 : decode c.code pc = .ok (.lcmp, 1)) (h0 : pc + 1 = q0) (hd : decode c.code q0 = .ok (.ifCond .gt o, 3)) (ho : 0 ≤ (q0 : Int) + o) (h1 : ((q0 : Int) + o).toNat = q1) (h2 : q0 + 3 = q2) (Kt : y.toInt < x.toInt → Go p e below Ev T (mkF m q1 Ls st)) (Kf : x.toInt ≤ y.toInt → Go p e below Ev T (mkF m q2 Ls st)) : Go p e below Ev T (mkF m pc Ls (.long y :: .long x :: st)) := by
  have Q := c_lcmp x y
  have C : x.toInt < y.toInt ∨ x.toInt = y.toInt ∨ y.toInt < x.toInt := by omega
  refine g_lcmp X hx q0 hd0 h0 (g_if_gt X hx q1 q2 hd ho h1 h2 (fun hc => Kt ?_) (fun hc => Kf ?_)) <;> (rcases C with C | C | C <;> first | (have := Q.1 C; omega) | (have := Q.2.1 C; omega) | (have := Q.2.2 C; omega))
theorem g_lc_le (X : Stand p l e R s m args below meth c T locs cells slots) (hx : p.tables.exec = Jvm.exec) {pc : Nat} {Ls : Array Slot} {st : List Value} {x y : Int64} {o : Int} (q0 q1 q2 : Nat) (hd0 : decode c.code pc = .ok (.lcmp, 1)) (h0 : pc + 1 = q0) (hd : decode c.code q0 = .ok (.ifCond .le o, 3)) (ho : 0 ≤ (q0 : Int) + o) (h1 : ((q0 : Int) + o).toNat = q1) (h2 : q0 + 3 = q2) (Kt : x.toInt ≤ y.toInt → Go p e below Ev T (mkF m q1 Ls st)) (Kf : y.toInt < x.toInt → Go p e below Ev T (mkF m q2 Ls st)) : Go p e below Ev T (mkF m pc Ls (.long y :: .long x :: st)) := by
  have Q := c_lcmp x y
  have C : x.toInt < y.toInt ∨ x.toInt = y.toInt ∨ y.toInt < x.toInt := by omega
  refine g_lcmp X hx q0 hd0 h0 (g_if_le X hx q1 q2 hd ho h1 h2 (fun hc => Kt ?_) (fun hc => Kf ?_)) <;> (rcases C with C | C | C <;> first | (have := Q.1 C; omega) | (have := Q.2.1 C; omega) | (have := Q.2.2 C; omega))
theorem own_cmpv (i j : Int) (o : CmpOp) : (i < j → (cmpValue (some (compare i j)) o).toInt = -1) ∧ (i = j → (cmpValue (some (compare i j)) o).toInt = 0) ∧ (j < i → (cmpValue (some (compare i j)) o).toInt = 1) := by
  refine ⟨fun q => ?_, fun q => ?_, fun q => ?_⟩
  · rw [show compare i j = .lt from by rw [Jvm.FP.Core.compare_ite]; simp [q]]; cases o <;> rfl
  · rw [show compare i j = .eq from by rw [Jvm.FP.Core.compare_ite]; simp [q]]; cases o <;> rfl
  · rw [show compare i j = .gt from by rw [Jvm.FP.Core.compare_ite]; simp [show ¬ i < j by omega, show ¬ i = j by omega]]; cases o <;> rfl
theorem g_dc_eq (X : Stand p l e R s m args below meth c T locs cells slots) (hx : p.tables.exec = Jvm.exec) {pc : Nat} {Ls : Array Slot} {st : List Value} {x y : UInt64} {oo : CmpOp} {i j : Int} {o : Int} (q0 q1 q2 : Nat) (hd0 : decode c.code pc = .ok (.dcmp oo, 1)) (h0 : pc + 1 = q0) (hd : decode c.code q0 = .ok (.ifCond .eq o, 3)) (ho : 0 ≤ (q0 : Int) + o) (h1 : ((q0 : Int) + o).toNat = q1) (h2 : q0 + 3 = q2) (hv : FP.dcmp x y = some (compare i j)) (Kt : i = j → Go p e below Ev T (mkF m q1 Ls st)) (Kf : i ≠ j → Go p e below Ev T (mkF m q2 Ls st)) : Go p e below Ev T (mkF m pc Ls (.double y :: .double x :: st)) := by
  have Q := own_cmpv i j oo
  have C : i < j ∨ i = j ∨ j < i := by omega
  refine g_dcmp X hx q0 hd0 h0 (by rw [hv]) (g_if_eq X hx q1 q2 hd ho h1 h2 (fun hc => Kt ?_) (fun hc => Kf ?_)) <;> (rcases C with C | C | C <;> first | (have := Q.1 C; omega) | (have := Q.2.1 C; omega) | (have := Q.2.2 C; omega))
theorem g_dc_ne (X : Stand p l e R s m args below meth c T locs cells slots) (hx : p.tables.exec = Jvm.exec) {pc : Nat} {Ls : Array Slot} {st : List Value} {x y : UInt64} {oo : CmpOp} {i j : Int} {o : Int} (q0 q1 q2 : Nat) (hd0 : decode c.code pc = .ok (.dcmp oo, 1)) (h0 : pc + 1 = q0) (hd : decode c.code q0 = .ok (.ifCond .ne o, 3)) (ho : 0 ≤ (q0 : Int) + o) (h1 : ((q0 : Int) + o).toNat = q1) (h2 : q0 + 3 = q2) (hv : FP.dcmp x y = some (compare i j)) (Kt : i ≠ j → Go p e below Ev T (mkF m q1 Ls st)) (Kf : i = j → Go p e below Ev T (mkF m q2 Ls st)) : Go p e below Ev T (mkF m pc Ls (.double y :: .double x :: st)) := by
  have Q := own_cmpv i j oo
  have C : i < j ∨ i = j ∨ j < i := by omega
  refine g_dcmp X hx q0 hd0 h0 (by rw [hv]) (g_if_ne X hx q1 q2 hd ho h1 h2 (fun hc => Kt ?_) (fun hc => Kf ?_)) <;> (rcases C with C | C | C <;> first | (have := Q.1 C; omega) | (have := Q.2.1 C; omega) | (have := Q.2.2 C; omega))
theorem g_dc_lt (X : Stand p l e R s m args below meth c T locs cells slots) (hx : p.tables.exec = Jvm.exec) {pc : Nat} {Ls : Array Slot} {st : List Value} {x y : UInt64} {oo : CmpOp} {i j : Int} {o : Int} (q0 q1 q2 : Nat) (hd0 : decode c.code pc = .ok (.dcmp oo, 1)) (h0 : pc + 1 = q0) (hd : decode c.code q0 = .ok (.ifCond .lt o, 3)) (ho : 0 ≤ (q0 : Int) + o) (h1 : ((q0 : Int) + o).toNat = q1) (h2 : q0 + 3 = q2) (hv : FP.dcmp x y = some (compare i j)) (Kt : i < j → Go p e below Ev T (mkF m q1 Ls st)) (Kf : j ≤ i → Go p e below Ev T (mkF m q2 Ls st)) : Go p e below Ev T (mkF m pc Ls (.double y :: .double x :: st)) := by
  have Q := own_cmpv i j oo
  have C : i < j ∨ i = j ∨ j < i := by omega
  refine g_dcmp X hx q0 hd0 h0 (by rw [hv]) (g_if_lt X hx q1 q2 hd ho h1 h2 (fun hc => Kt ?_) (fun hc => Kf ?_)) <;> (rcases C with C | C | C <;> first | (have := Q.1 C; omega) | (have := Q.2.1 C; omega) | (have := Q.2.2 C; omega))
theorem g_dc_ge (X : Stand p l e R s m args below meth c T locs cells slots) (hx : p.tables.exec = Jvm.exec) {pc : Nat} {Ls : Array Slot} {st : List Value} {x y : UInt64} {oo : CmpOp} {i j : Int} {o : Int} (q0 q1 q2 : Nat) (hd0 : decode c.code pc = .ok (.dcmp oo, 1)) (h0 : pc + 1 = q0) (hd : decode c.code q0 = .ok (.ifCond .ge o, 3)) (ho : 0 ≤ (q0 : Int) + o) (h1 : ((q0 : Int) + o).toNat = q1) (h2 : q0 + 3 = q2) (hv : FP.dcmp x y = some (compare i j)) (Kt : j ≤ i → Go p e below Ev T (mkF m q1 Ls st)) (Kf : i < j → Go p e below Ev T (mkF m q2 Ls st)) : Go p e below Ev T (mkF m pc Ls (.double y :: .double x :: st)) := by
  have Q := own_cmpv i j oo
  have C : i < j ∨ i = j ∨ j < i := by omega
  refine g_dcmp X hx q0 hd0 h0 (by rw [hv]) (g_if_ge X hx q1 q2 hd ho h1 h2 (fun hc => Kt ?_) (fun hc => Kf ?_)) <;> (rcases C with C | C | C <;> first | (have := Q.1 C; omega) | (have := Q.2.1 C; omega) | (have := Q.2.2 C; omega))
theorem g_dc_gt (X : Stand p l e R s m args below meth c T locs cells slots) (hx : p.tables.exec = Jvm.exec) {pc : Nat} {Ls : Array Slot} {st : List Value} {x y : UInt64} {oo : CmpOp} {i j : Int} {o : Int} (q0 q1 q2 : Nat) (hd0 : decode c.code pc = .ok (.dcmp oo, 1)) (h0 : pc + 1 = q0) (hd : decode c.code q0 = .ok (.ifCond .gt o, 3)) (ho : 0 ≤ (q0 : Int) + o) (h1 : ((q0 : Int) + o).toNat = q1) (h2 : q0 + 3 = q2) (hv : FP.dcmp x y = some (compare i j)) (Kt : j < i → Go p e below Ev T (mkF m q1 Ls st)) (Kf : i ≤ j → Go p e below Ev T (mkF m q2 Ls st)) : Go p e below Ev T (mkF m pc Ls (.double y :: .double x :: st)) := by
  have Q := own_cmpv i j oo
  have C : i < j ∨ i = j ∨ j < i := by omega
  refine g_dcmp X hx q0 hd0 h0 (by rw [hv]) (g_if_gt X hx q1 q2 hd ho h1 h2 (fun hc => Kt ?_) (fun hc => Kf ?_)) <;> (rcases C with C | C | C <;> first | (have := Q.1 C; omega) | (have := Q.2.1 C; omega) | (have := Q.2.2 C; omega))
theorem g_dc_le (X : Stand p l e R s m args below meth c T locs cells slots) (hx : p.tables.exec = Jvm.exec) {pc : Nat} {Ls : Array Slot} {st : List Value} {x y : UInt64} {oo : CmpOp} {i j : Int} {o : Int} (q0 q1 q2 : Nat) (hd0 : decode c.code pc = .ok (.dcmp oo, 1)) (h0 : pc + 1 = q0) (hd : decode c.code q0 = .ok (.ifCond .le o, 3)) (ho : 0 ≤ (q0 : Int) + o) (h1 : ((q0 : Int) + o).toNat = q1) (h2 : q0 + 3 = q2) (hv : FP.dcmp x y = some (compare i j)) (Kt : i ≤ j → Go p e below Ev T (mkF m q1 Ls st)) (Kf : j < i → Go p e below Ev T (mkF m q2 Ls st)) : Go p e below Ev T (mkF m pc Ls (.double y :: .double x :: st)) := by
  have Q := own_cmpv i j oo
  have C : i < j ∨ i = j ∨ j < i := by omega
  refine g_dcmp X hx q0 hd0 h0 (by rw [hv]) (g_if_le X hx q1 q2 hd ho h1 h2 (fun hc => Kt ?_) (fun hc => Kf ?_)) <;> (rcases C with C | C | C <;> first | (have := Q.1 C; omega) | (have := Q.2.1 C; omega) | (have := Q.2.2 C; omega))
theorem g_ifnull_t (X : Stand p l e R s m args below meth c T locs cells slots) (hx : p.tables.exec = Jvm.exec) {pc : Nat} {Ls : Array Slot} {st : List Value} {o : Int} (q : Nat) (hd : decode c.code pc = .ok (.ifnull o, 3)) (ho : 0 ≤ (pc : Int) + o) (h1 : ((pc : Int) + o).toNat = q) (K : Go p e below Ev T (mkF m q Ls st)) : Go p e below Ev T (mkF m pc Ls (.null :: st)) :=
  K.on fun _ k => XS.ifnullYes X.here hx rfl rfl hd rfl ho h1 k
theorem g_ifnull_f (X : Stand p l e R s m args below meth c T locs cells slots) (hx : p.tables.exec = Jvm.exec) {pc : Nat} {Ls : Array Slot} {st : List Value} {o : Int} {b : Addr} (q : Nat) (hd : decode c.code pc = .ok (.ifnull o, 3)) (h1 : pc + 3 = q) (K : Go p e below Ev T (mkF m q Ls st)) : Go p e below Ev T (mkF m pc Ls (.ref b :: st)) := by
  subst h1
  exact K.on fun _ k => XS.ifnullNo X.here hx rfl hd rfl k
theorem g_ifnonnull_t (X : Stand p l e R s m args below meth c T locs cells slots) (hx : p.tables.exec = Jvm.exec) {pc : Nat} {Ls : Array Slot} {st : List Value} {o : Int} {b : Addr} (q : Nat) (hd : decode c.code pc = .ok (.ifnonnull o, 3)) (ho : 0 ≤ (pc : Int) + o) (h1 : ((pc : Int) + o).toNat = q) (K : Go p e below Ev T (mkF m q Ls st)) : Go p e below Ev T (mkF m pc Ls (.ref b :: st)) :=
  K.on fun _ k => XS.ifnonnullYes X.here hx rfl rfl hd rfl ho h1 k
theorem g_ifnonnull_f (X : Stand p l e R s m args below meth c T locs cells slots) (hx : p.tables.exec = Jvm.exec) {pc : Nat} {Ls : Array Slot} {st : List Value} {o : Int} (q : Nat) (hd : decode c.code pc = .ok (.ifnonnull o, 3)) (h1 : pc + 3 = q) (K : Go p e below Ev T (mkF m q Ls st)) : Go p e below Ev T (mkF m pc Ls (.null :: st)) := by
  subst h1
  exact K.on fun _ k => XS.ifnonnullNo X.here hx rfl hd rfl k
theorem g_new (X : Stand p l e R s m args below meth c T locs cells slots) (hx : p.tables.exec = Jvm.exec) {pc : Nat} {Ls : Array Slot} {st : List Value} (hZ : Z.Warmed39 s.vm) {own C : String} {i n : Nat} (hown : s.vm.findClass own = some m.cls) (w : (Jvm.Cond.classLink own i C).before a0 Z = true) (wi : (Jvm.Cond.instantiable C n).before a0 Z = true) (wz : (Jvm.Cond.initialized C).before a0 Z = true) (eT : T.heap = h) (q : Nat) (hd : decode c.code pc = .ok (.new i, 3)) (hq : pc + 3 = q) (hc : cells + 1 ≤ R.cells) (hl : slots + n ≤ R.slots)
    (K : ∀ (T' : State) (h' : Heap) (a : Addr), a = h.size → Stand p l e R s m args below meth c T' locs (cells + 1) (slots + n) → T'.heap = h' → Ext h h' → Exa Z h' a C → (∀ {O nm d : String} {ty : FieldType}, Laid Z a0 C O nm d → parseFieldDescriptor d = some ty → Fld Z h' a O nm d (defaultValue ty)) → Go p e below Ev T' (mkF m q Ls (.ref a :: st))) : Go p e below Ev T (mkF m pc Ls st) := by
  subst hq
  obtain ⟨T', h', X', e', E', A', D', -, st'⟩ := newO X hx hZ hown w wi wz eT (g := mkF m pc Ls st) rfl hd hc hl
  exact (K T' h' _ rfl X' e' E' A' D').on st'
theorem g_getF (X : Stand p l e R s m args below meth c T locs cells slots) (hx : p.tables.exec = Jvm.exec) {pc : Nat} {Ls : Array Slot} {st : List Value} (hZ : Z.Warmed39 s.vm) {own R0 O n d : String} {i : Nat} (hown : s.vm.findClass own = some m.cls) (w : (Jvm.Cond.fieldLink own i R0 n d).before a0 Z = true) (via : Via Z R0 O n d) (eT : T.heap = h) {a : Addr} {v : Value} (F : Fld Z h a O n d v) (q : Nat) (hd : decode c.code pc = .ok (.getfield i, 3)) (hq : pc + 3 = q) (K : ∀ T', Stand p l e R s m args below meth c T' locs cells slots → T'.heap = h → Go p e below Ev T' (mkF m q Ls (v :: st))) : Go p e below Ev T (mkF m pc Ls (.ref a :: st)) := by
  subst hq
  obtain ⟨T', X', e', st'⟩ := getF X hx hZ hown (host := "") (Or.inl w) via eT F (g := mkF m pc Ls (.ref a :: st)) rfl rfl hd
  exact (K T' X' e').on st'
theorem g_putF (X : Stand p l e R s m args below meth c T locs cells slots) (hx : p.tables.exec = Jvm.exec) {pc : Nat} {Ls : Array Slot} {st : List Value} (hZ : Z.Warmed39 s.vm) {own R0 O n d C : String} {i kk : Nat} {ty : FieldType} (hown : s.vm.findClass own = some m.cls) (w : (Jvm.Cond.fieldLink own i R0 n d).before a0 Z = true) (via : Via Z R0 O n d) (eT : T.heap = h) {a : Addr} {v old : Value} (F : Fld Z h a O n d old) (E : Exa Z h a C) (L : (Jvm.Cond.lays C O n d).before a0 Z = true ∨ ((Jvm.Cond.laysFinal C O n d).before a0 Z = true ∧ own = O ∧ meth.name = "<init>")) (wi : (Jvm.Cond.instantiable C kk).before a0 Z = true) (hty : parseFieldDescriptor d = some ty) (hn : narrow ty v = v) (hf : fits ty v = true) (q : Nat) (hd : decode c.code pc = .ok (.putfield i, 3)) (hq : pc + 3 = q)
    (K : ∀ T' h', Stand p l e R s m args below meth c T' (locs ++ [⟨a, Jvm.RoadKit.slotOf Z O n d⟩]) cells slots → T'.heap = h' → Wr h h' a (Jvm.RoadKit.slotOf Z O n d) v → Go p e below Ev T' (mkF m q Ls st)) : Go p e below Ev T (mkF m pc Ls (v :: .ref a :: st)) := by
  subst hq
  obtain ⟨T', h', X', e', W', st'⟩ := putF X hx hZ hown (host := "") (Or.inl w) via eT F E L wi hty hn hf (g := mkF m pc Ls (v :: .ref a :: st)) rfl rfl hd
  exact (K T' h' X' e' W').on st'
theorem g_objinit (X : Stand p l e R s m args below meth c T locs cells slots) (hx : p.tables.exec = Jvm.exec) {pc : Nat} {Ls : Array Slot} {st : List Value} (hZ : Z.Warmed39 s.vm) {own : String} {i : Nat} (hown : s.vm.findClass own = some m.cls) (w1 : (Jvm.Cond.methodLink own i ⟨"java/lang/Object", "<init>", "()V"⟩).before a0 Z = true) (w2 : (Jvm.Cond.instanceMethod ⟨"java/lang/Object", "<init>", "()V"⟩).before a0 Z = true) (w3 : (Jvm.Cond.code ⟨"java/lang/Object", "<init>", "()V"⟩ object_method_1_code 1 none).before a0 Z = true) (eT : T.heap = h) {a : Addr} (W : Nat) (q : Nat) (hd : decode c.code pc = .ok (.invokespecial i, 3)) (hq : pc + 3 = q) (hsz : Ls.size = c.maxLocals) (hf : 1 ≤ R.frames) (hW : (st.map fun v => v.category).sum ≤ W) (hl : W + 12 ≤ R.locals) (K : ∀ T', Stand p l e R s m args below meth c T' locs cells slots → T'.heap = h → Go p e below Ev T' (mkF m q Ls st)) : Go p e below Ev T (mkF m pc Ls (.ref a :: st)) := by
  subst hq
  obtain ⟨T', X', e', st'⟩ := initO X hx hZ hown w1 w2 w3 eT (g := mkF m pc Ls (.ref a :: st)) rfl hsz rfl hd hf (W := W) (by show 2 * 0 + _ ≤ _; omega) hl
  exact (K T' X' e').on st'
theorem g_static (X : Stand p l e R s m args below meth c T locs cells slots) (hx : p.tables.exec = Jvm.exec) {pc : Nat} {Ls : Array Slot} {st : List Value} (hZ : Z.Warmed39 s.vm) {own : String} {i : Nat} {y : MethodName} {bytes : ByteArray} {maxL : Nat} {ret : Option FieldType} {rm : Room} {as' : Array Value} {Q : Option Value → Heap → List Loc → Prop} {argsL rest : List Value} (hown : s.vm.findClass own = some m.cls) (w1 : (Jvm.Cond.methodLink own i y).before a0 Z = true) (w2 : (Jvm.Cond.static y).before a0 Z = true) (w3 : (Jvm.Cond.initialized y.cls).before a0 Z = true) (w4 : (Jvm.Cond.code y bytes maxL ret).before a0 Z = true) (hy : y.cls ≠ "java/lang/invoke/MethodHandle" ∧ y.cls ≠ "java/lang/invoke/VarHandle") (hM : MetFree l y (head1 [Jvm.Cond.code y bytes maxL ret] rm) (fun a U => a = as' ∧ Z.Warmed39 U.vm ∧ U.heap = h) (fun _ _ _ _ _ => True) (fun _ U o U' => ∃ v L, o = .returned v ∧ Q v U'.heap L ∧ FrameEnd U o U' L rm.cells rm.slots)) (eT : T.heap = h) (hst : st = argsL.reverse ++ rest) (has : argsL.toArray = as') (W : Nat) (q : Nat) (hq : pc + 3 = q) (hsz : Ls.size = c.maxLocals) (hlen : ∀ sig, parseMethodDescriptor y.desc = some sig → argsL.length = sig.parameters.length) (hW : (rest.map fun v => v.category).sum ≤ W) (hf : rm.frames + 1 ≤ R.frames) (hl : W + (maxL + 11) + rm.locals ≤ R.locals) (hc : cells + rm.cells ≤ R.cells) (hs : slots + rm.slots ≤ R.slots) (hd : decode c.code pc = .ok (.invokestatic i, 3))
    (K : ∀ (v : Option Value) (T' : State) (L : List Loc), Stand p l e R s m args below meth c T' (locs ++ L) (cells + rm.cells) (slots + rm.slots) → Q v T'.heap L → Go p e below Ev T' (mkF m q Ls (v.toList ++ rest))) : Go p e below Ev T (mkF m pc Ls st) := by
  subst hq hst
  obtain ⟨v, vm1, ⟨T', L', k', n'⟩, -, X', ⟨L, hQ, l', y', z'⟩, st'⟩ := Jvm.LawKit.callS X hx hown (mvT hZ w1) (mvT hZ w2) (mvT hZ w3) (mvT hZ w4) hy (backOf (W := W) hM hZ w4 w3 hf hl) (g := mkF m pc Ls (argsL.reverse ++ rest)) rfl hsz (argsL := argsL) (rest := rest) hlen rfl (by show 2 * 0 + _ ≤ _; omega) hd (fun _ _ => ⟨has, eT, hc, hs⟩)
  dsimp only [Pt.U, Pt.locs, Pt.cells, Pt.slots] at X' l' y' z' st' hQ
  subst l' y' z'
  exact (K v T' L X' hQ).on fun t k => st' t k
theorem g_init (X : Stand p l e R s m args below meth c T locs cells slots) (hx : p.tables.exec = Jvm.exec) {pc : Nat} {Ls : Array Slot} {st : List Value} (hZ : Z.Warmed39 s.vm) {own : String} {i : Nat} {y : MethodName} {bytes : ByteArray} {maxL : Nat} {rm : Room} {as' : Array Value} {Q : Option Value → Heap → List Loc → Prop} {argsL rest : List Value} (hy1 : y.name = "<init>") (hown : s.vm.findClass own = some m.cls) (w1 : (Jvm.Cond.methodLink own i y).before a0 Z = true) (w2 : (Jvm.Cond.instanceMethod y).before a0 Z = true) (w3 : (Jvm.Cond.initialized y.cls).before a0 Z = true) (w4 : (Jvm.Cond.code y bytes maxL none).before a0 Z = true) (hy : y.cls ≠ "java/lang/invoke/MethodHandle" ∧ y.cls ≠ "java/lang/invoke/VarHandle") (hM : MetFree l y (head1 [Jvm.Cond.code y bytes maxL none] rm) (fun a U => a = as' ∧ Z.Warmed39 U.vm ∧ U.heap = h) (fun _ _ _ _ _ => True) (fun _ U o U' => ∃ v L, o = .returned v ∧ Q v U'.heap L ∧ FrameEnd U o U' L rm.cells rm.slots)) (eT : T.heap = h) {a : Addr} (hst : st = argsL.reverse ++ .ref a :: rest) (has : (.ref a :: argsL).toArray = as') (W : Nat) (q : Nat) (hq : pc + 3 = q) (hsz : Ls.size = c.maxLocals) (hlen : ∀ sig, parseMethodDescriptor y.desc = some sig → argsL.length = sig.parameters.length) (hW : (rest.map fun v => v.category).sum ≤ W) (hf : rm.frames + 1 ≤ R.frames) (hl : W + (maxL + 11) + rm.locals ≤ R.locals) (hc : cells + rm.cells ≤ R.cells) (hs : slots + rm.slots ≤ R.slots) (hd : decode c.code pc = .ok (.invokespecial i, 3))
    (K : ∀ (v : Option Value) (T' : State) (L : List Loc), Stand p l e R s m args below meth c T' (locs ++ L) (cells + rm.cells) (slots + rm.slots) → Q v T'.heap L → Go p e below Ev T' (mkF m q Ls (v.toList ++ rest))) : Go p e below Ev T (mkF m pc Ls st) := by
  subst hq hst
  obtain ⟨v, vm1, ⟨T', L', k', n'⟩, -, X', ⟨L, hQ, l', y', z'⟩, st'⟩ := X.specialBack hx hy1 hown (mvT hZ w1) (mvT hZ w2) (mvT hZ w4) hy (backOf (W := W) hM hZ w4 w3 hf hl) (g := mkF m pc Ls (argsL.reverse ++ .ref a :: rest)) rfl hsz (Steps.refl _) (a := a) (argsL := argsL) (rest := rest) hlen rfl (by show 2 * 0 + _ ≤ _; omega) hd (fun _ _ => ⟨has, eT, hc, hs⟩)
  dsimp only [Pt.U, Pt.locs, Pt.cells, Pt.slots] at X' l' y' z' st' hQ
  subst l' y' z'
  exact (K v T' L X' hQ).on fun t k => st'.trans k
theorem g_virt (X : Stand p l e R s m args below meth c T locs cells slots) (hx : p.tables.exec = Jvm.exec) {pc : Nat} {Ls : Array Slot} {st : List Value} (hZ : Z.Warmed39 s.vm) {own : String} {i : Nat} {y z : MethodName} {C : String} {bytes : ByteArray} {maxL : Nat} {ret : Option FieldType} {rm : Room} {as' : Array Value} {Q : Option Value → Heap → List Loc → Prop} {argsL rest : List Value} (hown : s.vm.findClass own = some m.cls) (w1 : (Jvm.Cond.methodLink own i y).before a0 Z = true) (w2 : (Jvm.Cond.declares y).before a0 Z = true) (w5 : (Jvm.Cond.selects y.cls y y).before a0 Z = true) (w6 : (Jvm.Cond.selects C y z).before a0 Z = true) (w7 : (Jvm.Cond.instanceMethod z).before a0 Z = true) (w3 : (Jvm.Cond.initialized z.cls).before a0 Z = true) (w4 : (Jvm.Cond.code z bytes maxL ret).before a0 Z = true) (hy : y.cls ≠ "java/lang/invoke/MethodHandle" ∧ y.cls ≠ "java/lang/invoke/VarHandle") (hM : MetFree l z (head1 [Jvm.Cond.code z bytes maxL ret] rm) (fun a U => a = as' ∧ Z.Warmed39 U.vm ∧ U.heap = h) (fun _ _ _ _ _ => True) (fun _ U o U' => ∃ v L, o = .returned v ∧ Q v U'.heap L ∧ FrameEnd U o U' L rm.cells rm.slots)) (eT : T.heap = h) {b : Addr} (E : Exa Z h b C) (hst : st = argsL.reverse ++ .ref b :: rest) (has : (.ref b :: argsL).toArray = as') (W : Nat) (q : Nat) (hq : pc + 3 = q) (hsz : Ls.size = c.maxLocals) (hlen : ∀ sig, parseMethodDescriptor y.desc = some sig → argsL.length = sig.parameters.length) (hW : (rest.map fun v => v.category).sum ≤ W) (hf : rm.frames + 1 ≤ R.frames) (hl : W + (maxL + 11) + rm.locals ≤ R.locals) (hc : cells + rm.cells ≤ R.cells) (hs : slots + rm.slots ≤ R.slots) (hd : decode c.code pc = .ok (.invokevirtual i, 3))
    (K : ∀ (v : Option Value) (T' : State) (L : List Loc), Stand p l e R s m args below meth c T' (locs ++ L) (cells + rm.cells) (slots + rm.slots) → Q v T'.heap L → Go p e below Ev T' (mkF m q Ls (v.toList ++ rest))) : Go p e below Ev T (mkF m pc Ls st) := by
  subst hq hst
  obtain ⟨cq, kq, qa, qb, qc⟩ := isOf hZ eT E
  obtain ⟨v, vm1, ⟨T', L', k', n'⟩, -, X', ⟨L, hQ, l', y', z'⟩, st'⟩ := X.virtualBack hx hown (mvT hZ w1) (mvT hZ w2) (notFace_of_selects (args := #[]) (mvT hZ w5)) (mvT hZ w6) (mvT hZ w7) hy (backOf (W := W) hM hZ w4 w3 hf hl) qa qc (g := mkF m pc Ls (argsL.reverse ++ .ref b :: rest)) rfl hsz (Steps.refl _) (argsL := argsL) (rest := rest) hlen rfl (by show 2 * 0 + _ ≤ _; omega) hd (fun _ _ => ⟨has, eT, hc, hs⟩)
  dsimp only [Pt.U, Pt.locs, Pt.cells, Pt.slots] at X' l' y' z' st' hQ
  subst l' y' z'
  exact (K v T' L X' hQ).on fun t k => st'.trans k
theorem own_at {n : Nat} (j : Int32) (h0 : 0 ≤ j.toInt) (z : Int32) (h1 : j.toInt < z.toInt) (S : n = z.toNatClampNeg) : ¬ (j < 0 ∨ n ≤ j.toNatClampNeg) := by
  subst S
  intro q
  rcases q with q | q
  · have := (own_i0 j).1.mp q; omega
  · simp only [Int32.toNatClampNeg] at q; omega
theorem own_ncl {j : Int32} {k : Nat} (h : j.toInt = (k : Int)) : j.toNatClampNeg = k := by simp only [Int32.toNatClampNeg]; omega
theorem g_newP (X : Stand p l e R s m args below meth c T locs cells slots) (hx : p.tables.exec = Jvm.exec) {pc : Nat} {Ls : Array Slot} {st : List Value} (hZ : Z.Warmed39 s.vm) {aty : ArrayType} (w : (Jvm.Cond.arrayClass (newarray.typeOf aty)).before a0 Z = true) (eT : T.heap = h) {n : Int32} (hn : 0 ≤ n.toInt) {cap : Nat} (hcap : n.toInt ≤ cap) (hb : cap * 8 ≤ 536870912) (q : Nat) (hd : decode c.code pc = .ok (.newarray aty, 2)) (hq : pc + 2 = q) (hc : cells + 1 ≤ R.cells) (hl : slots + cap ≤ R.slots) {ad : String} (had : "[" ++ (newarray.typeOf aty).toString = ad)
    (K : ∀ (T' : State) (h' : Heap) (k : ClassId) (a : Addr), a = h.size → Stand p l e R s m args below meth c T' locs (cells + 1) (slots + cap) → T'.heap = h' → Ext h h' → Arv Z h' a k (newarray.typeOf aty) n [] (defaultValue (newarray.typeOf aty)) → Exa Z h' a ad → Go p e below Ev T' (mkF m q Ls (.ref a :: st))) : Go p e below Ev T (mkF m pc Ls (.int n :: st)) := by
  subst hq
  have hn' : ¬ n < 0 := fun q => by have := (own_i0 n).1.mp q; omega
  obtain ⟨T', h', k, X', e', E', A', B', st'⟩ := newPE X hx hZ w eT (g := mkF m pc Ls (.int n :: st)) rfl hd rfl hn' (cap := cap) (by simp only [Int32.toNatClampNeg]; omega) hb hc hl had
  exact (K T' h' k _ rfl X' e' E' (Arv.new A' hn') B').on st'
theorem g_len (X : Stand p l e R s m args below meth c T locs cells slots) (hx : p.tables.exec = Jvm.exec) {pc : Nat} {Ls : Array Slot} {st : List Value} (hZ : Z.Warmed39 s.vm) (eT : T.heap = h) {a : Addr} {k : ClassId} {ty : FieldType} {z : Int32} {vs : List Value} {dv : Value} (V : Arv Z h a k ty z vs dv) (q : Nat) (hd : decode c.code pc = .ok (.arraylength, 1)) (hq : pc + 1 = q) (K : Go p e below Ev T (mkF m q Ls (.int z :: st))) : Go p e below Ev T (mkF m pc Ls (.ref a :: st)) := by
  subst hq
  obtain ⟨cl, A, q1, S, q3, H, G⟩ := V
  refine K.on fun t k => X.arraylength hx (by rw [eT]; exact A.1) (State.isArrayOf_alike hZ.alike A.2.1) (g := mkF m pc Ls (.ref a :: st)) rfl rfl hd t ?_
  rw [len_of S q3]
  exact k
theorem g_dastore (X : Stand p l e R s m args below meth c T locs cells slots) (hx : p.tables.exec = Jvm.exec) {pc : Nat} {Ls : Array Slot} {st : List Value} (hZ : Z.Warmed39 s.vm) (eT : T.heap = h) {a : Addr} {k : ClassId} {z j : Int32} {x : UInt64} {vs : List Value} {dv : Value} (V : Arv Z h a k .double z vs dv) (i : Nat) (hi : j.toInt = (i : Int)) (hz : j.toInt < z.toInt) (hv : i < vs.length) (q : Nat) (hd : decode c.code pc = .ok (.dastore, 1)) (hq : pc + 1 = q)
    (K : ∀ T' h', Stand p l e R s m args below meth c T' (locs ++ [⟨a, j.toNatClampNeg⟩]) cells slots → T'.heap = h' → Wr h h' a j.toNatClampNeg (.double x) → Arv Z h' a k .double z (vs.set i (.double x)) dv → Go p e below Ev T' (mkF m q Ls st)) : Go p e below Ev T (mkF m pc Ls (.double x :: .int j :: .ref a :: st)) := by
  subst hq
  obtain ⟨cl, A, q1, S, q3, H, G⟩ := V
  have hj := own_at j (by omega) z hz S
  obtain ⟨T', h', X', e', W', st'⟩ := stD X hx hZ eT A hj (g := mkF m pc Ls (.double x :: .int j :: .ref a :: st)) rfl rfl hd
  exact (K T' h' X' e' W' (Arv.set A q1 S q3 H G rfl W' i (own_ncl hi) hv)).on st'
theorem g_iastore (X : Stand p l e R s m args below meth c T locs cells slots) (hx : p.tables.exec = Jvm.exec) {pc : Nat} {Ls : Array Slot} {st : List Value} (hZ : Z.Warmed39 s.vm) (eT : T.heap = h) {a : Addr} {k : ClassId} {z j : Int32} {x : Int32} {vs : List Value} {dv : Value} (V : Arv Z h a k .int z vs dv) (i : Nat) (hi : j.toInt = (i : Int)) (hz : j.toInt < z.toInt) (hv : i < vs.length) (q : Nat) (hd : decode c.code pc = .ok (.iastore, 1)) (hq : pc + 1 = q)
    (K : ∀ T' h', Stand p l e R s m args below meth c T' (locs ++ [⟨a, j.toNatClampNeg⟩]) cells slots → T'.heap = h' → Wr h h' a j.toNatClampNeg (.int x) → Arv Z h' a k .int z (vs.set i (.int x)) dv → Go p e below Ev T' (mkF m q Ls st)) : Go p e below Ev T (mkF m pc Ls (.int x :: .int j :: .ref a :: st)) := by
  subst hq
  obtain ⟨cl, A, q1, S, q3, H, G⟩ := V
  have hj := own_at j (by omega) z hz S
  obtain ⟨T', h', X', e', W', st'⟩ := stI X hx hZ eT A hj (g := mkF m pc Ls (.int x :: .int j :: .ref a :: st)) rfl rfl hd
  exact (K T' h' X' e' W' (Arv.set A q1 S q3 H G rfl W' i (own_ncl hi) hv)).on st'
theorem g_lastore (X : Stand p l e R s m args below meth c T locs cells slots) (hx : p.tables.exec = Jvm.exec) {pc : Nat} {Ls : Array Slot} {st : List Value} (hZ : Z.Warmed39 s.vm) (eT : T.heap = h) {a : Addr} {k : ClassId} {z j : Int32} {x : Int64} {vs : List Value} {dv : Value} (V : Arv Z h a k .long z vs dv) (i : Nat) (hi : j.toInt = (i : Int)) (hz : j.toInt < z.toInt) (hv : i < vs.length) (q : Nat) (hd : decode c.code pc = .ok (.lastore, 1)) (hq : pc + 1 = q)
    (K : ∀ T' h', Stand p l e R s m args below meth c T' (locs ++ [⟨a, j.toNatClampNeg⟩]) cells slots → T'.heap = h' → Wr h h' a j.toNatClampNeg (.long x) → Arv Z h' a k .long z (vs.set i (.long x)) dv → Go p e below Ev T' (mkF m q Ls st)) : Go p e below Ev T (mkF m pc Ls (.long x :: .int j :: .ref a :: st)) := by
  subst hq
  obtain ⟨cl, A, q1, S, q3, H, G⟩ := V
  have hj := own_at j (by omega) z hz S
  obtain ⟨T', h', X', e', W', st'⟩ := stJ X hx hZ eT A hj (g := mkF m pc Ls (.long x :: .int j :: .ref a :: st)) rfl rfl hd
  exact (K T' h' X' e' W' (Arv.set A q1 S q3 H G rfl W' i (own_ncl hi) hv)).on st'
theorem g_daload (X : Stand p l e R s m args below meth c T locs cells slots) (hx : p.tables.exec = Jvm.exec) {pc : Nat} {Ls : Array Slot} {st : List Value} (hZ : Z.Warmed39 s.vm) (eT : T.heap = h) {a : Addr} {k : ClassId} {z j : Int32} {v : Value} {vs : List Value} {dv : Value} (V : Arv Z h a k .double z vs dv) (hi : 0 ≤ j.toInt) (hz : j.toInt < z.toInt) (hv : vs.getD j.toNatClampNeg dv = v) (q : Nat) (hd : decode c.code pc = .ok (.daload, 1)) (hq : pc + 1 = q) (K : Go p e below Ev T (mkF m q Ls (v :: st))) : Go p e below Ev T (mkF m pc Ls (.int j :: .ref a :: st)) := by
  subst hq
  obtain ⟨cl, A, q1, S, q3, H, G⟩ := V
  have hj := own_at j hi z hz S
  exact K.on fun t k => X.daload hx (by rw [eT]; exact A.1) (State.isArrayOf_alike hZ.alike A.2.1) A.2.2 hj (H.at hj hv) (g := mkF m pc Ls (.int j :: .ref a :: st)) rfl rfl hd t k
theorem g_iaload (X : Stand p l e R s m args below meth c T locs cells slots) (hx : p.tables.exec = Jvm.exec) {pc : Nat} {Ls : Array Slot} {st : List Value} (hZ : Z.Warmed39 s.vm) (eT : T.heap = h) {a : Addr} {k : ClassId} {z j : Int32} {v : Value} {vs : List Value} {dv : Value} (V : Arv Z h a k .int z vs dv) (hi : 0 ≤ j.toInt) (hz : j.toInt < z.toInt) (hv : vs.getD j.toNatClampNeg dv = v) (q : Nat) (hd : decode c.code pc = .ok (.iaload, 1)) (hq : pc + 1 = q) (K : Go p e below Ev T (mkF m q Ls (v :: st))) : Go p e below Ev T (mkF m pc Ls (.int j :: .ref a :: st)) := by
  subst hq
  obtain ⟨cl, A, q1, S, q3, H, G⟩ := V
  have hj := own_at j hi z hz S
  exact K.on fun t k => X.iaload hx (by rw [eT]; exact A.1) (State.isArrayOf_alike hZ.alike A.2.1) A.2.2 hj (H.at hj hv) (g := mkF m pc Ls (.int j :: .ref a :: st)) rfl rfl hd t k
theorem g_laload (X : Stand p l e R s m args below meth c T locs cells slots) (hx : p.tables.exec = Jvm.exec) {pc : Nat} {Ls : Array Slot} {st : List Value} (hZ : Z.Warmed39 s.vm) (eT : T.heap = h) {a : Addr} {k : ClassId} {z j : Int32} {v : Value} {vs : List Value} {dv : Value} (V : Arv Z h a k .long z vs dv) (hi : 0 ≤ j.toInt) (hz : j.toInt < z.toInt) (hv : vs.getD j.toNatClampNeg dv = v) (q : Nat) (hd : decode c.code pc = .ok (.laload, 1)) (hq : pc + 1 = q) (K : Go p e below Ev T (mkF m q Ls (v :: st))) : Go p e below Ev T (mkF m pc Ls (.int j :: .ref a :: st)) := by
  subst hq
  obtain ⟨cl, A, q1, S, q3, H, G⟩ := V
  have hj := own_at j hi z hz S
  exact K.on fun t k => X.laload hx (by rw [eT]; exact A.1) (State.isArrayOf_alike hZ.alike A.2.1) A.2.2 hj (H.at hj hv) (g := mkF m pc Ls (.int j :: .ref a :: st)) rfl rfl hd t k
theorem g_clone (X : Stand p l e R s m args below meth c T locs cells slots) (hx : p.tables.exec = Jvm.exec) {pc : Nat} {Ls : Array Slot} {st : List Value} (hZ : Z.Warmed39 s.vm) {own ad : String} {i : Nat} (hown : s.vm.findClass own = some m.cls) (w1 : (Jvm.Cond.methodLink own i ⟨ad, "clone", "()Ljava/lang/Object;"⟩).before a0 Z = true) (w2 : (Jvm.Cond.sameMethod ad "java/lang/Object" "clone" "()Ljava/lang/Object;").before a0 Z = true) (w3 : (Jvm.Cond.native ⟨"java/lang/Object", "clone", "()Ljava/lang/Object;"⟩).before a0 Z = true) (w4 : (Jvm.Cond.instanceMethod ⟨"java/lang/Object", "clone", "()Ljava/lang/Object;"⟩).before a0 Z = true) (w5 : (Jvm.Cond.selects ad ⟨ad, "clone", "()Ljava/lang/Object;"⟩ ⟨"java/lang/Object", "clone", "()Ljava/lang/Object;"⟩).before a0 Z = true) (w6 : (Jvm.Cond.castable ad "java/lang/Cloneable").before a0 Z = true) (eT : T.heap = h) {a : Addr} {k : ClassId} {ty : FieldType} {z : Int32} {vs : List Value} {dv : Value} (V : Arv Z h a k ty z vs dv) (E : Exa Z h a ad) (W cap : Nat) (q : Nat) (hd : decode c.code pc = .ok (.invokevirtual i, 3)) (hq : pc + 3 = q) (hsz : Ls.size = c.maxLocals) (hf : 1 ≤ R.frames) (hW : (st.map fun v => v.category).sum ≤ W) (hl : W + 14 ≤ R.locals) (hcap : z.toInt ≤ cap) (hc : cells + 1 ≤ R.cells) (hs : slots + cap ≤ R.slots)
    (K : ∀ (T' : State) (h' : Heap) (b : Addr), b = h.size → Stand p l e R s m args below meth c T' locs (cells + 1) (slots + cap) → T'.heap = h' → Ext h h' → Arv Z h' b k ty z vs dv → Exa Z h' b ad → Go p e below Ev T' (mkF m q Ls (.ref b :: st))) : Go p e below Ev T (mkF m pc Ls (.ref a :: st)) := by
  subst hq
  obtain ⟨T', h', X', e', E', V', B', st'⟩ := cloneH X hx hZ hown w1 w2 w3 w4 w5 w6 eT V.arh E (g := mkF m pc Ls (.ref a :: st)) rfl hsz rfl hd hf (W := W) (cap := cap) (by show 2 * 0 + _ ≤ _; omega) hl (by simp only [Int32.toNatClampNeg]; omega) hc hs
  exact (K T' h' _ rfl X' e' E' V' B').on st'
theorem g_cast (X : Stand p l e R s m args below meth c T locs cells slots) (hx : p.tables.exec = Jvm.exec) {pc : Nat} {Ls : Array Slot} {st : List Value} (hZ : Z.Warmed39 s.vm) {own C : String} {i : Nat} (hown : s.vm.findClass own = some m.cls) (w : (Jvm.Cond.classLink own i C).before a0 Z = true) (eT : T.heap = h) {a : Addr} (F : Ins Z h a C true) (q : Nat) (hd : decode c.code pc = .ok (.checkcast i, 3)) (hq : pc + 3 = q) (K : ∀ T', Stand p l e R s m args below meth c T' locs cells slots → T'.heap = h → Go p e below Ev T' (mkF m q Ls (.ref a :: st))) : Go p e below Ev T (mkF m pc Ls (.ref a :: st)) := by
  subst hq
  obtain ⟨T', X', e', st'⟩ := castY X hx hZ hown w eT F (g := mkF m pc Ls (.ref a :: st)) rfl rfl hd
  exact (K T' X' e').on st'
end OwnKit
theorem own_pd0 : parseMethodDescriptor "(DD)V" = some ⟨[.double, .double], none⟩ := by decide +kernel
theorem own_pd1 : parseMethodDescriptor "()V" = some ⟨[], none⟩ := by decide +kernel
theorem own_pd2 : parseMethodDescriptor "(Ljava/lang/String;D)V" = some ⟨[(.object "java/lang/String"), .double], none⟩ := by decide +kernel
theorem own_pd3 : parseMethodDescriptor "(DD)D" = some ⟨[.double, .double], some .double⟩ := by decide +kernel
def Q_rm0 (n0 : Nat) (v : Option Value) (h : Heap) (L : List Loc) : Prop := v = some (.int 1) ∧ Fr n0 L
theorem own_dlit {i : Int} {a : UInt64} (s : Bool) (c : Nat) (q : Int) (h : Jvm.FP.Core.val64 a = .fin s c q) (h2 : Jvm.FP.Core.signed s (c * 2 ^ q.toNat) = i * ((2 ^ (-q).toNat : Nat) : Int)) : Jvm.FP.Core.DInt i a := by
  show Jvm.FP.Core.Whole i _
  rw [h]
  exact h2
theorem own_dnn {i : Int} {a : UInt64} (h : Jvm.FP.Core.DInt i a) : Jvm.Free.Fl.NoNaN64 a := Jvm.Free.Fl.noNaN64_no.mpr ((Jvm.FP.Core.notNaN_iff a).mpr (Jvm.FP.Core.Whole.ne_nan h))
theorem own_dzero : Jvm.FP.Core.DInt 0 (0 : UInt64) := own_dlit false 0 (-1074) (by decide +kernel) (by decide +kernel)
theorem own_done : Jvm.FP.Core.DInt 1 (4607182418800017408 : UInt64) := own_dlit false (2 ^ 52) (-52) (by decide +kernel) (by decide +kernel)
section OwnKitS
variable {p : Program} {l : Launch} {e : Env} {R : Room} {s : State} {m : MethodId} {args : Array Value} {below : List Frame} {meth : Method} {c : Code} {T : State} {locs : List Loc} {cells slots : Nat} {Z : State} {a0 : Array Value} {h h' : Heap} {Ev : State → Outcome → Prop} {vm0 : Vm} {k0 : Nat}
abbrev EndW (s : State) (Q : Option Value → Heap → List Loc → Prop) (K N : Nat) : State → Outcome → Prop := fun U o => ∃ (v : Option Value) (L : List Loc), o = .returned v ∧ Q v U.heap L ∧ ReturnedEndW s o U L K N
theorem own_metS {x : MethodName} {code : ByteArray} {ml : Nat} {ret : Option FieldType} {ws : List Jvm.Cond} {rm : Room} {as : Array Value} {h0 : Heap} {Q : Option Value → Heap → List Loc → Prop} {K N : Nat} {Ls : Array Slot} (hpn : plainFor x = true) (hef : ∀ m, entryFrame m as ml = mkF m 0 Ls [])
    (body : ∀ (p : Program) (e : Env) (s : State) (m : MethodId) (below : List Frame) (meth : Method) (c : Code) (T : State), Stand p l e rm (s.setVm s.vm) m as below meth c T [] 0 0 → p.tables.exec = Jvm.exec → c.code = code → c.maxLocals = ml → meth.sig.returnType = ret → meth.locks = false → meth.name = x.name → (s.setVm s.vm).vm.findClass x.cls = some m.cls → Z.Warmed39 (s.setVm s.vm).vm → T.heap = h0 → s.Since s.vm 0 → Go p e below (EndW s Q K N) T (mkF m 0 Ls [])) :
    MetFree l x (head1 (Jvm.Cond.code x code ml ret :: ws) rm) (fun a U => a = as ∧ Z.Warmed39 U.vm ∧ U.heap = h0) (fun _ _ _ _ _ => True) (fun _ U o U' => ∃ v L, o = .returned v ∧ Q v U'.heap L ∧ ReturnedEndW U o U' L K N) := by
  refine MetFree.of_bodySF hpn hisR ?_
  intro p e s m args below meth c s₁ Bd hml0 hP hK
  obtain ⟨rfl, hZ, hh⟩ := hP
  have e0 : s₁.heap = h0 := by rw [← hh, Bd.state]; rfl
  obtain ⟨U, o, h1, h2, h3, h4⟩ := body p e s m below meth c s₁ (Stand.of_body Bd) Bd.exec Bd.bytes hml0 Bd.returns (BodyLoose.notSynchronized Bd) (name_of_methodNamed Bd.named Bd.method).1 (findClass_of_methodNamed Bd.named) hZ e0 ⟨State.Warmed39.refl s, fun j q hj hq => absurd (Array.getElem?_eq_some_iff.mp hq).1 (Nat.not_lt.mpr hj)⟩
  rw [← hef m] at h1
  exact ⟨U, o, h1, h2, h3, h4⟩
theorem g_leaveW (X : Stand p l e R (s.setVm vm0) m args below meth c T locs cells slots) (hlk : meth.locks = false) {Q : Option Value → Heap → List Loc → Prop} {K N : Nat} {g : JFrame} {v : Option Value} (hv : meth.sig.returnType = none → v = none) (hK : cells ≤ K) (hN : slots ≤ N) (eT : T.heap = h) (hS : s.Since vm0 k0) (hk : k0 ≤ h.size) (hQ : Q v h locs)
    (hst : ∀ fs, (∀ (f : JFrame) (acts : List Action), f.method = m → f.locked = none → f.entered = [] → (doReturn e (T.setTop f) acts v).1 = T.setFrames fs) → Steps p.tables e below (T.setTop g) (T.setFrames fs)) : Go p e below (EndW s Q K N) T g := by
  obtain ⟨fs, hr, hrun, hended, hW, hsame⟩ := X.leave (v := v) hv hlk
  obtain ⟨q1, q2, q3⟩ := hS.ended (U := T.setFrames fs) hW (by show k0 ≤ T.heap.size; rw [eT]; exact hk) hsame
  exact ⟨_, _, hst fs hr, hrun, hended, _, _, rfl, by rw [show (T.setFrames fs).heap = T.heap from rfl, eT]; exact hQ, ⟨_, rfl⟩, q1, q2, q3.mono hK hN⟩
theorem g_retZW (X : Stand p l e R (s.setVm vm0) m args below meth c T locs cells slots) (hx : p.tables.exec = Jvm.exec) (hlk : meth.locks = false) {Q : Option Value → Heap → List Loc → Prop} {K N : Nat} {pc : Nat} {Ls : Array Slot} {z : Int32} {rest : List Value} (hret : meth.sig.returnType = some .boolean) (hd : decode c.code pc = .ok (.ireturn, 1)) (hK : cells ≤ K) (hN : slots ≤ N) (eT : T.heap = h) (hS : s.Since vm0 k0) (hk : k0 ≤ h.size) (hQ : Q (some (.int (nar .boolean z))) h locs) : Go p e below (EndW s Q K N) T (mkF m pc Ls (.int z :: rest)) :=
  g_leaveW X hlk (fun q => by rw [hret] at q; cases q) hK hN eT hS hk hQ (fun fs hr => retN X hx (t := .boolean) hret (by simp) hd hr)
theorem g_retVW (X : Stand p l e R (s.setVm vm0) m args below meth c T locs cells slots) (hx : p.tables.exec = Jvm.exec) (hlk : meth.locks = false) {Q : Option Value → Heap → List Loc → Prop} {K N : Nat} {pc : Nat} {Ls : Array Slot} (hret : meth.sig.returnType = none) (hd : decode c.code pc = .ok (.return_, 1)) (hK : cells ≤ K) (hN : slots ≤ N) (eT : T.heap = h) (hS : s.Since vm0 k0) (hk : k0 ≤ h.size) (hQ : Q none h locs) : Go p e below (EndW s Q K N) T (mkF m pc Ls []) :=
  g_leaveW X hlk (fun _ => rfl) hK hN eT hS hk hQ (fun fs hr => X.returnOut hx hret hd hr)
theorem g_ldcS (X : Stand p l e R (s.setVm vm0) m args below meth c T locs cells slots) (hx : p.tables.exec = Jvm.exec) {pc : Nat} {Ls : Array Slot} {st : List Value} (hZ : Z.Warmed39 (s.setVm vm0).vm) {own text : String} {i : Nat} (hown : (s.setVm vm0).vm.findClass own = some m.cls) (w : (Jvm.Cond.stringLink own i text).before a0 Z = true) (wS : ∀ a ∈ Bundle.stringAtoms, a.before a0 Z = true) (eT : T.heap = h) (hS : s.Since vm0 k0) (hk : k0 ≤ h.size) (n : Nat) (hn : 4 * text.toList.length ≤ n) (hbig : n ≤ 536870912) (q : Nat) (hd : decode c.code pc = .ok (.ldc i, 2)) (hq : pc + 2 = q) (hc : cells + 2 ≤ R.cells) (hl : slots + (n + 4) ≤ R.slots)
    (K : ∀ (a : Addr) (T' : State) (h' : Heap) (k1 : Nat), Stand p l e R (s.setVm T'.vm) m args below meth c T' locs (cells + 2) (slots + (n + 4)) → T'.heap = h' → Ext h h' → s.Since T'.vm k1 → k1 ≤ h'.size → Z.Warmed39 (s.setVm T'.vm).vm → (s.setVm T'.vm).vm.findClass own = some m.cls → Go p e below Ev T' (mkF m q Ls (.ref a :: st))) : Go p e below Ev T (mkF m pc Ls st) := by
  subst hq
  obtain ⟨a, T', h', k1, X', e', E', S', k', Z', o', st'⟩ := ldcS X hx hZ hown w wS eT hS hk (g := mkF m pc Ls st) rfl hd hn hbig hc hl
  exact (K a T' h' k1 X' e' E' S' k' Z' o').on st'
theorem g_initS (X : Stand p l e R (s.setVm vm0) m args below meth c T locs cells slots) (hx : p.tables.exec = Jvm.exec) {pc : Nat} {Ls : Array Slot} {st : List Value} (hZ : Z.Warmed39 (s.setVm vm0).vm) {own : String} {i : Nat} {y : MethodName} {bytes : ByteArray} {maxL : Nat} {rm : Room} {as' : Array Value} {Q : Option Value → Heap → List Loc → Prop} {argsL rest : List Value} (hy1 : y.name = "<init>") (hown : (s.setVm vm0).vm.findClass own = some m.cls) (w1 : (Jvm.Cond.methodLink own i y).before a0 Z = true) (w2 : (Jvm.Cond.instanceMethod y).before a0 Z = true) (w3 : (Jvm.Cond.initialized y.cls).before a0 Z = true) (w4 : (Jvm.Cond.code y bytes maxL none).before a0 Z = true) (hy : y.cls ≠ "java/lang/invoke/MethodHandle" ∧ y.cls ≠ "java/lang/invoke/VarHandle") (hM : MetFree l y (head1 [Jvm.Cond.code y bytes maxL none] rm) (fun a U => a = as' ∧ Z.Warmed39 U.vm ∧ U.heap = h) (fun _ _ _ _ _ => True) (fun _ U o U' => ∃ v L, o = .returned v ∧ Q v U'.heap L ∧ ReturnedEndW U o U' L rm.cells rm.slots)) (eT : T.heap = h) (hS : s.Since vm0 k0) (hk : k0 ≤ h.size) {a : Addr} (hst : st = argsL.reverse ++ .ref a :: rest) (has : (.ref a :: argsL).toArray = as') (W : Nat) (q : Nat) (hq : pc + 3 = q) (hsz : Ls.size = c.maxLocals) (hlen : ∀ sig, parseMethodDescriptor y.desc = some sig → argsL.length = sig.parameters.length) (hW : (rest.map fun v => v.category).sum ≤ W) (hf : rm.frames + 1 ≤ R.frames) (hl : W + (maxL + 11) + rm.locals ≤ R.locals) (hc : cells + rm.cells ≤ R.cells) (hs : slots + rm.slots ≤ R.slots) (hd : decode c.code pc = .ok (.invokespecial i, 3))
    (K : ∀ (v : Option Value) (T' : State) (L : List Loc), Stand p l e R (s.setVm T'.vm) m args below meth c T' (locs ++ L) (cells + rm.cells) (slots + rm.slots) → s.Since T'.vm T'.heap.size → Z.Warmed39 (s.setVm T'.vm).vm → (s.setVm T'.vm).vm.findClass own = some m.cls → Q v T'.heap L → Go p e below Ev T' (mkF m q Ls (v.toList ++ rest))) : Go p e below Ev T (mkF m pc Ls st) := by
  subst hq hst
  obtain ⟨v, vm1, ⟨T', L', k', n'⟩, -, X', S', g', ⟨L, hQ, l', y', z'⟩, st'⟩ := X.specialBackS hx hy1 hown (mvT hZ w1) (mvT hZ w2) (mvT hZ w4) hy (backOfS (W := W) hM hZ w4 w3 hf hl) (g := mkF m pc Ls (argsL.reverse ++ .ref a :: rest)) rfl hsz (Steps.refl _) (a := a) (argsL := argsL) (rest := rest) hlen rfl (by show 2 * 0 + _ ≤ _; omega) hd (fun _ _ => ⟨has, eT, hc, hs⟩)
  dsimp only [Pt.U, Pt.locs, Pt.cells, Pt.slots] at X' S' g' l' y' z' st' hQ
  subst l' y' z'
  obtain ⟨X2, S2, Z2, o2⟩ := rebS hS hk X' S' (by rw [← eT]; exact g') hZ hown
  exact (K v T' L X2 S2 Z2 o2 hQ).on fun t k => st'.trans k
end OwnKitS
section Fix
open Jvm.FP Jvm.FP.Core Jvm.Free.Fl
def shd (k : Int) : Datum → Datum
  | .fin s c q => .fin s c (q + k)
  | .nan => .nan
  | .inf s => .inf s
/-- a is the number i / 2^k -/
def DFix (i : Int) (k : Nat) (a : UInt64) : Prop := Whole i (shd (k : Int) (val64 a))
theorem own_shdfin {i : Int} {k : Nat} {d : Datum} (h : Whole i (shd k d)) : ∃ s c q, d = .fin s c q := by
  cases d with
  | nan => exact h.elim
  | inf => exact h.elim
  | fin s c q => exact ⟨s, c, q, rfl⟩
theorem own_fixnn {i : Int} {k : Nat} {a : UInt64} (h : DFix i k a) : NoNaN64 a := by
  obtain ⟨s, c, q, e⟩ := own_shdfin h
  exact noNaN64_no.mpr ((notNaN_iff a).mpr (by rw [e]; intro q; cases q))
theorem own_sgn {i : Int} {s : Bool} (h : s = decide (i < 0)) : signed s i.natAbs = i := by
  subst h
  unfold signed
  by_cases hn : i < 0 <;> simp [hn] <;> omega
/-- i / 2^k of up to 53 digits is in the format -/
theorem own_fixrr {i : Int} {k : Nat} {s : Bool} (h0 : i ≠ 0) (hi : i.natAbs ≤ 2 ^ 53) (hk : k ≤ 1000) (hs : s = decide (i < 0)) : Whole i (shd k (roundRatio b64 s i.natAbs 1 (-(k : Int)))) := by
  obtain ⟨c', q', hfit, hv⟩ := natFit good_b64 wide_b64 s (n := i.natAbs) hi
  obtain ⟨f1, f2, f3, f4⟩ := hfit
  have hp : b64.p = 53 := by decide
  have hmin : b64.qmin = -1074 := by decide
  have hq : -52 ≤ q' := by
    refine Int.le_of_not_gt fun hlt => ?_
    rw [show (q' - 0).toNat = 0 by omega, Nat.pow_zero, Nat.mul_one, Nat.mul_one] at hv
    have h53 : 2 ^ 53 ≤ 2 ^ (0 - q').toNat := Nat.pow_le_pow_right (by decide) (by omega)
    have : 1 * 2 ^ (0 - q').toNat ≤ i.natAbs * 2 ^ (0 - q').toNat := Nat.mul_le_mul_right _ (by omega)
    rw [hp] at f1
    omega
  have hfit2 : Core.fits b64 (.fin s c' (q' - k)) := ⟨f1, by rw [hmin]; omega, by omega, f4.elim (fun q => by rw [hmin] at q; omega) Or.inr⟩
  rw [roundRatio_exact good_b64 (by decide) hfit2 (by rw [show -(k : Int) - (q' - k) = 0 - q' by omega, show q' - k - -(k : Int) = q' - 0 by omega]; exact hv)]
  show signed s (c' * 2 ^ (q' - k + k).toNat) = i * ((2 ^ (-(q' - k + k)).toNat : Nat) : Int)
  rw [show q' - k + k = q' by omega]
  rw [show (0 - q').toNat = (-q').toNat by omega, show (q' - 0).toNat = q'.toNat by omega, Nat.mul_one] at hv
  rw [← hv, signed_mul, own_sgn hs]
theorem own_fixround {i : Int} {k : Nat} {d : Datum} (hi : i.natAbs ≤ 2 ^ 53) (hk : k ≤ 1000) (h : Whole i (shd k d)) : Whole i (shd k (round b64 d)) := by
  obtain ⟨s, c, q, rfl⟩ := own_shdfin h
  have h' : Whole i (.fin s c (q + k)) := h
  by_cases h0 : i = 0
  · subst h0
    have hc : c = 0 := (whole_zero h').mpr rfl
    subst hc
    show Whole 0 (shd k (roundRatio b64 s 0 1 q))
    unfold roundRatio
    rw [if_pos rfl]
    show signed s (0 * _) = 0 * _
    rw [Nat.zero_mul, Int.zero_mul, signed_zero]
  · have hn := whole_natAbs h'
    have e1 : round b64 (.fin s c q) = roundRatio b64 s i.natAbs 1 (-(k : Int)) := by
      refine roundRatio_congr (by decide) (by decide) ?_
      rw [show q - -(k : Int) = q + k by omega, show -(k : Int) - q = -(q + k) by omega, Nat.mul_one, Nat.mul_one]
      exact hn
    rw [e1]
    exact own_fixrr h0 hi hk (whole_sign h' h0)
theorem own_fixadd {i j : Int} {k : Nat} {a b : UInt64} (ha : DFix i k a) (hb : DFix j k b) (h : (i + j).natAbs ≤ 2 ^ 53) (hk : k ≤ 1000) : DFix (i + j) k (FP.dadd a b) := by
  show Whole _ (shd k (val64 (Core.dadd a b)))
  rw [val64_dadd]
  refine own_fixround h hk ?_
  obtain ⟨s, c, q, ea⟩ := own_shdfin ha
  obtain ⟨t, d, r, eb⟩ := own_shdfin hb
  have ha' : Whole i (.fin s c (q + k)) := by have := ha; unfold DFix at this; rw [ea] at this; exact this
  have hb' : Whole j (.fin t d (r + k)) := by have := hb; unfold DFix at this; rw [eb] at this; exact this
  rw [ea, eb]
  have e : shd k (exactSum (.fin s c q) (.fin t d r)) = exactSum (.fin s c (q + k)) (.fin t d (r + k)) := by
    simp only [exactSum, shd]
    have e0 : min (q + (k : Int)) (r + k) = min q r + k := by omega
    have e1 : sumUnits s c (q + k) t d (r + k) (min q r + k) = sumUnits s c q t d r (min q r) := by
      unfold sumUnits inUnits
      rw [show q + (k : Int) - (min q r + k) = q - min q r by omega, show r + (k : Int) - (min q r + k) = r - min q r by omega]
    rw [e0, e1]
  rw [e]
  exact whole_sum ha' hb'
theorem own_fixneg {i : Int} {k : Nat} {a : UInt64} (ha : DFix i k a) : Whole (-i) (shd k (negate (val64 a))) := by
  obtain ⟨s, c, q, ea⟩ := own_shdfin ha
  have ha' : Whole i (.fin s c (q + k)) := by have := ha; unfold DFix at this; rw [ea] at this; exact this
  rw [ea]
  exact whole_negate ha'
theorem own_fixsub {i j : Int} {k : Nat} {a b : UInt64} (ha : DFix i k a) (hb : DFix j k b) (h : (i - j).natAbs ≤ 2 ^ 53) (hk : k ≤ 1000) : DFix (i - j) k (FP.dsub a b) := by
  have hb2 : DFix (-j) k (Core.dneg b) := by
    show Whole _ (shd k (val64 (Core.dneg b)))
    rw [Core.val64_dneg]; exact own_fixneg hb
  have := own_fixadd ha hb2 (by rw [← Int.sub_eq_add_neg]; exact h) hk
  rw [← Int.sub_eq_add_neg] at this
  show DFix (i - j) k (Core.dsub a b)
  rw [dsub_eq]; exact this
theorem own_fixmul {i j : Int} {k l : Nat} {a b : UInt64} (ha : DFix i k a) (hb : DFix j l b) (h : (i * j).natAbs ≤ 2 ^ 53) (hk : k + l ≤ 1000) : DFix (i * j) (k + l) (FP.dmul a b) := by
  show Whole _ (shd _ (val64 (Core.dmul a b)))
  rw [val64_dmul]
  refine own_fixround h hk ?_
  obtain ⟨s, c, q, ea⟩ := own_shdfin ha
  obtain ⟨t, d, r, eb⟩ := own_shdfin hb
  have ha' : Whole i (.fin s c (q + k)) := by have := ha; unfold DFix at this; rw [ea] at this; exact this
  have hb' : Whole j (.fin t d (r + l)) := by have := hb; unfold DFix at this; rw [eb] at this; exact this
  rw [ea, eb]
  have e : shd ((k + l : Nat) : Int) (exactProduct (.fin s c q) (.fin t d r)) = exactProduct (.fin s c (q + k)) (.fin t d (r + l)) := by
    simp only [exactProduct, shd]
    rw [show q + r + ((k + l : Nat) : Int) = q + k + (r + l) by omega]
  rw [e]
  exact whole_product ha' hb'
theorem own_fixcmp {i j : Int} {k : Nat} {a b : UInt64} (ha : DFix i k a) (hb : DFix j k b) : FP.dcmp a b = some (compare i j) := by
  obtain ⟨s, c, q, ea⟩ := own_shdfin ha
  obtain ⟨t, d, r, eb⟩ := own_shdfin hb
  have ha' : Whole i (.fin s c (q + k)) := by have := ha; unfold DFix at this; rw [ea] at this; exact this
  have hb' : Whole j (.fin t d (r + k)) := by have := hb; unfold DFix at this; rw [eb] at this; exact this
  show order (val64 a) (val64 b) = _
  rw [ea, eb, ← order_whole ha' hb']
  simp only [order]
  have e0 : min (q + (k : Int)) (r + k) = min q r + k := by omega
  unfold inUnits
  rw [e0, show q + (k : Int) - (min q r + k) = q - min q r by omega, show r + (k : Int) - (min q r + k) = r - min q r by omega]
theorem own_fixlift {i : Int} {k : Nat} {a : UInt64} (ha : DFix i k a) (m : Nat) : DFix (i * ((2 ^ m : Nat) : Int)) (k + m) a := by
  obtain ⟨s, c, q, ea⟩ := own_shdfin ha
  have h : signed s (c * 2 ^ (q + k).toNat) = i * ((2 ^ (-(q + (k : Int))).toNat : Nat) : Int) := by have := ha; unfold DFix at this; rw [ea] at this; exact this
  show Whole _ (shd _ (val64 a))
  rw [ea]
  show signed s (c * 2 ^ (q + ((k + m : Nat) : Int)).toNat) = i * ((2 ^ m : Nat) : Int) * ((2 ^ (-(q + ((k + m : Nat) : Int))).toNat : Nat) : Int)
  have p2 : ((2 ^ (-(q + (k : Int))).toNat : Nat) : Int) ≠ 0 := by have := Nat.two_pow_pos (-(q + (k : Int))).toNat; omega
  refine Int.eq_of_mul_eq_mul_right p2 ?_
  rw [← signed_mul, Nat.mul_assoc, ← Nat.pow_add]
  rw [show (q + ((k + m : Nat) : Int)).toNat + (-(q + (k : Int))).toNat = (q + k).toNat + (m + (-(q + ((k + m : Nat) : Int))).toNat) by omega]
  rw [Nat.pow_add, ← Nat.mul_assoc, signed_mul, h, Nat.pow_add]
  rw [Int.natCast_mul]
  simp only [Int.mul_assoc]
  rw [Int.mul_comm ((2 ^ (-(q + (k : Int))).toNat : Nat) : Int), Int.mul_assoc]
theorem own_fix0 {i : Int} {a : UInt64} : DFix i 0 a ↔ DInt i a := by
  have e : shd ((0 : Nat) : Int) (val64 a) = val64 a := by
    cases val64 a with
    | nan => rfl
    | inf => rfl
    | fin s c q => show Datum.fin s c (q + ((0 : Nat) : Int)) = _; rw [show q + ((0 : Nat) : Int) = q by omega]
  unfold DFix DInt
  rw [e]
theorem own_fixint {i : Int} {a : UInt64} (h : DInt i a) (m : Nat) : DFix (i * ((2 ^ m : Nat) : Int)) m a := by
  have := own_fixlift (own_fix0.mpr h) m
  rwa [Nat.zero_add] at this
theorem own_fixdiv {i j t : Int} {k l M : Nat} {a b : UInt64} (ha : DFix i k a) (hb : DFix j l b) (hj : j ≠ 0) (ht : i * ((2 ^ (l + M) : Nat) : Int) = t * j * ((2 ^ k : Nat) : Int)) (h : t.natAbs ≤ 2 ^ 53) (hM : M ≤ 1000) : DFix t M (FP.ddiv a b) := by
  show Whole _ (shd _ (val64 (Core.ddiv a b)))
  rw [val64_ddiv]
  obtain ⟨s, c, q, ea⟩ := own_shdfin ha
  obtain ⟨u, d, r, eb⟩ := own_shdfin hb
  have ha' : Whole i (.fin s c (q + k)) := by have := ha; unfold DFix at this; rw [ea] at this; exact this
  have hb' : Whole j (.fin u d (r + l)) := by have := hb; unfold DFix at this; rw [eb] at this; exact this
  have hd : d ≠ 0 := fun q => hj ((whole_zero hb').mp q)
  have p1 : (0 : Int) < ((2 ^ (l + M) : Nat) : Int) := by have := Nat.two_pow_pos (l + M); omega
  have p2 : (0 : Int) < ((2 ^ k : Nat) : Int) := by have := Nat.two_pow_pos k; omega
  rw [ea, eb]
  show Whole t (shd M (if d = 0 then _ else roundRatio b64 (s != u) c d (q - r)))
  rw [if_neg hd]
  by_cases h0 : t = 0
  · subst h0
    have hi0 : i = 0 := by
      rw [Int.zero_mul, Int.zero_mul] at ht
      rcases Int.mul_eq_zero.mp ht with q | q
      · exact q
      · omega
    have hc : c = 0 := (whole_zero ha').mpr hi0
    subst hc
    unfold roundRatio
    rw [if_pos rfl]
    show signed _ (0 * _) = 0 * _
    rw [Nat.zero_mul, Int.zero_mul, signed_zero]
  · have hi0 : i ≠ 0 := by
      intro q; subst q
      rw [Int.zero_mul] at ht
      rcases Int.mul_eq_zero.mp ht.symm with q | q
      · rcases Int.mul_eq_zero.mp q with q | q
        · exact h0 q
        · exact hj q
      · omega
    have hsg : (s != u) = decide (t < 0) := by
      rw [whole_sign ha' hi0, whole_sign hb' hj]
      have m1 : i < 0 ↔ t * j < 0 := by
        constructor
        · intro q
          refine Int.lt_of_not_ge fun g => ?_
          have a1 := Int.mul_nonneg g (Int.le_of_lt p2)
          have a2 := Int.mul_neg_of_neg_of_pos q p1
          omega
        · intro q
          refine Int.lt_of_not_ge fun g => ?_
          have a1 := Int.mul_nonneg g (Int.le_of_lt p1)
          have a2 := Int.mul_neg_of_neg_of_pos q p2
          omega
      have m2 : decide (i < 0) = decide (t * j < 0) := decide_eq_decide.mpr m1
      rw [m2]
      rcases Int.lt_or_gt_of_ne hj with g | g
      · rcases Int.lt_or_gt_of_ne h0 with f | f
        · have := Int.mul_pos_of_neg_of_neg f g
          simp [f, g, show ¬ t * j < 0 by omega]
        · have := Int.mul_neg_of_pos_of_neg f g
          simp [g, show ¬ t < 0 by omega, this]
      · rcases Int.lt_or_gt_of_ne h0 with f | f
        · have := Int.mul_neg_of_neg_of_pos f g
          simp [f, this, show ¬ j < 0 by omega]
        · have := Int.mul_pos f g
          simp [show ¬ t < 0 by omega, show ¬ j < 0 by omega, show ¬ t * j < 0 by omega]
    have hn1 := whole_natAbs ha'
    have hn2 := whole_natAbs hb'
    have hn3 : i.natAbs * 2 ^ (l + M) = t.natAbs * j.natAbs * 2 ^ k := by
      have := congrArg Int.natAbs ht
      rw [Int.natAbs_mul, Int.natAbs_mul, Int.natAbs_mul, Int.natAbs_natCast, Int.natAbs_natCast] at this
      exact this
    have hjp : 0 < j.natAbs := by omega
    have key : c * 1 * 2 ^ (q - r - -(M : Int)).toNat = t.natAbs * d * 2 ^ (-(M : Int) - (q - r)).toNat := by
      have hF : 0 < j.natAbs * 2 ^ (-(r + (l : Int))).toNat * 2 ^ (q + (k : Int)).toNat * 2 ^ k := Nat.mul_pos (Nat.mul_pos (Nat.mul_pos hjp (Nat.two_pow_pos _)) (Nat.two_pow_pos _)) (Nat.two_pow_pos _)
      refine Nat.eq_of_mul_eq_mul_right hF ?_
      have hex : (-(q + (k : Int))).toNat + (q - r - -(M : Int)).toNat + (r + (l : Int)).toNat + k = (-(M : Int) - (q - r)).toNat + (-(r + (l : Int))).toNat + (q + (k : Int)).toNat + (l + M) := by omega
      have L : c * 1 * 2 ^ (q - r - -(M : Int)).toNat * (j.natAbs * 2 ^ (-(r + (l : Int))).toNat * 2 ^ (q + (k : Int)).toNat * 2 ^ k) = i.natAbs * d * 2 ^ ((-(q + (k : Int))).toNat + (q - r - -(M : Int)).toNat + (r + (l : Int)).toNat + k) := by
        calc c * 1 * 2 ^ (q - r - -(M : Int)).toNat * (j.natAbs * 2 ^ (-(r + (l : Int))).toNat * 2 ^ (q + (k : Int)).toNat * 2 ^ k) = (c * 2 ^ (q + (k : Int)).toNat) * (j.natAbs * 2 ^ (-(r + (l : Int))).toNat) * 2 ^ (q - r - -(M : Int)).toNat * 2 ^ k := by rw [Nat.mul_one]; ac_rfl
          _ = (i.natAbs * 2 ^ (-(q + (k : Int))).toNat) * (d * 2 ^ (r + (l : Int)).toNat) * 2 ^ (q - r - -(M : Int)).toNat * 2 ^ k := by rw [hn1, hn2]
          _ = _ := by simp only [Nat.pow_add]; ac_rfl
      have Rr : t.natAbs * d * 2 ^ (-(M : Int) - (q - r)).toNat * (j.natAbs * 2 ^ (-(r + (l : Int))).toNat * 2 ^ (q + (k : Int)).toNat * 2 ^ k) = i.natAbs * d * 2 ^ ((-(M : Int) - (q - r)).toNat + (-(r + (l : Int))).toNat + (q + (k : Int)).toNat + (l + M)) := by
        calc t.natAbs * d * 2 ^ (-(M : Int) - (q - r)).toNat * (j.natAbs * 2 ^ (-(r + (l : Int))).toNat * 2 ^ (q + (k : Int)).toNat * 2 ^ k) = (t.natAbs * j.natAbs * 2 ^ k) * (d * 2 ^ (-(M : Int) - (q - r)).toNat * 2 ^ (-(r + (l : Int))).toNat * 2 ^ (q + (k : Int)).toNat) := by ac_rfl
          _ = (i.natAbs * 2 ^ (l + M)) * (d * 2 ^ (-(M : Int) - (q - r)).toNat * 2 ^ (-(r + (l : Int))).toNat * 2 ^ (q + (k : Int)).toNat) := by rw [hn3]
          _ = _ := by simp only [Nat.pow_add]; ac_rfl
      rw [L, Rr, hex]
    rw [roundRatio_congr (A' := t.natAbs) (B' := 1) (e' := -(M : Int)) (by omega) (by decide) (by simpa using key)]
    exact own_fixrr h0 h hM hsg
end Fix
theorem d2_0 : decode jdk_30_method_1_code 0 = .ok (.aload_n 0, 1) := by decide +kernel
theorem d2_1 : decode jdk_30_method_1_code 1 = .ok (.invokespecial 1, 3) := by decide +kernel
theorem d2_4 : decode jdk_30_method_1_code 4 = .ok (.return_, 1) := by decide +kernel
theorem own_pf0 : plainFor (⟨"java/lang/Record", "<init>", "()V"⟩ : MethodName) = true := plainFor_of_name (by first | (simp [plainName, overriddenIn]; done) | decide +kernel)
def Q_rmRec (n0 : Nat) (h0 : Heap) (v : Option Value) (h : Heap) (L : List Loc) : Prop := v = none ∧ Fr n0 L ∧ h = h0
theorem ef_rmRec (a : Addr) (m : MethodId) : entryFrame m #[(.ref a)] 1 = mkF m 0 #[.val (.ref a)] [] := by first | (simp [entryFrame, mkF, argsToLocals, Value.category]; done) | rfl
set_option maxRecDepth 65536 in
set_option maxHeartbeats 40000000 in
theorem rmRec (l : Launch) (Z : State) (a0 : Array Value) (hw : ∀ d ∈ tables_1, d.before a0 Z = true) (a : Addr) (h0 : Heap) (n0 : Nat) (Z0 : n0 ≤ h0.size)  :
    MetFree l (⟨"java/lang/Record", "<init>", "()V"⟩ : MethodName) (head1 [Jvm.Cond.code (⟨"java/lang/Record", "<init>", "()V"⟩ : MethodName) jdk_30_method_1_code 1 none] ({ frames := 1, cells := 0, slots := 0, locals := 12 } : Room)) (fun as_ U => as_ = #[(.ref a)] ∧ Z.Warmed39 U.vm ∧ U.heap = h0) (fun _ _ _ _ _ => True) (fun _ U o U' => ∃ v L, o = .returned v ∧ Q_rmRec n0 h0 v U'.heap L ∧ FrameEnd U o U' L ({ frames := 1, cells := 0, slots := 0, locals := 12 } : Room).cells ({ frames := 1, cells := 0, slots := 0, locals := 12 } : Room).slots) := by
  refine own_met own_pf0 (ef_rmRec a) ?_
  intro p e s m below meth c T0 X0 hx hby hml hret hlk hnm hown hZ e0
  have N0 := Fr.nil n0
  refine g_aloadN X0 hx 1 (hb hby d2_0) rfl rfl rfl ?_
  refine g_objinit X0 hx hZ hown (hw _ (List.mem_of_getElem? (i := 13) rfl)) (hw _ (List.mem_of_getElem? (i := 14) rfl)) (hw _ (List.mem_of_getElem? (i := 15) rfl)) e0 0 4 (hb hby d2_1) rfl (by rw [hml]; rfl) (by decide) (Nat.le_refl _) (by decide) ?_
  intro T1 X1 e1
  exact g_retV X1 hx hlk hret (hb hby d2_4) (by decide) (by decide) e1 ⟨rfl, N0, rfl⟩
theorem d4_0 : decode prog_30_method_4_code 0 = .ok (.dload_n 1, 1) := by decide +kernel
theorem d4_1 : decode prog_30_method_4_code 1 = .ok (.dconst 0, 1) := by decide +kernel
theorem d4_2 : decode prog_30_method_4_code 2 = .ok (.dcmp .l, 1) := by decide +kernel
theorem d4_3 : decode prog_30_method_4_code 3 = .ok (.ifCond .lt 9, 3) := by decide +kernel
theorem d4_6 : decode prog_30_method_4_code 6 = .ok (.dload_n 1, 1) := by decide +kernel
theorem d4_7 : decode prog_30_method_4_code 7 = .ok (.dconst 1, 1) := by decide +kernel
theorem d4_8 : decode prog_30_method_4_code 8 = .ok (.dcmp .g, 1) := by decide +kernel
theorem d4_9 : decode prog_30_method_4_code 9 = .ok (.ifCond .le 18, 3) := by decide +kernel
theorem d4_12 : decode prog_30_method_4_code 12 = .ok (.new 22, 3) := by decide +kernel
theorem d4_15 : decode prog_30_method_4_code 15 = .ok (.dup, 1) := by decide +kernel
theorem d4_16 : decode prog_30_method_4_code 16 = .ok (.aload_n 0, 1) := by decide +kernel
theorem d4_17 : decode prog_30_method_4_code 17 = .ok (.dload_n 1, 1) := by decide +kernel
theorem d4_23 : decode prog_30_method_4_code 23 = .ok (.invokespecial 28, 3) := by decide +kernel
theorem d4_26 : decode prog_30_method_4_code 26 = .ok (.athrow, 1) := by decide +kernel
theorem d4_27 : decode prog_30_method_4_code 27 = .ok (.return_, 1) := by decide +kernel
theorem own_f0 (k : Nat) : DFix 0 k (0 : UInt64) := by
  have := own_fixint own_dzero k
  rwa [Int.zero_mul] at this
theorem own_f1 (k : Nat) : DFix ((2 ^ k : Nat) : Int) k (4607182418800017408 : UInt64) := by
  have := own_fixint own_done k
  rwa [Int.one_mul] at this
theorem own_kk : ((2 ^ 10 : Nat) : Int) = 1024 := rfl
theorem own_pf1 : plainFor (⟨"com/example/folksonomy/folksonomy/search/Mixing", "requireWeight", "(Ljava/lang/String;D)V"⟩ : MethodName) = true := plainFor_of_name (by first | (simp [plainName, overriddenIn]; done) | decide +kernel)
def Q_rmRW (n0 : Nat) (h0 : Heap) (v : Option Value) (h : Heap) (L : List Loc) : Prop := v = none ∧ Fr n0 L ∧ h = h0
theorem ef_rmRW (t : Addr) (x : UInt64) (m : MethodId) : entryFrame m #[(.ref t), (.double x)] 3 = mkF m 0 #[.val (.ref t), .val (.double x), .second] [] := by first | (simp [entryFrame, mkF, argsToLocals, Value.category]; done) | rfl
set_option maxRecDepth 65536 in
set_option maxHeartbeats 40000000 in
theorem rmRW (l : Launch) (Z : State) (a0 : Array Value) (hw : ∀ d ∈ tables_1, d.before a0 Z = true) (t : Addr) (x : UInt64) (h0 : Heap) (n0 : Nat) (Z0 : n0 ≤ h0.size) (k : Int) (hxk : DFix k 10 x) (bk : 0 ≤ k ∧ k ≤ 1024) :
    MetFree l (⟨"com/example/folksonomy/folksonomy/search/Mixing", "requireWeight", "(Ljava/lang/String;D)V"⟩ : MethodName) (head1 [Jvm.Cond.code (⟨"com/example/folksonomy/folksonomy/search/Mixing", "requireWeight", "(Ljava/lang/String;D)V"⟩ : MethodName) prog_30_method_4_code 3 none] ({ frames := 0, cells := 0, slots := 0, locals := 0 } : Room)) (fun as_ U => as_ = #[(.ref t), (.double x)] ∧ Z.Warmed39 U.vm ∧ U.heap = h0) (fun _ _ _ _ _ => True) (fun _ U o U' => ∃ v L, o = .returned v ∧ Q_rmRW n0 h0 v U'.heap L ∧ FrameEnd U o U' L ({ frames := 0, cells := 0, slots := 0, locals := 0 } : Room).cells ({ frames := 0, cells := 0, slots := 0, locals := 0 } : Room).slots) := by
  refine own_met own_pf1 (ef_rmRW t x) ?_
  intro p e s m below meth c T0 X0 hx hby hml hret hlk hnm hown hZ e0
  have N0 := Fr.nil n0
  have kk := own_kk
  refine g_dloadN X0 hx 1 (hb hby d4_0) rfl rfl ?_
  refine g_dconst0 X0 hx 2 (hb hby d4_1) rfl ?_
  refine g_dc_lt X0 hx 3 12 6 (hb hby d4_2) rfl (hb hby d4_3) (by decide) (by decide) rfl (own_fixcmp hxk (own_f0 10)) (fun c2 => ?_) (fun c2 => ?_)
  · skip
    exfalso; omega
  · skip
    refine g_dloadN X0 hx 7 (hb hby d4_6) rfl rfl ?_
    refine g_dconst1 X0 hx 8 (hb hby d4_7) rfl ?_
    refine g_dc_le X0 hx 9 27 12 (hb hby d4_8) rfl (hb hby d4_9) (by decide) (by decide) rfl (own_fixcmp hxk (own_f1 10)) (fun c3 => ?_) (fun c3 => ?_)
    · skip
      exact g_retV X0 hx hlk hret (hb hby d4_27) (by decide) (by decide) e0 ⟨rfl, N0, rfl⟩
    · skip
      exfalso; omega
theorem d1_0 : decode prog_30_method_1_code 0 = .ok (.aload_n 0, 1) := by decide +kernel
theorem d1_1 : decode prog_30_method_1_code 1 = .ok (.invokespecial 1, 3) := by decide +kernel
theorem d1_4 : decode prog_30_method_1_code 4 = .ok (.ldc 7, 2) := by decide +kernel
theorem d1_6 : decode prog_30_method_1_code 6 = .ok (.dload_n 1, 1) := by decide +kernel
theorem d1_7 : decode prog_30_method_1_code 7 = .ok (.invokestatic 9, 3) := by decide +kernel
theorem d1_10 : decode prog_30_method_1_code 10 = .ok (.ldc 15, 2) := by decide +kernel
theorem d1_12 : decode prog_30_method_1_code 12 = .ok (.dload_n 3, 1) := by decide +kernel
theorem d1_13 : decode prog_30_method_1_code 13 = .ok (.invokestatic 9, 3) := by decide +kernel
theorem d1_16 : decode prog_30_method_1_code 16 = .ok (.aload_n 0, 1) := by decide +kernel
theorem d1_17 : decode prog_30_method_1_code 17 = .ok (.dload_n 1, 1) := by decide +kernel
theorem d1_18 : decode prog_30_method_1_code 18 = .ok (.putfield 17, 3) := by decide +kernel
theorem d1_21 : decode prog_30_method_1_code 21 = .ok (.aload_n 0, 1) := by decide +kernel
theorem d1_22 : decode prog_30_method_1_code 22 = .ok (.dload_n 3, 1) := by decide +kernel
theorem d1_23 : decode prog_30_method_1_code 23 = .ok (.putfield 20, 3) := by decide +kernel
theorem d1_26 : decode prog_30_method_1_code 26 = .ok (.return_, 1) := by decide +kernel
theorem own_pf2 : plainFor (⟨"com/example/folksonomy/folksonomy/search/Mixing", "<init>", "(DD)V"⟩ : MethodName) = true := plainFor_of_name (by first | (simp [plainName, overriddenIn]; done) | decide +kernel)
def Q_rmI (Z : State) (a : Addr) (x y : UInt64) (n0 : Nat) (h0 : Heap) (v : Option Value) (h : Heap) (L : List Loc) : Prop := v = none ∧ Fr n0 L ∧ Keep h0 h [a] ∧ Fld Z h a "com/example/folksonomy/folksonomy/search/Mixing" "gamma" "D" (.double x) ∧ Fld Z h a "com/example/folksonomy/folksonomy/search/Mixing" "beta" "D" (.double y)
theorem ef_rmI (a : Addr) (x y : UInt64) (m : MethodId) : entryFrame m #[(.ref a), (.double x), (.double y)] 5 = mkF m 0 #[.val (.ref a), .val (.double x), .second, .val (.double y), .second] [] := by first | (simp [entryFrame, mkF, argsToLocals, Value.category]; done) | rfl
set_option maxRecDepth 65536 in
set_option maxHeartbeats 40000000 in
theorem rmI (l : Launch) (Z : State) (a0 : Array Value) (hw : ∀ d ∈ tables_1, d.before a0 Z = true) (a : Addr) (x y : UInt64) (h0 : Heap) (n0 : Nat) (Z0 : n0 ≤ h0.size) (kx ky : Int) (hkx : DFix kx 10 x) (hky : DFix ky 10 y) (bx : 0 ≤ kx ∧ kx ≤ 1024) (by_ : 0 ≤ ky ∧ ky ≤ 1024) (Ea : Exa Z h0 a "com/example/folksonomy/folksonomy/search/Mixing") (ga : n0 ≤ a) (F_gamma : Fld Z h0 a "com/example/folksonomy/folksonomy/search/Mixing" "gamma" "D" (.double 0)) (F_beta : Fld Z h0 a "com/example/folksonomy/folksonomy/search/Mixing" "beta" "D" (.double 0)) :
    MetFree l (⟨"com/example/folksonomy/folksonomy/search/Mixing", "<init>", "(DD)V"⟩ : MethodName) (head1 [Jvm.Cond.code (⟨"com/example/folksonomy/folksonomy/search/Mixing", "<init>", "(DD)V"⟩ : MethodName) prog_30_method_1_code 5 none] ({ frames := 2, cells := 4, slots := 44, locals := 40 } : Room)) (fun as_ U => as_ = #[(.ref a), (.double x), (.double y)] ∧ Z.Warmed39 U.vm ∧ U.heap = h0) (fun _ _ _ _ _ => True) (fun _ U o U' => ∃ v L, o = .returned v ∧ Q_rmI Z a x y n0 h0 v U'.heap L ∧ ReturnedEndW U o U' L ({ frames := 2, cells := 4, slots := 44, locals := 40 } : Room).cells ({ frames := 2, cells := 4, slots := 44, locals := 40 } : Room).slots) := by
  have own_wS : ∀ d ∈ Bundle.stringAtoms, d.before a0 Z = true := by
    intro d hd
    simp only [Bundle.stringAtoms, List.mem_cons, List.not_mem_nil, or_false] at hd
    rcases hd with rfl | rfl | rfl | rfl | rfl | rfl | rfl
    · exact (hw _ (List.mem_of_getElem? (i := 17) rfl))
    · exact (hw _ (List.mem_of_getElem? (i := 18) rfl))
    · exact (hw _ (List.mem_of_getElem? (i := 19) rfl))
    · exact (hw _ (List.mem_of_getElem? (i := 20) rfl))
    · exact (hw _ (List.mem_of_getElem? (i := 21) rfl))
    · exact (hw _ (List.mem_of_getElem? (i := 22) rfl))
    · exact (hw _ (List.mem_of_getElem? (i := 23) rfl))
  refine own_metS own_pf2 (ef_rmI a x y) ?_
  intro p e s m below meth c T0 X0 hx hby hml hret hlk hnm hown hZ e0 hS
  have N0 := Fr.nil n0
  have hk : 0 ≤ 0 := Nat.le_refl _
  refine g_aloadN X0 hx 1 (hb hby d1_0) rfl rfl rfl ?_
  refine g_init X0 hx hZ rfl hown (hw _ (List.mem_of_getElem? (i := 8) rfl)) (hw _ (List.mem_of_getElem? (i := 9) rfl)) (hw _ (List.mem_of_getElem? (i := 11) rfl)) (hw _ (List.mem_of_getElem? (i := 12) rfl)) (by decide) (rmRec l Z a0 hw a h0 n0 Z0) e0 (a := a) (argsL := []) (rest := []) rfl rfl 0 4 rfl (by rw [hml]; rfl) (lenOf own_pd1 rfl) (Nat.le_refl _) (by decide) (by decide) (by decide) (by decide) (hb hby d1_1) ?_
  intro v4 T4 L4 X4 hQ4
  obtain ⟨rfl, N4, q4⟩ := hQ4
  have N5 := Fr.app N0 N4
  show Go p e below _ T4 (mkF m 4 #[.val (.ref a), .val (.double x), .second, .val (.double y), .second] [])
  refine g_ldcS X4 hx hZ hown (hw _ (List.mem_of_getElem? (i := 16) rfl)) own_wS q4 hS (Nat.le_trans hk (Nat.zero_le _)) 20 (by decide) (by decide) 6 (hb hby d1_4) rfl (by decide) (by decide) ?_
  intro t6 T6 h6 k6 X6 e6 E6 hS hk hZ hown
  have F7 := Ea.ext E6
  have F8 := F_gamma.ext E6
  have F9 := F_beta.ext E6
  have K10 := (Keep.refl h0 [a]).ext E6
  have Z11 : n0 ≤ h6.size := Nat.le_trans Z0 E6.1
  refine g_dloadN X6 hx 7 (hb hby d1_6) rfl rfl ?_
  refine g_static X6 hx hZ hown (hw _ (List.mem_of_getElem? (i := 24) rfl)) (hw _ (List.mem_of_getElem? (i := 25) rfl)) (hw _ (List.mem_of_getElem? (i := 3) rfl)) (hw _ (List.mem_of_getElem? (i := 26) rfl)) (by decide) (rmRW l Z a0 hw t6 x h6 n0 Z11 kx hkx bx) e6 (argsL := [(.ref t6), (.double x)]) (rest := []) rfl rfl 0 10 rfl (by rw [hml]; rfl) (lenOf own_pd2 rfl) (Nat.le_refl _) (by decide) (by decide) (by decide) (by decide) (hb hby d1_7) ?_
  intro v12 T12 L12 X12 hQ12
  obtain ⟨rfl, N12, q12⟩ := hQ12
  have N13 := Fr.app N5 N12
  show Go p e below _ T12 (mkF m 10 #[.val (.ref a), .val (.double x), .second, .val (.double y), .second] [])
  refine g_ldcS X12 hx hZ hown (hw _ (List.mem_of_getElem? (i := 27) rfl)) own_wS q12 hS (Nat.le_trans hk (Nat.le_refl _)) 16 (by decide) (by decide) 12 (hb hby d1_10) rfl (by decide) (by decide) ?_
  intro t14 T14 h14 k14 X14 e14 E14 hS hk hZ hown
  have F15 := F7.ext E14
  have F16 := F8.ext E14
  have F17 := F9.ext E14
  have K18 := K10.ext E14
  have Z19 : n0 ≤ h14.size := Nat.le_trans Z11 E14.1
  refine g_dloadN X14 hx 13 (hb hby d1_12) rfl rfl ?_
  refine g_static X14 hx hZ hown (hw _ (List.mem_of_getElem? (i := 24) rfl)) (hw _ (List.mem_of_getElem? (i := 25) rfl)) (hw _ (List.mem_of_getElem? (i := 3) rfl)) (hw _ (List.mem_of_getElem? (i := 26) rfl)) (by decide) (rmRW l Z a0 hw t14 y h14 n0 Z19 ky hky by_) e14 (argsL := [(.ref t14), (.double y)]) (rest := []) rfl rfl 0 16 rfl (by rw [hml]; rfl) (lenOf own_pd2 rfl) (Nat.le_refl _) (by decide) (by decide) (by decide) (by decide) (hb hby d1_13) ?_
  intro v20 T20 L20 X20 hQ20
  obtain ⟨rfl, N20, q20⟩ := hQ20
  have N21 := Fr.app N13 N20
  show Go p e below _ T20 (mkF m 16 #[.val (.ref a), .val (.double x), .second, .val (.double y), .second] [])
  refine g_aloadN X20 hx 17 (hb hby d1_16) rfl rfl rfl ?_
  refine g_dloadN X20 hx 18 (hb hby d1_17) rfl rfl ?_
  refine g_putF X20 hx hZ hown (hw _ (List.mem_of_getElem? (i := 28) rfl)) Via.refl q20 F16 F15 (Or.inr ⟨(hw _ (List.mem_of_getElem? (i := 29) rfl)), rfl, hnm⟩) (hw _ (List.mem_of_getElem? (i := 2) rfl)) (ty := .double) (by decide) rfl rfl 21 (hb hby d1_18) rfl ?_
  intro T22 h22 X22 e22 W22
  have F23 : Fld Z h22 a "com/example/folksonomy/folksonomy/search/Mixing" "gamma" "D" (.double x) := F16.same W22
  have F24 := F15.wr W22
  have F25 := F17.other W22 (Or.inr (slot_ne (Or.inr (hw _ (List.mem_of_getElem? (i := 31) rfl))) (Or.inr (hw _ (List.mem_of_getElem? (i := 29) rfl))) (by decide) (t := .double) (t' := .double) (by decide) (by decide)))
  have K26 := K18.wr W22 (Or.inl (List.mem_of_getElem? (i := 0) rfl))
  have N27 := Fr.snoc X22 N21 ga
  have Z28 : n0 ≤ h22.size := by rw [W22.size]; exact Z19
  refine g_aloadN X22 hx 22 (hb hby d1_21) rfl rfl rfl ?_
  refine g_dloadN X22 hx 23 (hb hby d1_22) rfl rfl ?_
  refine g_putF X22 hx hZ hown (hw _ (List.mem_of_getElem? (i := 30) rfl)) Via.refl e22 F25 F24 (Or.inr ⟨(hw _ (List.mem_of_getElem? (i := 31) rfl)), rfl, hnm⟩) (hw _ (List.mem_of_getElem? (i := 2) rfl)) (ty := .double) (by decide) rfl rfl 26 (hb hby d1_23) rfl ?_
  intro T29 h29 X29 e29 W29
  have F30 : Fld Z h29 a "com/example/folksonomy/folksonomy/search/Mixing" "beta" "D" (.double y) := F25.same W29
  have F31 := F24.wr W29
  have F32 := F23.other W29 (Or.inr (slot_ne (Or.inr (hw _ (List.mem_of_getElem? (i := 29) rfl))) (Or.inr (hw _ (List.mem_of_getElem? (i := 31) rfl))) (by decide) (t := .double) (t' := .double) (by decide) (by decide)))
  have K33 := K26.wr W29 (Or.inl (List.mem_of_getElem? (i := 0) rfl))
  have N34 := Fr.snoc X29 N27 ga
  have Z35 : n0 ≤ h29.size := by rw [W29.size]; exact Z28
  exact g_retVW X29 hx hlk hret (hb hby d1_26) (by decide) (by decide) e29 hS (by refine Nat.le_trans hk ?_; rw [W29.size, W22.size]; exact Nat.le_refl _) ⟨rfl, N34, K33, F32, F30⟩
theorem d5_0 : decode prog_30_method_3_code 0 = .ok (.aload_n 0, 1) := by decide +kernel
theorem d5_1 : decode prog_30_method_3_code 1 = .ok (.getfield 17, 3) := by decide +kernel
theorem d5_4 : decode prog_30_method_3_code 4 = .ok (.dload_n 1, 1) := by decide +kernel
theorem d5_5 : decode prog_30_method_3_code 5 = .ok (.dmul, 1) := by decide +kernel
theorem d5_6 : decode prog_30_method_3_code 6 = .ok (.dconst 1, 1) := by decide +kernel
theorem d5_7 : decode prog_30_method_3_code 7 = .ok (.aload_n 0, 1) := by decide +kernel
theorem d5_8 : decode prog_30_method_3_code 8 = .ok (.getfield 17, 3) := by decide +kernel
theorem d5_11 : decode prog_30_method_3_code 11 = .ok (.dsub, 1) := by decide +kernel
theorem d5_12 : decode prog_30_method_3_code 12 = .ok (.dload_n 3, 1) := by decide +kernel
theorem d5_13 : decode prog_30_method_3_code 13 = .ok (.dmul, 1) := by decide +kernel
theorem d5_14 : decode prog_30_method_3_code 14 = .ok (.dadd, 1) := by decide +kernel
theorem d5_15 : decode prog_30_method_3_code 15 = .ok (.dreturn, 1) := by decide +kernel
theorem own_pf3 : plainFor (⟨"com/example/folksonomy/folksonomy/search/Mixing", "personal", "(DD)D"⟩ : MethodName) = true := plainFor_of_name (by first | (simp [plainName, overriddenIn]; done) | decide +kernel)
def Q_rmM (k iu iz : Int) (n0 : Nat) (h0 : Heap) (v : Option Value) (h : Heap) (L : List Loc) : Prop := ∃ r : UInt64, v = some (.double r) ∧ DFix (k * iu + (1024 - k) * iz) 10 r ∧ Fr n0 L ∧ h = h0
theorem ef_rmM (a : Addr) (u z : UInt64) (m : MethodId) : entryFrame m #[(.ref a), (.double u), (.double z)] 5 = mkF m 0 #[.val (.ref a), .val (.double u), .second, .val (.double z), .second] [] := by first | (simp [entryFrame, mkF, argsToLocals, Value.category]; done) | rfl
set_option maxRecDepth 65536 in
set_option maxHeartbeats 40000000 in
theorem rmM (l : Launch) (Z : State) (a0 : Array Value) (hw : ∀ d ∈ tables_1, d.before a0 Z = true) (a : Addr) (u z : UInt64) (h0 : Heap) (n0 : Nat) (Z0 : n0 ≤ h0.size) (g : UInt64) (k iu iz : Int) (hg : DFix k 10 g) (hu : Jvm.FP.Core.DInt iu u) (hz : Jvm.FP.Core.DInt iz z) (bk : 0 ≤ k ∧ k ≤ 1024) (b1 : -2199023255552 ≤ k * iu ∧ k * iu ≤ 2199023255552) (b2 : -2199023255552 ≤ (1024 - k) * iz ∧ (1024 - k) * iz ≤ 2199023255552) (F0 : Fld Z h0 a "com/example/folksonomy/folksonomy/search/Mixing" "gamma" "D" (.double g)) :
    MetFree l (⟨"com/example/folksonomy/folksonomy/search/Mixing", "personal", "(DD)D"⟩ : MethodName) (head1 [Jvm.Cond.code (⟨"com/example/folksonomy/folksonomy/search/Mixing", "personal", "(DD)D"⟩ : MethodName) prog_30_method_3_code 5 (some .double)] ({ frames := 0, cells := 0, slots := 0, locals := 0 } : Room)) (fun as_ U => as_ = #[(.ref a), (.double u), (.double z)] ∧ Z.Warmed39 U.vm ∧ U.heap = h0) (fun _ _ _ _ _ => True) (fun _ U o U' => ∃ v L, o = .returned v ∧ Q_rmM k iu iz n0 h0 v U'.heap L ∧ FrameEnd U o U' L ({ frames := 0, cells := 0, slots := 0, locals := 0 } : Room).cells ({ frames := 0, cells := 0, slots := 0, locals := 0 } : Room).slots) := by
  refine own_met own_pf3 (ef_rmM a u z) ?_
  intro p e s m below meth c T0 X0 hx hby hml hret hlk hnm hown hZ e0
  have N0 := Fr.nil n0
  have H1 := own_fixmul hg (own_fix0.mpr hu) (by omega) (by decide)
  have H2 := own_fixsub (own_f1 10) hg (by have := own_kk; omega) (by decide)
  have H3 := own_fixmul H2 (own_fix0.mpr hz) (by rw [own_kk]; omega) (by decide)
  have H4 := own_fixadd H1 H3 (by rw [own_kk]; omega) (by decide)
  rw [own_kk] at H4
  refine g_aloadN X0 hx 1 (hb hby d5_0) rfl rfl rfl ?_
  refine g_getF X0 hx hZ hown (hw _ (List.mem_of_getElem? (i := 28) rfl)) Via.refl e0 F0 4 (hb hby d5_1) rfl ?_
  intro T36 X36 e36
  refine g_dloadN X36 hx 5 (hb hby d5_4) rfl rfl ?_
  refine g_dmul X36 hx 6 (hb hby d5_5) rfl (own_fixnn H1) ?_
  refine g_dconst1 X36 hx 7 (hb hby d5_6) rfl ?_
  refine g_aloadN X36 hx 8 (hb hby d5_7) rfl rfl rfl ?_
  refine g_getF X36 hx hZ hown (hw _ (List.mem_of_getElem? (i := 28) rfl)) Via.refl e36 F0 11 (hb hby d5_8) rfl ?_
  intro T37 X37 e37
  refine g_dsub X37 hx 12 (hb hby d5_11) rfl (own_fixnn H2) ?_
  refine g_dloadN X37 hx 13 (hb hby d5_12) rfl rfl ?_
  refine g_dmul X37 hx 14 (hb hby d5_13) rfl (own_fixnn H3) ?_
  refine g_dadd X37 hx 15 (hb hby d5_14) rfl (own_fixnn H4) ?_
  exact g_retD X37 hx hlk hret (hb hby d5_15) (by decide) (by decide) e37 ⟨_, rfl, H4, N0, rfl⟩
theorem own_1024 : Jvm.FP.Core.DInt 1024 (4652218415073722368 : UInt64) := own_dlit false (2 ^ 52) (-42) (by decide +kernel) (by decide +kernel)
theorem own_k (p : Int32) {k : Int32} (h : (p &&& (2147483647 : Int32)) % (1025 : Int32) = k) : 0 ≤ k.toInt ∧ k.toInt ≤ 1024 := by
  have e1 := c_mask p 2147483647 31 (by decide) (by decide)
  have e2 := (c_irem (p &&& 2147483647) 1025 1025 (by decide)).1 (by omega)
  rw [h] at e2
  omega
theorem own_w {k : Int32} (b : 0 ≤ k.toInt ∧ k.toInt ≤ 1024) : DFix k.toInt 10 (FP.ddiv (FP.i2d k) 4652218415073722368) := by
  refine own_fixdiv (own_fix0.mpr (Jvm.FP.Core.i2d_int k)) (own_fix0.mpr own_1024) (by decide) ?_ (by omega) (by decide)
  show k.toInt * 1024 = k.toInt * 1024 * 1
  omega
theorem own_q {x : Int64} (b : x.toInt.natAbs ≤ 2 ^ 53) : DFix x.toInt 10 (FP.ddiv (FP.l2d x) 4652218415073722368) := by
  refine own_fixdiv (own_fix0.mpr (Jvm.FP.Core.l2d_int b)) (own_fix0.mpr own_1024) (by decide) ?_ b (by decide)
  show x.toInt * 1024 = x.toInt * 1024 * 1
  omega
theorem own_mb {k i : Int} (hk : 0 ≤ k ∧ k ≤ 1024) (hi : -2147483648 ≤ i ∧ i < 2147483648) : -2199023255552 ≤ k * i ∧ k * i ≤ 2199023255552 := by
  have m1 := mc (a := k) (b := i) (l1 := 0) (h1 := 1024) (l2 := -2147483648) (h2 := 2147483648) (by omega) (by omega) (by omega) (by omega)
  omega
theorem own_pfx : plainFor x = true := plainFor_of_name (show plainName "com/example/folksonomy/folksonomy/search/MixingPersonalPinLaw" = true by first | (simp [plainName, overriddenIn]; done) | decide +kernel)
theorem ef_rm0 (p0 : Int32) (p1 : Int32) (p2 : Int32) (p3 : Int32) (m : MethodId) : entryFrame m #[(.int p0), (.int p1), (.int p2), (.int p3)] maxLocals = mkF m 0 #[.val (.int p0), .val (.int p1), .val (.int p2), .val (.int p3), .unset, .unset, .unset, .unset, .unset, .unset, .unset] [] := by first | (simp [entryFrame, mkF, argsToLocals, Value.category, maxLocals]; done) | rfl
set_option maxRecDepth 65536 in
set_option maxHeartbeats 40000000 in
theorem rm0 (l : Launch) (Z : State) (a0 : Array Value) (hw : ∀ d ∈ tables_1, d.before a0 Z = true) (ws : List Jvm.Cond) (p0 : Int32) (p1 : Int32) (p2 : Int32) (p3 : Int32) (h0 : Heap) (n0 : Nat) (Z0 : n0 ≤ h0.size) :
    MetFree l x (head1 (Jvm.Cond.code x code maxLocals ret :: ws) room_1) (fun as_ U => as_ = #[(.int p0), (.int p1), (.int p2), (.int p3)] ∧ Z.Warmed39 U.vm ∧ U.heap = h0) (fun _ _ _ _ _ => True) (fun _ U o U' => ∃ v L, o = .returned v ∧ Q_rm0 n0 v U'.heap L ∧ ReturnedEndW U o U' L 16 2176) := by
  refine own_metS own_pfx (ef_rm0 p0 p1 p2 p3) ?_
  intro p e s m below meth c T0 X0 hx hby hml hret hlk hnm hown hZ e0 hS
  have N0 := Fr.nil n0
  refine g_iloadN X0 hx 1 (hb hby at_0) rfl rfl ?_
  refine g_ldcI X0 hx 3 hZ hown (hw _ (List.mem_of_getElem? (i := 0) rfl)) (hb hby at_1) rfl ?_
  refine g_iand X0 hx 4 (hb hby at_3) rfl ?_
  refine g_sipush X0 hx (1025 : Int32) 7 (hb hby at_4) rfl (by decide) ?_
  refine g_irem X0 hx 8 (hb hby at_7) rfl (by decide) ?_
  refine g_istore (l' := #[.val (.int p0), .val (.int p1), .val (.int p2), .val (.int p3), .val (.int ((p0 &&& (2147483647 : Int32)) % (1025 : Int32))), .unset, .unset, .unset, .unset, .unset, .unset]) X0 hx 10 (hb hby at_8) rfl rfl ?_
  refine g_iloadN X0 hx 11 (hb hby at_10) rfl rfl ?_
  refine g_ldcI X0 hx 13 hZ hown (hw _ (List.mem_of_getElem? (i := 0) rfl)) (hb hby at_11) rfl ?_
  refine g_iand X0 hx 14 (hb hby at_13) rfl ?_
  refine g_sipush X0 hx (1025 : Int32) 17 (hb hby at_14) rfl (by decide) ?_
  refine g_irem X0 hx 18 (hb hby at_17) rfl (by decide) ?_
  refine g_istore (l' := #[.val (.int p0), .val (.int p1), .val (.int p2), .val (.int p3), .val (.int ((p0 &&& (2147483647 : Int32)) % (1025 : Int32))), .val (.int ((p1 &&& (2147483647 : Int32)) % (1025 : Int32))), .unset, .unset, .unset, .unset, .unset]) X0 hx 20 (hb hby at_18) rfl rfl ?_
  generalize hk' : ((p0 &&& (2147483647 : Int32)) % (1025 : Int32)) = k
  generalize hj' : ((p1 &&& (2147483647 : Int32)) % (1025 : Int32)) = j
  have bk := own_k p0 hk'
  have bj := own_k p1 hj'
  have HK := own_w bk
  have HJ := own_w bj
  refine g_new X0 hx hZ hown (hw _ (List.mem_of_getElem? (i := 1) rfl)) (hw _ (List.mem_of_getElem? (i := 2) rfl)) (hw _ (List.mem_of_getElem? (i := 3) rfl)) e0 23 (hb hby at_20) rfl (by decide) (by decide) ?_
  intro T38 h38 a38 g38 X38 e38 E38 A38 D38
  have ge39 : n0 ≤ a38 := by rw [g38]; exact Z0
  have Z40 : n0 ≤ h38.size := Nat.le_trans Z0 E38.1
  have F41 : Fld Z h38 a38 "com/example/folksonomy/folksonomy/search/Mixing" "gamma" "D" (.double (0 : UInt64)) := D38 (Or.inr (hw _ (List.mem_of_getElem? (i := 29) rfl))) (ty := .double) (by decide)
  have F42 : Fld Z h38 a38 "com/example/folksonomy/folksonomy/search/Mixing" "beta" "D" (.double (0 : UInt64)) := D38 (Or.inr (hw _ (List.mem_of_getElem? (i := 31) rfl))) (ty := .double) (by decide)
  refine g_dup X38 hx 24 (hb hby at_23) rfl rfl ?_
  refine g_iload X38 hx 26 (hb hby at_24) rfl rfl ?_
  refine g_i2d X38 hx 27 (hb hby at_26) rfl ?_
  refine g_ldc2D X38 hx 30 hZ hown (hw _ (List.mem_of_getElem? (i := 4) rfl)) (hb hby at_27) rfl ?_
  refine g_ddiv X38 hx 31 (hb hby at_30) rfl (own_fixnn HK) ?_
  refine g_iload X38 hx 33 (hb hby at_31) rfl rfl ?_
  refine g_i2d X38 hx 34 (hb hby at_33) rfl ?_
  refine g_ldc2D X38 hx 37 hZ hown (hw _ (List.mem_of_getElem? (i := 4) rfl)) (hb hby at_34) rfl ?_
  refine g_ddiv X38 hx 38 (hb hby at_37) rfl (own_fixnn HJ) ?_
  refine g_initS X38 hx hZ rfl hown (hw _ (List.mem_of_getElem? (i := 5) rfl)) (hw _ (List.mem_of_getElem? (i := 6) rfl)) (hw _ (List.mem_of_getElem? (i := 3) rfl)) (hw _ (List.mem_of_getElem? (i := 7) rfl)) (by decide) (rmI l Z a0 hw a38 (FP.ddiv (FP.i2d k) (4652218415073722368 : UInt64)) (FP.ddiv (FP.i2d j) (4652218415073722368 : UInt64)) h38 n0 Z40 k.toInt j.toInt HK HJ bk bj A38 ge39 F41 F42) e38 hS (Nat.zero_le _) (a := a38) (argsL := [(.double (FP.ddiv (FP.i2d k) (4652218415073722368 : UInt64))), (.double (FP.ddiv (FP.i2d j) (4652218415073722368 : UInt64)))]) (rest := [(.ref a38)]) rfl rfl 1 41 rfl (by rw [hml]; rfl) (lenOf own_pd0 rfl) (Nat.le_refl _) (by decide) (by decide) (by decide) (by decide) (hb hby at_38) ?_
  intro v43 T43 L43 X43 hS hZ hown hQ43
  obtain ⟨rfl, N43, K43, Fg43, Fb43⟩ := hQ43
  have N44 := Fr.app N0 N43
  have F45 := A38.keep K43
  have Z48 : n0 ≤ T43.heap.size := Nat.le_trans Z40 K43.1
  show Go p e below _ T43 (mkF m 41 #[.val (.int p0), .val (.int p1), .val (.int p2), .val (.int p3), .val (.int k), .val (.int j), .unset, .unset, .unset, .unset, .unset] [(.ref a38)])
  refine g_astore (l' := #[.val (.int p0), .val (.int p1), .val (.int p2), .val (.int p3), .val (.int k), .val (.int j), .val (.ref a38), .unset, .unset, .unset, .unset]) X43 hx 43 (hb hby at_41) rfl rfl rfl ?_
  refine g_aload X43 hx 45 (hb hby at_43) rfl rfl rfl ?_
  refine g_iloadN X43 hx 46 (hb hby at_45) rfl rfl ?_
  refine g_i2d X43 hx 47 (hb hby at_46) rfl ?_
  refine g_iloadN X43 hx 48 (hb hby at_47) rfl rfl ?_
  refine g_i2d X43 hx 49 (hb hby at_48) rfl ?_
  have r1 := rng32 p2
  have r2 := rng32 p3
  have B1 := own_mb bk r1
  have B2 := own_mb (k := 1024 - k.toInt) (by omega) r2
  refine g_virt X43 hx hZ (C := "com/example/folksonomy/folksonomy/search/Mixing") hown (hw _ (List.mem_of_getElem? (i := 32) rfl)) (hw _ (List.mem_of_getElem? (i := 33) rfl)) (hw _ (List.mem_of_getElem? (i := 35) rfl)) (hw _ (List.mem_of_getElem? (i := 35) rfl)) (hw _ (List.mem_of_getElem? (i := 34) rfl)) (hw _ (List.mem_of_getElem? (i := 3) rfl)) (hw _ (List.mem_of_getElem? (i := 36) rfl)) (by decide) (rmM l Z a0 hw a38 (FP.i2d p2) (FP.i2d p3) T43.heap n0 Z48 (FP.ddiv (FP.i2d k) (4652218415073722368 : UInt64)) k.toInt p2.toInt p3.toInt HK (Jvm.FP.Core.i2d_int p2) (Jvm.FP.Core.i2d_int p3) bk B1 B2 Fg43) rfl (b := a38) F45 (argsL := [(.double (FP.i2d p2)), (.double (FP.i2d p3))]) (rest := []) rfl rfl 0 52 rfl (by rw [hml]; rfl) (lenOf own_pd3 rfl) (Nat.le_refl _) (by decide) (by decide) (by decide) (by decide) (hb hby at_49) ?_
  intro v49 T49 L49 X49 hQ49
  obtain ⟨got, rfl, hg, N49, q49⟩ := hQ49
  have N50 := Fr.app N44 N49
  show Go p e below _ T49 (mkF m 52 #[.val (.int p0), .val (.int p1), .val (.int p2), .val (.int p3), .val (.int k), .val (.int j), .val (.ref a38), .unset, .unset, .unset, .unset] [(.double got)])
  refine g_dstore (l' := #[.val (.int p0), .val (.int p1), .val (.int p2), .val (.int p3), .val (.int k), .val (.int j), .val (.ref a38), .val (.double got), .second, .unset, .unset]) X49 hx 54 (hb hby at_52) rfl rfl ?_
  refine g_iload X49 hx 56 (hb hby at_54) rfl rfl ?_
  refine g_i2l X49 hx 57 (hb hby at_56) rfl ?_
  refine g_iloadN X49 hx 58 (hb hby at_57) rfl rfl ?_
  refine g_i2l X49 hx 59 (hb hby at_58) rfl ?_
  refine g_lmul X49 hx 60 (hb hby at_59) rfl ?_
  refine g_sipush X49 hx (1024 : Int32) 63 (hb hby at_60) rfl (by decide) ?_
  refine g_iload X49 hx 65 (hb hby at_63) rfl rfl ?_
  refine g_isub X49 hx 66 (hb hby at_65) rfl ?_
  refine g_i2l X49 hx 67 (hb hby at_66) rfl ?_
  refine g_iloadN X49 hx 68 (hb hby at_67) rfl rfl ?_
  refine g_i2l X49 hx 69 (hb hby at_68) rfl ?_
  refine g_lmul X49 hx 70 (hb hby at_69) rfl ?_
  refine g_ladd X49 hx 71 (hb hby at_70) rfl ?_
  refine g_lstore (l' := #[.val (.int p0), .val (.int p1), .val (.int p2), .val (.int p3), .val (.int k), .val (.int j), .val (.ref a38), .val (.double got), .second, .val (.long (((k.toInt64) * (p2.toInt64)) + ((((1024 : Int32) - k).toInt64) * (p3.toInt64)))), .second]) X49 hx 73 (hb hby at_71) rfl rfl ?_
  refine g_dload X49 hx 75 (hb hby at_73) rfl rfl ?_
  refine g_lload X49 hx 77 (hb hby at_75) rfl rfl ?_
  generalize hnu : (((k.toInt64) * (p2.toInt64)) + ((((1024 : Int32) - k).toInt64) * (p3.toInt64))) = nu
  have HN : nu.toInt = k.toInt * p2.toInt + (1024 - k.toInt) * p3.toInt := by
    have e1 := c_lmul k.toInt64 p2.toInt64
    have e2 := rng64 (k.toInt64 * p2.toInt64)
    have e3 := c_isub 1024 k
    have e4 := rng32 (1024 - k)
    have l0 : (1024 : Int32).toInt = 1024 := by decide
    rw [l0] at e3
    have e5 : ((1024 : Int32) - k).toInt = 1024 - k.toInt := by omega
    have e6 := c_lmul ((1024 : Int32) - k).toInt64 p3.toInt64
    have e7 := rng64 (((1024 : Int32) - k).toInt64 * p3.toInt64)
    rw [c_i2l, c_i2l] at e1 e6
    rw [e5] at e6
    have e8 := c_ladd (k.toInt64 * p2.toInt64) (((1024 : Int32) - k).toInt64 * p3.toInt64)
    have e9 := rng64 nu
    rw [hnu] at e8
    omega
  have HQ := own_q (x := nu) (by omega)
  rw [HN] at HQ
  refine g_l2d X49 hx 78 (hb hby at_77) rfl ?_
  refine g_ldc2D X49 hx 81 hZ hown (hw _ (List.mem_of_getElem? (i := 4) rfl)) (hb hby at_78) rfl ?_
  refine g_ddiv X49 hx 82 (hb hby at_81) rfl (own_fixnn HQ) ?_
  refine g_dc_ne X49 hx 83 90 86 (hb hby at_82) rfl (hb hby at_83) (by decide) (by decide) rfl (own_fixcmp hg HQ) (fun c51 => ?_) (fun c51 => ?_)
  · skip
    exact absurd rfl c51
  · skip
    refine g_iconst X49 hx (1 : Int32) 87 (hb hby at_86) rfl (by decide) ?_
    refine g_goto X49 hx 91 (hb hby at_87) (by decide) (by decide) ?_
    exact g_retZW X49 hx hlk hret (hb hby at_91) (by decide) (by decide) q49 hS (Nat.le_refl _) ⟨rfl, N50⟩
set_option maxRecDepth 65536 in
set_option maxHeartbeats 40000000 in
theorem comes_1 {Post : Tables → Env → Array Value → State → Outcome → State → Prop} (hpost : ∀ tb e args s v u, (limb_1_1.after args s (.returned v) u = true ∧ limb_1_2.after args s (.returned v) u = true ∧ True) → ReturnedEndW s (.returned v) u (Jvm.fieldLocs frame_1_writes args s ++ Jvm.arrayLocs frame_1_arrays args s ++ Jvm.staticLocs frame_1_statics s) 16 2176 → Post tb e args s (.returned v) u) :
    ArmFor flags0 classFile x code maxLocals ret World_1 tables_1 room_1 Calls_1 rest_1 Pre_1 Post := by
  intro l hfl _ _ p e ha hc hk s m args below hf hA hF happ hP
  obtain ⟨hcalls, hrest, hpre⟩ := hP
  obtain ⟨-, -, -, hnamed, -, -, -, hat⟩ := (Spec.applies_iff hf).mp happ
  obtain ⟨hg, hn⟩ := and_e (Cond.before_iff.mp (show (Jvm.Cond.and given_1 narrow_1).before args s = true from hpre))
  obtain ⟨h1, g0⟩ := and_e hg
  obtain ⟨t0, g1⟩ := and_e g0
  obtain ⟨t1, g2⟩ := and_e g1
  obtain ⟨t2, g3⟩ := and_e g2
  have t3 := g3
  obtain ⟨w0, w1, w2, w3, rfl⟩ : ∃ w0 w1 w2 w3 : Value, args = #[w0, w1, w2, w3] := by
    have hs : args.size = 4 := by simpa [Cond.value, given_1] using h1
    obtain ⟨L⟩ := args
    match L, hs with
    | [w0, w1, w2, w3], _ => exact ⟨w0, w1, w2, w3, rfl⟩
  have hw := fun d (hd : d ∈ tables_1) => atoms_spec (ws := Jvm.Cond.code x code maxLocals ret :: tables_1) hat d (List.mem_cons_of_mem _ hd)
  obtain ⟨i0, e0⟩ := is_v t0
  obtain rfl : w0 = (.int i0) := Option.some.inj e0
  obtain ⟨i1, e1⟩ := is_v t1
  obtain rfl : w1 = (.int i1) := Option.some.inj e1
  obtain ⟨i2, e2⟩ := is_v t2
  obtain rfl : w2 = (.int i2) := Option.some.inj e2
  obtain ⟨i3, e3⟩ := is_v t3
  obtain rfl : w3 = (.int i3) := Option.some.inj e3
  obtain ⟨n, o, h1, h2, h3, _, L, rfl, ⟨rfl, N⟩, hq⟩ := rm0 l s _ hw tables_1 i0 i1 i2 i3 s.heap s.heap.size (Nat.le_refl _)  p e ha hc hk s m _ below hf ((Spec.applies_iff_loose hf).mp happ).1 ⟨rfl, State.Warmed39.refl s, rfl⟩ trivial
  refine ⟨n, _, h1, h2, h3, hpost _ _ _ _ _ _ ⟨Cond.after_iff.mpr rfl, Cond.after_iff.mpr (eq_i res_at (Term.int_eval (1)) rfl), trivial⟩ ⟨hq.1, hq.2.1, hq.2.2.1, (hq.2.2.2.sift fun y hy => Or.inr (N y hy)).mono (by decide) (by decide)⟩⟩
theorem main_1_1 : Claimed_1_1 := comes_1 fun _ _ _ _ _ _ h hF => ⟨h.1, hF⟩
theorem main_1_2 : Claimed_1_2 := comes_1 fun _ _ _ _ _ _ h hF => ⟨h.2.1, hF⟩
end Jvm.Pilot.@@N@@
namespace Jvm.Pilot.@@N@@
open Jvm Jvm.ClassFile Sem Op Lib Jvm.Free Jvm.Stand Jvm.Pilot.@@N@@.Jvm.D
/-! MADE BY PROGRAM (witnessworld.py) out of the Statement's table words and the real class files: 15 classes; the members and pool entries that the words name. The judged class is class 1, her method 1. -/
namespace start1
open Jvm.ClassFile
def u (s : String) : CpInfo := .utf8 (stringToUtf16 s)
/-- a pool by its gaps: so many unusable entries, then the entry; so many at the end -/
def gap : Nat → List CpInfo → List CpInfo
  | 0, r => r
  | n + 1, r => .unusable :: gap n r
def poolList (es : List (Nat × CpInfo)) (last : Nat) : List CpInfo := es.foldr (fun e r => gap e.1 (e.2 :: r)) (gap last [])
def pool (es : List (Nat × CpInfo)) (last : Nat) : Array CpInfo := ⟨poolList es last⟩
def fileOf (pool : Array CpInfo) (this : Nat) (attrs : Array Attribute := #[]) (ms : Array MethodInfo := #[]) (fl : Nat := 33) (sup : Nat := 0) (ifs : Array Nat := #[]) (fds : Array FieldInfo := #[]) : ClassFile where
  minorVersion := 0
  majorVersion := 65
  constantPool := pool
  accessFlags := fl
  thisClass := this
  superClass := sup
  interfaces := ifs
  fields := fds
  methods := ms
  attributes := attrs
def plain (name : String) (sup : Option ClassId) : Class where
  name := name
  kind := .ordinary
  loader := none
  accessFlags := 33
  super := sup
  interfaces := #[]
  cf := none
  fields := #[]
  methods := #[]
  instanceTypes := #[]
  staticTypes := #[]
  resolved := #[]
  callSites := []
  init := .initialized
  statics := none
  mirror := none

def pool0 : Array CpInfo := pool [(5, u "<init>"), (0, u "()V"), (1, .class_ 10), (1, u "java/lang/Object")] 113

def k0c0 : Code := { maxStack := 0, maxLocals := 1, code := object_method_1_code, exceptionTable := #[], attributes := #[] }
def k0m0 : Method := { name := "<init>", desc := "()V", sig := { parameters := [], returnType := none }, accessFlags := 1, code := some k0c0 }
/-- java/lang/Object -/
def k0 : Class := { plain "java/lang/Object" none with
  accessFlags := 33
  interfaces := #[]
  cf := some (fileOf pool0 8 #[] #[{ accessFlags := 1, nameIndex := 5, descriptorIndex := 6, attributes := #[] }] 33 0 #[] #[])
  fields := #[]
  methods := #[k0m0]
  instanceTypes := #[]
  staticTypes := #[]
  resolved := Array.replicate 124 none
  statics := none }

def pool1 : Array CpInfo := pool [(2, .class_ 4), (1, u "java/lang/Object"), (0, u "<init>"), (0, u "()V"), (0, .integer 2147483647), (0, .class_ 9), (0, u "com/example/folksonomy/folksonomy/search/Mixing"), (0, .double 4652218415073722368), (1, .methodref 8 13), (0, .nameAndType 5 14), (0, u "(DD)V"), (0, .methodref 8 16), (0, .nameAndType 17 18), (0, u "personal"), (0, u "(DD)D"), (0, .class_ 20), (0, u "com/example/folksonomy/folksonomy/search/MixingPersonalPinLaw"), (2, u "law"), (0, u "(IIII)Z")] 3

def k1m0 : Method := { name := "<init>", desc := "()V", sig := { parameters := [], returnType := none }, accessFlags := 1, code := none }
def k1c1 : Code := { maxStack := 8, maxLocals := 11, code := code, exceptionTable := #[], attributes := #[] }
def k1m1 : Method := { name := "law", desc := "(IIII)Z", sig := { parameters := [.int, .int, .int, .int], returnType := some .boolean }, accessFlags := 9, code := some k1c1 }
/-- com/example/folksonomy/folksonomy/search/MixingPersonalPinLaw -/
def k1 : Class := { plain "com/example/folksonomy/folksonomy/search/MixingPersonalPinLaw" (some 0) with
  accessFlags := 49
  interfaces := #[]
  cf := some (fileOf pool1 19 #[] #[{ accessFlags := 1, nameIndex := 5, descriptorIndex := 6, attributes := #[] }, { accessFlags := 9, nameIndex := 23, descriptorIndex := 24, attributes := #[] }] 49 2 #[] #[])
  fields := #[]
  methods := #[k1m0, k1m1]
  instanceTypes := #[]
  staticTypes := #[]
  resolved := Array.replicate 28 none
  statics := none }

def pool2 : Array CpInfo := pool [(1, .methodref 2 3), (0, .class_ 4), (0, .nameAndType 5 6), (0, u "java/lang/Object"), (0, u "<init>"), (0, u "()V"), (0, .class_ 8), (0, u "java/lang/Record")] 13

def k2c0 : Code := { maxStack := 1, maxLocals := 1, code := jdk_30_method_1_code, exceptionTable := #[], attributes := #[] }
def k2m0 : Method := { name := "<init>", desc := "()V", sig := { parameters := [], returnType := none }, accessFlags := 4, code := some k2c0 }
/-- java/lang/Record -/
def k2 : Class := { plain "java/lang/Record" (some 0) with
  accessFlags := 1057
  interfaces := #[]
  cf := some (fileOf pool2 7 #[] #[{ accessFlags := 4, nameIndex := 5, descriptorIndex := 6, attributes := #[] }] 1057 2 #[] #[])
  fields := #[]
  methods := #[k2m0]
  instanceTypes := #[]
  staticTypes := #[]
  resolved := Array.replicate 22 none
  statics := none }

def pool3 : Array CpInfo := pool [(1, .methodref 2 3), (0, .class_ 4), (0, .nameAndType 5 6), (0, u "java/lang/Record"), (0, u "<init>"), (0, u "()V"), (0, .string 8), (0, u "gamma"), (0, .methodref 10 11), (0, .class_ 12), (0, .nameAndType 13 14), (0, u "com/example/folksonomy/folksonomy/search/Mixing"), (0, u "requireWeight"), (0, u "(Ljava/lang/String;D)V"), (0, .string 16), (0, u "beta"), (0, .fieldref 10 18), (0, .nameAndType 8 19), (0, u "D"), (0, .fieldref 10 21), (0, .nameAndType 16 19), (27, u "(DD)V"), (2, u "DEFAULT"), (0, u "Lcom/example/folksonomy/folksonomy/search/Mixing;"), (4, u "(DD)D"), (0, u "personal")] 35

def k3c0 : Code := { maxStack := 3, maxLocals := 5, code := prog_30_method_1_code, exceptionTable := #[], attributes := #[] }
def k3m0 : Method := { name := "<init>", desc := "(DD)V", sig := { parameters := [.double, .double], returnType := none }, accessFlags := 1, code := some k3c0 }
def k3c1 : Code := { maxStack := 6, maxLocals := 5, code := prog_30_method_3_code, exceptionTable := #[], attributes := #[] }
def k3m1 : Method := { name := "personal", desc := "(DD)D", sig := { parameters := [.double, .double], returnType := some .double }, accessFlags := 0, code := some k3c1 }
def k3c2 : Code := { maxStack := 5, maxLocals := 3, code := prog_30_method_4_code, exceptionTable := #[], attributes := #[] }
def k3m2 : Method := { name := "requireWeight", desc := "(Ljava/lang/String;D)V", sig := { parameters := [(.object "java/lang/String"), .double], returnType := none }, accessFlags := 10, code := some k3c2 }
/-- com/example/folksonomy/folksonomy/search/Mixing -/
def k3 : Class := { plain "com/example/folksonomy/folksonomy/search/Mixing" (some 2) with
  accessFlags := 49
  interfaces := #[]
  cf := some (fileOf pool3 10 #[] #[{ accessFlags := 1, nameIndex := 5, descriptorIndex := 49, attributes := #[] }, { accessFlags := 0, nameIndex := 59, descriptorIndex := 58, attributes := #[] }, { accessFlags := 10, nameIndex := 13, descriptorIndex := 14, attributes := #[] }] 49 2 #[] #[{ accessFlags := 18, nameIndex := 8, descriptorIndex := 19, attributes := #[] }, { accessFlags := 18, nameIndex := 16, descriptorIndex := 19, attributes := #[] }, { accessFlags := 25, nameIndex := 52, descriptorIndex := 53, attributes := #[] }])
  fields := #[{ name := "gamma", type := .double, accessFlags := 18, slot := 0, constantValue := 0 }, { name := "beta", type := .double, accessFlags := 18, slot := 1, constantValue := 0 }, { name := "DEFAULT", type := (.object "com/example/folksonomy/folksonomy/search/Mixing"), accessFlags := 25, slot := 0, constantValue := 0 }]
  methods := #[k3m0, k3m1, k3m2]
  instanceTypes := #[.double, .double]
  staticTypes := #[(.object "com/example/folksonomy/folksonomy/search/Mixing")]
  resolved := Array.replicate 95 none
  statics := none }

def pool4 : Array CpInfo := pool [(1, .class_ 2), (0, u "java/io/Serializable"), (0, .class_ 4), (0, u "java/lang/Object")] 2

/-- java/io/Serializable -/
def k4 : Class := { plain "java/io/Serializable" (some 0) with
  accessFlags := 1537
  interfaces := #[]
  cf := some (fileOf pool4 1 #[] #[] 1537 3 #[] #[])
  fields := #[]
  methods := #[]
  instanceTypes := #[]
  staticTypes := #[]
  resolved := Array.replicate 7 none
  statics := none }

def pool5 : Array CpInfo := pool [(1, .class_ 2), (0, u "java/lang/Comparable"), (0, .class_ 4), (0, u "java/lang/Object")] 7

/-- java/lang/Comparable -/
def k5 : Class := { plain "java/lang/Comparable" (some 0) with
  accessFlags := 1537
  interfaces := #[]
  cf := some (fileOf pool5 1 #[] #[] 1537 3 #[] #[])
  fields := #[]
  methods := #[]
  instanceTypes := #[]
  staticTypes := #[]
  resolved := Array.replicate 12 none
  statics := none }

def pool6 : Array CpInfo := pool [(2, .class_ 4), (1, u "java/lang/CharSequence"), (42, .class_ 48), (0, u "java/lang/CharSequence$1CodePointIterator"), (10, .class_ 60), (0, u "java/lang/CharSequence$1CharIterator"), (5, .class_ 67), (0, u "java/lang/Object")] 63

/-- java/lang/CharSequence -/
def k6 : Class := { plain "java/lang/CharSequence" (some 0) with
  accessFlags := 1537
  interfaces := #[]
  cf := some (fileOf pool6 2 #[.nestMembers #[47, 59]] #[] 1537 66 #[] #[])
  fields := #[]
  methods := #[]
  instanceTypes := #[]
  staticTypes := #[]
  resolved := Array.replicate 131 none
  statics := none }

def pool7 : Array CpInfo := pool [(1, .class_ 2), (0, u "java/lang/constant/Constable"), (0, .class_ 4), (0, u "java/lang/Object")] 6

/-- java/lang/constant/Constable -/
def k7 : Class := { plain "java/lang/constant/Constable" (some 0) with
  accessFlags := 1537
  interfaces := #[]
  cf := some (fileOf pool7 1 #[] #[] 1537 3 #[] #[])
  fields := #[]
  methods := #[]
  instanceTypes := #[]
  staticTypes := #[]
  resolved := Array.replicate 11 none
  statics := none }

def pool8 : Array CpInfo := pool [(1, .class_ 2), (0, u "java/lang/constant/ConstantDesc"), (0, .class_ 4), (0, u "java/lang/Object")] 32

/-- java/lang/constant/ConstantDesc -/
def k8 : Class := { plain "java/lang/constant/ConstantDesc" (some 0) with
  accessFlags := 1537
  interfaces := #[]
  cf := some (fileOf pool8 1 #[] #[] 1537 3 #[] #[])
  fields := #[]
  methods := #[]
  instanceTypes := #[]
  staticTypes := #[]
  resolved := Array.replicate 37 none
  statics := none }

def pool9 : Array CpInfo := pool [(2, .class_ 4), (1, u "java/lang/Object"), (0, u "<init>"), (0, u "()V"), (3, .class_ 12), (1, u "java/lang/String"), (0, u "value"), (0, u "[B"), (2, u "coder"), (0, u "B"), (2, u "hash"), (0, u "I"), (2, u "hashIsZero"), (0, u "Z"), (13, u "COMPACT_STRINGS"), (534, .class_ 576), (0, u "java/lang/CharSequence"), (22, u "CASE_INSENSITIVE_ORDER"), (0, u "Ljava/util/Comparator;"), (500, u "serialPersistentFields"), (0, u "[Ljava/io/ObjectStreamField;"), (0, .class_ 1104), (0, u "java/lang/String$CaseInsensitiveComparator"), (1, .class_ 1107), (0, u "java/io/Serializable"), (0, .class_ 1109), (0, u "java/lang/Comparable"), (0, .class_ 1111), (0, u "java/lang/constant/Constable"), (0, .class_ 1113), (0, u "java/lang/constant/ConstantDesc"), (2, u "serialVersionUID"), (0, u "J"), (3, u "REPL"), (0, u "C"), (2, u "LATIN1"), (1, u "UTF16")] 323

def k9m0 : Method := { name := "<init>", desc := "()V", sig := { parameters := [], returnType := none }, accessFlags := 1, code := none }
/-- java/lang/String -/
def k9 : Class := { plain "java/lang/String" (some 0) with
  accessFlags := 49
  interfaces := #[4, 5, 6, 7, 8]
  cf := some (fileOf pool9 10 #[.nestMembers #[1103]] #[{ accessFlags := 1, nameIndex := 5, descriptorIndex := 6, attributes := #[] }] 49 2 #[1106, 1108, 575, 1110, 1112] #[{ accessFlags := 18, nameIndex := 13, descriptorIndex := 14, attributes := #[] }, { accessFlags := 18, nameIndex := 17, descriptorIndex := 18, attributes := #[] }, { accessFlags := 2, nameIndex := 21, descriptorIndex := 22, attributes := #[] }, { accessFlags := 2, nameIndex := 25, descriptorIndex := 26, attributes := #[] }, { accessFlags := 26, nameIndex := 1116, descriptorIndex := 1117, attributes := #[] }, { accessFlags := 24, nameIndex := 40, descriptorIndex := 26, attributes := #[] }, { accessFlags := 26, nameIndex := 1101, descriptorIndex := 1102, attributes := #[] }, { accessFlags := 26, nameIndex := 1121, descriptorIndex := 1122, attributes := #[] }, { accessFlags := 25, nameIndex := 599, descriptorIndex := 600, attributes := #[] }, { accessFlags := 24, nameIndex := 1125, descriptorIndex := 18, attributes := #[] }, { accessFlags := 24, nameIndex := 1127, descriptorIndex := 18, attributes := #[] }])
  fields := #[{ name := "value", type := (.array .byte), accessFlags := 18, slot := 0, constantValue := 0 }, { name := "coder", type := .byte, accessFlags := 18, slot := 1, constantValue := 0 }, { name := "hash", type := .int, accessFlags := 2, slot := 2, constantValue := 0 }, { name := "hashIsZero", type := .boolean, accessFlags := 2, slot := 3, constantValue := 0 }, { name := "serialVersionUID", type := .long, accessFlags := 26, slot := 0, constantValue := 0 }, { name := "COMPACT_STRINGS", type := .boolean, accessFlags := 24, slot := 1, constantValue := 0 }, { name := "serialPersistentFields", type := (.array (.object "java/io/ObjectStreamField")), accessFlags := 26, slot := 2, constantValue := 0 }, { name := "REPL", type := .char, accessFlags := 26, slot := 3, constantValue := 0 }, { name := "CASE_INSENSITIVE_ORDER", type := (.object "java/util/Comparator"), accessFlags := 25, slot := 4, constantValue := 0 }, { name := "LATIN1", type := .byte, accessFlags := 24, slot := 5, constantValue := 0 }, { name := "UTF16", type := .byte, accessFlags := 24, slot := 6, constantValue := 0 }]
  methods := #[k9m0]
  instanceTypes := #[(.array .byte), .byte, .int, .boolean]
  staticTypes := #[.long, .boolean, (.array (.object "java/io/ObjectStreamField")), .char, (.object "java/util/Comparator"), .byte, .byte]
  resolved := Array.replicate 1451 none
  statics := none }

def pool10 : Array CpInfo := pool [(1, u "java/lang/Cloneable"), (0, .class_ 1), (0, u "java/lang/Object"), (0, .class_ 3)] 3

/-- java/lang/Cloneable -/
def k10 : Class := { plain "java/lang/Cloneable" (some 0) with
  accessFlags := 1537
  interfaces := #[]
  cf := some (fileOf pool10 2 #[] #[] 1537 4 #[] #[])
  fields := #[]
  methods := #[]
  instanceTypes := #[]
  staticTypes := #[]
  resolved := Array.replicate 8 none
  statics := none }

/-- the primitive byte -/
def k11 : Class := { plain "byte" none with kind := .primitive 'B', accessFlags := 0x411 }
/-- [B -/
def k12 : Class := { plain "[B" (some 0) with kind := .array 11 .byte, interfaces := #[10, 4], accessFlags := 1041 }

/-- the primitive int -/
def k13 : Class := { plain "int" none with kind := .primitive 'I', accessFlags := 0x411 }
/-- [I -/
def k14 : Class := { plain "[I" (some 0) with kind := .array 13 .int, interfaces := #[10, 4], accessFlags := 1041 }

def heap : Heap := #[]
def classes : Array Class := #[k0, k1, k2, k3, k4, k5, k6, k7, k8, k9, k10, k11, k12, k13, k14]
def interned : List (Array UInt16 × Addr) := []
def slotsUsed : Nat := 0
def theMethod : MethodId := ⟨1, 1⟩
def args0 : Array Value := #[.int 5, .int 3, .int 4, .int 7]
def aboutOver (below : List Frame) : State where
  vm := { classes := classes, interned := interned.toArray }
  heap := heap
  slotsUsed := slotsUsed
  threads := #[{ frames := .invoking theMethod args0 :: below }]
def below0 : List Frame := [.native { method := ⟨0, 0⟩, args := #[] }]
def about1 : State := aboutOver below0
def p0 : Program := .bare "" "" ""
def e0 : Env := launch0.env 0 0 0
theorem w_frames : about1.frames = Frame.invoking theMethod args0 :: below0 := rfl
set_option maxRecDepth 65536 in
theorem w_args : argsFit about1.vm theMethod args0 = true := by decide +kernel
set_option maxRecDepth 65536 in
theorem w_heap : heapFits about1 = true := by decide +kernel
set_option maxRecDepth 65536 in
theorem w_runnable : about1.curStatus? = some .runnable := by decide +kernel
set_option maxRecDepth 65536 in
theorem w_alone : about1.alone = true := by decide +kernel
set_option maxRecDepth 65536 in
theorem w_named : about1.methodNamed? x = some theMethod := by decide +kernel
set_option maxRecDepth 65536 in
theorem w_hears : about1.hears theMethod below0 = true := by decide +kernel
set_option maxRecDepth 65536 in
theorem w_ripe : about1.ripe theMethod args0 below0 = true := by decide +kernel
theorem w_running : about1.status = .running := rfl
set_option maxRecDepth 65536 in
theorem w_room : about1.hasRoom e0.platform room_1 = true :=
  launch0.hasRoom_least _ room_1 (by decide +kernel) (by decide +kernel) (by decide +kernel) (by decide +kernel) (by decide +kernel) (by decide +kernel)
theorem allAtoms_all (ts : List Jvm.Cond) (a : Array Jvm.Value) (st : Jvm.State) : (allAtoms ts).before a st = ts.all (fun c => c.before a st) := by
  induction ts with
  | nil => rfl
  | cons c t ih =>
    show (Jvm.Cond.and c (allAtoms t)).before a st = _
    rw [Jvm.Cond.before_and, ih, List.all_cons]
def words1 : List Jvm.Cond := Jvm.Cond.code x code maxLocals ret :: tables_1
/-- a 'code' word, met by the world's own term for the bytes: nothing is compared byte by byte -/
theorem code_word {y : MethodName} {bytes : ByteArray} {mx : Nat} {rt : Option FieldType} {a : Array Value} {s : State} {m : MethodId} {meth : Method} {c : Code} (h1 : s.methodNamed? y = some m) (h2 : s.vm.method? m = some meth) (h3 : meth.code = some c) (h4 : c.code = bytes)
    (h5 : (c.maxLocals == mx && c.exceptionTable.isEmpty && decide (c.maxStack ≤ mostOperands) && decide (meth.sig.returnType = rt) && !meth.locks && decide (parseMethodDescriptor y.desc = some meth.sig)) = true) : (Jvm.Cond.code y bytes mx rt).before a s = true := by
  simp only [Bool.and_eq_true, beq_iff_eq, Bool.not_eq_true', decide_eq_true_eq] at h5
  obtain ⟨⟨⟨⟨⟨g1, g2⟩, g3⟩, g4⟩, g5⟩, g6⟩ := h5
  simp [Cond.before, Cond.holds, Cond.value, h1, h2, h3, h4, g1, g2, g3, g4, g5, g6]
def isCode : Jvm.Cond → Bool
  | .code _ _ _ _ => true
  | _ => false
theorem all_split {L : List Jvm.Cond} {P : Jvm.Cond → Bool} (h1 : L.all (fun c => isCode c || P c) = true) (h2 : ∀ c ∈ L.filter isCode, P c = true) : L.all P = true := by
  refine List.all_eq_true.mpr fun c hc => ?_
  have h := List.all_eq_true.mp h1 c hc
  rcases Bool.eq_false_or_eq_true (isCode c) with hi | hi
  · exact h2 c (List.mem_filter.mpr ⟨hc, hi⟩)
  · simpa [hi] using h
set_option maxRecDepth 65536 in
theorem w_c0 : (Jvm.Cond.code x code maxLocals ret).before args0 about1 = true := code_word (m := ⟨1, 1⟩) (meth := k1m1) (c := k1c1) (by decide +kernel) rfl rfl rfl (by decide +kernel)
set_option maxRecDepth 65536 in
theorem w_c1 : (Jvm.Cond.code ({ cls := "com/example/folksonomy/folksonomy/search/Mixing", name := "<init>", desc := "(DD)V" } : Jvm.MethodName) prog_30_method_1_code (5 : Nat) (Option.none : Option Jvm.ClassFile.FieldType)).before args0 about1 = true := code_word (m := ⟨3, 0⟩) (meth := k3m0) (c := k3c0) (by decide +kernel) rfl rfl rfl (by decide +kernel)
set_option maxRecDepth 65536 in
theorem w_c2 : (Jvm.Cond.code ({ cls := "java/lang/Record", name := "<init>", desc := "()V" } : Jvm.MethodName) jdk_30_method_1_code (1 : Nat) (Option.none : Option Jvm.ClassFile.FieldType)).before args0 about1 = true := code_word (m := ⟨2, 0⟩) (meth := k2m0) (c := k2c0) (by decide +kernel) rfl rfl rfl (by decide +kernel)
set_option maxRecDepth 65536 in
theorem w_c3 : (Jvm.Cond.code ({ cls := "java/lang/Object", name := "<init>", desc := "()V" } : Jvm.MethodName) object_method_1_code (1 : Nat) (Option.none : Option Jvm.ClassFile.FieldType)).before args0 about1 = true := code_word (m := ⟨0, 0⟩) (meth := k0m0) (c := k0c0) (by decide +kernel) rfl rfl rfl (by decide +kernel)
set_option maxRecDepth 65536 in
theorem w_c4 : (Jvm.Cond.code ({ cls := "com/example/folksonomy/folksonomy/search/Mixing", name := "requireWeight", desc := "(Ljava/lang/String;D)V" } : Jvm.MethodName) prog_30_method_4_code (3 : Nat) (Option.none : Option Jvm.ClassFile.FieldType)).before args0 about1 = true := code_word (m := ⟨3, 2⟩) (meth := k3m2) (c := k3c2) (by decide +kernel) rfl rfl rfl (by decide +kernel)
set_option maxRecDepth 65536 in
theorem w_c5 : (Jvm.Cond.code ({ cls := "com/example/folksonomy/folksonomy/search/Mixing", name := "personal", desc := "(DD)D" } : Jvm.MethodName) prog_30_method_3_code (5 : Nat) (Option.some Jvm.ClassFile.FieldType.double)).before args0 about1 = true := code_word (m := ⟨3, 1⟩) (meth := k3m1) (c := k3c1) (by decide +kernel) rfl rfl rfl (by decide +kernel)
def codes1 : List Jvm.Cond := [Jvm.Cond.code x code maxLocals ret, Jvm.Cond.code ({ cls := "com/example/folksonomy/folksonomy/search/Mixing", name := "<init>", desc := "(DD)V" } : Jvm.MethodName) prog_30_method_1_code (5 : Nat) (Option.none : Option Jvm.ClassFile.FieldType), Jvm.Cond.code ({ cls := "java/lang/Record", name := "<init>", desc := "()V" } : Jvm.MethodName) jdk_30_method_1_code (1 : Nat) (Option.none : Option Jvm.ClassFile.FieldType), Jvm.Cond.code ({ cls := "java/lang/Object", name := "<init>", desc := "()V" } : Jvm.MethodName) object_method_1_code (1 : Nat) (Option.none : Option Jvm.ClassFile.FieldType), Jvm.Cond.code ({ cls := "com/example/folksonomy/folksonomy/search/Mixing", name := "requireWeight", desc := "(Ljava/lang/String;D)V" } : Jvm.MethodName) prog_30_method_4_code (3 : Nat) (Option.none : Option Jvm.ClassFile.FieldType), Jvm.Cond.code ({ cls := "com/example/folksonomy/folksonomy/search/Mixing", name := "personal", desc := "(DD)D" } : Jvm.MethodName) prog_30_method_3_code (5 : Nat) (Option.some Jvm.ClassFile.FieldType.double)]
set_option maxRecDepth 65536 in
theorem codes_eq : words1.filter isCode = codes1 := rfl
theorem w_codes : ∀ c ∈ words1.filter isCode, c.before args0 about1 = true := by
  rw [codes_eq]
  intro c hc
  simp only [codes1, List.mem_cons, List.not_mem_nil, or_false] at hc
  rcases hc with rfl | rfl | rfl | rfl | rfl | rfl
  · exact w_c0
  · exact w_c1
  · exact w_c2
  · exact w_c3
  · exact w_c4
  · exact w_c5
set_option maxRecDepth 65536 in
theorem w_t1 : (words1.take 24).all (fun c => isCode c || c.before args0 about1) = true := by decide +kernel
set_option maxRecDepth 65536 in
theorem w_t2 : (words1.drop 24).all (fun c => isCode c || c.before args0 about1) = true := by decide +kernel
theorem w_tables : (allAtoms (Jvm.Cond.code x code maxLocals ret :: tables_1)).before args0 about1 = true := by
  rw [allAtoms_all]
  show words1.all (fun c => c.before args0 about1) = true
  refine all_split ?_ w_codes
  rw [← List.take_append_drop 24 words1, List.all_append, w_t1, w_t2]
  rfl
set_option maxRecDepth 65536 in
theorem w_case : (Jvm.Cond.and given_1 narrow_1).before args0 about1 = true := by decide +kernel
theorem w_applies : (headSpec (Jvm.Cond.code x code maxLocals ret :: tables_1) room_1).applies x e0.platform about1 = true :=
  (Spec.applies_iff w_frames).mpr ⟨w_running, w_runnable, w_alone, w_named, w_hears, w_ripe, w_room, w_tables⟩
theorem atStart : AtStart classFile x code maxLocals ret World_1 tables_1 room_1 Calls_1 rest_1 Pre_1 launch0 p0 e0 about1 theMethod args0 below0 :=
  ⟨lists_1, trivial, launch0.admits_env _ _ _, launch0.least_env, fairChoices_fair.cas, fairChoices_fair.clock, w_frames, w_args, w_heap, w_applies, trivial, trivial, w_case⟩
end start1
theorem witness_1 : WitnessClaimed_1 := ⟨start1.p0, start1.e0, start1.about1, start1.theMethod, start1.args0, start1.below0, start1.atStart⟩
end Jvm.Pilot.@@N@@
