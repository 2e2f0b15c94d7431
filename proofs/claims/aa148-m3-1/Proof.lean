import JvmDerived
import JvmDerived.Pilot.@@N@@Statement
import JvmDerived.Pilot.@@N@@Code
set_option linter.unusedVariables false
set_option linter.unusedSimpArgs false
namespace Jvm.Pilot.@@N@@
open Jvm Jvm.ClassFile Sem Op Lib Jvm.Free Jvm.Stand Jvm.LawKit Jvm.RoadKit Bundle Jvm.Pilot.@@N@@.Jvm.D
section OwnKit
variable {p : Program} {l : Launch} {e : Env} {R : Room} {s : State} {m : MethodId} {args : Array Value} {below : List Frame} {meth : Method} {c : Code} {T : State} {locs : List Loc} {cells slots : Nat} {Z : State} {a0 : Array Value} {h h' : Heap} {Ev : State → Outcome → Prop}
def Go (p : Program) (e : Env) (below : List Frame) (Ev : State → Outcome → Prop) (T : State) (g : JFrame) : Prop :=
  ∃ (U : State) (o : Outcome), Steps p.tables e below (T.setTop g) U ∧ U.status = .running ∧ Ended U below o ∧ Ev U o
theorem Go.on {T T' : State} {g g' : JFrame} (K : Go p e below Ev T' g') (st : ∀ t, Steps p.tables e below (T'.setTop g') t → Steps p.tables e below (T.setTop g) t) : Go p e below Ev T g := by
  obtain ⟨U, o, h1, h2⟩ := K
  exact ⟨U, o, st _ h1, h2⟩
/-- what a body leaves -/
abbrev EndQ (s : State) (Q : Option Value → Heap → List Loc → Prop) (K N : Nat) : State → Outcome → Prop := fun U o => ∃ (v : Option Value) (L : List Loc), o = .returned v ∧ Q v U.heap L ∧ FrameEnd s o U L K N
theorem own_met {x : MethodName} {code : ByteArray} {ml : Nat} {ret : Option FieldType} {ws : List Jvm.Cond} {rm : Room} {as : Array Value} {h0 : Heap} {Q : Option Value → Heap → List Loc → Prop} {K N : Nat} {Ls : Array Slot} (hpn : plainFor x = true) (hef : ∀ m, entryFrame m as ml = mkF m 0 Ls [])
    (body : ∀ (p : Program) (e : Env) (s : State) (m : MethodId) (below : List Frame) (meth : Method) (c : Code) (T : State), Stand p l e rm s m as below meth c T [] 0 0 → p.tables.exec = Jvm.exec → c.code = code → c.maxLocals = ml → meth.sig.returnType = ret → meth.locks = false → meth.name = x.name → s.vm.findClass x.cls = some m.cls → Z.Warmed39 s.vm → T.heap = h0 → Go p e below (EndQ s Q K N) T (mkF m 0 Ls [])) :
    MetFree l x (head1 (Jvm.Cond.code x code ml ret :: ws) rm) (fun a U => a = as ∧ Z.Warmed39 U.vm ∧ U.heap = h0) (fun _ _ _ _ _ => True) (fun _ U o U' => ∃ v L, o = .returned v ∧ Q v U'.heap L ∧ FrameEnd U o U' L K N) := by
  refine MetFree.of_bodySF hpn hisR ?_
  intro p e s m args below meth c s₁ Bd hml0 hP hK
  obtain ⟨rfl, hZ, hh⟩ := hP
  have e0 : s₁.heap = h0 := by rw [← hh, Bd.state]; rfl
  obtain ⟨U, o, h1, h2, h3, h4⟩ := body p e s m below meth c s₁ (Stand.of_body Bd) Bd.exec Bd.bytes hml0 Bd.returns (BodyLoose.notSynchronized Bd) (name_of_methodNamed Bd.named Bd.method).1 (findClass_of_methodNamed Bd.named) hZ e0
  rw [← hef m] at h1
  exact ⟨U, o, h1, h2, h3, h4⟩
theorem g_leave (X : Stand p l e R s m args below meth c T locs cells slots) (hlk : meth.locks = false) {Q : Option Value → Heap → List Loc → Prop} {K N : Nat} {g : JFrame} {v : Option Value} (hv : meth.sig.returnType = none → v = none) (hK : cells ≤ K) (hN : slots ≤ N) (eT : T.heap = h) (hQ : Q v h locs)
    (hst : ∀ fs, (∀ (f : JFrame) (acts : List Action), f.method = m → f.locked = none → f.entered = [] → (doReturn e (T.setTop f) acts v).1 = T.setFrames fs) → Steps p.tables e below (T.setTop g) (T.setFrames fs)) : Go p e below (EndQ s Q K N) T g := by
  obtain ⟨fs, hr, hrun, hended, hW, hsame⟩ := X.leave (v := v) hv hlk
  exact ⟨_, _, hst fs hr, hrun, hended, _, _, rfl, by rw [show (T.setFrames fs).heap = T.heap from rfl, eT]; exact hQ, ⟨_, rfl⟩, hW, hsame.mono hK hN⟩
theorem g_retI (X : Stand p l e R s m args below meth c T locs cells slots) (hx : p.tables.exec = Jvm.exec) (hlk : meth.locks = false) {Q : Option Value → Heap → List Loc → Prop} {K N : Nat} {pc : Nat} {Ls : Array Slot} {z : Int32} {rest : List Value} (hret : meth.sig.returnType = some .int) (hd : decode c.code pc = .ok (.ireturn, 1)) (hK : cells ≤ K) (hN : slots ≤ N) (eT : T.heap = h) (hQ : Q (some (.int z)) h locs) : Go p e below (EndQ s Q K N) T (mkF m pc Ls (.int z :: rest)) :=
  g_leave X hlk (fun q => by rw [hret] at q; cases q) hK hN eT hQ (fun fs hr => retOut X hx hret rfl (Or.inl ⟨rfl, Or.inl rfl, _, rfl⟩) hd hr)
theorem g_retZ (X : Stand p l e R s m args below meth c T locs cells slots) (hx : p.tables.exec = Jvm.exec) (hlk : meth.locks = false) {Q : Option Value → Heap → List Loc → Prop} {K N : Nat} {pc : Nat} {Ls : Array Slot} {z : Int32} {rest : List Value} (hret : meth.sig.returnType = some .boolean) (hd : decode c.code pc = .ok (.ireturn, 1)) (hK : cells ≤ K) (hN : slots ≤ N) (eT : T.heap = h) (hQ : Q (some (.int (nar .boolean z))) h locs) : Go p e below (EndQ s Q K N) T (mkF m pc Ls (.int z :: rest)) :=
  g_leave X hlk (fun q => by rw [hret] at q; cases q) hK hN eT hQ (fun fs hr => retN X hx (t := .boolean) hret (by simp) hd hr)
theorem g_retD (X : Stand p l e R s m args below meth c T locs cells slots) (hx : p.tables.exec = Jvm.exec) (hlk : meth.locks = false) {Q : Option Value → Heap → List Loc → Prop} {K N : Nat} {pc : Nat} {Ls : Array Slot} {z : UInt64} {rest : List Value} (hret : meth.sig.returnType = some .double) (hd : decode c.code pc = .ok (.dreturn, 1)) (hK : cells ≤ K) (hN : slots ≤ N) (eT : T.heap = h) (hQ : Q (some (.double z)) h locs) : Go p e below (EndQ s Q K N) T (mkF m pc Ls (.double z :: rest)) :=
  g_leave X hlk (fun q => by rw [hret] at q; cases q) hK hN eT hQ (fun fs hr => retOut X hx hret rfl (Or.inr (Or.inr (Or.inl ⟨rfl, rfl, _, rfl⟩))) hd hr)
theorem g_retJ (X : Stand p l e R s m args below meth c T locs cells slots) (hx : p.tables.exec = Jvm.exec) (hlk : meth.locks = false) {Q : Option Value → Heap → List Loc → Prop} {K N : Nat} {pc : Nat} {Ls : Array Slot} {z : Int64} {rest : List Value} (hret : meth.sig.returnType = some .long) (hd : decode c.code pc = .ok (.lreturn, 1)) (hK : cells ≤ K) (hN : slots ≤ N) (eT : T.heap = h) (hQ : Q (some (.long z)) h locs) : Go p e below (EndQ s Q K N) T (mkF m pc Ls (.long z :: rest)) :=
  g_leave X hlk (fun q => by rw [hret] at q; cases q) hK hN eT hQ (fun fs hr => retOut X hx hret rfl (Or.inr (Or.inl ⟨rfl, rfl, _, rfl⟩)) hd hr)
theorem g_retA (X : Stand p l e R s m args below meth c T locs cells slots) (hx : p.tables.exec = Jvm.exec) (hlk : meth.locks = false) {Q : Option Value → Heap → List Loc → Prop} {K N : Nat} {pc : Nat} {Ls : Array Slot} {w : Value} {rest : List Value} {t : FieldType} (hret : meth.sig.returnType = some t) (ht : t.isReference = true) (hw : w.isRef = true) (hn : narrow t w = w) (hd : decode c.code pc = .ok (.areturn, 1)) (hK : cells ≤ K) (hN : slots ≤ N) (eT : T.heap = h) (hQ : Q (some w) h locs) : Go p e below (EndQ s Q K N) T (mkF m pc Ls (w :: rest)) :=
  g_leave X hlk (fun q => by rw [hret] at q; cases q) hK hN eT hQ (fun fs hr => retOut X hx hret hn (Or.inr (Or.inr (Or.inr (Or.inr ⟨rfl, ht, hw⟩)))) hd hr)
theorem g_retV (X : Stand p l e R s m args below meth c T locs cells slots) (hx : p.tables.exec = Jvm.exec) (hlk : meth.locks = false) {Q : Option Value → Heap → List Loc → Prop} {K N : Nat} {pc : Nat} {Ls : Array Slot} (hret : meth.sig.returnType = none) (hd : decode c.code pc = .ok (.return_, 1)) (hK : cells ≤ K) (hN : slots ≤ N) (eT : T.heap = h) (hQ : Q none h locs) : Go p e below (EndQ s Q K N) T (mkF m pc Ls []) :=
  g_leave X hlk (fun _ => rfl) hK hN eT hQ (fun fs hr => X.returnOut hx hret hd hr)
theorem g_iloadN (X : Stand p l e R s m args below meth c T locs cells slots) (hx : p.tables.exec = Jvm.exec) {pc : Nat} {Ls : Array Slot} {st : List Value} {k : Fin 4} {v : Int32} (q : Nat) (hd : decode c.code pc = .ok (.iload_n k, 1)) (hq : pc + 1 = q) (hl : Ls[k.val]? = some (.val (.int v))) (K : Go p e below Ev T (mkF m q Ls (.int v :: st))) : Go p e below Ev T (mkF m pc Ls st) := by
  subst hq
  exact K.on fun _ k => XS.iloadN X.here hx rfl hd hl k
theorem g_iload (X : Stand p l e R s m args below meth c T locs cells slots) (hx : p.tables.exec = Jvm.exec) {pc : Nat} {Ls : Array Slot} {st : List Value} {k : Nat} {v : Int32} (q : Nat) (hd : decode c.code pc = .ok (.iload k, 2)) (hq : pc + 2 = q) (hl : Ls[k]? = some (.val (.int v))) (K : Go p e below Ev T (mkF m q Ls (.int v :: st))) : Go p e below Ev T (mkF m pc Ls st) := by
  subst hq
  exact K.on fun _ k => XS.iload X.here hx rfl hd hl k
theorem g_istoreN (X : Stand p l e R s m args below meth c T locs cells slots) (hx : p.tables.exec = Jvm.exec) {pc : Nat} {Ls : Array Slot} {st : List Value} {k : Fin 4} {v : Int32} {l' : Array Slot} (q : Nat) (hd : decode c.code pc = .ok (.istore_n k, 1)) (hq : pc + 1 = q) (hl : storeLocals Ls k.val (.int v) = some l') (K : Go p e below Ev T (mkF m q l' st)) : Go p e below Ev T (mkF m pc Ls (.int v :: st)) := by
  subst hq
  exact K.on fun _ k => XS.istoreN X.here hx rfl hd rfl hl k
theorem g_istore (X : Stand p l e R s m args below meth c T locs cells slots) (hx : p.tables.exec = Jvm.exec) {pc : Nat} {Ls : Array Slot} {st : List Value} {k : Nat} {v : Int32} {l' : Array Slot} (q : Nat) (hd : decode c.code pc = .ok (.istore k, 2)) (hq : pc + 2 = q) (hl : storeLocals Ls k (.int v) = some l') (K : Go p e below Ev T (mkF m q l' st)) : Go p e below Ev T (mkF m pc Ls (.int v :: st)) := by
  subst hq
  exact K.on fun _ k => XS.istore X.here hx rfl hd rfl hl k
theorem g_lloadN (X : Stand p l e R s m args below meth c T locs cells slots) (hx : p.tables.exec = Jvm.exec) {pc : Nat} {Ls : Array Slot} {st : List Value} {k : Fin 4} {v : Int64} (q : Nat) (hd : decode c.code pc = .ok (.lload_n k, 1)) (hq : pc + 1 = q) (hl : Ls[k.val]? = some (.val (.long v))) (K : Go p e below Ev T (mkF m q Ls (.long v :: st))) : Go p e below Ev T (mkF m pc Ls st) := by
  subst hq
  exact K.on fun _ k => XS.lloadN X.here hx rfl hd hl k
theorem g_lload (X : Stand p l e R s m args below meth c T locs cells slots) (hx : p.tables.exec = Jvm.exec) {pc : Nat} {Ls : Array Slot} {st : List Value} {k : Nat} {v : Int64} (q : Nat) (hd : decode c.code pc = .ok (.lload k, 2)) (hq : pc + 2 = q) (hl : Ls[k]? = some (.val (.long v))) (K : Go p e below Ev T (mkF m q Ls (.long v :: st))) : Go p e below Ev T (mkF m pc Ls st) := by
  subst hq
  exact K.on fun _ k => XS.lload X.here hx rfl hd hl k
theorem g_lstoreN (X : Stand p l e R s m args below meth c T locs cells slots) (hx : p.tables.exec = Jvm.exec) {pc : Nat} {Ls : Array Slot} {st : List Value} {k : Fin 4} {v : Int64} {l' : Array Slot} (q : Nat) (hd : decode c.code pc = .ok (.lstore_n k, 1)) (hq : pc + 1 = q) (hl : storeLocals Ls k.val (.long v) = some l') (K : Go p e below Ev T (mkF m q l' st)) : Go p e below Ev T (mkF m pc Ls (.long v :: st)) := by
  subst hq
  exact K.on fun _ k => XS.lstoreN X.here hx rfl hd rfl hl k
theorem g_lstore (X : Stand p l e R s m args below meth c T locs cells slots) (hx : p.tables.exec = Jvm.exec) {pc : Nat} {Ls : Array Slot} {st : List Value} {k : Nat} {v : Int64} {l' : Array Slot} (q : Nat) (hd : decode c.code pc = .ok (.lstore k, 2)) (hq : pc + 2 = q) (hl : storeLocals Ls k (.long v) = some l') (K : Go p e below Ev T (mkF m q l' st)) : Go p e below Ev T (mkF m pc Ls (.long v :: st)) := by
  subst hq
  exact K.on fun _ k => XS.lstore X.here hx rfl hd rfl hl k
theorem g_dloadN (X : Stand p l e R s m args below meth c T locs cells slots) (hx : p.tables.exec = Jvm.exec) {pc : Nat} {Ls : Array Slot} {st : List Value} {k : Fin 4} {v : UInt64} (q : Nat) (hd : decode c.code pc = .ok (.dload_n k, 1)) (hq : pc + 1 = q) (hl : Ls[k.val]? = some (.val (.double v))) (K : Go p e below Ev T (mkF m q Ls (.double v :: st))) : Go p e below Ev T (mkF m pc Ls st) := by
  subst hq
  exact K.on fun _ k => XS.dloadN X.here hx rfl hd hl k
theorem g_dload (X : Stand p l e R s m args below meth c T locs cells slots) (hx : p.tables.exec = Jvm.exec) {pc : Nat} {Ls : Array Slot} {st : List Value} {k : Nat} {v : UInt64} (q : Nat) (hd : decode c.code pc = .ok (.dload k, 2)) (hq : pc + 2 = q) (hl : Ls[k]? = some (.val (.double v))) (K : Go p e below Ev T (mkF m q Ls (.double v :: st))) : Go p e below Ev T (mkF m pc Ls st) := by
  subst hq
  exact K.on fun _ k => XS.dload X.here hx rfl hd hl k
theorem g_dstoreN (X : Stand p l e R s m args below meth c T locs cells slots) (hx : p.tables.exec = Jvm.exec) {pc : Nat} {Ls : Array Slot} {st : List Value} {k : Fin 4} {v : UInt64} {l' : Array Slot} (q : Nat) (hd : decode c.code pc = .ok (.dstore_n k, 1)) (hq : pc + 1 = q) (hl : storeLocals Ls k.val (.double v) = some l') (K : Go p e below Ev T (mkF m q l' st)) : Go p e below Ev T (mkF m pc Ls (.double v :: st)) := by
  subst hq
  exact K.on fun _ k => XS.dstoreN X.here hx rfl hd rfl hl k
theorem g_dstore (X : Stand p l e R s m args below meth c T locs cells slots) (hx : p.tables.exec = Jvm.exec) {pc : Nat} {Ls : Array Slot} {st : List Value} {k : Nat} {v : UInt64} {l' : Array Slot} (q : Nat) (hd : decode c.code pc = .ok (.dstore k, 2)) (hq : pc + 2 = q) (hl : storeLocals Ls k (.double v) = some l') (K : Go p e below Ev T (mkF m q l' st)) : Go p e below Ev T (mkF m pc Ls (.double v :: st)) := by
  subst hq
  exact K.on fun _ k => XS.dstore X.here hx rfl hd rfl hl k
theorem g_aloadN (X : Stand p l e R s m args below meth c T locs cells slots) (hx : p.tables.exec = Jvm.exec) {pc : Nat} {Ls : Array Slot} {st : List Value} {k : Fin 4} {v : Value} (q : Nat) (hd : decode c.code pc = .ok (.aload_n k, 1)) (hq : pc + 1 = q) (hl : Ls[k.val]? = some (.val v)) (hv : v.isRef = true) (K : Go p e below Ev T (mkF m q Ls (v :: st))) : Go p e below Ev T (mkF m pc Ls st) := by
  subst hq
  exact K.on fun _ k => XS.aloadN X.here hx rfl hd hl hv k
theorem g_aload (X : Stand p l e R s m args below meth c T locs cells slots) (hx : p.tables.exec = Jvm.exec) {pc : Nat} {Ls : Array Slot} {st : List Value} {k : Nat} {v : Value} (q : Nat) (hd : decode c.code pc = .ok (.aload k, 2)) (hq : pc + 2 = q) (hl : Ls[k]? = some (.val v)) (hv : v.isRef = true) (K : Go p e below Ev T (mkF m q Ls (v :: st))) : Go p e below Ev T (mkF m pc Ls st) := by
  subst hq
  exact K.on fun _ k => XS.aload X.here hx rfl hd hl hv k
theorem g_astoreN (X : Stand p l e R s m args below meth c T locs cells slots) (hx : p.tables.exec = Jvm.exec) {pc : Nat} {Ls : Array Slot} {st : List Value} {k : Fin 4} {v : Value} {l' : Array Slot} (q : Nat) (hd : decode c.code pc = .ok (.astore_n k, 1)) (hq : pc + 1 = q) (hv : v.isRef = true) (hl : storeLocals Ls k.val v = some l') (K : Go p e below Ev T (mkF m q l' st)) : Go p e below Ev T (mkF m pc Ls (v :: st)) := by
  subst hq
  exact K.on fun _ k => XS.astoreN X.here hx rfl hd rfl hv hl k
theorem g_astore (X : Stand p l e R s m args below meth c T locs cells slots) (hx : p.tables.exec = Jvm.exec) {pc : Nat} {Ls : Array Slot} {st : List Value} {k : Nat} {v : Value} {l' : Array Slot} (q : Nat) (hd : decode c.code pc = .ok (.astore k, 2)) (hq : pc + 2 = q) (hv : v.isRef = true) (hl : storeLocals Ls k v = some l') (K : Go p e below Ev T (mkF m q l' st)) : Go p e below Ev T (mkF m pc Ls (v :: st)) := by
  subst hq
  exact K.on fun _ k => XS.astore X.here hx rfl hd rfl hv hl k
theorem g_iconst (X : Stand p l e R s m args below meth c T locs cells slots) (hx : p.tables.exec = Jvm.exec) {pc : Nat} {Ls : Array Slot} {st : List Value} {i : Int} (v : Int32) (q : Nat) (hd : decode c.code pc = .ok (.iconst i, 1)) (hq : pc + 1 = q) (hv : Int32.ofInt i = v) (K : Go p e below Ev T (mkF m q Ls (.int v :: st))) : Go p e below Ev T (mkF m pc Ls st) := by
  subst hq
  exact K.on fun _ k => XT.iconstV X.here hx rfl v hd hv k
theorem g_bipush (X : Stand p l e R s m args below meth c T locs cells slots) (hx : p.tables.exec = Jvm.exec) {pc : Nat} {Ls : Array Slot} {st : List Value} {i : Int} (v : Int32) (q : Nat) (hd : decode c.code pc = .ok (.bipush i, 2)) (hq : pc + 2 = q) (hv : (Int8.ofInt i).toInt32 = v) (K : Go p e below Ev T (mkF m q Ls (.int v :: st))) : Go p e below Ev T (mkF m pc Ls st) := by
  subst hq
  exact K.on fun _ k => XT.bipushV X.here hx rfl v hd hv k
theorem g_sipush (X : Stand p l e R s m args below meth c T locs cells slots) (hx : p.tables.exec = Jvm.exec) {pc : Nat} {Ls : Array Slot} {st : List Value} {i : Int} (v : Int32) (q : Nat) (hd : decode c.code pc = .ok (.sipush i, 3)) (hq : pc + 3 = q) (hv : (Int16.ofInt i).toInt32 = v) (K : Go p e below Ev T (mkF m q Ls (.int v :: st))) : Go p e below Ev T (mkF m pc Ls st) := by
  subst hq
  exact K.on fun _ k => XT.sipushV X.here hx rfl v hd hv k
theorem g_lconst (X : Stand p l e R s m args below meth c T locs cells slots) (hx : p.tables.exec = Jvm.exec) {pc : Nat} {Ls : Array Slot} {st : List Value} {i : Fin 2} (v : Int64) (q : Nat) (hd : decode c.code pc = .ok (.lconst i, 1)) (hq : pc + 1 = q) (hv : Int64.ofNat i = v) (K : Go p e below Ev T (mkF m q Ls (.long v :: st))) : Go p e below Ev T (mkF m pc Ls st) := by
  subst hq
  exact K.on fun _ k => XT.lconstV X.here hx rfl v hd hv k
theorem g_dconst0 (X : Stand p l e R s m args below meth c T locs cells slots) (hx : p.tables.exec = Jvm.exec) {pc : Nat} {Ls : Array Slot} {st : List Value}  (q : Nat) (hd : decode c.code pc = .ok (.dconst 0, 1)) (hq : pc + 1 = q)  (K : Go p e below Ev T (mkF m q Ls (.double 0 :: st))) : Go p e below Ev T (mkF m pc Ls st) := by
  subst hq
  exact K.on fun _ k => XS.dconst0 X.here hx rfl hd rfl k
theorem g_dconst1 (X : Stand p l e R s m args below meth c T locs cells slots) (hx : p.tables.exec = Jvm.exec) {pc : Nat} {Ls : Array Slot} {st : List Value}  (q : Nat) (hd : decode c.code pc = .ok (.dconst 1, 1)) (hq : pc + 1 = q)  (K : Go p e below Ev T (mkF m q Ls (.double 4607182418800017408 :: st))) : Go p e below Ev T (mkF m pc Ls st) := by
  subst hq
  exact K.on fun _ k => XS.dconst1 X.here hx rfl hd rfl k
theorem g_null (X : Stand p l e R s m args below meth c T locs cells slots) (hx : p.tables.exec = Jvm.exec) {pc : Nat} {Ls : Array Slot} {st : List Value}  (q : Nat) (hd : decode c.code pc = .ok (.aconst_null, 1)) (hq : pc + 1 = q)  (K : Go p e below Ev T (mkF m q Ls (.null :: st))) : Go p e below Ev T (mkF m pc Ls st) := by
  subst hq
  exact K.on fun _ k => XS.aconstNull X.here hx rfl hd k
theorem g_iinc (X : Stand p l e R s m args below meth c T locs cells slots) (hx : p.tables.exec = Jvm.exec) {pc : Nat} {Ls : Array Slot} {st : List Value} {k : Nat} {i : Int} {v w : Int32} {l' : Array Slot} (q : Nat) (hd : decode c.code pc = .ok (.iinc k i, 3)) (hq : pc + 3 = q) (hl : Ls[k]? = some (.val (.int v))) (hv : Int32.ofInt i = w) (hl' : storeLocals Ls k (.int (v + w)) = some l') (K : Go p e below Ev T (mkF m q l' st)) : Go p e below Ev T (mkF m pc Ls st) := by
  subst hq
  exact K.on fun _ k => XT.iincV X.here hx rfl w hd hv hl hl' k
theorem g_iadd (X : Stand p l e R s m args below meth c T locs cells slots) (hx : p.tables.exec = Jvm.exec) {pc : Nat} {Ls : Array Slot} {st : List Value} {x y : Int32} (q : Nat) (hd : decode c.code pc = .ok (.iadd, 1)) (hq : pc + 1 = q)  (K : Go p e below Ev T (mkF m q Ls (.int (x + y) :: st))) : Go p e below Ev T (mkF m pc Ls (.int y :: .int x :: st)) := by
  subst hq
  exact K.on fun _ k => XS.iadd X.here hx rfl hd rfl k
theorem g_ladd (X : Stand p l e R s m args below meth c T locs cells slots) (hx : p.tables.exec = Jvm.exec) {pc : Nat} {Ls : Array Slot} {st : List Value} {x y : Int64} (q : Nat) (hd : decode c.code pc = .ok (.ladd, 1)) (hq : pc + 1 = q)  (K : Go p e below Ev T (mkF m q Ls (.long (x + y) :: st))) : Go p e below Ev T (mkF m pc Ls (.long y :: .long x :: st)) := by
  subst hq
  exact K.on fun _ k => XS.ladd X.here hx rfl hd rfl k
theorem g_isub (X : Stand p l e R s m args below meth c T locs cells slots) (hx : p.tables.exec = Jvm.exec) {pc : Nat} {Ls : Array Slot} {st : List Value} {x y : Int32} (q : Nat) (hd : decode c.code pc = .ok (.isub, 1)) (hq : pc + 1 = q)  (K : Go p e below Ev T (mkF m q Ls (.int (x - y) :: st))) : Go p e below Ev T (mkF m pc Ls (.int y :: .int x :: st)) := by
  subst hq
  exact K.on fun _ k => XS.isub X.here hx rfl hd rfl k
theorem g_lsub (X : Stand p l e R s m args below meth c T locs cells slots) (hx : p.tables.exec = Jvm.exec) {pc : Nat} {Ls : Array Slot} {st : List Value} {x y : Int64} (q : Nat) (hd : decode c.code pc = .ok (.lsub, 1)) (hq : pc + 1 = q)  (K : Go p e below Ev T (mkF m q Ls (.long (x - y) :: st))) : Go p e below Ev T (mkF m pc Ls (.long y :: .long x :: st)) := by
  subst hq
  exact K.on fun _ k => XS.lsub X.here hx rfl hd rfl k
theorem g_imul (X : Stand p l e R s m args below meth c T locs cells slots) (hx : p.tables.exec = Jvm.exec) {pc : Nat} {Ls : Array Slot} {st : List Value} {x y : Int32} (q : Nat) (hd : decode c.code pc = .ok (.imul, 1)) (hq : pc + 1 = q)  (K : Go p e below Ev T (mkF m q Ls (.int (x * y) :: st))) : Go p e below Ev T (mkF m pc Ls (.int y :: .int x :: st)) := by
  subst hq
  exact K.on fun _ k => XS.imul X.here hx rfl hd rfl k
theorem g_lmul (X : Stand p l e R s m args below meth c T locs cells slots) (hx : p.tables.exec = Jvm.exec) {pc : Nat} {Ls : Array Slot} {st : List Value} {x y : Int64} (q : Nat) (hd : decode c.code pc = .ok (.lmul, 1)) (hq : pc + 1 = q)  (K : Go p e below Ev T (mkF m q Ls (.long (x * y) :: st))) : Go p e below Ev T (mkF m pc Ls (.long y :: .long x :: st)) := by
  subst hq
  exact K.on fun _ k => XS.lmul X.here hx rfl hd rfl k
theorem g_iand (X : Stand p l e R s m args below meth c T locs cells slots) (hx : p.tables.exec = Jvm.exec) {pc : Nat} {Ls : Array Slot} {st : List Value} {x y : Int32} (q : Nat) (hd : decode c.code pc = .ok (.iand, 1)) (hq : pc + 1 = q)  (K : Go p e below Ev T (mkF m q Ls (.int (x &&& y) :: st))) : Go p e below Ev T (mkF m pc Ls (.int y :: .int x :: st)) := by
  subst hq
  exact K.on fun _ k => XS.iand X.here hx rfl hd rfl k
theorem g_land (X : Stand p l e R s m args below meth c T locs cells slots) (hx : p.tables.exec = Jvm.exec) {pc : Nat} {Ls : Array Slot} {st : List Value} {x y : Int64} (q : Nat) (hd : decode c.code pc = .ok (.land, 1)) (hq : pc + 1 = q)  (K : Go p e below Ev T (mkF m q Ls (.long (x &&& y) :: st))) : Go p e below Ev T (mkF m pc Ls (.long y :: .long x :: st)) := by
  subst hq
  exact K.on fun _ k => XS.land X.here hx rfl hd rfl k
theorem g_ior (X : Stand p l e R s m args below meth c T locs cells slots) (hx : p.tables.exec = Jvm.exec) {pc : Nat} {Ls : Array Slot} {st : List Value} {x y : Int32} (q : Nat) (hd : decode c.code pc = .ok (.ior, 1)) (hq : pc + 1 = q)  (K : Go p e below Ev T (mkF m q Ls (.int (x ||| y) :: st))) : Go p e below Ev T (mkF m pc Ls (.int y :: .int x :: st)) := by
  subst hq
  exact K.on fun _ k => XS.ior X.here hx rfl hd rfl k
theorem g_lor (X : Stand p l e R s m args below meth c T locs cells slots) (hx : p.tables.exec = Jvm.exec) {pc : Nat} {Ls : Array Slot} {st : List Value} {x y : Int64} (q : Nat) (hd : decode c.code pc = .ok (.lor, 1)) (hq : pc + 1 = q)  (K : Go p e below Ev T (mkF m q Ls (.long (x ||| y) :: st))) : Go p e below Ev T (mkF m pc Ls (.long y :: .long x :: st)) := by
  subst hq
  exact K.on fun _ k => XS.lor X.here hx rfl hd rfl k
theorem g_ixor (X : Stand p l e R s m args below meth c T locs cells slots) (hx : p.tables.exec = Jvm.exec) {pc : Nat} {Ls : Array Slot} {st : List Value} {x y : Int32} (q : Nat) (hd : decode c.code pc = .ok (.ixor, 1)) (hq : pc + 1 = q)  (K : Go p e below Ev T (mkF m q Ls (.int (x ^^^ y) :: st))) : Go p e below Ev T (mkF m pc Ls (.int y :: .int x :: st)) := by
  subst hq
  exact K.on fun _ k => XS.ixor X.here hx rfl hd rfl k
theorem g_lxor (X : Stand p l e R s m args below meth c T locs cells slots) (hx : p.tables.exec = Jvm.exec) {pc : Nat} {Ls : Array Slot} {st : List Value} {x y : Int64} (q : Nat) (hd : decode c.code pc = .ok (.lxor, 1)) (hq : pc + 1 = q)  (K : Go p e below Ev T (mkF m q Ls (.long (x ^^^ y) :: st))) : Go p e below Ev T (mkF m pc Ls (.long y :: .long x :: st)) := by
  subst hq
  exact K.on fun _ k => XS.lxor X.here hx rfl hd rfl k
theorem g_idiv (X : Stand p l e R s m args below meth c T locs cells slots) (hx : p.tables.exec = Jvm.exec) {pc : Nat} {Ls : Array Slot} {st : List Value} {x y : Int32} (q : Nat) (hd : decode c.code pc = .ok (.idiv, 1)) (hq : pc + 1 = q) (hy : y ≠ 0) (K : Go p e below Ev T (mkF m q Ls (.int (x / y) :: st))) : Go p e below Ev T (mkF m pc Ls (.int y :: .int x :: st)) := by
  subst hq
  exact K.on fun _ k => XS.idiv X.here hx rfl hd rfl hy k
theorem g_ineg (X : Stand p l e R s m args below meth c T locs cells slots) (hx : p.tables.exec = Jvm.exec) {pc : Nat} {Ls : Array Slot} {st : List Value} {x : Int32} (q : Nat) (hd : decode c.code pc = .ok (.ineg, 1)) (hq : pc + 1 = q)  (K : Go p e below Ev T (mkF m q Ls (.int (-x) :: st))) : Go p e below Ev T (mkF m pc Ls (.int x :: st)) := by
  subst hq
  exact K.on fun _ k => XS.ineg X.here hx rfl hd rfl k
theorem g_ldiv (X : Stand p l e R s m args below meth c T locs cells slots) (hx : p.tables.exec = Jvm.exec) {pc : Nat} {Ls : Array Slot} {st : List Value} {x y : Int64} (q : Nat) (hd : decode c.code pc = .ok (.ldiv, 1)) (hq : pc + 1 = q) (hy : y ≠ 0) (K : Go p e below Ev T (mkF m q Ls (.long (x / y) :: st))) : Go p e below Ev T (mkF m pc Ls (.long y :: .long x :: st)) := by
  subst hq
  exact K.on fun _ k => XS.ldiv X.here hx rfl hd rfl hy k
theorem g_lneg (X : Stand p l e R s m args below meth c T locs cells slots) (hx : p.tables.exec = Jvm.exec) {pc : Nat} {Ls : Array Slot} {st : List Value} {x : Int64} (q : Nat) (hd : decode c.code pc = .ok (.lneg, 1)) (hq : pc + 1 = q)  (K : Go p e below Ev T (mkF m q Ls (.long (-x) :: st))) : Go p e below Ev T (mkF m pc Ls (.long x :: st)) := by
  subst hq
  exact K.on fun _ k => XS.lneg X.here hx rfl hd rfl k
theorem g_irem (X : Stand p l e R s m args below meth c T locs cells slots) (hx : p.tables.exec = Jvm.exec) {pc : Nat} {Ls : Array Slot} {st : List Value} {x y : Int32} (q : Nat) (hd : decode c.code pc = .ok (.irem, 1)) (hq : pc + 1 = q) (hy : y ≠ 0) (K : Go p e below Ev T (mkF m q Ls (.int (x % y) :: st))) : Go p e below Ev T (mkF m pc Ls (.int y :: .int x :: st)) := by
  subst hq
  exact K.on fun _ k => iremM X hx rfl hd rfl hy k
theorem g_lrem (X : Stand p l e R s m args below meth c T locs cells slots) (hx : p.tables.exec = Jvm.exec) {pc : Nat} {Ls : Array Slot} {st : List Value} {x y : Int64} (q : Nat) (hd : decode c.code pc = .ok (.lrem, 1)) (hq : pc + 1 = q) (hy : y ≠ 0) (K : Go p e below Ev T (mkF m q Ls (.long (x - (x / y) * y) :: st))) : Go p e below Ev T (mkF m pc Ls (.long y :: .long x :: st)) := by
  subst hq
  exact K.on fun _ k => XS.lrem X.here hx rfl hd rfl hy k
theorem g_ishl (X : Stand p l e R s m args below meth c T locs cells slots) (hx : p.tables.exec = Jvm.exec) {pc : Nat} {Ls : Array Slot} {st : List Value} {x y : Int32} (q : Nat) (hd : decode c.code pc = .ok (.ishl, 1)) (hq : pc + 1 = q)  (K : Go p e below Ev T (mkF m q Ls (.int (x <<< (y &&& 31)) :: st))) : Go p e below Ev T (mkF m pc Ls (.int y :: .int x :: st)) := by
  subst hq
  exact K.on fun _ k => XS.ishl X.here hx rfl hd rfl k
theorem g_ishr (X : Stand p l e R s m args below meth c T locs cells slots) (hx : p.tables.exec = Jvm.exec) {pc : Nat} {Ls : Array Slot} {st : List Value} {x y : Int32} (q : Nat) (hd : decode c.code pc = .ok (.ishr, 1)) (hq : pc + 1 = q)  (K : Go p e below Ev T (mkF m q Ls (.int (x >>> (y &&& 31)) :: st))) : Go p e below Ev T (mkF m pc Ls (.int y :: .int x :: st)) := by
  subst hq
  exact K.on fun _ k => XS.ishr X.here hx rfl hd rfl k
theorem g_iushr (X : Stand p l e R s m args below meth c T locs cells slots) (hx : p.tables.exec = Jvm.exec) {pc : Nat} {Ls : Array Slot} {st : List Value} {x y : Int32} (q : Nat) (hd : decode c.code pc = .ok (.iushr, 1)) (hq : pc + 1 = q)  (K : Go p e below Ev T (mkF m q Ls (.int ((x.toUInt32 >>> (y &&& 31).toUInt32).toInt32) :: st))) : Go p e below Ev T (mkF m pc Ls (.int y :: .int x :: st)) := by
  subst hq
  exact K.on fun _ k => XS.iushr X.here hx rfl hd rfl k
theorem g_lshl (X : Stand p l e R s m args below meth c T locs cells slots) (hx : p.tables.exec = Jvm.exec) {pc : Nat} {Ls : Array Slot} {st : List Value} {x : Int64} {y : Int32} (q : Nat) (hd : decode c.code pc = .ok (.lshl, 1)) (hq : pc + 1 = q)  (K : Go p e below Ev T (mkF m q Ls (.long (x <<< (y &&& 0x3f).toInt64) :: st))) : Go p e below Ev T (mkF m pc Ls (.int y :: .long x :: st)) := by
  subst hq
  exact K.on fun _ k => XS.lshl X.here hx rfl hd rfl k
theorem g_lshr (X : Stand p l e R s m args below meth c T locs cells slots) (hx : p.tables.exec = Jvm.exec) {pc : Nat} {Ls : Array Slot} {st : List Value} {x : Int64} {y : Int32} (q : Nat) (hd : decode c.code pc = .ok (.lshr, 1)) (hq : pc + 1 = q)  (K : Go p e below Ev T (mkF m q Ls (.long (x >>> (y &&& 0x3f).toInt64) :: st))) : Go p e below Ev T (mkF m pc Ls (.int y :: .long x :: st)) := by
  subst hq
  exact K.on fun _ k => XS.lshr X.here hx rfl hd rfl k
theorem g_lushr (X : Stand p l e R s m args below meth c T locs cells slots) (hx : p.tables.exec = Jvm.exec) {pc : Nat} {Ls : Array Slot} {st : List Value} {x : Int64} {y : Int32} (q : Nat) (hd : decode c.code pc = .ok (.lushr, 1)) (hq : pc + 1 = q)  (K : Go p e below Ev T (mkF m q Ls (.long ((x.toUInt64 >>> (y &&& 0x3f).toInt64.toUInt64).toInt64) :: st))) : Go p e below Ev T (mkF m pc Ls (.int y :: .long x :: st)) := by
  subst hq
  exact K.on fun _ k => XS.lushr X.here hx rfl hd rfl k
theorem g_i2l (X : Stand p l e R s m args below meth c T locs cells slots) (hx : p.tables.exec = Jvm.exec) {pc : Nat} {Ls : Array Slot} {st : List Value} {x : Int32} (q : Nat) (hd : decode c.code pc = .ok (.i2l, 1)) (hq : pc + 1 = q)  (K : Go p e below Ev T (mkF m q Ls (.long (x.toInt64) :: st))) : Go p e below Ev T (mkF m pc Ls (.int x :: st)) := by
  subst hq
  exact K.on fun _ k => XS.i2l X.here hx rfl hd rfl k
theorem g_l2i (X : Stand p l e R s m args below meth c T locs cells slots) (hx : p.tables.exec = Jvm.exec) {pc : Nat} {Ls : Array Slot} {st : List Value} {x : Int64} (q : Nat) (hd : decode c.code pc = .ok (.l2i, 1)) (hq : pc + 1 = q)  (K : Go p e below Ev T (mkF m q Ls (.int (x.toInt32) :: st))) : Go p e below Ev T (mkF m pc Ls (.long x :: st)) := by
  subst hq
  exact K.on fun _ k => XS.l2i X.here hx rfl hd rfl k
theorem g_i2b (X : Stand p l e R s m args below meth c T locs cells slots) (hx : p.tables.exec = Jvm.exec) {pc : Nat} {Ls : Array Slot} {st : List Value} {x : Int32} (q : Nat) (hd : decode c.code pc = .ok (.i2b, 1)) (hq : pc + 1 = q)  (K : Go p e below Ev T (mkF m q Ls (.int (x.toInt8.toInt32) :: st))) : Go p e below Ev T (mkF m pc Ls (.int x :: st)) := by
  subst hq
  exact K.on fun _ k => XS.i2b X.here hx rfl hd rfl k
theorem g_i2s (X : Stand p l e R s m args below meth c T locs cells slots) (hx : p.tables.exec = Jvm.exec) {pc : Nat} {Ls : Array Slot} {st : List Value} {x : Int32} (q : Nat) (hd : decode c.code pc = .ok (.i2s, 1)) (hq : pc + 1 = q)  (K : Go p e below Ev T (mkF m q Ls (.int (x.toInt16.toInt32) :: st))) : Go p e below Ev T (mkF m pc Ls (.int x :: st)) := by
  subst hq
  exact K.on fun _ k => XS.i2s X.here hx rfl hd rfl k
theorem g_i2c (X : Stand p l e R s m args below meth c T locs cells slots) (hx : p.tables.exec = Jvm.exec) {pc : Nat} {Ls : Array Slot} {st : List Value} {x : Int32} (q : Nat) (hd : decode c.code pc = .ok (.i2c, 1)) (hq : pc + 1 = q)  (K : Go p e below Ev T (mkF m q Ls (.int (x.toUInt32.toUInt16.toUInt32.toInt32) :: st))) : Go p e below Ev T (mkF m pc Ls (.int x :: st)) := by
  subst hq
  exact K.on fun _ k => XS.i2c X.here hx rfl hd rfl k
theorem g_lcmp (X : Stand p l e R s m args below meth c T locs cells slots) (hx : p.tables.exec = Jvm.exec) {pc : Nat} {Ls : Array Slot} {st : List Value} {x y : Int64} (q : Nat) (hd : decode c.code pc = .ok (.lcmp, 1)) (hq : pc + 1 = q)  (K : Go p e below Ev T (mkF m q Ls (.int (lcmpW x y) :: st))) : Go p e below Ev T (mkF m pc Ls (.long y :: .long x :: st)) := by
  subst hq
  exact K.on fun _ k => XS.lcmp X.here hx rfl hd rfl k
theorem g_i2d (X : Stand p l e R s m args below meth c T locs cells slots) (hx : p.tables.exec = Jvm.exec) {pc : Nat} {Ls : Array Slot} {st : List Value} {x : Int32} (q : Nat) (hd : decode c.code pc = .ok (.i2d, 1)) (hq : pc + 1 = q)  (K : Go p e below Ev T (mkF m q Ls (.double (FP.i2d x) :: st))) : Go p e below Ev T (mkF m pc Ls (.int x :: st)) := by
  subst hq
  exact K.on fun _ k => XS.i2dS X.here hx rfl hd rfl rfl k
theorem g_l2d (X : Stand p l e R s m args below meth c T locs cells slots) (hx : p.tables.exec = Jvm.exec) {pc : Nat} {Ls : Array Slot} {st : List Value} {x : Int64} (q : Nat) (hd : decode c.code pc = .ok (.l2d, 1)) (hq : pc + 1 = q)  (K : Go p e below Ev T (mkF m q Ls (.double (FP.l2d x) :: st))) : Go p e below Ev T (mkF m pc Ls (.long x :: st)) := by
  subst hq
  exact K.on fun _ k => XS.l2dS X.here hx rfl hd rfl rfl k
theorem g_dneg (X : Stand p l e R s m args below meth c T locs cells slots) (hx : p.tables.exec = Jvm.exec) {pc : Nat} {Ls : Array Slot} {st : List Value} {x : UInt64} (q : Nat) (hd : decode c.code pc = .ok (.dneg, 1)) (hq : pc + 1 = q)  (K : Go p e below Ev T (mkF m q Ls (.double (FP.dneg x) :: st))) : Go p e below Ev T (mkF m pc Ls (.double x :: st)) := by
  subst hq
  exact K.on fun _ k => XS.dnegS X.here hx rfl hd rfl rfl k
theorem g_dadd (X : Stand p l e R s m args below meth c T locs cells slots) (hx : p.tables.exec = Jvm.exec) {pc : Nat} {Ls : Array Slot} {st : List Value} {x y : UInt64} (q : Nat) (hd : decode c.code pc = .ok (.dadd, 1)) (hq : pc + 1 = q) (hn : Jvm.Free.Fl.NoNaN64 (FP.dadd x y)) (K : Go p e below Ev T (mkF m q Ls (.double (FP.dadd x y) :: st))) : Go p e below Ev T (mkF m pc Ls (.double y :: .double x :: st)) := by
  subst hq
  exact K.on fun _ k => XS.daddS X.here hx rfl hd rfl hn rfl k
theorem g_dsub (X : Stand p l e R s m args below meth c T locs cells slots) (hx : p.tables.exec = Jvm.exec) {pc : Nat} {Ls : Array Slot} {st : List Value} {x y : UInt64} (q : Nat) (hd : decode c.code pc = .ok (.dsub, 1)) (hq : pc + 1 = q) (hn : Jvm.Free.Fl.NoNaN64 (FP.dsub x y)) (K : Go p e below Ev T (mkF m q Ls (.double (FP.dsub x y) :: st))) : Go p e below Ev T (mkF m pc Ls (.double y :: .double x :: st)) := by
  subst hq
  exact K.on fun _ k => XS.dsubS X.here hx rfl hd rfl hn rfl k
theorem g_dmul (X : Stand p l e R s m args below meth c T locs cells slots) (hx : p.tables.exec = Jvm.exec) {pc : Nat} {Ls : Array Slot} {st : List Value} {x y : UInt64} (q : Nat) (hd : decode c.code pc = .ok (.dmul, 1)) (hq : pc + 1 = q) (hn : Jvm.Free.Fl.NoNaN64 (FP.dmul x y)) (K : Go p e below Ev T (mkF m q Ls (.double (FP.dmul x y) :: st))) : Go p e below Ev T (mkF m pc Ls (.double y :: .double x :: st)) := by
  subst hq
  exact K.on fun _ k => XS.dmulS X.here hx rfl hd rfl hn rfl k
theorem g_ddiv (X : Stand p l e R s m args below meth c T locs cells slots) (hx : p.tables.exec = Jvm.exec) {pc : Nat} {Ls : Array Slot} {st : List Value} {x y : UInt64} (q : Nat) (hd : decode c.code pc = .ok (.ddiv, 1)) (hq : pc + 1 = q) (hn : Jvm.Free.Fl.NoNaN64 (FP.ddiv x y)) (K : Go p e below Ev T (mkF m q Ls (.double (FP.ddiv x y) :: st))) : Go p e below Ev T (mkF m pc Ls (.double y :: .double x :: st)) := by
  subst hq
  exact K.on fun _ k => XS.ddivS X.here hx rfl hd rfl hn rfl k
theorem g_dcmp (X : Stand p l e R s m args below meth c T locs cells slots) (hx : p.tables.exec = Jvm.exec) {pc : Nat} {Ls : Array Slot} {st : List Value} {x y : UInt64} {o : CmpOp} {r : Int32} (q : Nat) (hd : decode c.code pc = .ok (.dcmp o, 1)) (hq : pc + 1 = q) (hr : cmpValue (FP.dcmp x y) o = r) (K : Go p e below Ev T (mkF m q Ls (.int r :: st))) : Go p e below Ev T (mkF m pc Ls (.double y :: .double x :: st)) := by
  subst hq
  exact K.on fun _ k => XS.dcmpS X.here hx rfl hd rfl hr k
theorem g_dup (X : Stand p l e R s m args below meth c T locs cells slots) (hx : p.tables.exec = Jvm.exec) {pc : Nat} {Ls : Array Slot} {st : List Value} {x : Value} (q : Nat) (hd : decode c.code pc = .ok (.dup, 1)) (hq : pc + 1 = q) (hc : x.category = 1) (K : Go p e below Ev T (mkF m q Ls (x :: x :: st))) : Go p e below Ev T (mkF m pc Ls (x :: st)) := by
  subst hq
  exact K.on fun _ k => XS.dup X.here hx rfl hd rfl hc k
theorem g_pop (X : Stand p l e R s m args below meth c T locs cells slots) (hx : p.tables.exec = Jvm.exec) {pc : Nat} {Ls : Array Slot} {st : List Value} {x : Value} (q : Nat) (hd : decode c.code pc = .ok (.pop, 1)) (hq : pc + 1 = q) (hc : x.category = 1) (K : Go p e below Ev T (mkF m q Ls st)) : Go p e below Ev T (mkF m pc Ls (x :: st)) := by
  subst hq
  exact K.on fun _ k => XS.pop X.here hx rfl hd rfl hc k
theorem g_dupX1 (X : Stand p l e R s m args below meth c T locs cells slots) (hx : p.tables.exec = Jvm.exec) {pc : Nat} {Ls : Array Slot} {st : List Value} {x y : Value} (q : Nat) (hd : decode c.code pc = .ok (.dup_x1, 1)) (hq : pc + 1 = q) (hc : x.category = 1) (hc' : y.category = 1) (K : Go p e below Ev T (mkF m q Ls (x :: y :: x :: st))) : Go p e below Ev T (mkF m pc Ls (x :: y :: st)) := by
  subst hq
  exact K.on fun _ k => XS.dupX1 X.here hx rfl hd rfl hc hc' k
theorem g_dup2 (X : Stand p l e R s m args below meth c T locs cells slots) (hx : p.tables.exec = Jvm.exec) {pc : Nat} {Ls : Array Slot} {st : List Value} {x y : Value} (q : Nat) (hd : decode c.code pc = .ok (.dup2, 1)) (hq : pc + 1 = q) (hc : x.category = 1) (hc' : y.category = 1) (K : Go p e below Ev T (mkF m q Ls (x :: y :: x :: y :: st))) : Go p e below Ev T (mkF m pc Ls (x :: y :: st)) := by
  subst hq
  exact K.on fun _ k => XT.dup2 X.here hx rfl hd rfl hc hc' k
theorem g_pop2 (X : Stand p l e R s m args below meth c T locs cells slots) (hx : p.tables.exec = Jvm.exec) {pc : Nat} {Ls : Array Slot} {st : List Value} {x : Value} (q : Nat) (hd : decode c.code pc = .ok (.pop2, 1)) (hq : pc + 1 = q) (hc : x.category = 2) (K : Go p e below Ev T (mkF m q Ls st)) : Go p e below Ev T (mkF m pc Ls (x :: st)) := by
  subst hq
  refine K.on fun t k => ?_
  jvm_step X.here [X.here.top, hx, hd, Op.pop2.wp_sem, hc]
  exact k
theorem g_ldcI (X : Stand p l e R s m args below meth c T locs cells slots) (hx : p.tables.exec = Jvm.exec) {pc : Nat} {Ls : Array Slot} {st : List Value} {own : String} {i : Nat} {v : Int32} (q : Nat) (hZ : Z.Warmed39 s.vm) (hown : s.vm.findClass own = some m.cls) (w : (Jvm.Cond.constant own i v).before a0 Z = true) (hd : decode c.code pc = .ok (.ldc i, 2)) (hq : pc + 2 = q) (K : Go p e below Ev T (mkF m q Ls (.int v :: st))) : Go p e below Ev T (mkF m pc Ls st) := by
  subst hq
  exact K.on fun _ k => X.ldcI hx hown (mvT hZ w) rfl hd k
theorem g_ldcWI (X : Stand p l e R s m args below meth c T locs cells slots) (hx : p.tables.exec = Jvm.exec) {pc : Nat} {Ls : Array Slot} {st : List Value} {own : String} {i : Nat} {v : Int32} (q : Nat) (hZ : Z.Warmed39 s.vm) (hown : s.vm.findClass own = some m.cls) (w : (Jvm.Cond.constant own i v).before a0 Z = true) (hd : decode c.code pc = .ok (.ldc_w i, 3)) (hq : pc + 3 = q) (K : Go p e below Ev T (mkF m q Ls (.int v :: st))) : Go p e below Ev T (mkF m pc Ls st) := by
  subst hq
  exact K.on fun _ k => X.ldcWI hx hown (mvT hZ w) rfl hd k
theorem g_ldc2J (X : Stand p l e R s m args below meth c T locs cells slots) (hx : p.tables.exec = Jvm.exec) {pc : Nat} {Ls : Array Slot} {st : List Value} {own : String} {i : Nat} {v : Int64} (q : Nat) (hZ : Z.Warmed39 s.vm) (hown : s.vm.findClass own = some m.cls) (w : (Jvm.Cond.constantLong own i v).before a0 Z = true) (hd : decode c.code pc = .ok (.ldc2_w i, 3)) (hq : pc + 3 = q) (K : Go p e below Ev T (mkF m q Ls (.long v :: st))) : Go p e below Ev T (mkF m pc Ls st) := by
  subst hq
  exact K.on fun _ k => X.ldc2J hx hown (mvT hZ w) rfl hd k
theorem g_ldc2D (X : Stand p l e R s m args below meth c T locs cells slots) (hx : p.tables.exec = Jvm.exec) {pc : Nat} {Ls : Array Slot} {st : List Value} {own : String} {i : Nat} {v : UInt64} (q : Nat) (hZ : Z.Warmed39 s.vm) (hown : s.vm.findClass own = some m.cls) (w : (Jvm.Cond.constantDouble own i v).before a0 Z = true) (hd : decode c.code pc = .ok (.ldc2_w i, 3)) (hq : pc + 3 = q) (K : Go p e below Ev T (mkF m q Ls (.double v :: st))) : Go p e below Ev T (mkF m pc Ls st) := by
  subst hq
  exact K.on (X.ldc2DoubleC hx hown (mvT hZ w) (g := mkF m pc Ls st) rfl hd)
theorem g_goto (X : Stand p l e R s m args below meth c T locs cells slots) (hx : p.tables.exec = Jvm.exec) {pc : Nat} {Ls : Array Slot} {st : List Value} {o : Int} (q : Nat) (hd : decode c.code pc = .ok (.goto o, 3)) (ho : 0 ≤ (pc : Int) + o) (hq : ((pc : Int) + o).toNat = q) (K : Go p e below Ev T (mkF m q Ls st)) : Go p e below Ev T (mkF m pc Ls st) :=
  K.on fun _ k => XS.goto X.here hx rfl rfl hd ho hq k
theorem own_i0 (x : Int32) : (x < 0 ↔ x.toInt < 0) ∧ (0 < x ↔ 0 < x.toInt) ∧ (x = 0 ↔ x.toInt = 0) := by
  refine ⟨by rw [Int32.lt_iff_toInt_lt]; simp, by rw [Int32.lt_iff_toInt_lt]; simp, ?_⟩
  rw [← Int32.toInt_inj]; simp
theorem g_if_eq (X : Stand p l e R s m args below meth c T locs cells slots) (hx : p.tables.exec = Jvm.exec) {pc : Nat} {Ls : Array Slot} {st : List Value} {x : Int32} {o : Int} (q1 q2 : Nat) (hd : decode c.code pc = .ok (.ifCond .eq o, 3)) (ho : 0 ≤ (pc : Int) + o) (h1 : ((pc : Int) + o).toNat = q1) (h2 : pc + 3 = q2) (Kt : x.toInt = 0 → Go p e below Ev T (mkF m q1 Ls st)) (Kf : x.toInt ≠ 0 → Go p e below Ev T (mkF m q2 Ls st)) : Go p e below Ev T (mkF m pc Ls (.int x :: st)) := by
  have Q := own_i0 x
  by_cases hc : x = 0
  · exact (Kt (by first | omega | (simp only [Q] at hc; omega))).on fun _ k => XS.ifYes X.here hx rfl rfl hd rfl (XT.i0_eq_t (by simpa using hc)) ho h1 k
  · subst h2
    exact (Kf (by first | omega | (simp only [Q] at hc; omega))).on fun _ k => XS.ifNo X.here hx rfl hd rfl (XT.i0_eq_f (by simpa using hc)) k
theorem g_if_ne (X : Stand p l e R s m args below meth c T locs cells slots) (hx : p.tables.exec = Jvm.exec) {pc : Nat} {Ls : Array Slot} {st : List Value} {x : Int32} {o : Int} (q1 q2 : Nat) (hd : decode c.code pc = .ok (.ifCond .ne o, 3)) (ho : 0 ≤ (pc : Int) + o) (h1 : ((pc : Int) + o).toNat = q1) (h2 : pc + 3 = q2) (Kt : x.toInt ≠ 0 → Go p e below Ev T (mkF m q1 Ls st)) (Kf : x.toInt = 0 → Go p e below Ev T (mkF m q2 Ls st)) : Go p e below Ev T (mkF m pc Ls (.int x :: st)) := by
  have Q := own_i0 x
  by_cases hc : ¬ x = 0
  · exact (Kt (by first | omega | (simp only [Q] at hc; omega))).on fun _ k => XS.ifYes X.here hx rfl rfl hd rfl (XT.i0_ne_t (by simpa using hc)) ho h1 k
  · subst h2
    exact (Kf (by first | omega | (simp only [Q] at hc; omega))).on fun _ k => XS.ifNo X.here hx rfl hd rfl (XT.i0_ne_f (by simpa using hc)) k
theorem g_if_lt (X : Stand p l e R s m args below meth c T locs cells slots) (hx : p.tables.exec = Jvm.exec) {pc : Nat} {Ls : Array Slot} {st : List Value} {x : Int32} {o : Int} (q1 q2 : Nat) (hd : decode c.code pc = .ok (.ifCond .lt o, 3)) (ho : 0 ≤ (pc : Int) + o) (h1 : ((pc : Int) + o).toNat = q1) (h2 : pc + 3 = q2) (Kt : x.toInt < 0 → Go p e below Ev T (mkF m q1 Ls st)) (Kf : 0 ≤ x.toInt → Go p e below Ev T (mkF m q2 Ls st)) : Go p e below Ev T (mkF m pc Ls (.int x :: st)) := by
  have Q := own_i0 x
  by_cases hc : x < 0
  · exact (Kt (by first | omega | (simp only [Q] at hc; omega))).on fun _ k => XS.ifYes X.here hx rfl rfl hd rfl (XT.i0_lt_t (by simpa using hc)) ho h1 k
  · subst h2
    exact (Kf (by first | omega | (simp only [Q] at hc; omega))).on fun _ k => XS.ifNo X.here hx rfl hd rfl (XT.i0_lt_f (by simpa using hc)) k
theorem g_if_ge (X : Stand p l e R s m args below meth c T locs cells slots) (hx : p.tables.exec = Jvm.exec) {pc : Nat} {Ls : Array Slot} {st : List Value} {x : Int32} {o : Int} (q1 q2 : Nat) (hd : decode c.code pc = .ok (.ifCond .ge o, 3)) (ho : 0 ≤ (pc : Int) + o) (h1 : ((pc : Int) + o).toNat = q1) (h2 : pc + 3 = q2) (Kt : 0 ≤ x.toInt → Go p e below Ev T (mkF m q1 Ls st)) (Kf : x.toInt < 0 → Go p e below Ev T (mkF m q2 Ls st)) : Go p e below Ev T (mkF m pc Ls (.int x :: st)) := by
  have Q := own_i0 x
  by_cases hc : ¬ x < 0
  · exact (Kt (by first | omega | (simp only [Q] at hc; omega))).on fun _ k => XS.ifYes X.here hx rfl rfl hd rfl (XT.i0_ge_t (by simpa using hc)) ho h1 k
  · subst h2
    exact (Kf (by first | omega | (simp only [Q] at hc; omega))).on fun _ k => XS.ifNo X.here hx rfl hd rfl (XT.i0_ge_f (by simpa using hc)) k
theorem g_if_gt (X : Stand p l e R s m args below meth c T locs cells slots) (hx : p.tables.exec = Jvm.exec) {pc : Nat} {Ls : Array Slot} {st : List Value} {x : Int32} {o : Int} (q1 q2 : Nat) (hd : decode c.code pc = .ok (.ifCond .gt o, 3)) (ho : 0 ≤ (pc : Int) + o) (h1 : ((pc : Int) + o).toNat = q1) (h2 : pc + 3 = q2) (Kt : 0 < x.toInt → Go p e below Ev T (mkF m q1 Ls st)) (Kf : x.toInt ≤ 0 → Go p e below Ev T (mkF m q2 Ls st)) : Go p e below Ev T (mkF m pc Ls (.int x :: st)) := by
  have Q := own_i0 x
  by_cases hc : 0 < x
  · exact (Kt (by first | omega | (simp only [Q] at hc; omega))).on fun _ k => XS.ifYes X.here hx rfl rfl hd rfl (XT.i0_gt_t (by simpa using hc)) ho h1 k
  · subst h2
    exact (Kf (by first | omega | (simp only [Q] at hc; omega))).on fun _ k => XS.ifNo X.here hx rfl hd rfl (XT.i0_gt_f (by simpa using hc)) k
theorem g_if_le (X : Stand p l e R s m args below meth c T locs cells slots) (hx : p.tables.exec = Jvm.exec) {pc : Nat} {Ls : Array Slot} {st : List Value} {x : Int32} {o : Int} (q1 q2 : Nat) (hd : decode c.code pc = .ok (.ifCond .le o, 3)) (ho : 0 ≤ (pc : Int) + o) (h1 : ((pc : Int) + o).toNat = q1) (h2 : pc + 3 = q2) (Kt : x.toInt ≤ 0 → Go p e below Ev T (mkF m q1 Ls st)) (Kf : 0 < x.toInt → Go p e below Ev T (mkF m q2 Ls st)) : Go p e below Ev T (mkF m pc Ls (.int x :: st)) := by
  have Q := own_i0 x
  by_cases hc : ¬ 0 < x
  · exact (Kt (by first | omega | (simp only [Q] at hc; omega))).on fun _ k => XS.ifYes X.here hx rfl rfl hd rfl (XT.i0_le_t (by simpa using hc)) ho h1 k
  · subst h2
    exact (Kf (by first | omega | (simp only [Q] at hc; omega))).on fun _ k => XS.ifNo X.here hx rfl hd rfl (XT.i0_le_f (by simpa using hc)) k
theorem own_ii (x y : Int32) : (x < y ↔ x.toInt < y.toInt) ∧ (y < x ↔ y.toInt < x.toInt) ∧ (x = y ↔ x.toInt = y.toInt) := by
  exact ⟨Int32.lt_iff_toInt_lt, Int32.lt_iff_toInt_lt, Int32.toInt_inj.symm⟩
theorem g_ic_eq (X : Stand p l e R s m args below meth c T locs cells slots) (hx : p.tables.exec = Jvm.exec) {pc : Nat} {Ls : Array Slot} {st : List Value} {x y : Int32} {o : Int} (q1 q2 : Nat) (hd : decode c.code pc = .ok (.if_icmp .eq o, 3)) (ho : 0 ≤ (pc : Int) + o) (h1 : ((pc : Int) + o).toNat = q1) (h2 : pc + 3 = q2) (Kt : x.toInt = y.toInt → Go p e below Ev T (mkF m q1 Ls st)) (Kf : x.toInt ≠ y.toInt → Go p e below Ev T (mkF m q2 Ls st)) : Go p e below Ev T (mkF m pc Ls (.int y :: .int x :: st)) := by
  have Q := own_ii x y
  by_cases hc : x = y
  · exact (Kt (by first | omega | (simp only [Q] at hc; omega))).on fun _ k => XS.icmpYes X.here hx rfl rfl hd rfl (XT.ii_eq_t (by simpa using hc)) ho h1 k
  · subst h2
    exact (Kf (by first | omega | (simp only [Q] at hc; omega))).on fun _ k => XS.icmpNo X.here hx rfl hd rfl (XT.ii_eq_f (by simpa using hc)) k
theorem g_ic_ne (X : Stand p l e R s m args below meth c T locs cells slots) (hx : p.tables.exec = Jvm.exec) {pc : Nat} {Ls : Array Slot} {st : List Value} {x y : Int32} {o : Int} (q1 q2 : Nat) (hd : decode c.code pc = .ok (.if_icmp .ne o, 3)) (ho : 0 ≤ (pc : Int) + o) (h1 : ((pc : Int) + o).toNat = q1) (h2 : pc + 3 = q2) (Kt : x.toInt ≠ y.toInt → Go p e below Ev T (mkF m q1 Ls st)) (Kf : x.toInt = y.toInt → Go p e below Ev T (mkF m q2 Ls st)) : Go p e below Ev T (mkF m pc Ls (.int y :: .int x :: st)) := by
  have Q := own_ii x y
  by_cases hc : ¬ x = y
  · exact (Kt (by first | omega | (simp only [Q] at hc; omega))).on fun _ k => XS.icmpYes X.here hx rfl rfl hd rfl (XT.ii_ne_t (by simpa using hc)) ho h1 k
  · subst h2
    exact (Kf (by first | omega | (simp only [Q] at hc; omega))).on fun _ k => XS.icmpNo X.here hx rfl hd rfl (XT.ii_ne_f (by simpa using hc)) k
theorem g_ic_lt (X : Stand p l e R s m args below meth c T locs cells slots) (hx : p.tables.exec = Jvm.exec) {pc : Nat} {Ls : Array Slot} {st : List Value} {x y : Int32} {o : Int} (q1 q2 : Nat) (hd : decode c.code pc = .ok (.if_icmp .lt o, 3)) (ho : 0 ≤ (pc : Int) + o) (h1 : ((pc : Int) + o).toNat = q1) (h2 : pc + 3 = q2) (Kt : x.toInt < y.toInt → Go p e below Ev T (mkF m q1 Ls st)) (Kf : y.toInt ≤ x.toInt → Go p e below Ev T (mkF m q2 Ls st)) : Go p e below Ev T (mkF m pc Ls (.int y :: .int x :: st)) := by
  have Q := own_ii x y
  by_cases hc : x < y
  · exact (Kt (by first | omega | (simp only [Q] at hc; omega))).on fun _ k => XS.icmpYes X.here hx rfl rfl hd rfl (XT.ii_lt_t (by simpa using hc)) ho h1 k
  · subst h2
    exact (Kf (by first | omega | (simp only [Q] at hc; omega))).on fun _ k => XS.icmpNo X.here hx rfl hd rfl (XT.ii_lt_f (by simpa using hc)) k
theorem g_ic_ge (X : Stand p l e R s m args below meth c T locs cells slots) (hx : p.tables.exec = Jvm.exec) {pc : Nat} {Ls : Array Slot} {st : List Value} {x y : Int32} {o : Int} (q1 q2 : Nat) (hd : decode c.code pc = .ok (.if_icmp .ge o, 3)) (ho : 0 ≤ (pc : Int) + o) (h1 : ((pc : Int) + o).toNat = q1) (h2 : pc + 3 = q2) (Kt : y.toInt ≤ x.toInt → Go p e below Ev T (mkF m q1 Ls st)) (Kf : x.toInt < y.toInt → Go p e below Ev T (mkF m q2 Ls st)) : Go p e below Ev T (mkF m pc Ls (.int y :: .int x :: st)) := by
  have Q := own_ii x y
  by_cases hc : ¬ x < y
  · exact (Kt (by first | omega | (simp only [Q] at hc; omega))).on fun _ k => XS.icmpYes X.here hx rfl rfl hd rfl (XT.ii_ge_t (by simpa using hc)) ho h1 k
  · subst h2
    exact (Kf (by first | omega | (simp only [Q] at hc; omega))).on fun _ k => XS.icmpNo X.here hx rfl hd rfl (XT.ii_ge_f (by simpa using hc)) k
theorem g_ic_gt (X : Stand p l e R s m args below meth c T locs cells slots) (hx : p.tables.exec = Jvm.exec) {pc : Nat} {Ls : Array Slot} {st : List Value} {x y : Int32} {o : Int} (q1 q2 : Nat) (hd : decode c.code pc = .ok (.if_icmp .gt o, 3)) (ho : 0 ≤ (pc : Int) + o) (h1 : ((pc : Int) + o).toNat = q1) (h2 : pc + 3 = q2) (Kt : y.toInt < x.toInt → Go p e below Ev T (mkF m q1 Ls st)) (Kf : x.toInt ≤ y.toInt → Go p e below Ev T (mkF m q2 Ls st)) : Go p e below Ev T (mkF m pc Ls (.int y :: .int x :: st)) := by
  have Q := own_ii x y
  by_cases hc : y < x
  · exact (Kt (by first | omega | (simp only [Q] at hc; omega))).on fun _ k => XS.icmpYes X.here hx rfl rfl hd rfl (XT.ii_gt_t (by simpa using hc)) ho h1 k
  · subst h2
    exact (Kf (by first | omega | (simp only [Q] at hc; omega))).on fun _ k => XS.icmpNo X.here hx rfl hd rfl (XT.ii_gt_f (by simpa using hc)) k
theorem g_ic_le (X : Stand p l e R s m args below meth c T locs cells slots) (hx : p.tables.exec = Jvm.exec) {pc : Nat} {Ls : Array Slot} {st : List Value} {x y : Int32} {o : Int} (q1 q2 : Nat) (hd : decode c.code pc = .ok (.if_icmp .le o, 3)) (ho : 0 ≤ (pc : Int) + o) (h1 : ((pc : Int) + o).toNat = q1) (h2 : pc + 3 = q2) (Kt : x.toInt ≤ y.toInt → Go p e below Ev T (mkF m q1 Ls st)) (Kf : y.toInt < x.toInt → Go p e below Ev T (mkF m q2 Ls st)) : Go p e below Ev T (mkF m pc Ls (.int y :: .int x :: st)) := by
  have Q := own_ii x y
  by_cases hc : ¬ y < x
  · exact (Kt (by first | omega | (simp only [Q] at hc; omega))).on fun _ k => XS.icmpYes X.here hx rfl rfl hd rfl (XT.ii_le_t (by simpa using hc)) ho h1 k
  · subst h2
    exact (Kf (by first | omega | (simp only [Q] at hc; omega))).on fun _ k => XS.icmpNo X.here hx rfl hd rfl (XT.ii_le_f (by simpa using hc)) k
theorem g_lc_eq (X : Stand p l e R s m args below meth c T locs cells slots) (hx : p.tables.exec = Jvm.exec) {pc : Nat} {Ls : Array Slot} {st : List Value} {x y : Int64} {o : Int} (q0 q1 q2 : Nat) (hd0 : decode c.code pc = .ok (.lcmp, 1)) (h0 : pc + 1 = q0) (hd : decode c.code q0 = .ok (.ifCond .eq o, 3)) (ho : 0 ≤ (q0 : Int) + o) (h1 : ((q0 : Int) + o).toNat = q1) (h2 : q0 + 3 = q2) (Kt : x.toInt = y.toInt → Go p e below Ev T (mkF m q1 Ls st)) (Kf : x.toInt ≠ y.toInt → Go p e below Ev T (mkF m q2 Ls st)) : Go p e below Ev T (mkF m pc Ls (.long y :: .long x :: st)) := by
  have Q := c_lcmp x y
  have C : x.toInt < y.toInt ∨ x.toInt = y.toInt ∨ y.toInt < x.toInt := by omega
  refine g_lcmp X hx q0 hd0 h0 (g_if_eq X hx q1 q2 hd ho h1 h2 (fun hc => Kt ?_) (fun hc => Kf ?_)) <;> (rcases C with C | C | C <;> first | (have := Q.1 C; omega) | (have := Q.2.1 C; omega) | (have := Q.2.2 C; omega))
theorem g_lc_ne (X : Stand p l e R s m args below meth c T locs cells slots) (hx : p.tables.exec = Jvm.exec) {pc : Nat} {Ls : Array Slot} {st : List Value} {x y : Int64} {o : Int} (q0 q1 q2 : Nat) (hd0 : decode c.code pc = .ok (.lcmp, 1)) (h0 : pc + 1 = q0) (hd : decode c.code q0 = .ok (.ifCond .ne o, 3)) (ho : 0 ≤ (q0 : Int) + o) (h1 : ((q0 : Int) + o).toNat = q1) (h2 : q0 + 3 = q2) (Kt : x.toInt ≠ y.toInt → Go p e below Ev T (mkF m q1 Ls st)) (Kf : x.toInt = y.toInt → Go p e below Ev T (mkF m q2 Ls st)) : Go p e below Ev T (mkF m pc Ls (.long y :: .long x :: st)) := by
  have Q := c_lcmp x y
  have C : x.toInt < y.toInt ∨ x.toInt = y.toInt ∨ y.toInt < x.toInt := by omega
  refine g_lcmp X hx q0 hd0 h0 (g_if_ne X hx q1 q2 hd ho h1 h2 (fun hc => Kt ?_) (fun hc => Kf ?_)) <;> (rcases C with C | C | C <;> first | (have := Q.1 C; omega) | (have := Q.2.1 C; omega) | (have := Q.2.2 C; omega))
theorem g_lc_lt (X : Stand p l e R s m args below meth c T locs cells slots) (hx : p.tables.exec = Jvm.exec) {pc : Nat} {Ls : Array Slot} {st : List Value} {x y : Int64} {o : Int} (q0 q1 q2 : Nat) (hd0 : decode c.code pc = .ok (.lcmp, 1)) (h0 : pc + 1 = q0) (hd : decode c.code q0 = .ok (.ifCond .lt o, 3)) (ho : 0 ≤ (q0 : Int) + o) (h1 : ((q0 : Int) + o).toNat = q1) (h2 : q0 + 3 = q2) (Kt : x.toInt < y.toInt → Go p e below Ev T (mkF m q1 Ls st)) (Kf : y.toInt ≤ x.toInt → Go p e below Ev T (mkF m q2 Ls st)) : Go p e below Ev T (mkF m pc Ls (.long y :: .long x :: st)) := by
  have Q := c_lcmp x y
  have C : x.toInt < y.toInt ∨ x.toInt = y.toInt ∨ y.toInt < x.toInt := by omega
  refine g_lcmp X hx q0 hd0 h0 (g_if_lt X hx q1 q2 hd ho h1 h2 (fun hc => Kt ?_) (fun hc => Kf ?_)) <;> (rcases C with C | C | C <;> first | (have := Q.1 C; omega) | (have := Q.2.1 C; omega) | (have := Q.2.2 C; omega))
theorem g_lc_ge (X : Stand p l e R s m args below meth c T locs cells slots) (hx : p.tables.exec = Jvm.exec) {pc : Nat} {Ls : Array Slot} {st : List Value} {x y : Int64} {o : Int} (q0 q1 q2 : Nat) (hd0 : decode c.code pc = .ok (.lcmp, 1)) (h0 : pc + 1 = q0) (hd : decode c.code q0 = .ok (.ifCond .ge o, 3)) (ho : 0 ≤ (q0 : Int) + o) (h1 : ((q0 : Int) + o).toNat = q1) (h2 : q0 + 3 = q2) (Kt : y.toInt ≤ x.toInt → Go p e below Ev T (mkF m q1 Ls st)) (Kf : x.toInt < y.toInt → Go p e below Ev T (mkF m q2 Ls st)) : Go p e below Ev T (mkF m pc Ls (.long y :: .long x :: st)) := by
  have Q := c_lcmp x y
  have C : x.toInt < y.toInt ∨ x.toInt = y.toInt ∨ y.toInt < x.toInt := by omega
  refine g_lcmp X hx q0 hd0 h0 (g_if_ge X hx q1 q2 hd ho h1 h2 (fun hc => Kt ?_) (fun hc => Kf ?_)) <;> (rcases C with C | C | C <;> first | (have := Q.1 C; omega) | (have := Q.2.1 C; omega) | (have := Q.2.2 C; omega))
theorem g_lc_gt (X : Stand p l e R s m args below meth c T locs cells slots) (hx : p.tables.exec = Jvm.exec) {pc : Nat} {Ls : Array Slot} {st : List Value} {x y : Int64} {o : Int} (q0 q1 q2 : Nat) (hd0 : decode c.code pc = .ok (.lcmp, 1)) (h0 : pc + 1 = q0) (hd : decode c.code q0 = .ok (.ifCond .gt o, 3)) (ho : 0 ≤ (q0 : Int) + o) (h1 : ((q0 : Int) + o).toNat = q1) (h2 : q0 + 3 = q2) (Kt : y.toInt < x.toInt → Go p e below Ev T (mkF m q1 Ls st)) (Kf : x.toInt ≤ y.toInt → Go p e below Ev T (mkF m q2 Ls st)) : Go p e below Ev T (mkF m pc Ls (.long y :: .long x :: st)) := by
  have Q := c_lcmp x y
  have C : x.toInt < y.toInt ∨ x.toInt = y.toInt ∨ y.toInt < x.toInt := by omega
  refine g_lcmp X hx q0 hd0 h0 (g_if_gt X hx q1 q2 hd ho h1 h2 (fun hc => Kt ?_) (fun hc => Kf ?_)) <;> (rcases C with C | C | C <;> first | (have := Q.1 C; omega) | (have := Q.2.1 C; omega) | (have := Q.2.2 C; omega))
theorem g_lc_le (X : Stand p l e R s m args below meth c T locs cells slots) (hx : p.tables.exec = Jvm.exec) {pc : Nat} {Ls : Array Slot} {st : List Value} {x y : Int64} {o : Int} (q0 q1 q2 : Nat) (hd0 : decode c.code pc = .ok (.lcmp, 1)) (h0 : pc + 1 = q0) (hd : decode c.code q0 = .ok (.ifCond .le o, 3)) (ho : 0 ≤ (q0 : Int) + o) (h1 : ((q0 : Int) + o).toNat = q1) (h2 : q0 + 3 = q2) (Kt : x.toInt ≤ y.toInt → Go p e below Ev T (mkF m q1 Ls st)) (Kf : y.toInt < x.toInt → Go p e below Ev T (mkF m q2 Ls st)) : Go p e below Ev T (mkF m pc Ls (.long y :: .long x :: st)) := by
  have Q := c_lcmp x y
  have C : x.toInt < y.toInt ∨ x.toInt = y.toInt ∨ y.toInt < x.toInt := by omega
  refine g_lcmp X hx q0 hd0 h0 (g_if_le X hx q1 q2 hd ho h1 h2 (fun hc => Kt ?_) (fun hc => Kf ?_)) <;> (rcases C with C | C | C <;> first | (have := Q.1 C; omega) | (have := Q.2.1 C; omega) | (have := Q.2.2 C; omega))
theorem own_cmpv (i j : Int) (o : CmpOp) : (i < j → (cmpValue (some (compare i j)) o).toInt = -1) ∧ (i = j → (cmpValue (some (compare i j)) o).toInt = 0) ∧ (j < i → (cmpValue (some (compare i j)) o).toInt = 1) := by
  refine ⟨fun q => ?_, fun q => ?_, fun q => ?_⟩
  · rw [show compare i j = .lt from by rw [Jvm.FP.Core.compare_ite]; simp [q]]; cases o <;> rfl
  · rw [show compare i j = .eq from by rw [Jvm.FP.Core.compare_ite]; simp [q]]; cases o <;> rfl
  · rw [show compare i j = .gt from by rw [Jvm.FP.Core.compare_ite]; simp [show ¬ i < j by omega, show ¬ i = j by omega]]; cases o <;> rfl
theorem g_dc_eq (X : Stand p l e R s m args below meth c T locs cells slots) (hx : p.tables.exec = Jvm.exec) {pc : Nat} {Ls : Array Slot} {st : List Value} {x y : UInt64} {oo : CmpOp} {i j : Int} {o : Int} (q0 q1 q2 : Nat) (hd0 : decode c.code pc = .ok (.dcmp oo, 1)) (h0 : pc + 1 = q0) (hd : decode c.code q0 = .ok (.ifCond .eq o, 3)) (ho : 0 ≤ (q0 : Int) + o) (h1 : ((q0 : Int) + o).toNat = q1) (h2 : q0 + 3 = q2) (hv : FP.dcmp x y = some (compare i j)) (Kt : i = j → Go p e below Ev T (mkF m q1 Ls st)) (Kf : i ≠ j → Go p e below Ev T (mkF m q2 Ls st)) : Go p e below Ev T (mkF m pc Ls (.double y :: .double x :: st)) := by
  have Q := own_cmpv i j oo
  have C : i < j ∨ i = j ∨ j < i := by omega
  refine g_dcmp X hx q0 hd0 h0 (by rw [hv]) (g_if_eq X hx q1 q2 hd ho h1 h2 (fun hc => Kt ?_) (fun hc => Kf ?_)) <;> (rcases C with C | C | C <;> first | (have := Q.1 C; omega) | (have := Q.2.1 C; omega) | (have := Q.2.2 C; omega))
theorem g_dc_ne (X : Stand p l e R s m args below meth c T locs cells slots) (hx : p.tables.exec = Jvm.exec) {pc : Nat} {Ls : Array Slot} {st : List Value} {x y : UInt64} {oo : CmpOp} {i j : Int} {o : Int} (q0 q1 q2 : Nat) (hd0 : decode c.code pc = .ok (.dcmp oo, 1)) (h0 : pc + 1 = q0) (hd : decode c.code q0 = .ok (.ifCond .ne o, 3)) (ho : 0 ≤ (q0 : Int) + o) (h1 : ((q0 : Int) + o).toNat = q1) (h2 : q0 + 3 = q2) (hv : FP.dcmp x y = some (compare i j)) (Kt : i ≠ j → Go p e below Ev T (mkF m q1 Ls st)) (Kf : i = j → Go p e below Ev T (mkF m q2 Ls st)) : Go p e below Ev T (mkF m pc Ls (.double y :: .double x :: st)) := by
  have Q := own_cmpv i j oo
  have C : i < j ∨ i = j ∨ j < i := by omega
  refine g_dcmp X hx q0 hd0 h0 (by rw [hv]) (g_if_ne X hx q1 q2 hd ho h1 h2 (fun hc => Kt ?_) (fun hc => Kf ?_)) <;> (rcases C with C | C | C <;> first | (have := Q.1 C; omega) | (have := Q.2.1 C; omega) | (have := Q.2.2 C; omega))
theorem g_dc_lt (X : Stand p l e R s m args below meth c T locs cells slots) (hx : p.tables.exec = Jvm.exec) {pc : Nat} {Ls : Array Slot} {st : List Value} {x y : UInt64} {oo : CmpOp} {i j : Int} {o : Int} (q0 q1 q2 : Nat) (hd0 : decode c.code pc = .ok (.dcmp oo, 1)) (h0 : pc + 1 = q0) (hd : decode c.code q0 = .ok (.ifCond .lt o, 3)) (ho : 0 ≤ (q0 : Int) + o) (h1 : ((q0 : Int) + o).toNat = q1) (h2 : q0 + 3 = q2) (hv : FP.dcmp x y = some (compare i j)) (Kt : i < j → Go p e below Ev T (mkF m q1 Ls st)) (Kf : j ≤ i → Go p e below Ev T (mkF m q2 Ls st)) : Go p e below Ev T (mkF m pc Ls (.double y :: .double x :: st)) := by
  have Q := own_cmpv i j oo
  have C : i < j ∨ i = j ∨ j < i := by omega
  refine g_dcmp X hx q0 hd0 h0 (by rw [hv]) (g_if_lt X hx q1 q2 hd ho h1 h2 (fun hc => Kt ?_) (fun hc => Kf ?_)) <;> (rcases C with C | C | C <;> first | (have := Q.1 C; omega) | (have := Q.2.1 C; omega) | (have := Q.2.2 C; omega))
theorem g_dc_ge (X : Stand p l e R s m args below meth c T locs cells slots) (hx : p.tables.exec = Jvm.exec) {pc : Nat} {Ls : Array Slot} {st : List Value} {x y : UInt64} {oo : CmpOp} {i j : Int} {o : Int} (q0 q1 q2 : Nat) (hd0 : decode c.code pc = .ok (.dcmp oo, 1)) (h0 : pc + 1 = q0) (hd : decode c.code q0 = .ok (.ifCond .ge o, 3)) (ho : 0 ≤ (q0 : Int) + o) (h1 : ((q0 : Int) + o).toNat = q1) (h2 : q0 + 3 = q2) (hv : FP.dcmp x y = some (compare i j)) (Kt : j ≤ i → Go p e below Ev T (mkF m q1 Ls st)) (Kf : i < j → Go p e below Ev T (mkF m q2 Ls st)) : Go p e below Ev T (mkF m pc Ls (.double y :: .double x :: st)) := by
  have Q := own_cmpv i j oo
  have C : i < j ∨ i = j ∨ j < i := by omega
  refine g_dcmp X hx q0 hd0 h0 (by rw [hv]) (g_if_ge X hx q1 q2 hd ho h1 h2 (fun hc => Kt ?_) (fun hc => Kf ?_)) <;> (rcases C with C | C | C <;> first | (have := Q.1 C; omega) | (have := Q.2.1 C; omega) | (have := Q.2.2 C; omega))
theorem g_dc_gt (X : Stand p l e R s m args below meth c T locs cells slots) (hx : p.tables.exec = Jvm.exec) {pc : Nat} {Ls : Array Slot} {st : List Value} {x y : UInt64} {oo : CmpOp} {i j : Int} {o : Int} (q0 q1 q2 : Nat) (hd0 : decode c.code pc = .ok (.dcmp oo, 1)) (h0 : pc + 1 = q0) (hd : decode c.code q0 = .ok (.ifCond .gt o, 3)) (ho : 0 ≤ (q0 : Int) + o) (h1 : ((q0 : Int) + o).toNat = q1) (h2 : q0 + 3 = q2) (hv : FP.dcmp x y = some (compare i j)) (Kt : j < i → Go p e below Ev T (mkF m q1 Ls st)) (Kf : i ≤ j → Go p e below Ev T (mkF m q2 Ls st)) : Go p e below Ev T (mkF m pc Ls (.double y :: .double x :: st)) := by
  have Q := own_cmpv i j oo
  have C : i < j ∨ i = j ∨ j < i := by omega
  refine g_dcmp X hx q0 hd0 h0 (by rw [hv]) (g_if_gt X hx q1 q2 hd ho h1 h2 (fun hc => Kt ?_) (fun hc => Kf ?_)) <;> (rcases C with C | C | C <;> first | (have := Q.1 C; omega) | (have := Q.2.1 C; omega) | (have := Q.2.2 C; omega))
theorem g_dc_le (X : Stand p l e R s m args below meth c T locs cells slots) (hx : p.tables.exec = Jvm.exec) {pc : Nat} {Ls : Array Slot} {st : List Value} {x y : UInt64} {oo : CmpOp} {i j : Int} {o : Int} (q0 q1 q2 : Nat) (hd0 : decode c.code pc = .ok (.dcmp oo, 1)) (h0 : pc + 1 = q0) (hd : decode c.code q0 = .ok (.ifCond .le o, 3)) (ho : 0 ≤ (q0 : Int) + o) (h1 : ((q0 : Int) + o).toNat = q1) (h2 : q0 + 3 = q2) (hv : FP.dcmp x y = some (compare i j)) (Kt : i ≤ j → Go p e below Ev T (mkF m q1 Ls st)) (Kf : j < i → Go p e below Ev T (mkF m q2 Ls st)) : Go p e below Ev T (mkF m pc Ls (.double y :: .double x :: st)) := by
  have Q := own_cmpv i j oo
  have C : i < j ∨ i = j ∨ j < i := by omega
  refine g_dcmp X hx q0 hd0 h0 (by rw [hv]) (g_if_le X hx q1 q2 hd ho h1 h2 (fun hc => Kt ?_) (fun hc => Kf ?_)) <;> (rcases C with C | C | C <;> first | (have := Q.1 C; omega) | (have := Q.2.1 C; omega) | (have := Q.2.2 C; omega))
theorem g_ifnull_t (X : Stand p l e R s m args below meth c T locs cells slots) (hx : p.tables.exec = Jvm.exec) {pc : Nat} {Ls : Array Slot} {st : List Value} {o : Int} (q : Nat) (hd : decode c.code pc = .ok (.ifnull o, 3)) (ho : 0 ≤ (pc : Int) + o) (h1 : ((pc : Int) + o).toNat = q) (K : Go p e below Ev T (mkF m q Ls st)) : Go p e below Ev T (mkF m pc Ls (.null :: st)) :=
  K.on fun _ k => XS.ifnullYes X.here hx rfl rfl hd rfl ho h1 k
theorem g_ifnull_f (X : Stand p l e R s m args below meth c T locs cells slots) (hx : p.tables.exec = Jvm.exec) {pc : Nat} {Ls : Array Slot} {st : List Value} {o : Int} {b : Addr} (q : Nat) (hd : decode c.code pc = .ok (.ifnull o, 3)) (h1 : pc + 3 = q) (K : Go p e below Ev T (mkF m q Ls st)) : Go p e below Ev T (mkF m pc Ls (.ref b :: st)) := by
  subst h1
  exact K.on fun _ k => XS.ifnullNo X.here hx rfl hd rfl k
theorem g_ifnonnull_t (X : Stand p l e R s m args below meth c T locs cells slots) (hx : p.tables.exec = Jvm.exec) {pc : Nat} {Ls : Array Slot} {st : List Value} {o : Int} {b : Addr} (q : Nat) (hd : decode c.code pc = .ok (.ifnonnull o, 3)) (ho : 0 ≤ (pc : Int) + o) (h1 : ((pc : Int) + o).toNat = q) (K : Go p e below Ev T (mkF m q Ls st)) : Go p e below Ev T (mkF m pc Ls (.ref b :: st)) :=
  K.on fun _ k => XS.ifnonnullYes X.here hx rfl rfl hd rfl ho h1 k
theorem g_ifnonnull_f (X : Stand p l e R s m args below meth c T locs cells slots) (hx : p.tables.exec = Jvm.exec) {pc : Nat} {Ls : Array Slot} {st : List Value} {o : Int} (q : Nat) (hd : decode c.code pc = .ok (.ifnonnull o, 3)) (h1 : pc + 3 = q) (K : Go p e below Ev T (mkF m q Ls st)) : Go p e below Ev T (mkF m pc Ls (.null :: st)) := by
  subst h1
  exact K.on fun _ k => XS.ifnonnullNo X.here hx rfl hd rfl k
theorem g_new (X : Stand p l e R s m args below meth c T locs cells slots) (hx : p.tables.exec = Jvm.exec) {pc : Nat} {Ls : Array Slot} {st : List Value} (hZ : Z.Warmed39 s.vm) {own C : String} {i n : Nat} (hown : s.vm.findClass own = some m.cls) (w : (Jvm.Cond.classLink own i C).before a0 Z = true) (wi : (Jvm.Cond.instantiable C n).before a0 Z = true) (wz : (Jvm.Cond.initialized C).before a0 Z = true) (eT : T.heap = h) (q : Nat) (hd : decode c.code pc = .ok (.new i, 3)) (hq : pc + 3 = q) (hc : cells + 1 ≤ R.cells) (hl : slots + n ≤ R.slots)
    (K : ∀ (T' : State) (h' : Heap) (a : Addr), a = h.size → Stand p l e R s m args below meth c T' locs (cells + 1) (slots + n) → T'.heap = h' → Ext h h' → Exa Z h' a C → (∀ {O nm d : String} {ty : FieldType}, Laid Z a0 C O nm d → parseFieldDescriptor d = some ty → Fld Z h' a O nm d (defaultValue ty)) → Go p e below Ev T' (mkF m q Ls (.ref a :: st))) : Go p e below Ev T (mkF m pc Ls st) := by
  subst hq
  obtain ⟨T', h', X', e', E', A', D', -, st'⟩ := newO X hx hZ hown w wi wz eT (g := mkF m pc Ls st) rfl hd hc hl
  exact (K T' h' _ rfl X' e' E' A' D').on st'
theorem g_getF (X : Stand p l e R s m args below meth c T locs cells slots) (hx : p.tables.exec = Jvm.exec) {pc : Nat} {Ls : Array Slot} {st : List Value} (hZ : Z.Warmed39 s.vm) {own R0 O n d : String} {i : Nat} (hown : s.vm.findClass own = some m.cls) (w : (Jvm.Cond.fieldLink own i R0 n d).before a0 Z = true) (via : Via Z R0 O n d) (eT : T.heap = h) {a : Addr} {v : Value} (F : Fld Z h a O n d v) (q : Nat) (hd : decode c.code pc = .ok (.getfield i, 3)) (hq : pc + 3 = q) (K : ∀ T', Stand p l e R s m args below meth c T' locs cells slots → T'.heap = h → Go p e below Ev T' (mkF m q Ls (v :: st))) : Go p e below Ev T (mkF m pc Ls (.ref a :: st)) := by
  subst hq
  obtain ⟨T', X', e', st'⟩ := getF X hx hZ hown (host := "") (Or.inl w) via eT F (g := mkF m pc Ls (.ref a :: st)) rfl rfl hd
  exact (K T' X' e').on st'
theorem g_putF (X : Stand p l e R s m args below meth c T locs cells slots) (hx : p.tables.exec = Jvm.exec) {pc : Nat} {Ls : Array Slot} {st : List Value} (hZ : Z.Warmed39 s.vm) {own R0 O n d C : String} {i kk : Nat} {ty : FieldType} (hown : s.vm.findClass own = some m.cls) (w : (Jvm.Cond.fieldLink own i R0 n d).before a0 Z = true) (via : Via Z R0 O n d) (eT : T.heap = h) {a : Addr} {v old : Value} (F : Fld Z h a O n d old) (E : Exa Z h a C) (L : (Jvm.Cond.lays C O n d).before a0 Z = true ∨ ((Jvm.Cond.laysFinal C O n d).before a0 Z = true ∧ own = O ∧ meth.name = "<init>")) (wi : (Jvm.Cond.instantiable C kk).before a0 Z = true) (hty : parseFieldDescriptor d = some ty) (hn : narrow ty v = v) (hf : fits ty v = true) (q : Nat) (hd : decode c.code pc = .ok (.putfield i, 3)) (hq : pc + 3 = q)
    (K : ∀ T' h', Stand p l e R s m args below meth c T' (locs ++ [⟨a, Jvm.RoadKit.slotOf Z O n d⟩]) cells slots → T'.heap = h' → Wr h h' a (Jvm.RoadKit.slotOf Z O n d) v → Go p e below Ev T' (mkF m q Ls st)) : Go p e below Ev T (mkF m pc Ls (v :: .ref a :: st)) := by
  subst hq
  obtain ⟨T', h', X', e', W', st'⟩ := putF X hx hZ hown (host := "") (Or.inl w) via eT F E L wi hty hn hf (g := mkF m pc Ls (v :: .ref a :: st)) rfl rfl hd
  exact (K T' h' X' e' W').on st'
theorem g_objinit (X : Stand p l e R s m args below meth c T locs cells slots) (hx : p.tables.exec = Jvm.exec) {pc : Nat} {Ls : Array Slot} {st : List Value} (hZ : Z.Warmed39 s.vm) {own : String} {i : Nat} (hown : s.vm.findClass own = some m.cls) (w1 : (Jvm.Cond.methodLink own i ⟨"java/lang/Object", "<init>", "()V"⟩).before a0 Z = true) (w2 : (Jvm.Cond.instanceMethod ⟨"java/lang/Object", "<init>", "()V"⟩).before a0 Z = true) (w3 : (Jvm.Cond.code ⟨"java/lang/Object", "<init>", "()V"⟩ object_method_1_code 1 none).before a0 Z = true) (eT : T.heap = h) {a : Addr} (W : Nat) (q : Nat) (hd : decode c.code pc = .ok (.invokespecial i, 3)) (hq : pc + 3 = q) (hsz : Ls.size = c.maxLocals) (hf : 1 ≤ R.frames) (hW : (st.map fun v => v.category).sum ≤ W) (hl : W + 12 ≤ R.locals) (K : ∀ T', Stand p l e R s m args below meth c T' locs cells slots → T'.heap = h → Go p e below Ev T' (mkF m q Ls st)) : Go p e below Ev T (mkF m pc Ls (.ref a :: st)) := by
  subst hq
  obtain ⟨T', X', e', st'⟩ := initO X hx hZ hown w1 w2 w3 eT (g := mkF m pc Ls (.ref a :: st)) rfl hsz rfl hd hf (W := W) (by show 2 * 0 + _ ≤ _; omega) hl
  exact (K T' X' e').on st'
theorem g_static (X : Stand p l e R s m args below meth c T locs cells slots) (hx : p.tables.exec = Jvm.exec) {pc : Nat} {Ls : Array Slot} {st : List Value} (hZ : Z.Warmed39 s.vm) {own : String} {i : Nat} {y : MethodName} {bytes : ByteArray} {maxL : Nat} {ret : Option FieldType} {rm : Room} {as' : Array Value} {Q : Option Value → Heap → List Loc → Prop} {argsL rest : List Value} (hown : s.vm.findClass own = some m.cls) (w1 : (Jvm.Cond.methodLink own i y).before a0 Z = true) (w2 : (Jvm.Cond.static y).before a0 Z = true) (w3 : (Jvm.Cond.initialized y.cls).before a0 Z = true) (w4 : (Jvm.Cond.code y bytes maxL ret).before a0 Z = true) (hy : y.cls ≠ "java/lang/invoke/MethodHandle" ∧ y.cls ≠ "java/lang/invoke/VarHandle") (hM : MetFree l y (head1 [Jvm.Cond.code y bytes maxL ret] rm) (fun a U => a = as' ∧ Z.Warmed39 U.vm ∧ U.heap = h) (fun _ _ _ _ _ => True) (fun _ U o U' => ∃ v L, o = .returned v ∧ Q v U'.heap L ∧ FrameEnd U o U' L rm.cells rm.slots)) (eT : T.heap = h) (hst : st = argsL.reverse ++ rest) (has : argsL.toArray = as') (W : Nat) (q : Nat) (hq : pc + 3 = q) (hsz : Ls.size = c.maxLocals) (hlen : ∀ sig, parseMethodDescriptor y.desc = some sig → argsL.length = sig.parameters.length) (hW : (rest.map fun v => v.category).sum ≤ W) (hf : rm.frames + 1 ≤ R.frames) (hl : W + (maxL + 11) + rm.locals ≤ R.locals) (hc : cells + rm.cells ≤ R.cells) (hs : slots + rm.slots ≤ R.slots) (hd : decode c.code pc = .ok (.invokestatic i, 3))
    (K : ∀ (v : Option Value) (T' : State) (L : List Loc), Stand p l e R s m args below meth c T' (locs ++ L) (cells + rm.cells) (slots + rm.slots) → Q v T'.heap L → Go p e below Ev T' (mkF m q Ls (v.toList ++ rest))) : Go p e below Ev T (mkF m pc Ls st) := by
  subst hq hst
  obtain ⟨v, vm1, ⟨T', L', k', n'⟩, -, X', ⟨L, hQ, l', y', z'⟩, st'⟩ := Jvm.LawKit.callS X hx hown (mvT hZ w1) (mvT hZ w2) (mvT hZ w3) (mvT hZ w4) hy (backOf (W := W) hM hZ w4 w3 hf hl) (g := mkF m pc Ls (argsL.reverse ++ rest)) rfl hsz (argsL := argsL) (rest := rest) hlen rfl (by show 2 * 0 + _ ≤ _; omega) hd (fun _ _ => ⟨has, eT, hc, hs⟩)
  dsimp only [Pt.U, Pt.locs, Pt.cells, Pt.slots] at X' l' y' z' st' hQ
  subst l' y' z'
  exact (K v T' L X' hQ).on fun t k => st' t k
theorem g_init (X : Stand p l e R s m args below meth c T locs cells slots) (hx : p.tables.exec = Jvm.exec) {pc : Nat} {Ls : Array Slot} {st : List Value} (hZ : Z.Warmed39 s.vm) {own : String} {i : Nat} {y : MethodName} {bytes : ByteArray} {maxL : Nat} {rm : Room} {as' : Array Value} {Q : Option Value → Heap → List Loc → Prop} {argsL rest : List Value} (hy1 : y.name = "<init>") (hown : s.vm.findClass own = some m.cls) (w1 : (Jvm.Cond.methodLink own i y).before a0 Z = true) (w2 : (Jvm.Cond.instanceMethod y).before a0 Z = true) (w3 : (Jvm.Cond.initialized y.cls).before a0 Z = true) (w4 : (Jvm.Cond.code y bytes maxL none).before a0 Z = true) (hy : y.cls ≠ "java/lang/invoke/MethodHandle" ∧ y.cls ≠ "java/lang/invoke/VarHandle") (hM : MetFree l y (head1 [Jvm.Cond.code y bytes maxL none] rm) (fun a U => a = as' ∧ Z.Warmed39 U.vm ∧ U.heap = h) (fun _ _ _ _ _ => True) (fun _ U o U' => ∃ v L, o = .returned v ∧ Q v U'.heap L ∧ FrameEnd U o U' L rm.cells rm.slots)) (eT : T.heap = h) {a : Addr} (hst : st = argsL.reverse ++ .ref a :: rest) (has : (.ref a :: argsL).toArray = as') (W : Nat) (q : Nat) (hq : pc + 3 = q) (hsz : Ls.size = c.maxLocals) (hlen : ∀ sig, parseMethodDescriptor y.desc = some sig → argsL.length = sig.parameters.length) (hW : (rest.map fun v => v.category).sum ≤ W) (hf : rm.frames + 1 ≤ R.frames) (hl : W + (maxL + 11) + rm.locals ≤ R.locals) (hc : cells + rm.cells ≤ R.cells) (hs : slots + rm.slots ≤ R.slots) (hd : decode c.code pc = .ok (.invokespecial i, 3))
    (K : ∀ (v : Option Value) (T' : State) (L : List Loc), Stand p l e R s m args below meth c T' (locs ++ L) (cells + rm.cells) (slots + rm.slots) → Q v T'.heap L → Go p e below Ev T' (mkF m q Ls (v.toList ++ rest))) : Go p e below Ev T (mkF m pc Ls st) := by
  subst hq hst
  obtain ⟨v, vm1, ⟨T', L', k', n'⟩, -, X', ⟨L, hQ, l', y', z'⟩, st'⟩ := X.specialBack hx hy1 hown (mvT hZ w1) (mvT hZ w2) (mvT hZ w4) hy (backOf (W := W) hM hZ w4 w3 hf hl) (g := mkF m pc Ls (argsL.reverse ++ .ref a :: rest)) rfl hsz (Steps.refl _) (a := a) (argsL := argsL) (rest := rest) hlen rfl (by show 2 * 0 + _ ≤ _; omega) hd (fun _ _ => ⟨has, eT, hc, hs⟩)
  dsimp only [Pt.U, Pt.locs, Pt.cells, Pt.slots] at X' l' y' z' st' hQ
  subst l' y' z'
  exact (K v T' L X' hQ).on fun t k => st'.trans k
theorem g_virt (X : Stand p l e R s m args below meth c T locs cells slots) (hx : p.tables.exec = Jvm.exec) {pc : Nat} {Ls : Array Slot} {st : List Value} (hZ : Z.Warmed39 s.vm) {own : String} {i : Nat} {y z : MethodName} {C : String} {bytes : ByteArray} {maxL : Nat} {ret : Option FieldType} {rm : Room} {as' : Array Value} {Q : Option Value → Heap → List Loc → Prop} {argsL rest : List Value} (hown : s.vm.findClass own = some m.cls) (w1 : (Jvm.Cond.methodLink own i y).before a0 Z = true) (w2 : (Jvm.Cond.declares y).before a0 Z = true) (w5 : (Jvm.Cond.selects y.cls y y).before a0 Z = true) (w6 : (Jvm.Cond.selects C y z).before a0 Z = true) (w7 : (Jvm.Cond.instanceMethod z).before a0 Z = true) (w3 : (Jvm.Cond.initialized z.cls).before a0 Z = true) (w4 : (Jvm.Cond.code z bytes maxL ret).before a0 Z = true) (hy : y.cls ≠ "java/lang/invoke/MethodHandle" ∧ y.cls ≠ "java/lang/invoke/VarHandle") (hM : MetFree l z (head1 [Jvm.Cond.code z bytes maxL ret] rm) (fun a U => a = as' ∧ Z.Warmed39 U.vm ∧ U.heap = h) (fun _ _ _ _ _ => True) (fun _ U o U' => ∃ v L, o = .returned v ∧ Q v U'.heap L ∧ FrameEnd U o U' L rm.cells rm.slots)) (eT : T.heap = h) {b : Addr} (E : Exa Z h b C) (hst : st = argsL.reverse ++ .ref b :: rest) (has : (.ref b :: argsL).toArray = as') (W : Nat) (q : Nat) (hq : pc + 3 = q) (hsz : Ls.size = c.maxLocals) (hlen : ∀ sig, parseMethodDescriptor y.desc = some sig → argsL.length = sig.parameters.length) (hW : (rest.map fun v => v.category).sum ≤ W) (hf : rm.frames + 1 ≤ R.frames) (hl : W + (maxL + 11) + rm.locals ≤ R.locals) (hc : cells + rm.cells ≤ R.cells) (hs : slots + rm.slots ≤ R.slots) (hd : decode c.code pc = .ok (.invokevirtual i, 3))
    (K : ∀ (v : Option Value) (T' : State) (L : List Loc), Stand p l e R s m args below meth c T' (locs ++ L) (cells + rm.cells) (slots + rm.slots) → Q v T'.heap L → Go p e below Ev T' (mkF m q Ls (v.toList ++ rest))) : Go p e below Ev T (mkF m pc Ls st) := by
  subst hq hst
  obtain ⟨cq, kq, qa, qb, qc⟩ := isOf hZ eT E
  obtain ⟨v, vm1, ⟨T', L', k', n'⟩, -, X', ⟨L, hQ, l', y', z'⟩, st'⟩ := X.virtualBack hx hown (mvT hZ w1) (mvT hZ w2) (notFace_of_selects (args := #[]) (mvT hZ w5)) (mvT hZ w6) (mvT hZ w7) hy (backOf (W := W) hM hZ w4 w3 hf hl) qa qc (g := mkF m pc Ls (argsL.reverse ++ .ref b :: rest)) rfl hsz (Steps.refl _) (argsL := argsL) (rest := rest) hlen rfl (by show 2 * 0 + _ ≤ _; omega) hd (fun _ _ => ⟨has, eT, hc, hs⟩)
  dsimp only [Pt.U, Pt.locs, Pt.cells, Pt.slots] at X' l' y' z' st' hQ
  subst l' y' z'
  exact (K v T' L X' hQ).on fun t k => st'.trans k
theorem own_at {n : Nat} (j : Int32) (h0 : 0 ≤ j.toInt) (z : Int32) (h1 : j.toInt < z.toInt) (S : n = z.toNatClampNeg) : ¬ (j < 0 ∨ n ≤ j.toNatClampNeg) := by
  subst S
  intro q
  rcases q with q | q
  · have := (own_i0 j).1.mp q; omega
  · simp only [Int32.toNatClampNeg] at q; omega
theorem own_ncl {j : Int32} {k : Nat} (h : j.toInt = (k : Int)) : j.toNatClampNeg = k := by simp only [Int32.toNatClampNeg]; omega
theorem g_newP (X : Stand p l e R s m args below meth c T locs cells slots) (hx : p.tables.exec = Jvm.exec) {pc : Nat} {Ls : Array Slot} {st : List Value} (hZ : Z.Warmed39 s.vm) {aty : ArrayType} (w : (Jvm.Cond.arrayClass (newarray.typeOf aty)).before a0 Z = true) (eT : T.heap = h) {n : Int32} (hn : 0 ≤ n.toInt) {cap : Nat} (hcap : n.toInt ≤ cap) (hb : cap * 8 ≤ 536870912) (q : Nat) (hd : decode c.code pc = .ok (.newarray aty, 2)) (hq : pc + 2 = q) (hc : cells + 1 ≤ R.cells) (hl : slots + cap ≤ R.slots) {ad : String} (had : "[" ++ (newarray.typeOf aty).toString = ad)
    (K : ∀ (T' : State) (h' : Heap) (k : ClassId) (a : Addr), a = h.size → Stand p l e R s m args below meth c T' locs (cells + 1) (slots + cap) → T'.heap = h' → Ext h h' → Arv Z h' a k (newarray.typeOf aty) n [] (defaultValue (newarray.typeOf aty)) → Exa Z h' a ad → Go p e below Ev T' (mkF m q Ls (.ref a :: st))) : Go p e below Ev T (mkF m pc Ls (.int n :: st)) := by
  subst hq
  have hn' : ¬ n < 0 := fun q => by have := (own_i0 n).1.mp q; omega
  obtain ⟨T', h', k, X', e', E', A', B', st'⟩ := newPE X hx hZ w eT (g := mkF m pc Ls (.int n :: st)) rfl hd rfl hn' (cap := cap) (by simp only [Int32.toNatClampNeg]; omega) hb hc hl had
  exact (K T' h' k _ rfl X' e' E' (Arv.new A' hn') B').on st'
theorem g_len (X : Stand p l e R s m args below meth c T locs cells slots) (hx : p.tables.exec = Jvm.exec) {pc : Nat} {Ls : Array Slot} {st : List Value} (hZ : Z.Warmed39 s.vm) (eT : T.heap = h) {a : Addr} {k : ClassId} {ty : FieldType} {z : Int32} {vs : List Value} {dv : Value} (V : Arv Z h a k ty z vs dv) (q : Nat) (hd : decode c.code pc = .ok (.arraylength, 1)) (hq : pc + 1 = q) (K : Go p e below Ev T (mkF m q Ls (.int z :: st))) : Go p e below Ev T (mkF m pc Ls (.ref a :: st)) := by
  subst hq
  obtain ⟨cl, A, q1, S, q3, H, G⟩ := V
  refine K.on fun t k => X.arraylength hx (by rw [eT]; exact A.1) (State.isArrayOf_alike hZ.alike A.2.1) (g := mkF m pc Ls (.ref a :: st)) rfl rfl hd t ?_
  rw [len_of S q3]
  exact k
theorem g_dastore (X : Stand p l e R s m args below meth c T locs cells slots) (hx : p.tables.exec = Jvm.exec) {pc : Nat} {Ls : Array Slot} {st : List Value} (hZ : Z.Warmed39 s.vm) (eT : T.heap = h) {a : Addr} {k : ClassId} {z j : Int32} {x : UInt64} {vs : List Value} {dv : Value} (V : Arv Z h a k .double z vs dv) (i : Nat) (hi : j.toInt = (i : Int)) (hz : j.toInt < z.toInt) (hv : i < vs.length) (q : Nat) (hd : decode c.code pc = .ok (.dastore, 1)) (hq : pc + 1 = q)
    (K : ∀ T' h', Stand p l e R s m args below meth c T' (locs ++ [⟨a, j.toNatClampNeg⟩]) cells slots → T'.heap = h' → Wr h h' a j.toNatClampNeg (.double x) → Arv Z h' a k .double z (vs.set i (.double x)) dv → Go p e below Ev T' (mkF m q Ls st)) : Go p e below Ev T (mkF m pc Ls (.double x :: .int j :: .ref a :: st)) := by
  subst hq
  obtain ⟨cl, A, q1, S, q3, H, G⟩ := V
  have hj := own_at j (by omega) z hz S
  obtain ⟨T', h', X', e', W', st'⟩ := stD X hx hZ eT A hj (g := mkF m pc Ls (.double x :: .int j :: .ref a :: st)) rfl rfl hd
  exact (K T' h' X' e' W' (Arv.set A q1 S q3 H G rfl W' i (own_ncl hi) hv)).on st'
theorem g_iastore (X : Stand p l e R s m args below meth c T locs cells slots) (hx : p.tables.exec = Jvm.exec) {pc : Nat} {Ls : Array Slot} {st : List Value} (hZ : Z.Warmed39 s.vm) (eT : T.heap = h) {a : Addr} {k : ClassId} {z j : Int32} {x : Int32} {vs : List Value} {dv : Value} (V : Arv Z h a k .int z vs dv) (i : Nat) (hi : j.toInt = (i : Int)) (hz : j.toInt < z.toInt) (hv : i < vs.length) (q : Nat) (hd : decode c.code pc = .ok (.iastore, 1)) (hq : pc + 1 = q)
    (K : ∀ T' h', Stand p l e R s m args below meth c T' (locs ++ [⟨a, j.toNatClampNeg⟩]) cells slots → T'.heap = h' → Wr h h' a j.toNatClampNeg (.int x) → Arv Z h' a k .int z (vs.set i (.int x)) dv → Go p e below Ev T' (mkF m q Ls st)) : Go p e below Ev T (mkF m pc Ls (.int x :: .int j :: .ref a :: st)) := by
  subst hq
  obtain ⟨cl, A, q1, S, q3, H, G⟩ := V
  have hj := own_at j (by omega) z hz S
  obtain ⟨T', h', X', e', W', st'⟩ := stI X hx hZ eT A hj (g := mkF m pc Ls (.int x :: .int j :: .ref a :: st)) rfl rfl hd
  exact (K T' h' X' e' W' (Arv.set A q1 S q3 H G rfl W' i (own_ncl hi) hv)).on st'
theorem g_lastore (X : Stand p l e R s m args below meth c T locs cells slots) (hx : p.tables.exec = Jvm.exec) {pc : Nat} {Ls : Array Slot} {st : List Value} (hZ : Z.Warmed39 s.vm) (eT : T.heap = h) {a : Addr} {k : ClassId} {z j : Int32} {x : Int64} {vs : List Value} {dv : Value} (V : Arv Z h a k .long z vs dv) (i : Nat) (hi : j.toInt = (i : Int)) (hz : j.toInt < z.toInt) (hv : i < vs.length) (q : Nat) (hd : decode c.code pc = .ok (.lastore, 1)) (hq : pc + 1 = q)
    (K : ∀ T' h', Stand p l e R s m args below meth c T' (locs ++ [⟨a, j.toNatClampNeg⟩]) cells slots → T'.heap = h' → Wr h h' a j.toNatClampNeg (.long x) → Arv Z h' a k .long z (vs.set i (.long x)) dv → Go p e below Ev T' (mkF m q Ls st)) : Go p e below Ev T (mkF m pc Ls (.long x :: .int j :: .ref a :: st)) := by
  subst hq
  obtain ⟨cl, A, q1, S, q3, H, G⟩ := V
  have hj := own_at j (by omega) z hz S
  obtain ⟨T', h', X', e', W', st'⟩ := stJ X hx hZ eT A hj (g := mkF m pc Ls (.long x :: .int j :: .ref a :: st)) rfl rfl hd
  exact (K T' h' X' e' W' (Arv.set A q1 S q3 H G rfl W' i (own_ncl hi) hv)).on st'
theorem g_daload (X : Stand p l e R s m args below meth c T locs cells slots) (hx : p.tables.exec = Jvm.exec) {pc : Nat} {Ls : Array Slot} {st : List Value} (hZ : Z.Warmed39 s.vm) (eT : T.heap = h) {a : Addr} {k : ClassId} {z j : Int32} {v : Value} {vs : List Value} {dv : Value} (V : Arv Z h a k .double z vs dv) (hi : 0 ≤ j.toInt) (hz : j.toInt < z.toInt) (hv : vs.getD j.toNatClampNeg dv = v) (q : Nat) (hd : decode c.code pc = .ok (.daload, 1)) (hq : pc + 1 = q) (K : Go p e below Ev T (mkF m q Ls (v :: st))) : Go p e below Ev T (mkF m pc Ls (.int j :: .ref a :: st)) := by
  subst hq
  obtain ⟨cl, A, q1, S, q3, H, G⟩ := V
  have hj := own_at j hi z hz S
  exact K.on fun t k => X.daload hx (by rw [eT]; exact A.1) (State.isArrayOf_alike hZ.alike A.2.1) A.2.2 hj (H.at hj hv) (g := mkF m pc Ls (.int j :: .ref a :: st)) rfl rfl hd t k
theorem g_iaload (X : Stand p l e R s m args below meth c T locs cells slots) (hx : p.tables.exec = Jvm.exec) {pc : Nat} {Ls : Array Slot} {st : List Value} (hZ : Z.Warmed39 s.vm) (eT : T.heap = h) {a : Addr} {k : ClassId} {z j : Int32} {v : Value} {vs : List Value} {dv : Value} (V : Arv Z h a k .int z vs dv) (hi : 0 ≤ j.toInt) (hz : j.toInt < z.toInt) (hv : vs.getD j.toNatClampNeg dv = v) (q : Nat) (hd : decode c.code pc = .ok (.iaload, 1)) (hq : pc + 1 = q) (K : Go p e below Ev T (mkF m q Ls (v :: st))) : Go p e below Ev T (mkF m pc Ls (.int j :: .ref a :: st)) := by
  subst hq
  obtain ⟨cl, A, q1, S, q3, H, G⟩ := V
  have hj := own_at j hi z hz S
  exact K.on fun t k => X.iaload hx (by rw [eT]; exact A.1) (State.isArrayOf_alike hZ.alike A.2.1) A.2.2 hj (H.at hj hv) (g := mkF m pc Ls (.int j :: .ref a :: st)) rfl rfl hd t k
theorem g_laload (X : Stand p l e R s m args below meth c T locs cells slots) (hx : p.tables.exec = Jvm.exec) {pc : Nat} {Ls : Array Slot} {st : List Value} (hZ : Z.Warmed39 s.vm) (eT : T.heap = h) {a : Addr} {k : ClassId} {z j : Int32} {v : Value} {vs : List Value} {dv : Value} (V : Arv Z h a k .long z vs dv) (hi : 0 ≤ j.toInt) (hz : j.toInt < z.toInt) (hv : vs.getD j.toNatClampNeg dv = v) (q : Nat) (hd : decode c.code pc = .ok (.laload, 1)) (hq : pc + 1 = q) (K : Go p e below Ev T (mkF m q Ls (v :: st))) : Go p e below Ev T (mkF m pc Ls (.int j :: .ref a :: st)) := by
  subst hq
  obtain ⟨cl, A, q1, S, q3, H, G⟩ := V
  have hj := own_at j hi z hz S
  exact K.on fun t k => X.laload hx (by rw [eT]; exact A.1) (State.isArrayOf_alike hZ.alike A.2.1) A.2.2 hj (H.at hj hv) (g := mkF m pc Ls (.int j :: .ref a :: st)) rfl rfl hd t k
theorem g_clone (X : Stand p l e R s m args below meth c T locs cells slots) (hx : p.tables.exec = Jvm.exec) {pc : Nat} {Ls : Array Slot} {st : List Value} (hZ : Z.Warmed39 s.vm) {own ad : String} {i : Nat} (hown : s.vm.findClass own = some m.cls) (w1 : (Jvm.Cond.methodLink own i ⟨ad, "clone", "()Ljava/lang/Object;"⟩).before a0 Z = true) (w2 : (Jvm.Cond.sameMethod ad "java/lang/Object" "clone" "()Ljava/lang/Object;").before a0 Z = true) (w3 : (Jvm.Cond.native ⟨"java/lang/Object", "clone", "()Ljava/lang/Object;"⟩).before a0 Z = true) (w4 : (Jvm.Cond.instanceMethod ⟨"java/lang/Object", "clone", "()Ljava/lang/Object;"⟩).before a0 Z = true) (w5 : (Jvm.Cond.selects ad ⟨ad, "clone", "()Ljava/lang/Object;"⟩ ⟨"java/lang/Object", "clone", "()Ljava/lang/Object;"⟩).before a0 Z = true) (w6 : (Jvm.Cond.castable ad "java/lang/Cloneable").before a0 Z = true) (eT : T.heap = h) {a : Addr} {k : ClassId} {ty : FieldType} {z : Int32} {vs : List Value} {dv : Value} (V : Arv Z h a k ty z vs dv) (E : Exa Z h a ad) (W cap : Nat) (q : Nat) (hd : decode c.code pc = .ok (.invokevirtual i, 3)) (hq : pc + 3 = q) (hsz : Ls.size = c.maxLocals) (hf : 1 ≤ R.frames) (hW : (st.map fun v => v.category).sum ≤ W) (hl : W + 14 ≤ R.locals) (hcap : z.toInt ≤ cap) (hc : cells + 1 ≤ R.cells) (hs : slots + cap ≤ R.slots)
    (K : ∀ (T' : State) (h' : Heap) (b : Addr), b = h.size → Stand p l e R s m args below meth c T' locs (cells + 1) (slots + cap) → T'.heap = h' → Ext h h' → Arv Z h' b k ty z vs dv → Exa Z h' b ad → Go p e below Ev T' (mkF m q Ls (.ref b :: st))) : Go p e below Ev T (mkF m pc Ls (.ref a :: st)) := by
  subst hq
  obtain ⟨T', h', X', e', E', V', B', st'⟩ := cloneH X hx hZ hown w1 w2 w3 w4 w5 w6 eT V.arh E (g := mkF m pc Ls (.ref a :: st)) rfl hsz rfl hd hf (W := W) (cap := cap) (by show 2 * 0 + _ ≤ _; omega) hl (by simp only [Int32.toNatClampNeg]; omega) hc hs
  exact (K T' h' _ rfl X' e' E' V' B').on st'
theorem g_cast (X : Stand p l e R s m args below meth c T locs cells slots) (hx : p.tables.exec = Jvm.exec) {pc : Nat} {Ls : Array Slot} {st : List Value} (hZ : Z.Warmed39 s.vm) {own C : String} {i : Nat} (hown : s.vm.findClass own = some m.cls) (w : (Jvm.Cond.classLink own i C).before a0 Z = true) (eT : T.heap = h) {a : Addr} (F : Ins Z h a C true) (q : Nat) (hd : decode c.code pc = .ok (.checkcast i, 3)) (hq : pc + 3 = q) (K : ∀ T', Stand p l e R s m args below meth c T' locs cells slots → T'.heap = h → Go p e below Ev T' (mkF m q Ls (.ref a :: st))) : Go p e below Ev T (mkF m pc Ls (.ref a :: st)) := by
  subst hq
  obtain ⟨T', X', e', st'⟩ := castY X hx hZ hown w eT F (g := mkF m pc Ls (.ref a :: st)) rfl rfl hd
  exact (K T' X' e').on st'
end OwnKit
theorem own_pd0 : parseMethodDescriptor "(I)V" = some ⟨[.int], none⟩ := by decide +kernel
theorem own_pd1 : parseMethodDescriptor "()V" = some ⟨[], none⟩ := by decide +kernel
theorem own_pd2 : parseMethodDescriptor "(II)I" = some ⟨[.int, .int], some .int⟩ := by decide +kernel
theorem own_pd3 : parseMethodDescriptor "(I)I" = some ⟨[.int], some .int⟩ := by decide +kernel
theorem own_pd4 : parseMethodDescriptor "(ID)V" = some ⟨[.int, .double], none⟩ := by decide +kernel
theorem own_pd5 : parseMethodDescriptor "([II)I" = some ⟨[(.array .int), .int], some .int⟩ := by decide +kernel
theorem own_pd6 : parseMethodDescriptor "(ID)D" = some ⟨[.int, .double], some .double⟩ := by decide +kernel
def Q_rm0 (n0 : Nat) (v : Option Value) (h : Heap) (L : List Loc) : Prop := v = some (.int 1) ∧ Fr n0 L
theorem own_dlit {i : Int} {a : UInt64} (s : Bool) (c : Nat) (q : Int) (h : Jvm.FP.Core.val64 a = .fin s c q) (h2 : Jvm.FP.Core.signed s (c * 2 ^ q.toNat) = i * ((2 ^ (-q).toNat : Nat) : Int)) : Jvm.FP.Core.DInt i a := by
  show Jvm.FP.Core.Whole i _
  rw [h]
  exact h2
theorem own_dnn {i : Int} {a : UInt64} (h : Jvm.FP.Core.DInt i a) : Jvm.Free.Fl.NoNaN64 a := Jvm.Free.Fl.noNaN64_no.mpr ((Jvm.FP.Core.notNaN_iff a).mpr (Jvm.FP.Core.Whole.ne_nan h))
theorem own_dzero : Jvm.FP.Core.DInt 0 (0 : UInt64) := own_dlit false 0 (-1074) (by decide +kernel) (by decide +kernel)
theorem own_done : Jvm.FP.Core.DInt 1 (4607182418800017408 : UInt64) := own_dlit false (2 ^ 52) (-52) (by decide +kernel) (by decide +kernel)
section Fix
open Jvm.FP Jvm.FP.Core Jvm.Free.Fl
def shd (k : Int) : Datum → Datum
  | .fin s c q => .fin s c (q + k)
  | .nan => .nan
  | .inf s => .inf s
/-- a is the number i / 2^k -/
def DFix (i : Int) (k : Nat) (a : UInt64) : Prop := Whole i (shd (k : Int) (val64 a))
theorem own_shdfin {i : Int} {k : Nat} {d : Datum} (h : Whole i (shd k d)) : ∃ s c q, d = .fin s c q := by
  cases d with
  | nan => exact h.elim
  | inf => exact h.elim
  | fin s c q => exact ⟨s, c, q, rfl⟩
theorem own_fixnn {i : Int} {k : Nat} {a : UInt64} (h : DFix i k a) : NoNaN64 a := by
  obtain ⟨s, c, q, e⟩ := own_shdfin h
  exact noNaN64_no.mpr ((notNaN_iff a).mpr (by rw [e]; intro q; cases q))
theorem own_sgn {i : Int} {s : Bool} (h : s = decide (i < 0)) : signed s i.natAbs = i := by
  subst h
  unfold signed
  by_cases hn : i < 0 <;> simp [hn] <;> omega
/-- i / 2^k of up to 53 digits is in the format -/
theorem own_fixrr {i : Int} {k : Nat} {s : Bool} (h0 : i ≠ 0) (hi : i.natAbs ≤ 2 ^ 53) (hk : k ≤ 1000) (hs : s = decide (i < 0)) : Whole i (shd k (roundRatio b64 s i.natAbs 1 (-(k : Int)))) := by
  obtain ⟨c', q', hfit, hv⟩ := natFit good_b64 wide_b64 s (n := i.natAbs) hi
  obtain ⟨f1, f2, f3, f4⟩ := hfit
  have hp : b64.p = 53 := by decide
  have hmin : b64.qmin = -1074 := by decide
  have hq : -52 ≤ q' := by
    refine Int.le_of_not_gt fun hlt => ?_
    rw [show (q' - 0).toNat = 0 by omega, Nat.pow_zero, Nat.mul_one, Nat.mul_one] at hv
    have h53 : 2 ^ 53 ≤ 2 ^ (0 - q').toNat := Nat.pow_le_pow_right (by decide) (by omega)
    have : 1 * 2 ^ (0 - q').toNat ≤ i.natAbs * 2 ^ (0 - q').toNat := Nat.mul_le_mul_right _ (by omega)
    rw [hp] at f1
    omega
  have hfit2 : Core.fits b64 (.fin s c' (q' - k)) := ⟨f1, by rw [hmin]; omega, by omega, f4.elim (fun q => by rw [hmin] at q; omega) Or.inr⟩
  rw [roundRatio_exact good_b64 (by decide) hfit2 (by rw [show -(k : Int) - (q' - k) = 0 - q' by omega, show q' - k - -(k : Int) = q' - 0 by omega]; exact hv)]
  show signed s (c' * 2 ^ (q' - k + k).toNat) = i * ((2 ^ (-(q' - k + k)).toNat : Nat) : Int)
  rw [show q' - k + k = q' by omega]
  rw [show (0 - q').toNat = (-q').toNat by omega, show (q' - 0).toNat = q'.toNat by omega, Nat.mul_one] at hv
  rw [← hv, signed_mul, own_sgn hs]
theorem own_fixround {i : Int} {k : Nat} {d : Datum} (hi : i.natAbs ≤ 2 ^ 53) (hk : k ≤ 1000) (h : Whole i (shd k d)) : Whole i (shd k (round b64 d)) := by
  obtain ⟨s, c, q, rfl⟩ := own_shdfin h
  have h' : Whole i (.fin s c (q + k)) := h
  by_cases h0 : i = 0
  · subst h0
    have hc : c = 0 := (whole_zero h').mpr rfl
    subst hc
    show Whole 0 (shd k (roundRatio b64 s 0 1 q))
    unfold roundRatio
    rw [if_pos rfl]
    show signed s (0 * _) = 0 * _
    rw [Nat.zero_mul, Int.zero_mul, signed_zero]
  · have hn := whole_natAbs h'
    have e1 : round b64 (.fin s c q) = roundRatio b64 s i.natAbs 1 (-(k : Int)) := by
      refine roundRatio_congr (by decide) (by decide) ?_
      rw [show q - -(k : Int) = q + k by omega, show -(k : Int) - q = -(q + k) by omega, Nat.mul_one, Nat.mul_one]
      exact hn
    rw [e1]
    exact own_fixrr h0 hi hk (whole_sign h' h0)
theorem own_fixadd {i j : Int} {k : Nat} {a b : UInt64} (ha : DFix i k a) (hb : DFix j k b) (h : (i + j).natAbs ≤ 2 ^ 53) (hk : k ≤ 1000) : DFix (i + j) k (FP.dadd a b) := by
  show Whole _ (shd k (val64 (Core.dadd a b)))
  rw [val64_dadd]
  refine own_fixround h hk ?_
  obtain ⟨s, c, q, ea⟩ := own_shdfin ha
  obtain ⟨t, d, r, eb⟩ := own_shdfin hb
  have ha' : Whole i (.fin s c (q + k)) := by have := ha; unfold DFix at this; rw [ea] at this; exact this
  have hb' : Whole j (.fin t d (r + k)) := by have := hb; unfold DFix at this; rw [eb] at this; exact this
  rw [ea, eb]
  have e : shd k (exactSum (.fin s c q) (.fin t d r)) = exactSum (.fin s c (q + k)) (.fin t d (r + k)) := by
    simp only [exactSum, shd]
    have e0 : min (q + (k : Int)) (r + k) = min q r + k := by omega
    have e1 : sumUnits s c (q + k) t d (r + k) (min q r + k) = sumUnits s c q t d r (min q r) := by
      unfold sumUnits inUnits
      rw [show q + (k : Int) - (min q r + k) = q - min q r by omega, show r + (k : Int) - (min q r + k) = r - min q r by omega]
    rw [e0, e1]
  rw [e]
  exact whole_sum ha' hb'
theorem own_fixneg {i : Int} {k : Nat} {a : UInt64} (ha : DFix i k a) : Whole (-i) (shd k (negate (val64 a))) := by
  obtain ⟨s, c, q, ea⟩ := own_shdfin ha
  have ha' : Whole i (.fin s c (q + k)) := by have := ha; unfold DFix at this; rw [ea] at this; exact this
  rw [ea]
  exact whole_negate ha'
theorem own_fixsub {i j : Int} {k : Nat} {a b : UInt64} (ha : DFix i k a) (hb : DFix j k b) (h : (i - j).natAbs ≤ 2 ^ 53) (hk : k ≤ 1000) : DFix (i - j) k (FP.dsub a b) := by
  have hb2 : DFix (-j) k (Core.dneg b) := by
    show Whole _ (shd k (val64 (Core.dneg b)))
    rw [Core.val64_dneg]; exact own_fixneg hb
  have := own_fixadd ha hb2 (by rw [← Int.sub_eq_add_neg]; exact h) hk
  rw [← Int.sub_eq_add_neg] at this
  show DFix (i - j) k (Core.dsub a b)
  rw [dsub_eq]; exact this
theorem own_fixmul {i j : Int} {k l : Nat} {a b : UInt64} (ha : DFix i k a) (hb : DFix j l b) (h : (i * j).natAbs ≤ 2 ^ 53) (hk : k + l ≤ 1000) : DFix (i * j) (k + l) (FP.dmul a b) := by
  show Whole _ (shd _ (val64 (Core.dmul a b)))
  rw [val64_dmul]
  refine own_fixround h hk ?_
  obtain ⟨s, c, q, ea⟩ := own_shdfin ha
  obtain ⟨t, d, r, eb⟩ := own_shdfin hb
  have ha' : Whole i (.fin s c (q + k)) := by have := ha; unfold DFix at this; rw [ea] at this; exact this
  have hb' : Whole j (.fin t d (r + l)) := by have := hb; unfold DFix at this; rw [eb] at this; exact this
  rw [ea, eb]
  have e : shd ((k + l : Nat) : Int) (exactProduct (.fin s c q) (.fin t d r)) = exactProduct (.fin s c (q + k)) (.fin t d (r + l)) := by
    simp only [exactProduct, shd]
    rw [show q + r + ((k + l : Nat) : Int) = q + k + (r + l) by omega]
  rw [e]
  exact whole_product ha' hb'
theorem own_fixcmp {i j : Int} {k : Nat} {a b : UInt64} (ha : DFix i k a) (hb : DFix j k b) : FP.dcmp a b = some (compare i j) := by
  obtain ⟨s, c, q, ea⟩ := own_shdfin ha
  obtain ⟨t, d, r, eb⟩ := own_shdfin hb
  have ha' : Whole i (.fin s c (q + k)) := by have := ha; unfold DFix at this; rw [ea] at this; exact this
  have hb' : Whole j (.fin t d (r + k)) := by have := hb; unfold DFix at this; rw [eb] at this; exact this
  show order (val64 a) (val64 b) = _
  rw [ea, eb, ← order_whole ha' hb']
  simp only [order]
  have e0 : min (q + (k : Int)) (r + k) = min q r + k := by omega
  unfold inUnits
  rw [e0, show q + (k : Int) - (min q r + k) = q - min q r by omega, show r + (k : Int) - (min q r + k) = r - min q r by omega]
theorem own_fixlift {i : Int} {k : Nat} {a : UInt64} (ha : DFix i k a) (m : Nat) : DFix (i * ((2 ^ m : Nat) : Int)) (k + m) a := by
  obtain ⟨s, c, q, ea⟩ := own_shdfin ha
  have h : signed s (c * 2 ^ (q + k).toNat) = i * ((2 ^ (-(q + (k : Int))).toNat : Nat) : Int) := by have := ha; unfold DFix at this; rw [ea] at this; exact this
  show Whole _ (shd _ (val64 a))
  rw [ea]
  show signed s (c * 2 ^ (q + ((k + m : Nat) : Int)).toNat) = i * ((2 ^ m : Nat) : Int) * ((2 ^ (-(q + ((k + m : Nat) : Int))).toNat : Nat) : Int)
  have p2 : ((2 ^ (-(q + (k : Int))).toNat : Nat) : Int) ≠ 0 := by have := Nat.two_pow_pos (-(q + (k : Int))).toNat; omega
  refine Int.eq_of_mul_eq_mul_right p2 ?_
  rw [← signed_mul, Nat.mul_assoc, ← Nat.pow_add]
  rw [show (q + ((k + m : Nat) : Int)).toNat + (-(q + (k : Int))).toNat = (q + k).toNat + (m + (-(q + ((k + m : Nat) : Int))).toNat) by omega]
  rw [Nat.pow_add, ← Nat.mul_assoc, signed_mul, h, Nat.pow_add]
  rw [Int.natCast_mul]
  simp only [Int.mul_assoc]
  rw [Int.mul_comm ((2 ^ (-(q + (k : Int))).toNat : Nat) : Int), Int.mul_assoc]
theorem own_fix0 {i : Int} {a : UInt64} : DFix i 0 a ↔ DInt i a := by
  have e : shd ((0 : Nat) : Int) (val64 a) = val64 a := by
    cases val64 a with
    | nan => rfl
    | inf => rfl
    | fin s c q => show Datum.fin s c (q + ((0 : Nat) : Int)) = _; rw [show q + ((0 : Nat) : Int) = q by omega]
  unfold DFix DInt
  rw [e]
theorem own_fixint {i : Int} {a : UInt64} (h : DInt i a) (m : Nat) : DFix (i * ((2 ^ m : Nat) : Int)) m a := by
  have := own_fixlift (own_fix0.mpr h) m
  rwa [Nat.zero_add] at this
theorem own_fixdiv {i j t : Int} {k l M : Nat} {a b : UInt64} (ha : DFix i k a) (hb : DFix j l b) (hj : j ≠ 0) (ht : i * ((2 ^ (l + M) : Nat) : Int) = t * j * ((2 ^ k : Nat) : Int)) (h : t.natAbs ≤ 2 ^ 53) (hM : M ≤ 1000) : DFix t M (FP.ddiv a b) := by
  show Whole _ (shd _ (val64 (Core.ddiv a b)))
  rw [val64_ddiv]
  obtain ⟨s, c, q, ea⟩ := own_shdfin ha
  obtain ⟨u, d, r, eb⟩ := own_shdfin hb
  have ha' : Whole i (.fin s c (q + k)) := by have := ha; unfold DFix at this; rw [ea] at this; exact this
  have hb' : Whole j (.fin u d (r + l)) := by have := hb; unfold DFix at this; rw [eb] at this; exact this
  have hd : d ≠ 0 := fun q => hj ((whole_zero hb').mp q)
  have p1 : (0 : Int) < ((2 ^ (l + M) : Nat) : Int) := by have := Nat.two_pow_pos (l + M); omega
  have p2 : (0 : Int) < ((2 ^ k : Nat) : Int) := by have := Nat.two_pow_pos k; omega
  rw [ea, eb]
  show Whole t (shd M (if d = 0 then _ else roundRatio b64 (s != u) c d (q - r)))
  rw [if_neg hd]
  by_cases h0 : t = 0
  · subst h0
    have hi0 : i = 0 := by
      rw [Int.zero_mul, Int.zero_mul] at ht
      rcases Int.mul_eq_zero.mp ht with q | q
      · exact q
      · omega
    have hc : c = 0 := (whole_zero ha').mpr hi0
    subst hc
    unfold roundRatio
    rw [if_pos rfl]
    show signed _ (0 * _) = 0 * _
    rw [Nat.zero_mul, Int.zero_mul, signed_zero]
  · have hi0 : i ≠ 0 := by
      intro q; subst q
      rw [Int.zero_mul] at ht
      rcases Int.mul_eq_zero.mp ht.symm with q | q
      · rcases Int.mul_eq_zero.mp q with q | q
        · exact h0 q
        · exact hj q
      · omega
    have hsg : (s != u) = decide (t < 0) := by
      rw [whole_sign ha' hi0, whole_sign hb' hj]
      have m1 : i < 0 ↔ t * j < 0 := by
        constructor
        · intro q
          refine Int.lt_of_not_ge fun g => ?_
          have a1 := Int.mul_nonneg g (Int.le_of_lt p2)
          have a2 := Int.mul_neg_of_neg_of_pos q p1
          omega
        · intro q
          refine Int.lt_of_not_ge fun g => ?_
          have a1 := Int.mul_nonneg g (Int.le_of_lt p1)
          have a2 := Int.mul_neg_of_neg_of_pos q p2
          omega
      have m2 : decide (i < 0) = decide (t * j < 0) := decide_eq_decide.mpr m1
      rw [m2]
      rcases Int.lt_or_gt_of_ne hj with g | g
      · rcases Int.lt_or_gt_of_ne h0 with f | f
        · have := Int.mul_pos_of_neg_of_neg f g
          simp [f, g, show ¬ t * j < 0 by omega]
        · have := Int.mul_neg_of_pos_of_neg f g
          simp [g, show ¬ t < 0 by omega, this]
      · rcases Int.lt_or_gt_of_ne h0 with f | f
        · have := Int.mul_neg_of_neg_of_pos f g
          simp [f, this, show ¬ j < 0 by omega]
        · have := Int.mul_pos f g
          simp [show ¬ t < 0 by omega, show ¬ j < 0 by omega, show ¬ t * j < 0 by omega]
    have hn1 := whole_natAbs ha'
    have hn2 := whole_natAbs hb'
    have hn3 : i.natAbs * 2 ^ (l + M) = t.natAbs * j.natAbs * 2 ^ k := by
      have := congrArg Int.natAbs ht
      rw [Int.natAbs_mul, Int.natAbs_mul, Int.natAbs_mul, Int.natAbs_natCast, Int.natAbs_natCast] at this
      exact this
    have hjp : 0 < j.natAbs := by omega
    have key : c * 1 * 2 ^ (q - r - -(M : Int)).toNat = t.natAbs * d * 2 ^ (-(M : Int) - (q - r)).toNat := by
      have hF : 0 < j.natAbs * 2 ^ (-(r + (l : Int))).toNat * 2 ^ (q + (k : Int)).toNat * 2 ^ k := Nat.mul_pos (Nat.mul_pos (Nat.mul_pos hjp (Nat.two_pow_pos _)) (Nat.two_pow_pos _)) (Nat.two_pow_pos _)
      refine Nat.eq_of_mul_eq_mul_right hF ?_
      have hex : (-(q + (k : Int))).toNat + (q - r - -(M : Int)).toNat + (r + (l : Int)).toNat + k = (-(M : Int) - (q - r)).toNat + (-(r + (l : Int))).toNat + (q + (k : Int)).toNat + (l + M) := by omega
      have L : c * 1 * 2 ^ (q - r - -(M : Int)).toNat * (j.natAbs * 2 ^ (-(r + (l : Int))).toNat * 2 ^ (q + (k : Int)).toNat * 2 ^ k) = i.natAbs * d * 2 ^ ((-(q + (k : Int))).toNat + (q - r - -(M : Int)).toNat + (r + (l : Int)).toNat + k) := by
        calc c * 1 * 2 ^ (q - r - -(M : Int)).toNat * (j.natAbs * 2 ^ (-(r + (l : Int))).toNat * 2 ^ (q + (k : Int)).toNat * 2 ^ k) = (c * 2 ^ (q + (k : Int)).toNat) * (j.natAbs * 2 ^ (-(r + (l : Int))).toNat) * 2 ^ (q - r - -(M : Int)).toNat * 2 ^ k := by rw [Nat.mul_one]; ac_rfl
          _ = (i.natAbs * 2 ^ (-(q + (k : Int))).toNat) * (d * 2 ^ (r + (l : Int)).toNat) * 2 ^ (q - r - -(M : Int)).toNat * 2 ^ k := by rw [hn1, hn2]
          _ = _ := by simp only [Nat.pow_add]; ac_rfl
      have Rr : t.natAbs * d * 2 ^ (-(M : Int) - (q - r)).toNat * (j.natAbs * 2 ^ (-(r + (l : Int))).toNat * 2 ^ (q + (k : Int)).toNat * 2 ^ k) = i.natAbs * d * 2 ^ ((-(M : Int) - (q - r)).toNat + (-(r + (l : Int))).toNat + (q + (k : Int)).toNat + (l + M)) := by
        calc t.natAbs * d * 2 ^ (-(M : Int) - (q - r)).toNat * (j.natAbs * 2 ^ (-(r + (l : Int))).toNat * 2 ^ (q + (k : Int)).toNat * 2 ^ k) = (t.natAbs * j.natAbs * 2 ^ k) * (d * 2 ^ (-(M : Int) - (q - r)).toNat * 2 ^ (-(r + (l : Int))).toNat * 2 ^ (q + (k : Int)).toNat) := by ac_rfl
          _ = (i.natAbs * 2 ^ (l + M)) * (d * 2 ^ (-(M : Int) - (q - r)).toNat * 2 ^ (-(r + (l : Int))).toNat * 2 ^ (q + (k : Int)).toNat) := by rw [hn3]
          _ = _ := by simp only [Nat.pow_add]; ac_rfl
      rw [L, Rr, hex]
    rw [roundRatio_congr (A' := t.natAbs) (B' := 1) (e' := -(M : Int)) (by omega) (by decide) (by simpa using key)]
    exact own_fixrr h0 h hM hsg
end Fix
section Nlz
/-- r leading zeros of i: i is 0, or its highest digit is the k-th -/
def NlzIs (i r : Int) : Prop := (i = 0 ∧ r = 32) ∨ ∃ k : Nat, k ≤ 31 ∧ r = 31 - (k : Int) ∧ ((2 ^ k : Nat) : Int) ≤ i ∧ i < ((2 ^ (k + 1) : Nat) : Int)
theorem own_leaf {i r : Int} {z w : Int32} (B : Nat) (hB : B ≤ 30) (hz : z.toInt = i / ((2 ^ B : Nat) : Int)) (h1 : 1 ≤ z.toInt) (h3 : z.toInt < 4) (hw : w.toInt = z.toInt / 2) (hr : r = 31 - (B : Int) - w.toInt) : NlzIs i r := by
  right
  have hP : 0 < ((2 ^ B : Nat) : Int) := by have := Nat.two_pow_pos B; omega
  have e1 := Int.mul_ediv_add_emod i ((2 ^ B : Nat) : Int)
  have e2 := Int.emod_nonneg i (show ((2 ^ B : Nat) : Int) ≠ 0 by omega)
  have e3 := Int.emod_lt_of_pos i hP
  have s1 : ((2 ^ (B + 1) : Nat) : Int) = 2 * ((2 ^ B : Nat) : Int) := by rw [Nat.pow_succ]; omega
  have s2 : ((2 ^ (B + 1 + 1) : Nat) : Int) = 4 * ((2 ^ B : Nat) : Int) := by rw [Nat.pow_succ, Nat.pow_succ]; omega
  have c : z.toInt = 1 ∨ z.toInt = 2 ∨ z.toInt = 3 := by omega
  rw [← hz] at e1
  rcases c with c | c | c <;> rw [c] at e1 hw
  · exact ⟨B, by omega, by omega, by omega, by omega⟩
  · exact ⟨B + 1, by omega, by omega, by omega, by omega⟩
  · exact ⟨B + 1, by omega, by omega, by omega, by omega⟩
theorem own_ush {x z : Int32} (q : Int32) (k : Nat) (hk : q.toBitVec.toNat % 32 = k) (h0 : 0 < k) (hz : (x.toUInt32 >>> (q &&& 31).toUInt32).toInt32 = z) (hx : 0 ≤ x.toInt) : z.toInt = x.toInt / ((2 ^ k : Nat) : Int) := by
  rw [← hz, c_iushr x q k hk h0]
  have := rng32 x
  rw [Int.emod_eq_of_lt hx (by omega)]
end Nlz
theorem d5_0 : decode jdk_33_method_47_code 0 = .ok (.iload_n 0, 1) := by decide +kernel
theorem d5_1 : decode jdk_33_method_47_code 1 = .ok (.ifCond .gt 14, 3) := by decide +kernel
theorem d5_4 : decode jdk_33_method_47_code 4 = .ok (.iload_n 0, 1) := by decide +kernel
theorem d5_5 : decode jdk_33_method_47_code 5 = .ok (.ifCond .ne 8, 3) := by decide +kernel
theorem d5_8 : decode jdk_33_method_47_code 8 = .ok (.bipush 32, 2) := by decide +kernel
theorem d5_10 : decode jdk_33_method_47_code 10 = .ok (.goto 4, 3) := by decide +kernel
theorem d5_13 : decode jdk_33_method_47_code 13 = .ok (.iconst 0, 1) := by decide +kernel
theorem d5_14 : decode jdk_33_method_47_code 14 = .ok (.ireturn, 1) := by decide +kernel
theorem d5_15 : decode jdk_33_method_47_code 15 = .ok (.bipush 31, 2) := by decide +kernel
theorem d5_17 : decode jdk_33_method_47_code 17 = .ok (.istore_n 1, 1) := by decide +kernel
theorem d5_18 : decode jdk_33_method_47_code 18 = .ok (.iload_n 0, 1) := by decide +kernel
theorem d5_19 : decode jdk_33_method_47_code 19 = .ok (.ldc_w 264, 3) := by decide +kernel
theorem d5_22 : decode jdk_33_method_47_code 22 = .ok (.if_icmp .lt 11, 3) := by decide +kernel
theorem d5_25 : decode jdk_33_method_47_code 25 = .ok (.iinc 1 (-16), 3) := by decide +kernel
theorem d5_28 : decode jdk_33_method_47_code 28 = .ok (.iload_n 0, 1) := by decide +kernel
theorem d5_29 : decode jdk_33_method_47_code 29 = .ok (.bipush 16, 2) := by decide +kernel
theorem d5_31 : decode jdk_33_method_47_code 31 = .ok (.iushr, 1) := by decide +kernel
theorem d5_32 : decode jdk_33_method_47_code 32 = .ok (.istore_n 0, 1) := by decide +kernel
theorem d5_33 : decode jdk_33_method_47_code 33 = .ok (.iload_n 0, 1) := by decide +kernel
theorem d5_34 : decode jdk_33_method_47_code 34 = .ok (.sipush 256, 3) := by decide +kernel
theorem d5_37 : decode jdk_33_method_47_code 37 = .ok (.if_icmp .lt 11, 3) := by decide +kernel
theorem d5_40 : decode jdk_33_method_47_code 40 = .ok (.iinc 1 (-8), 3) := by decide +kernel
theorem d5_43 : decode jdk_33_method_47_code 43 = .ok (.iload_n 0, 1) := by decide +kernel
theorem d5_44 : decode jdk_33_method_47_code 44 = .ok (.bipush 8, 2) := by decide +kernel
theorem d5_46 : decode jdk_33_method_47_code 46 = .ok (.iushr, 1) := by decide +kernel
theorem d5_47 : decode jdk_33_method_47_code 47 = .ok (.istore_n 0, 1) := by decide +kernel
theorem d5_48 : decode jdk_33_method_47_code 48 = .ok (.iload_n 0, 1) := by decide +kernel
theorem d5_49 : decode jdk_33_method_47_code 49 = .ok (.bipush 16, 2) := by decide +kernel
theorem d5_51 : decode jdk_33_method_47_code 51 = .ok (.if_icmp .lt 10, 3) := by decide +kernel
theorem d5_54 : decode jdk_33_method_47_code 54 = .ok (.iinc 1 (-4), 3) := by decide +kernel
theorem d5_57 : decode jdk_33_method_47_code 57 = .ok (.iload_n 0, 1) := by decide +kernel
theorem d5_58 : decode jdk_33_method_47_code 58 = .ok (.iconst 4, 1) := by decide +kernel
theorem d5_59 : decode jdk_33_method_47_code 59 = .ok (.iushr, 1) := by decide +kernel
theorem d5_60 : decode jdk_33_method_47_code 60 = .ok (.istore_n 0, 1) := by decide +kernel
theorem d5_61 : decode jdk_33_method_47_code 61 = .ok (.iload_n 0, 1) := by decide +kernel
theorem d5_62 : decode jdk_33_method_47_code 62 = .ok (.iconst 4, 1) := by decide +kernel
theorem d5_63 : decode jdk_33_method_47_code 63 = .ok (.if_icmp .lt 10, 3) := by decide +kernel
theorem d5_66 : decode jdk_33_method_47_code 66 = .ok (.iinc 1 (-2), 3) := by decide +kernel
theorem d5_69 : decode jdk_33_method_47_code 69 = .ok (.iload_n 0, 1) := by decide +kernel
theorem d5_70 : decode jdk_33_method_47_code 70 = .ok (.iconst 2, 1) := by decide +kernel
theorem d5_71 : decode jdk_33_method_47_code 71 = .ok (.iushr, 1) := by decide +kernel
theorem d5_72 : decode jdk_33_method_47_code 72 = .ok (.istore_n 0, 1) := by decide +kernel
theorem d5_73 : decode jdk_33_method_47_code 73 = .ok (.iload_n 1, 1) := by decide +kernel
theorem d5_74 : decode jdk_33_method_47_code 74 = .ok (.iload_n 0, 1) := by decide +kernel
theorem d5_75 : decode jdk_33_method_47_code 75 = .ok (.iconst 1, 1) := by decide +kernel
theorem d5_76 : decode jdk_33_method_47_code 76 = .ok (.iushr, 1) := by decide +kernel
theorem d5_77 : decode jdk_33_method_47_code 77 = .ok (.isub, 1) := by decide +kernel
theorem d5_78 : decode jdk_33_method_47_code 78 = .ok (.ireturn, 1) := by decide +kernel
theorem own_pf0 : plainFor (⟨"java/lang/Integer", "numberOfLeadingZeros", "(I)I"⟩ : MethodName) = true := plainFor_of_name (by first | (simp [plainName, overriddenIn]; done) | decide +kernel)
def Q_rmZ (x : Int32) (n0 : Nat) (h0 : Heap) (v : Option Value) (h : Heap) (L : List Loc) : Prop := ∃ r : Int32, v = some (.int r) ∧ Fr n0 L ∧ h = h0 ∧ NlzIs x.toInt r.toInt
theorem ef_rmZ (x : Int32) (m : MethodId) : entryFrame m #[(.int x)] 2 = mkF m 0 #[.val (.int x), .unset] [] := by first | (simp [entryFrame, mkF, argsToLocals, Value.category]; done) | rfl
set_option maxRecDepth 65536 in
set_option maxHeartbeats 40000000 in
theorem rmZ (l : Launch) (Z : State) (a0 : Array Value) (hw : ∀ d ∈ tables_1, d.before a0 Z = true) (x : Int32) (h0 : Heap) (n0 : Nat) (Z0 : n0 ≤ h0.size) (hx0 : 0 ≤ x.toInt) :
    MetFree l (⟨"java/lang/Integer", "numberOfLeadingZeros", "(I)I"⟩ : MethodName) (head1 [Jvm.Cond.code (⟨"java/lang/Integer", "numberOfLeadingZeros", "(I)I"⟩ : MethodName) jdk_33_method_47_code 2 (some .int)] ({ frames := 0, cells := 0, slots := 0, locals := 0 } : Room)) (fun as_ U => as_ = #[(.int x)] ∧ Z.Warmed39 U.vm ∧ U.heap = h0) (fun _ _ _ _ _ => True) (fun _ U o U' => ∃ v L, o = .returned v ∧ Q_rmZ x n0 h0 v U'.heap L ∧ FrameEnd U o U' L ({ frames := 0, cells := 0, slots := 0, locals := 0 } : Room).cells ({ frames := 0, cells := 0, slots := 0, locals := 0 } : Room).slots) := by
  refine own_met own_pf0 (ef_rmZ x) ?_
  intro p e s m below meth c T0 X0 hx hby hml hret hlk hnm hown hZ e0
  have N0 := Fr.nil n0
  have rx := rng32 x
  refine g_iloadN X0 hx 1 (hb hby d5_0) rfl rfl ?_
  refine g_if_gt X0 hx 15 4 (hb hby d5_1) (by decide) (by decide) rfl (fun c1 => ?_) (fun c1 => ?_)
  · skip
    refine g_bipush X0 hx (31 : Int32) 17 (hb hby d5_15) rfl (by decide) ?_
    refine g_istoreN (l' := #[.val (.int x), .val (.int (31 : Int32))]) X0 hx 18 (hb hby d5_17) rfl rfl ?_
    refine g_iloadN X0 hx 19 (hb hby d5_18) rfl rfl ?_
    refine g_ldcWI X0 hx 22 hZ hown (hw _ (List.mem_of_getElem? (i := 24) rfl)) (hb hby d5_19) rfl ?_
    have ll3 : ((65536 : Int32) : Int32).toInt = 65536 := by decide
    refine g_ic_lt X0 hx 33 25 (hb hby d5_22) (by decide) (by decide) rfl (fun c2 => ?_) (fun c2 => ?_)
    · skip
      refine g_iloadN X0 hx 34 (hb hby d5_33) rfl rfl ?_
      refine g_sipush X0 hx (256 : Int32) 37 (hb hby d5_34) rfl (by decide) ?_
      have ll5 : ((256 : Int32) : Int32).toInt = 256 := by decide
      refine g_ic_lt X0 hx 48 40 (hb hby d5_37) (by decide) (by decide) rfl (fun c4 => ?_) (fun c4 => ?_)
      · skip
        refine g_iloadN X0 hx 49 (hb hby d5_48) rfl rfl ?_
        refine g_bipush X0 hx (16 : Int32) 51 (hb hby d5_49) rfl (by decide) ?_
        have ll7 : ((16 : Int32) : Int32).toInt = 16 := by decide
        refine g_ic_lt X0 hx 61 54 (hb hby d5_51) (by decide) (by decide) rfl (fun c6 => ?_) (fun c6 => ?_)
        · skip
          refine g_iloadN X0 hx 62 (hb hby d5_61) rfl rfl ?_
          refine g_iconst X0 hx (4 : Int32) 63 (hb hby d5_62) rfl (by decide) ?_
          have ll9 : ((4 : Int32) : Int32).toInt = 4 := by decide
          refine g_ic_lt X0 hx 73 66 (hb hby d5_63) (by decide) (by decide) rfl (fun c8 => ?_) (fun c8 => ?_)
          · skip
            refine g_iloadN X0 hx 74 (hb hby d5_73) rfl rfl ?_
            refine g_iloadN X0 hx 75 (hb hby d5_74) rfl rfl ?_
            refine g_iconst X0 hx (1 : Int32) 76 (hb hby d5_75) rfl (by decide) ?_
            refine g_iushr X0 hx 77 (hb hby d5_76) rfl ?_
            refine g_isub X0 hx 78 (hb hby d5_77) rfl ?_
            generalize hw10 : ((x.toUInt32 >>> ((1 : Int32) &&& 31).toUInt32).toInt32) = w10
            have fw10 := own_ush (1 : Int32) 1 (by decide) (by decide) hw10 (by omega)
            have kw10 := c_isub (31 : Int32) w10
            have jw10 : ((31 : Int32) : Int32).toInt = 31 - 0 := by decide
            exact g_retI X0 hx hlk hret (hb hby d5_78) (by decide) (by decide) e0 ⟨_, rfl, N0, rfl, own_leaf (z := x) (w := w10) 0 (by decide) (by omega) (by omega) (by omega) (by omega) (by have := rng32 ((31 : Int32) - w10); omega)⟩
          · skip
            refine g_iinc (w := (-2 : Int32)) (l' := #[.val (.int x), .val (.int ((31 : Int32) + (-2 : Int32)))]) X0 hx 69 (hb hby d5_66) rfl rfl (by decide) rfl ?_
            refine g_iloadN X0 hx 70 (hb hby d5_69) rfl rfl ?_
            refine g_iconst X0 hx (2 : Int32) 71 (hb hby d5_70) rfl (by decide) ?_
            refine g_iushr X0 hx 72 (hb hby d5_71) rfl ?_
            refine g_istoreN (l' := #[.val (.int ((x.toUInt32 >>> ((2 : Int32) &&& 31).toUInt32).toInt32)), .val (.int ((31 : Int32) + (-2 : Int32)))]) X0 hx 73 (hb hby d5_72) rfl rfl ?_
            generalize hz11 : ((x.toUInt32 >>> ((2 : Int32) &&& 31).toUInt32).toInt32) = z11
            have fz11 := own_ush (2 : Int32) 2 (by decide) (by decide) hz11 (by omega)
            refine g_iloadN X0 hx 74 (hb hby d5_73) rfl rfl ?_
            refine g_iloadN X0 hx 75 (hb hby d5_74) rfl rfl ?_
            refine g_iconst X0 hx (1 : Int32) 76 (hb hby d5_75) rfl (by decide) ?_
            refine g_iushr X0 hx 77 (hb hby d5_76) rfl ?_
            refine g_isub X0 hx 78 (hb hby d5_77) rfl ?_
            generalize hw12 : ((z11.toUInt32 >>> ((1 : Int32) &&& 31).toUInt32).toInt32) = w12
            have fw12 := own_ush (1 : Int32) 1 (by decide) (by decide) hw12 (by omega)
            have kw12 := c_isub ((31 : Int32) + (-2 : Int32)) w12
            have jw12 : (((31 : Int32) + (-2 : Int32)) : Int32).toInt = 31 - 2 := by decide
            exact g_retI X0 hx hlk hret (hb hby d5_78) (by decide) (by decide) e0 ⟨_, rfl, N0, rfl, own_leaf (z := z11) (w := w12) 2 (by decide) (by omega) (by omega) (by omega) (by omega) (by have := rng32 (((31 : Int32) + (-2 : Int32)) - w12); omega)⟩
        · skip
          refine g_iinc (w := (-4 : Int32)) (l' := #[.val (.int x), .val (.int ((31 : Int32) + (-4 : Int32)))]) X0 hx 57 (hb hby d5_54) rfl rfl (by decide) rfl ?_
          refine g_iloadN X0 hx 58 (hb hby d5_57) rfl rfl ?_
          refine g_iconst X0 hx (4 : Int32) 59 (hb hby d5_58) rfl (by decide) ?_
          refine g_iushr X0 hx 60 (hb hby d5_59) rfl ?_
          refine g_istoreN (l' := #[.val (.int ((x.toUInt32 >>> ((4 : Int32) &&& 31).toUInt32).toInt32)), .val (.int ((31 : Int32) + (-4 : Int32)))]) X0 hx 61 (hb hby d5_60) rfl rfl ?_
          generalize hz13 : ((x.toUInt32 >>> ((4 : Int32) &&& 31).toUInt32).toInt32) = z13
          have fz13 := own_ush (4 : Int32) 4 (by decide) (by decide) hz13 (by omega)
          refine g_iloadN X0 hx 62 (hb hby d5_61) rfl rfl ?_
          refine g_iconst X0 hx (4 : Int32) 63 (hb hby d5_62) rfl (by decide) ?_
          have ll15 : ((4 : Int32) : Int32).toInt = 4 := by decide
          refine g_ic_lt X0 hx 73 66 (hb hby d5_63) (by decide) (by decide) rfl (fun c14 => ?_) (fun c14 => ?_)
          · skip
            refine g_iloadN X0 hx 74 (hb hby d5_73) rfl rfl ?_
            refine g_iloadN X0 hx 75 (hb hby d5_74) rfl rfl ?_
            refine g_iconst X0 hx (1 : Int32) 76 (hb hby d5_75) rfl (by decide) ?_
            refine g_iushr X0 hx 77 (hb hby d5_76) rfl ?_
            refine g_isub X0 hx 78 (hb hby d5_77) rfl ?_
            generalize hw16 : ((z13.toUInt32 >>> ((1 : Int32) &&& 31).toUInt32).toInt32) = w16
            have fw16 := own_ush (1 : Int32) 1 (by decide) (by decide) hw16 (by omega)
            have kw16 := c_isub ((31 : Int32) + (-4 : Int32)) w16
            have jw16 : (((31 : Int32) + (-4 : Int32)) : Int32).toInt = 31 - 4 := by decide
            exact g_retI X0 hx hlk hret (hb hby d5_78) (by decide) (by decide) e0 ⟨_, rfl, N0, rfl, own_leaf (z := z13) (w := w16) 4 (by decide) (by omega) (by omega) (by omega) (by omega) (by have := rng32 (((31 : Int32) + (-4 : Int32)) - w16); omega)⟩
          · skip
            refine g_iinc (w := (-2 : Int32)) (l' := #[.val (.int z13), .val (.int (((31 : Int32) + (-4 : Int32)) + (-2 : Int32)))]) X0 hx 69 (hb hby d5_66) rfl rfl (by decide) rfl ?_
            refine g_iloadN X0 hx 70 (hb hby d5_69) rfl rfl ?_
            refine g_iconst X0 hx (2 : Int32) 71 (hb hby d5_70) rfl (by decide) ?_
            refine g_iushr X0 hx 72 (hb hby d5_71) rfl ?_
            refine g_istoreN (l' := #[.val (.int ((z13.toUInt32 >>> ((2 : Int32) &&& 31).toUInt32).toInt32)), .val (.int (((31 : Int32) + (-4 : Int32)) + (-2 : Int32)))]) X0 hx 73 (hb hby d5_72) rfl rfl ?_
            generalize hz17 : ((z13.toUInt32 >>> ((2 : Int32) &&& 31).toUInt32).toInt32) = z17
            have fz17 := own_ush (2 : Int32) 2 (by decide) (by decide) hz17 (by omega)
            refine g_iloadN X0 hx 74 (hb hby d5_73) rfl rfl ?_
            refine g_iloadN X0 hx 75 (hb hby d5_74) rfl rfl ?_
            refine g_iconst X0 hx (1 : Int32) 76 (hb hby d5_75) rfl (by decide) ?_
            refine g_iushr X0 hx 77 (hb hby d5_76) rfl ?_
            refine g_isub X0 hx 78 (hb hby d5_77) rfl ?_
            generalize hw18 : ((z17.toUInt32 >>> ((1 : Int32) &&& 31).toUInt32).toInt32) = w18
            have fw18 := own_ush (1 : Int32) 1 (by decide) (by decide) hw18 (by omega)
            have kw18 := c_isub (((31 : Int32) + (-4 : Int32)) + (-2 : Int32)) w18
            have jw18 : ((((31 : Int32) + (-4 : Int32)) + (-2 : Int32)) : Int32).toInt = 31 - 6 := by decide
            exact g_retI X0 hx hlk hret (hb hby d5_78) (by decide) (by decide) e0 ⟨_, rfl, N0, rfl, own_leaf (z := z17) (w := w18) 6 (by decide) (by omega) (by omega) (by omega) (by omega) (by have := rng32 ((((31 : Int32) + (-4 : Int32)) + (-2 : Int32)) - w18); omega)⟩
      · skip
        refine g_iinc (w := (-8 : Int32)) (l' := #[.val (.int x), .val (.int ((31 : Int32) + (-8 : Int32)))]) X0 hx 43 (hb hby d5_40) rfl rfl (by decide) rfl ?_
        refine g_iloadN X0 hx 44 (hb hby d5_43) rfl rfl ?_
        refine g_bipush X0 hx (8 : Int32) 46 (hb hby d5_44) rfl (by decide) ?_
        refine g_iushr X0 hx 47 (hb hby d5_46) rfl ?_
        refine g_istoreN (l' := #[.val (.int ((x.toUInt32 >>> ((8 : Int32) &&& 31).toUInt32).toInt32)), .val (.int ((31 : Int32) + (-8 : Int32)))]) X0 hx 48 (hb hby d5_47) rfl rfl ?_
        generalize hz19 : ((x.toUInt32 >>> ((8 : Int32) &&& 31).toUInt32).toInt32) = z19
        have fz19 := own_ush (8 : Int32) 8 (by decide) (by decide) hz19 (by omega)
        refine g_iloadN X0 hx 49 (hb hby d5_48) rfl rfl ?_
        refine g_bipush X0 hx (16 : Int32) 51 (hb hby d5_49) rfl (by decide) ?_
        have ll21 : ((16 : Int32) : Int32).toInt = 16 := by decide
        refine g_ic_lt X0 hx 61 54 (hb hby d5_51) (by decide) (by decide) rfl (fun c20 => ?_) (fun c20 => ?_)
        · skip
          refine g_iloadN X0 hx 62 (hb hby d5_61) rfl rfl ?_
          refine g_iconst X0 hx (4 : Int32) 63 (hb hby d5_62) rfl (by decide) ?_
          have ll23 : ((4 : Int32) : Int32).toInt = 4 := by decide
          refine g_ic_lt X0 hx 73 66 (hb hby d5_63) (by decide) (by decide) rfl (fun c22 => ?_) (fun c22 => ?_)
          · skip
            refine g_iloadN X0 hx 74 (hb hby d5_73) rfl rfl ?_
            refine g_iloadN X0 hx 75 (hb hby d5_74) rfl rfl ?_
            refine g_iconst X0 hx (1 : Int32) 76 (hb hby d5_75) rfl (by decide) ?_
            refine g_iushr X0 hx 77 (hb hby d5_76) rfl ?_
            refine g_isub X0 hx 78 (hb hby d5_77) rfl ?_
            generalize hw24 : ((z19.toUInt32 >>> ((1 : Int32) &&& 31).toUInt32).toInt32) = w24
            have fw24 := own_ush (1 : Int32) 1 (by decide) (by decide) hw24 (by omega)
            have kw24 := c_isub ((31 : Int32) + (-8 : Int32)) w24
            have jw24 : (((31 : Int32) + (-8 : Int32)) : Int32).toInt = 31 - 8 := by decide
            exact g_retI X0 hx hlk hret (hb hby d5_78) (by decide) (by decide) e0 ⟨_, rfl, N0, rfl, own_leaf (z := z19) (w := w24) 8 (by decide) (by omega) (by omega) (by omega) (by omega) (by have := rng32 (((31 : Int32) + (-8 : Int32)) - w24); omega)⟩
          · skip
            refine g_iinc (w := (-2 : Int32)) (l' := #[.val (.int z19), .val (.int (((31 : Int32) + (-8 : Int32)) + (-2 : Int32)))]) X0 hx 69 (hb hby d5_66) rfl rfl (by decide) rfl ?_
            refine g_iloadN X0 hx 70 (hb hby d5_69) rfl rfl ?_
            refine g_iconst X0 hx (2 : Int32) 71 (hb hby d5_70) rfl (by decide) ?_
            refine g_iushr X0 hx 72 (hb hby d5_71) rfl ?_
            refine g_istoreN (l' := #[.val (.int ((z19.toUInt32 >>> ((2 : Int32) &&& 31).toUInt32).toInt32)), .val (.int (((31 : Int32) + (-8 : Int32)) + (-2 : Int32)))]) X0 hx 73 (hb hby d5_72) rfl rfl ?_
            generalize hz25 : ((z19.toUInt32 >>> ((2 : Int32) &&& 31).toUInt32).toInt32) = z25
            have fz25 := own_ush (2 : Int32) 2 (by decide) (by decide) hz25 (by omega)
            refine g_iloadN X0 hx 74 (hb hby d5_73) rfl rfl ?_
            refine g_iloadN X0 hx 75 (hb hby d5_74) rfl rfl ?_
            refine g_iconst X0 hx (1 : Int32) 76 (hb hby d5_75) rfl (by decide) ?_
            refine g_iushr X0 hx 77 (hb hby d5_76) rfl ?_
            refine g_isub X0 hx 78 (hb hby d5_77) rfl ?_
            generalize hw26 : ((z25.toUInt32 >>> ((1 : Int32) &&& 31).toUInt32).toInt32) = w26
            have fw26 := own_ush (1 : Int32) 1 (by decide) (by decide) hw26 (by omega)
            have kw26 := c_isub (((31 : Int32) + (-8 : Int32)) + (-2 : Int32)) w26
            have jw26 : ((((31 : Int32) + (-8 : Int32)) + (-2 : Int32)) : Int32).toInt = 31 - 10 := by decide
            exact g_retI X0 hx hlk hret (hb hby d5_78) (by decide) (by decide) e0 ⟨_, rfl, N0, rfl, own_leaf (z := z25) (w := w26) 10 (by decide) (by omega) (by omega) (by omega) (by omega) (by have := rng32 ((((31 : Int32) + (-8 : Int32)) + (-2 : Int32)) - w26); omega)⟩
        · skip
          refine g_iinc (w := (-4 : Int32)) (l' := #[.val (.int z19), .val (.int (((31 : Int32) + (-8 : Int32)) + (-4 : Int32)))]) X0 hx 57 (hb hby d5_54) rfl rfl (by decide) rfl ?_
          refine g_iloadN X0 hx 58 (hb hby d5_57) rfl rfl ?_
          refine g_iconst X0 hx (4 : Int32) 59 (hb hby d5_58) rfl (by decide) ?_
          refine g_iushr X0 hx 60 (hb hby d5_59) rfl ?_
          refine g_istoreN (l' := #[.val (.int ((z19.toUInt32 >>> ((4 : Int32) &&& 31).toUInt32).toInt32)), .val (.int (((31 : Int32) + (-8 : Int32)) + (-4 : Int32)))]) X0 hx 61 (hb hby d5_60) rfl rfl ?_
          generalize hz27 : ((z19.toUInt32 >>> ((4 : Int32) &&& 31).toUInt32).toInt32) = z27
          have fz27 := own_ush (4 : Int32) 4 (by decide) (by decide) hz27 (by omega)
          refine g_iloadN X0 hx 62 (hb hby d5_61) rfl rfl ?_
          refine g_iconst X0 hx (4 : Int32) 63 (hb hby d5_62) rfl (by decide) ?_
          have ll29 : ((4 : Int32) : Int32).toInt = 4 := by decide
          refine g_ic_lt X0 hx 73 66 (hb hby d5_63) (by decide) (by decide) rfl (fun c28 => ?_) (fun c28 => ?_)
          · skip
            refine g_iloadN X0 hx 74 (hb hby d5_73) rfl rfl ?_
            refine g_iloadN X0 hx 75 (hb hby d5_74) rfl rfl ?_
            refine g_iconst X0 hx (1 : Int32) 76 (hb hby d5_75) rfl (by decide) ?_
            refine g_iushr X0 hx 77 (hb hby d5_76) rfl ?_
            refine g_isub X0 hx 78 (hb hby d5_77) rfl ?_
            generalize hw30 : ((z27.toUInt32 >>> ((1 : Int32) &&& 31).toUInt32).toInt32) = w30
            have fw30 := own_ush (1 : Int32) 1 (by decide) (by decide) hw30 (by omega)
            have kw30 := c_isub (((31 : Int32) + (-8 : Int32)) + (-4 : Int32)) w30
            have jw30 : ((((31 : Int32) + (-8 : Int32)) + (-4 : Int32)) : Int32).toInt = 31 - 12 := by decide
            exact g_retI X0 hx hlk hret (hb hby d5_78) (by decide) (by decide) e0 ⟨_, rfl, N0, rfl, own_leaf (z := z27) (w := w30) 12 (by decide) (by omega) (by omega) (by omega) (by omega) (by have := rng32 ((((31 : Int32) + (-8 : Int32)) + (-4 : Int32)) - w30); omega)⟩
          · skip
            refine g_iinc (w := (-2 : Int32)) (l' := #[.val (.int z27), .val (.int ((((31 : Int32) + (-8 : Int32)) + (-4 : Int32)) + (-2 : Int32)))]) X0 hx 69 (hb hby d5_66) rfl rfl (by decide) rfl ?_
            refine g_iloadN X0 hx 70 (hb hby d5_69) rfl rfl ?_
            refine g_iconst X0 hx (2 : Int32) 71 (hb hby d5_70) rfl (by decide) ?_
            refine g_iushr X0 hx 72 (hb hby d5_71) rfl ?_
            refine g_istoreN (l' := #[.val (.int ((z27.toUInt32 >>> ((2 : Int32) &&& 31).toUInt32).toInt32)), .val (.int ((((31 : Int32) + (-8 : Int32)) + (-4 : Int32)) + (-2 : Int32)))]) X0 hx 73 (hb hby d5_72) rfl rfl ?_
            generalize hz31 : ((z27.toUInt32 >>> ((2 : Int32) &&& 31).toUInt32).toInt32) = z31
            have fz31 := own_ush (2 : Int32) 2 (by decide) (by decide) hz31 (by omega)
            refine g_iloadN X0 hx 74 (hb hby d5_73) rfl rfl ?_
            refine g_iloadN X0 hx 75 (hb hby d5_74) rfl rfl ?_
            refine g_iconst X0 hx (1 : Int32) 76 (hb hby d5_75) rfl (by decide) ?_
            refine g_iushr X0 hx 77 (hb hby d5_76) rfl ?_
            refine g_isub X0 hx 78 (hb hby d5_77) rfl ?_
            generalize hw32 : ((z31.toUInt32 >>> ((1 : Int32) &&& 31).toUInt32).toInt32) = w32
            have fw32 := own_ush (1 : Int32) 1 (by decide) (by decide) hw32 (by omega)
            have kw32 := c_isub ((((31 : Int32) + (-8 : Int32)) + (-4 : Int32)) + (-2 : Int32)) w32
            have jw32 : (((((31 : Int32) + (-8 : Int32)) + (-4 : Int32)) + (-2 : Int32)) : Int32).toInt = 31 - 14 := by decide
            exact g_retI X0 hx hlk hret (hb hby d5_78) (by decide) (by decide) e0 ⟨_, rfl, N0, rfl, own_leaf (z := z31) (w := w32) 14 (by decide) (by omega) (by omega) (by omega) (by omega) (by have := rng32 (((((31 : Int32) + (-8 : Int32)) + (-4 : Int32)) + (-2 : Int32)) - w32); omega)⟩
    · skip
      refine g_iinc (w := (-16 : Int32)) (l' := #[.val (.int x), .val (.int ((31 : Int32) + (-16 : Int32)))]) X0 hx 28 (hb hby d5_25) rfl rfl (by decide) rfl ?_
      refine g_iloadN X0 hx 29 (hb hby d5_28) rfl rfl ?_
      refine g_bipush X0 hx (16 : Int32) 31 (hb hby d5_29) rfl (by decide) ?_
      refine g_iushr X0 hx 32 (hb hby d5_31) rfl ?_
      refine g_istoreN (l' := #[.val (.int ((x.toUInt32 >>> ((16 : Int32) &&& 31).toUInt32).toInt32)), .val (.int ((31 : Int32) + (-16 : Int32)))]) X0 hx 33 (hb hby d5_32) rfl rfl ?_
      generalize hz33 : ((x.toUInt32 >>> ((16 : Int32) &&& 31).toUInt32).toInt32) = z33
      have fz33 := own_ush (16 : Int32) 16 (by decide) (by decide) hz33 (by omega)
      refine g_iloadN X0 hx 34 (hb hby d5_33) rfl rfl ?_
      refine g_sipush X0 hx (256 : Int32) 37 (hb hby d5_34) rfl (by decide) ?_
      have ll35 : ((256 : Int32) : Int32).toInt = 256 := by decide
      refine g_ic_lt X0 hx 48 40 (hb hby d5_37) (by decide) (by decide) rfl (fun c34 => ?_) (fun c34 => ?_)
      · skip
        refine g_iloadN X0 hx 49 (hb hby d5_48) rfl rfl ?_
        refine g_bipush X0 hx (16 : Int32) 51 (hb hby d5_49) rfl (by decide) ?_
        have ll37 : ((16 : Int32) : Int32).toInt = 16 := by decide
        refine g_ic_lt X0 hx 61 54 (hb hby d5_51) (by decide) (by decide) rfl (fun c36 => ?_) (fun c36 => ?_)
        · skip
          refine g_iloadN X0 hx 62 (hb hby d5_61) rfl rfl ?_
          refine g_iconst X0 hx (4 : Int32) 63 (hb hby d5_62) rfl (by decide) ?_
          have ll39 : ((4 : Int32) : Int32).toInt = 4 := by decide
          refine g_ic_lt X0 hx 73 66 (hb hby d5_63) (by decide) (by decide) rfl (fun c38 => ?_) (fun c38 => ?_)
          · skip
            refine g_iloadN X0 hx 74 (hb hby d5_73) rfl rfl ?_
            refine g_iloadN X0 hx 75 (hb hby d5_74) rfl rfl ?_
            refine g_iconst X0 hx (1 : Int32) 76 (hb hby d5_75) rfl (by decide) ?_
            refine g_iushr X0 hx 77 (hb hby d5_76) rfl ?_
            refine g_isub X0 hx 78 (hb hby d5_77) rfl ?_
            generalize hw40 : ((z33.toUInt32 >>> ((1 : Int32) &&& 31).toUInt32).toInt32) = w40
            have fw40 := own_ush (1 : Int32) 1 (by decide) (by decide) hw40 (by omega)
            have kw40 := c_isub ((31 : Int32) + (-16 : Int32)) w40
            have jw40 : (((31 : Int32) + (-16 : Int32)) : Int32).toInt = 31 - 16 := by decide
            exact g_retI X0 hx hlk hret (hb hby d5_78) (by decide) (by decide) e0 ⟨_, rfl, N0, rfl, own_leaf (z := z33) (w := w40) 16 (by decide) (by omega) (by omega) (by omega) (by omega) (by have := rng32 (((31 : Int32) + (-16 : Int32)) - w40); omega)⟩
          · skip
            refine g_iinc (w := (-2 : Int32)) (l' := #[.val (.int z33), .val (.int (((31 : Int32) + (-16 : Int32)) + (-2 : Int32)))]) X0 hx 69 (hb hby d5_66) rfl rfl (by decide) rfl ?_
            refine g_iloadN X0 hx 70 (hb hby d5_69) rfl rfl ?_
            refine g_iconst X0 hx (2 : Int32) 71 (hb hby d5_70) rfl (by decide) ?_
            refine g_iushr X0 hx 72 (hb hby d5_71) rfl ?_
            refine g_istoreN (l' := #[.val (.int ((z33.toUInt32 >>> ((2 : Int32) &&& 31).toUInt32).toInt32)), .val (.int (((31 : Int32) + (-16 : Int32)) + (-2 : Int32)))]) X0 hx 73 (hb hby d5_72) rfl rfl ?_
            generalize hz41 : ((z33.toUInt32 >>> ((2 : Int32) &&& 31).toUInt32).toInt32) = z41
            have fz41 := own_ush (2 : Int32) 2 (by decide) (by decide) hz41 (by omega)
            refine g_iloadN X0 hx 74 (hb hby d5_73) rfl rfl ?_
            refine g_iloadN X0 hx 75 (hb hby d5_74) rfl rfl ?_
            refine g_iconst X0 hx (1 : Int32) 76 (hb hby d5_75) rfl (by decide) ?_
            refine g_iushr X0 hx 77 (hb hby d5_76) rfl ?_
            refine g_isub X0 hx 78 (hb hby d5_77) rfl ?_
            generalize hw42 : ((z41.toUInt32 >>> ((1 : Int32) &&& 31).toUInt32).toInt32) = w42
            have fw42 := own_ush (1 : Int32) 1 (by decide) (by decide) hw42 (by omega)
            have kw42 := c_isub (((31 : Int32) + (-16 : Int32)) + (-2 : Int32)) w42
            have jw42 : ((((31 : Int32) + (-16 : Int32)) + (-2 : Int32)) : Int32).toInt = 31 - 18 := by decide
            exact g_retI X0 hx hlk hret (hb hby d5_78) (by decide) (by decide) e0 ⟨_, rfl, N0, rfl, own_leaf (z := z41) (w := w42) 18 (by decide) (by omega) (by omega) (by omega) (by omega) (by have := rng32 ((((31 : Int32) + (-16 : Int32)) + (-2 : Int32)) - w42); omega)⟩
        · skip
          refine g_iinc (w := (-4 : Int32)) (l' := #[.val (.int z33), .val (.int (((31 : Int32) + (-16 : Int32)) + (-4 : Int32)))]) X0 hx 57 (hb hby d5_54) rfl rfl (by decide) rfl ?_
          refine g_iloadN X0 hx 58 (hb hby d5_57) rfl rfl ?_
          refine g_iconst X0 hx (4 : Int32) 59 (hb hby d5_58) rfl (by decide) ?_
          refine g_iushr X0 hx 60 (hb hby d5_59) rfl ?_
          refine g_istoreN (l' := #[.val (.int ((z33.toUInt32 >>> ((4 : Int32) &&& 31).toUInt32).toInt32)), .val (.int (((31 : Int32) + (-16 : Int32)) + (-4 : Int32)))]) X0 hx 61 (hb hby d5_60) rfl rfl ?_
          generalize hz43 : ((z33.toUInt32 >>> ((4 : Int32) &&& 31).toUInt32).toInt32) = z43
          have fz43 := own_ush (4 : Int32) 4 (by decide) (by decide) hz43 (by omega)
          refine g_iloadN X0 hx 62 (hb hby d5_61) rfl rfl ?_
          refine g_iconst X0 hx (4 : Int32) 63 (hb hby d5_62) rfl (by decide) ?_
          have ll45 : ((4 : Int32) : Int32).toInt = 4 := by decide
          refine g_ic_lt X0 hx 73 66 (hb hby d5_63) (by decide) (by decide) rfl (fun c44 => ?_) (fun c44 => ?_)
          · skip
            refine g_iloadN X0 hx 74 (hb hby d5_73) rfl rfl ?_
            refine g_iloadN X0 hx 75 (hb hby d5_74) rfl rfl ?_
            refine g_iconst X0 hx (1 : Int32) 76 (hb hby d5_75) rfl (by decide) ?_
            refine g_iushr X0 hx 77 (hb hby d5_76) rfl ?_
            refine g_isub X0 hx 78 (hb hby d5_77) rfl ?_
            generalize hw46 : ((z43.toUInt32 >>> ((1 : Int32) &&& 31).toUInt32).toInt32) = w46
            have fw46 := own_ush (1 : Int32) 1 (by decide) (by decide) hw46 (by omega)
            have kw46 := c_isub (((31 : Int32) + (-16 : Int32)) + (-4 : Int32)) w46
            have jw46 : ((((31 : Int32) + (-16 : Int32)) + (-4 : Int32)) : Int32).toInt = 31 - 20 := by decide
            exact g_retI X0 hx hlk hret (hb hby d5_78) (by decide) (by decide) e0 ⟨_, rfl, N0, rfl, own_leaf (z := z43) (w := w46) 20 (by decide) (by omega) (by omega) (by omega) (by omega) (by have := rng32 ((((31 : Int32) + (-16 : Int32)) + (-4 : Int32)) - w46); omega)⟩
          · skip
            refine g_iinc (w := (-2 : Int32)) (l' := #[.val (.int z43), .val (.int ((((31 : Int32) + (-16 : Int32)) + (-4 : Int32)) + (-2 : Int32)))]) X0 hx 69 (hb hby d5_66) rfl rfl (by decide) rfl ?_
            refine g_iloadN X0 hx 70 (hb hby d5_69) rfl rfl ?_
            refine g_iconst X0 hx (2 : Int32) 71 (hb hby d5_70) rfl (by decide) ?_
            refine g_iushr X0 hx 72 (hb hby d5_71) rfl ?_
            refine g_istoreN (l' := #[.val (.int ((z43.toUInt32 >>> ((2 : Int32) &&& 31).toUInt32).toInt32)), .val (.int ((((31 : Int32) + (-16 : Int32)) + (-4 : Int32)) + (-2 : Int32)))]) X0 hx 73 (hb hby d5_72) rfl rfl ?_
            generalize hz47 : ((z43.toUInt32 >>> ((2 : Int32) &&& 31).toUInt32).toInt32) = z47
            have fz47 := own_ush (2 : Int32) 2 (by decide) (by decide) hz47 (by omega)
            refine g_iloadN X0 hx 74 (hb hby d5_73) rfl rfl ?_
            refine g_iloadN X0 hx 75 (hb hby d5_74) rfl rfl ?_
            refine g_iconst X0 hx (1 : Int32) 76 (hb hby d5_75) rfl (by decide) ?_
            refine g_iushr X0 hx 77 (hb hby d5_76) rfl ?_
            refine g_isub X0 hx 78 (hb hby d5_77) rfl ?_
            generalize hw48 : ((z47.toUInt32 >>> ((1 : Int32) &&& 31).toUInt32).toInt32) = w48
            have fw48 := own_ush (1 : Int32) 1 (by decide) (by decide) hw48 (by omega)
            have kw48 := c_isub ((((31 : Int32) + (-16 : Int32)) + (-4 : Int32)) + (-2 : Int32)) w48
            have jw48 : (((((31 : Int32) + (-16 : Int32)) + (-4 : Int32)) + (-2 : Int32)) : Int32).toInt = 31 - 22 := by decide
            exact g_retI X0 hx hlk hret (hb hby d5_78) (by decide) (by decide) e0 ⟨_, rfl, N0, rfl, own_leaf (z := z47) (w := w48) 22 (by decide) (by omega) (by omega) (by omega) (by omega) (by have := rng32 (((((31 : Int32) + (-16 : Int32)) + (-4 : Int32)) + (-2 : Int32)) - w48); omega)⟩
      · skip
        refine g_iinc (w := (-8 : Int32)) (l' := #[.val (.int z33), .val (.int (((31 : Int32) + (-16 : Int32)) + (-8 : Int32)))]) X0 hx 43 (hb hby d5_40) rfl rfl (by decide) rfl ?_
        refine g_iloadN X0 hx 44 (hb hby d5_43) rfl rfl ?_
        refine g_bipush X0 hx (8 : Int32) 46 (hb hby d5_44) rfl (by decide) ?_
        refine g_iushr X0 hx 47 (hb hby d5_46) rfl ?_
        refine g_istoreN (l' := #[.val (.int ((z33.toUInt32 >>> ((8 : Int32) &&& 31).toUInt32).toInt32)), .val (.int (((31 : Int32) + (-16 : Int32)) + (-8 : Int32)))]) X0 hx 48 (hb hby d5_47) rfl rfl ?_
        generalize hz49 : ((z33.toUInt32 >>> ((8 : Int32) &&& 31).toUInt32).toInt32) = z49
        have fz49 := own_ush (8 : Int32) 8 (by decide) (by decide) hz49 (by omega)
        refine g_iloadN X0 hx 49 (hb hby d5_48) rfl rfl ?_
        refine g_bipush X0 hx (16 : Int32) 51 (hb hby d5_49) rfl (by decide) ?_
        have ll51 : ((16 : Int32) : Int32).toInt = 16 := by decide
        refine g_ic_lt X0 hx 61 54 (hb hby d5_51) (by decide) (by decide) rfl (fun c50 => ?_) (fun c50 => ?_)
        · skip
          refine g_iloadN X0 hx 62 (hb hby d5_61) rfl rfl ?_
          refine g_iconst X0 hx (4 : Int32) 63 (hb hby d5_62) rfl (by decide) ?_
          have ll53 : ((4 : Int32) : Int32).toInt = 4 := by decide
          refine g_ic_lt X0 hx 73 66 (hb hby d5_63) (by decide) (by decide) rfl (fun c52 => ?_) (fun c52 => ?_)
          · skip
            refine g_iloadN X0 hx 74 (hb hby d5_73) rfl rfl ?_
            refine g_iloadN X0 hx 75 (hb hby d5_74) rfl rfl ?_
            refine g_iconst X0 hx (1 : Int32) 76 (hb hby d5_75) rfl (by decide) ?_
            refine g_iushr X0 hx 77 (hb hby d5_76) rfl ?_
            refine g_isub X0 hx 78 (hb hby d5_77) rfl ?_
            generalize hw54 : ((z49.toUInt32 >>> ((1 : Int32) &&& 31).toUInt32).toInt32) = w54
            have fw54 := own_ush (1 : Int32) 1 (by decide) (by decide) hw54 (by omega)
            have kw54 := c_isub (((31 : Int32) + (-16 : Int32)) + (-8 : Int32)) w54
            have jw54 : ((((31 : Int32) + (-16 : Int32)) + (-8 : Int32)) : Int32).toInt = 31 - 24 := by decide
            exact g_retI X0 hx hlk hret (hb hby d5_78) (by decide) (by decide) e0 ⟨_, rfl, N0, rfl, own_leaf (z := z49) (w := w54) 24 (by decide) (by omega) (by omega) (by omega) (by omega) (by have := rng32 ((((31 : Int32) + (-16 : Int32)) + (-8 : Int32)) - w54); omega)⟩
          · skip
            refine g_iinc (w := (-2 : Int32)) (l' := #[.val (.int z49), .val (.int ((((31 : Int32) + (-16 : Int32)) + (-8 : Int32)) + (-2 : Int32)))]) X0 hx 69 (hb hby d5_66) rfl rfl (by decide) rfl ?_
            refine g_iloadN X0 hx 70 (hb hby d5_69) rfl rfl ?_
            refine g_iconst X0 hx (2 : Int32) 71 (hb hby d5_70) rfl (by decide) ?_
            refine g_iushr X0 hx 72 (hb hby d5_71) rfl ?_
            refine g_istoreN (l' := #[.val (.int ((z49.toUInt32 >>> ((2 : Int32) &&& 31).toUInt32).toInt32)), .val (.int ((((31 : Int32) + (-16 : Int32)) + (-8 : Int32)) + (-2 : Int32)))]) X0 hx 73 (hb hby d5_72) rfl rfl ?_
            generalize hz55 : ((z49.toUInt32 >>> ((2 : Int32) &&& 31).toUInt32).toInt32) = z55
            have fz55 := own_ush (2 : Int32) 2 (by decide) (by decide) hz55 (by omega)
            refine g_iloadN X0 hx 74 (hb hby d5_73) rfl rfl ?_
            refine g_iloadN X0 hx 75 (hb hby d5_74) rfl rfl ?_
            refine g_iconst X0 hx (1 : Int32) 76 (hb hby d5_75) rfl (by decide) ?_
            refine g_iushr X0 hx 77 (hb hby d5_76) rfl ?_
            refine g_isub X0 hx 78 (hb hby d5_77) rfl ?_
            generalize hw56 : ((z55.toUInt32 >>> ((1 : Int32) &&& 31).toUInt32).toInt32) = w56
            have fw56 := own_ush (1 : Int32) 1 (by decide) (by decide) hw56 (by omega)
            have kw56 := c_isub ((((31 : Int32) + (-16 : Int32)) + (-8 : Int32)) + (-2 : Int32)) w56
            have jw56 : (((((31 : Int32) + (-16 : Int32)) + (-8 : Int32)) + (-2 : Int32)) : Int32).toInt = 31 - 26 := by decide
            exact g_retI X0 hx hlk hret (hb hby d5_78) (by decide) (by decide) e0 ⟨_, rfl, N0, rfl, own_leaf (z := z55) (w := w56) 26 (by decide) (by omega) (by omega) (by omega) (by omega) (by have := rng32 (((((31 : Int32) + (-16 : Int32)) + (-8 : Int32)) + (-2 : Int32)) - w56); omega)⟩
        · skip
          refine g_iinc (w := (-4 : Int32)) (l' := #[.val (.int z49), .val (.int ((((31 : Int32) + (-16 : Int32)) + (-8 : Int32)) + (-4 : Int32)))]) X0 hx 57 (hb hby d5_54) rfl rfl (by decide) rfl ?_
          refine g_iloadN X0 hx 58 (hb hby d5_57) rfl rfl ?_
          refine g_iconst X0 hx (4 : Int32) 59 (hb hby d5_58) rfl (by decide) ?_
          refine g_iushr X0 hx 60 (hb hby d5_59) rfl ?_
          refine g_istoreN (l' := #[.val (.int ((z49.toUInt32 >>> ((4 : Int32) &&& 31).toUInt32).toInt32)), .val (.int ((((31 : Int32) + (-16 : Int32)) + (-8 : Int32)) + (-4 : Int32)))]) X0 hx 61 (hb hby d5_60) rfl rfl ?_
          generalize hz57 : ((z49.toUInt32 >>> ((4 : Int32) &&& 31).toUInt32).toInt32) = z57
          have fz57 := own_ush (4 : Int32) 4 (by decide) (by decide) hz57 (by omega)
          refine g_iloadN X0 hx 62 (hb hby d5_61) rfl rfl ?_
          refine g_iconst X0 hx (4 : Int32) 63 (hb hby d5_62) rfl (by decide) ?_
          have ll59 : ((4 : Int32) : Int32).toInt = 4 := by decide
          refine g_ic_lt X0 hx 73 66 (hb hby d5_63) (by decide) (by decide) rfl (fun c58 => ?_) (fun c58 => ?_)
          · skip
            refine g_iloadN X0 hx 74 (hb hby d5_73) rfl rfl ?_
            refine g_iloadN X0 hx 75 (hb hby d5_74) rfl rfl ?_
            refine g_iconst X0 hx (1 : Int32) 76 (hb hby d5_75) rfl (by decide) ?_
            refine g_iushr X0 hx 77 (hb hby d5_76) rfl ?_
            refine g_isub X0 hx 78 (hb hby d5_77) rfl ?_
            generalize hw60 : ((z57.toUInt32 >>> ((1 : Int32) &&& 31).toUInt32).toInt32) = w60
            have fw60 := own_ush (1 : Int32) 1 (by decide) (by decide) hw60 (by omega)
            have kw60 := c_isub ((((31 : Int32) + (-16 : Int32)) + (-8 : Int32)) + (-4 : Int32)) w60
            have jw60 : (((((31 : Int32) + (-16 : Int32)) + (-8 : Int32)) + (-4 : Int32)) : Int32).toInt = 31 - 28 := by decide
            exact g_retI X0 hx hlk hret (hb hby d5_78) (by decide) (by decide) e0 ⟨_, rfl, N0, rfl, own_leaf (z := z57) (w := w60) 28 (by decide) (by omega) (by omega) (by omega) (by omega) (by have := rng32 (((((31 : Int32) + (-16 : Int32)) + (-8 : Int32)) + (-4 : Int32)) - w60); omega)⟩
          · skip
            refine g_iinc (w := (-2 : Int32)) (l' := #[.val (.int z57), .val (.int (((((31 : Int32) + (-16 : Int32)) + (-8 : Int32)) + (-4 : Int32)) + (-2 : Int32)))]) X0 hx 69 (hb hby d5_66) rfl rfl (by decide) rfl ?_
            refine g_iloadN X0 hx 70 (hb hby d5_69) rfl rfl ?_
            refine g_iconst X0 hx (2 : Int32) 71 (hb hby d5_70) rfl (by decide) ?_
            refine g_iushr X0 hx 72 (hb hby d5_71) rfl ?_
            refine g_istoreN (l' := #[.val (.int ((z57.toUInt32 >>> ((2 : Int32) &&& 31).toUInt32).toInt32)), .val (.int (((((31 : Int32) + (-16 : Int32)) + (-8 : Int32)) + (-4 : Int32)) + (-2 : Int32)))]) X0 hx 73 (hb hby d5_72) rfl rfl ?_
            generalize hz61 : ((z57.toUInt32 >>> ((2 : Int32) &&& 31).toUInt32).toInt32) = z61
            have fz61 := own_ush (2 : Int32) 2 (by decide) (by decide) hz61 (by omega)
            refine g_iloadN X0 hx 74 (hb hby d5_73) rfl rfl ?_
            refine g_iloadN X0 hx 75 (hb hby d5_74) rfl rfl ?_
            refine g_iconst X0 hx (1 : Int32) 76 (hb hby d5_75) rfl (by decide) ?_
            refine g_iushr X0 hx 77 (hb hby d5_76) rfl ?_
            refine g_isub X0 hx 78 (hb hby d5_77) rfl ?_
            generalize hw62 : ((z61.toUInt32 >>> ((1 : Int32) &&& 31).toUInt32).toInt32) = w62
            have fw62 := own_ush (1 : Int32) 1 (by decide) (by decide) hw62 (by omega)
            have kw62 := c_isub (((((31 : Int32) + (-16 : Int32)) + (-8 : Int32)) + (-4 : Int32)) + (-2 : Int32)) w62
            have jw62 : ((((((31 : Int32) + (-16 : Int32)) + (-8 : Int32)) + (-4 : Int32)) + (-2 : Int32)) : Int32).toInt = 31 - 30 := by decide
            exact g_retI X0 hx hlk hret (hb hby d5_78) (by decide) (by decide) e0 ⟨_, rfl, N0, rfl, own_leaf (z := z61) (w := w62) 30 (by decide) (by omega) (by omega) (by omega) (by omega) (by have := rng32 ((((((31 : Int32) + (-16 : Int32)) + (-8 : Int32)) + (-4 : Int32)) + (-2 : Int32)) - w62); omega)⟩
  · skip
    refine g_iloadN X0 hx 5 (hb hby d5_4) rfl rfl ?_
    refine g_if_ne X0 hx 13 8 (hb hby d5_5) (by decide) (by decide) rfl (fun c63 => ?_) (fun c63 => ?_)
    · skip
      exfalso; omega
    · skip
      refine g_bipush X0 hx (32 : Int32) 10 (hb hby d5_8) rfl (by decide) ?_
      refine g_goto X0 hx 14 (hb hby d5_10) (by decide) (by decide) ?_
      exact g_retI X0 hx hlk hret (hb hby d5_14) (by decide) (by decide) e0 ⟨_, rfl, N0, rfl, Or.inl ⟨by omega, by decide⟩⟩
section OwnMap
/-- from cell j on, d steps: none of the cells before r is free or holds q, r is free or holds q -/
def Path (N : Nat) (K : List Int32) (q : Int32) : Nat → Nat → Nat → Prop
  | 0, j, r => r = j ∧ (K.getD j 0 = 0 ∨ K.getD j 0 = q)
  | d + 1, j, r => K.getD j 0 ≠ 0 ∧ K.getD j 0 ≠ q ∧ Path N K q d ((j + 1) % N) r
theorem own_path_end {N : Nat} {K : List Int32} {q : Int32} {r : Nat} : ∀ (d j : Nat), Path N K q d j r → K.getD r 0 = 0 ∨ K.getD r 0 = q
  | 0, j, h => by obtain ⟨rfl, h⟩ := h; exact h
  | d + 1, j, h => own_path_end d _ h.2.2
theorem own_path_lt {N : Nat} {K : List Int32} {q : Int32} {r : Nat} (hN : 0 < N) : ∀ (d j : Nat), j < N → Path N K q d j r → r < N
  | 0, j, hj, h => by obtain ⟨rfl, h⟩ := h; exact hj
  | d + 1, j, hj, h => own_path_lt hN d _ (Nat.mod_lt _ hN) h.2.2
theorem own_path_uniq {N : Nat} {K : List Int32} {q : Int32} {r r' : Nat} : ∀ (d d' j : Nat), Path N K q d j r → Path N K q d' j r' → r = r'
  | 0, 0, j, h, h' => h.1.trans h'.1.symm
  | 0, d' + 1, j, h, h' => by rcases h.2 with x | x; exact absurd x h'.1; exact absurd x h'.2.1
  | d + 1, 0, j, h, h' => by rcases h'.2 with x | x; exact absurd x h.1; exact absurd x h.2.1
  | d + 1, d' + 1, j, h, h' => own_path_uniq d d' _ h.2.2 h'.2.2
theorem own_getset (K : List Int32) (r i : Nat) (q : Int32) (hr : r < K.length) : (K.set r q).getD i 0 = if i = r then q else K.getD i 0 := by
  simp only [List.getD_eq_getElem?_getD]
  by_cases e : i = r
  · subst e; simp [hr]
  · rw [List.getElem?_set_ne (Ne.symm e)]; simp [e]
theorem own_getsetD (K : List UInt64) (r i : Nat) (q : UInt64) (hr : r < K.length) : (K.set r q).getD i 0 = if i = r then q else K.getD i 0 := by
  simp only [List.getD_eq_getElem?_getD]
  by_cases e : i = r
  · subst e; simp [hr]
  · rw [List.getElem?_set_ne (Ne.symm e)]; simp [e]
/-- a path that ends at a full cell stands when a free cell is filled -/
theorem own_path_other {N : Nat} {K : List Int32} {q q' : Int32} {r r' : Nat} (hr : r < K.length) (z : K.getD r 0 = 0) (f : K.getD r' 0 ≠ 0) : ∀ (d j : Nat), Path N K q' d j r' → Path N (K.set r q) q' d j r'
  | 0, j, h => by
    obtain ⟨rfl, h⟩ := h
    refine ⟨rfl, ?_⟩
    have g : r' ≠ r := fun e => f (by rw [e]; exact z)
    rw [own_getset K r r' q hr, if_neg g]; exact h
  | d + 1, j, h => by
    have e : j ≠ r := fun e => h.1 (e ▸ z)
    refine ⟨?_, ?_, own_path_other hr z f d _ h.2.2⟩
    · rw [own_getset K r j q hr, if_neg e]; exact h.1
    · rw [own_getset K r j q hr, if_neg e]; exact h.2.1
theorem own_path_self {N : Nat} {K : List Int32} {q : Int32} {r : Nat} (hr : r < K.length) (z : K.getD r 0 = 0) : ∀ (d j : Nat), Path N K q d j r → Path N (K.set r q) q d j r
  | 0, j, h => by
    obtain ⟨rfl, h⟩ := h
    refine ⟨rfl, Or.inr ?_⟩
    rw [own_getset K r r q hr, if_pos rfl]
  | d + 1, j, h => by
    have e : j ≠ r := fun e => h.1 (e ▸ z)
    refine ⟨?_, ?_, own_path_self hr z d _ h.2.2⟩
    · rw [own_getset K r j q hr, if_neg e]; exact h.1
    · rw [own_getset K r j q hr, if_neg e]; exact h.2.1
theorem own_pigeon {N j a b c : Nat} (hN : 16 ≤ N) (hj : j < N) (h0 : j = a ∨ j = b ∨ j = c) (h1 : (j + 1) % N = a ∨ (j + 1) % N = b ∨ (j + 1) % N = c) (h2 : ((j + 1) % N + 1) % N = a ∨ ((j + 1) % N + 1) % N = b ∨ ((j + 1) % N + 1) % N = c) (h3 : (((j + 1) % N + 1) % N + 1) % N = a ∨ (((j + 1) % N + 1) % N + 1) % N = b ∨ (((j + 1) % N + 1) % N + 1) % N = c) : False := by
  have S : ∀ i, i < N → ((i + 1) % N = i + 1 ∧ i + 1 < N) ∨ (i + 1 = N ∧ (i + 1) % N = 0) := fun i hi => by
    by_cases q : i + 1 < N
    · exact Or.inl ⟨Nat.mod_eq_of_lt q, q⟩
    · have : i + 1 = N := by omega
      exact Or.inr ⟨this, by rw [this]; exact Nat.mod_self N⟩
  have l1 := S j hj
  generalize (j + 1) % N = j1 at *
  have l2 := S j1 (by omega)
  generalize (j1 + 1) % N = j2 at *
  have l3 := S j2 (by omega)
  generalize (j2 + 1) % N = j3 at *
  have n1 : j ≠ j1 := by omega
  have n2 : j ≠ j2 := by omega
  have n3 : j ≠ j3 := by omega
  have n4 : j1 ≠ j2 := by omega
  have n5 : j1 ≠ j3 := by omega
  have n6 : j2 ≠ j3 := by omega
  clear l1 l2 l3 S hj hN
  rcases h0 with h0 | h0 | h0 <;> rcases h1 with h1 | h1 | h1 <;> rcases h2 with h2 | h2 | h2 <;> omega
/-- a map of the entries es (key, value), its cells K, V; st: where a key's path begins -/
def MapIs (N : Nat) (st : Int32 → Nat) (es : List (Int32 × UInt64)) (K : List Int32) (V : List UInt64) : Prop :=
  (K.length = N) ∧ (V.length = N) ∧ (16 ≤ N) ∧ (∀ k, st k < N) ∧ (∀ e ∈ es, 0 ≤ e.1.toInt) ∧ (∀ e ∈ es, ∃ d r, Path N K (e.1 + 1) d (st e.1) r ∧ K.getD r 0 = e.1 + 1 ∧ V.getD r 0 = e.2) ∧ (∀ j, K.getD j 0 ≠ 0 → ∃ e ∈ es, K.getD j 0 = e.1 + 1) ∧ (∃ a b c, (∀ j, K.getD j 0 ≠ 0 → j = a ∨ j = b ∨ j = c) ∧ (es.length ≤ 2 → c = b) ∧ (es.length ≤ 1 → b = a))
theorem MapIs.lenK {N : Nat} {st : Int32 → Nat} {es : List (Int32 × UInt64)} {K : List Int32} {V : List UInt64} (M : MapIs N st es K V) : K.length = N := M.1
theorem MapIs.lenV {N : Nat} {st : Int32 → Nat} {es : List (Int32 × UInt64)} {K : List Int32} {V : List UInt64} (M : MapIs N st es K V) : V.length = N := M.2.1
theorem MapIs.big {N : Nat} {st : Int32 → Nat} {es : List (Int32 × UInt64)} {K : List Int32} {V : List UInt64} (M : MapIs N st es K V) : 16 ≤ N := M.2.2.1
theorem MapIs.stl {N : Nat} {st : Int32 → Nat} {es : List (Int32 × UInt64)} {K : List Int32} {V : List UInt64} (M : MapIs N st es K V) : ∀ k, st k < N := M.2.2.2.1
theorem MapIs.pos {N : Nat} {st : Int32 → Nat} {es : List (Int32 × UInt64)} {K : List Int32} {V : List UInt64} (M : MapIs N st es K V) : ∀ e ∈ es, 0 ≤ e.1.toInt := M.2.2.2.2.1
theorem MapIs.ent {N : Nat} {st : Int32 → Nat} {es : List (Int32 × UInt64)} {K : List Int32} {V : List UInt64} (M : MapIs N st es K V) : ∀ e ∈ es, ∃ d r, Path N K (e.1 + 1) d (st e.1) r ∧ K.getD r 0 = e.1 + 1 ∧ V.getD r 0 = e.2 := M.2.2.2.2.2.1
theorem MapIs.occ {N : Nat} {st : Int32 → Nat} {es : List (Int32 × UInt64)} {K : List Int32} {V : List UInt64} (M : MapIs N st es K V) : ∀ j, K.getD j 0 ≠ 0 → ∃ e ∈ es, K.getD j 0 = e.1 + 1 := M.2.2.2.2.2.2.1
theorem MapIs.pla {N : Nat} {st : Int32 → Nat} {es : List (Int32 × UInt64)} {K : List Int32} {V : List UInt64} (M : MapIs N st es K V) : ∃ a b c, (∀ j, K.getD j 0 ≠ 0 → j = a ∨ j = b ∨ j = c) ∧ (es.length ≤ 2 → c = b) ∧ (es.length ≤ 1 → b = a) := M.2.2.2.2.2.2.2
theorem own_k1 {k : Int32} (h : 0 ≤ k.toInt) : k + 1 ≠ 0 := fun e => by
  have e1 := c_iadd k 1
  have l1 : (1 : Int32).toInt = 1 := by decide
  have l0 : (0 : Int32).toInt = 0 := by decide
  have r := rng32 k
  rw [e, l1, l0] at e1
  omega
theorem own_k1i {k k' : Int32} (h : k + 1 = k' + 1) : k = k' := by
  have e1 := c_iadd k 1
  have e2 := c_iadd k' 1
  have r1 := rng32 k
  have r2 := rng32 k'
  rw [h] at e1
  have l1 : (1 : Int32).toInt = 1 := by decide
  rw [l1] at e1 e2
  exact Int32.toInt_inj.mp (by omega)
theorem own_new {N : Nat} {st : Int32 → Nat} (big : 16 ≤ N) (stl : ∀ k, st k < N) : MapIs N st [] (List.replicate N 0) (List.replicate N 0) := by
  have z : ∀ j, (List.replicate N (0 : Int32)).getD j 0 = 0 := fun j => by
    simp only [List.getD_eq_getElem?_getD, List.getElem?_replicate]; split <;> rfl
  exact ⟨by simp, by simp, big, stl, fun e h => absurd h (by simp), fun e h => absurd h (by simp), fun j h => absurd (z j) h, 0, 0, 0, fun j h => absurd (z j) h, fun _ => rfl, fun _ => rfl⟩
theorem own_find {N : Nat} {st : Int32 → Nat} {es : List (Int32 × UInt64)} {K : List Int32} {V : List UInt64} (M : MapIs N st es K V) (k : Int32) : ∃ d r, Path N K (k + 1) d (st k) r ∧ r < N := by
  obtain ⟨a, b, c, P, -, -⟩ := M.pla
  have hN : 0 < N := by have := M.big; omega
  have F : ∃ d r, Path N K (k + 1) d (st k) r := by
    by_cases x0 : K.getD (st k) 0 = 0 ∨ K.getD (st k) 0 = k + 1
    · exact ⟨0, _, rfl, x0⟩
    by_cases x1 : K.getD ((st k + 1) % N) 0 = 0 ∨ K.getD ((st k + 1) % N) 0 = k + 1
    · exact ⟨1, _, fun q => x0 (Or.inl q), fun q => x0 (Or.inr q), rfl, x1⟩
    by_cases x2 : K.getD (((st k + 1) % N + 1) % N) 0 = 0 ∨ K.getD (((st k + 1) % N + 1) % N) 0 = k + 1
    · exact ⟨2, _, fun q => x0 (Or.inl q), fun q => x0 (Or.inr q), fun q => x1 (Or.inl q), fun q => x1 (Or.inr q), rfl, x2⟩
    by_cases x3 : K.getD ((((st k + 1) % N + 1) % N + 1) % N) 0 = 0 ∨ K.getD ((((st k + 1) % N + 1) % N + 1) % N) 0 = k + 1
    · exact ⟨3, _, fun q => x0 (Or.inl q), fun q => x0 (Or.inr q), fun q => x1 (Or.inl q), fun q => x1 (Or.inr q), fun q => x2 (Or.inl q), fun q => x2 (Or.inr q), rfl, x3⟩
    exact (own_pigeon M.big (M.stl k) (P _ fun q => x0 (Or.inl q)) (P _ fun q => x1 (Or.inl q)) (P _ fun q => x2 (Or.inl q)) (P _ fun q => x3 (Or.inl q))).elim
  obtain ⟨d, r, p⟩ := F
  exact ⟨d, r, p, own_path_lt hN d _ (M.stl k) p⟩
theorem own_miss {N : Nat} {st : Int32 → Nat} {es : List (Int32 × UInt64)} {K : List Int32} {V : List UInt64} (M : MapIs N st es K V) {k : Int32} {d r : Nat} (p : Path N K (k + 1) d (st k) r) (hk : ∀ e ∈ es, e.1 ≠ k) : K.getD r 0 = 0 := by
  rcases own_path_end d _ p with q | q
  · exact q
  · by_cases z : K.getD r 0 = 0
    · exact z
    · obtain ⟨e, he, h⟩ := M.occ r z
      exact absurd (own_k1i (h.symm.trans q)) (hk e he)
theorem own_hit {N : Nat} {st : Int32 → Nat} {es : List (Int32 × UInt64)} {K : List Int32} {V : List UInt64} (M : MapIs N st es K V) {k : Int32} {v : UInt64} {d r : Nat} (p : Path N K (k + 1) d (st k) r) (hk : (k, v) ∈ es) : K.getD r 0 ≠ 0 ∧ V.getD r 0 = v := by
  obtain ⟨d', r', p', q1, q2⟩ := M.ent _ hk
  obtain rfl := own_path_uniq _ _ _ p p'
  exact ⟨by rw [q1]; exact own_k1 (M.pos _ hk), q2⟩
theorem own_put {N : Nat} {st : Int32 → Nat} {es : List (Int32 × UInt64)} {K : List Int32} {V : List UInt64} (M : MapIs N st es K V) {k : Int32} (v : UInt64) {d r : Nat} (p : Path N K (k + 1) d (st k) r) (hr : r < N) (hk : ∀ e ∈ es, e.1 ≠ k) (h0 : 0 ≤ k.toInt) (l2 : es.length ≤ 2) : MapIs N st ((k, v) :: es) (K.set r (k + 1)) (V.set r v) := by
  have z := own_miss M p hk
  have hK : r < K.length := by rw [M.lenK]; exact hr
  have hV : r < V.length := by rw [M.lenV]; exact hr
  refine ⟨by rw [List.length_set]; exact M.lenK, by rw [List.length_set]; exact M.lenV, M.big, M.stl, ?_, ?_, ?_, ?_⟩
  · intro e he
    rcases List.mem_cons.mp he with rfl | he
    · exact h0
    · exact M.pos e he
  · intro e he
    rcases List.mem_cons.mp he with rfl | he
    · exact ⟨d, r, own_path_self hK z _ _ p, by rw [own_getset _ _ _ _ hK, if_pos rfl], by rw [own_getsetD _ _ _ _ hV, if_pos rfl]⟩
    · obtain ⟨d', r', p', q1, q2⟩ := M.ent e he
      have f : K.getD r' 0 ≠ 0 := by rw [q1]; exact own_k1 (M.pos e he)
      have g : r' ≠ r := fun q => f (q ▸ z)
      exact ⟨d', r', own_path_other hK z f _ _ p', by rw [own_getset _ _ _ _ hK, if_neg g]; exact q1, by rw [own_getsetD _ _ _ _ hV, if_neg g]; exact q2⟩
  · intro j hj
    rw [own_getset _ _ _ _ hK] at hj ⊢
    by_cases e : j = r
    · rw [if_pos e]; exact ⟨_, List.mem_cons_self .., rfl⟩
    · rw [if_neg e] at hj ⊢
      obtain ⟨x, hx, q⟩ := M.occ j hj
      exact ⟨x, List.mem_cons_of_mem _ hx, q⟩
  · obtain ⟨a, b, c, P, h2, h1⟩ := M.pla
    have hc := h2 l2
    subst hc
    have Q : ∀ j, (K.set r (k + 1)).getD j 0 ≠ 0 → j = r ∨ j = a ∨ j = c := fun j hj => by
      by_cases e : j = r
      · exact Or.inl e
      · rw [own_getset _ _ _ _ hK, if_neg e] at hj
        rcases P j hj with q | q | q <;> simp [q]
    by_cases l1 : es.length ≤ 1
    · have hb := h1 l1
      subst hb
      by_cases l0 : es.length ≤ 0
      · refine ⟨r, r, r, fun j hj => ?_, fun _ => rfl, fun _ => rfl⟩
        by_cases e : j = r
        · exact Or.inl e
        · rw [own_getset _ _ _ _ hK, if_neg e] at hj
          obtain ⟨x, hx, -⟩ := M.occ j hj
          have : 0 < es.length := List.length_pos_of_mem hx
          omega
      · exact ⟨r, c, c, Q, fun _ => rfl, fun q => by simp only [List.length_cons] at q; omega⟩
    · exact ⟨r, a, c, Q, fun q => by simp only [List.length_cons] at q; omega, fun q => by simp only [List.length_cons] at q; omega⟩
/-- where a key's path begins in a table of z cells -/
def own_sh (z : Int32) : Int32 := if z = 16 then 28 else if z = 32 then 27 else 26
def own_st (z k : Int32) : Int32 := ((k * (-1640531527 : Int32)).toUInt32 >>> (own_sh z &&& 31).toUInt32).toInt32
theorem own_st_lt {z : Int32} (hz : z = 16 ∨ z = 32 ∨ z = 64) (k : Int32) : 0 ≤ (own_st z k).toInt ∧ (own_st z k).toInt < z.toInt := by
  unfold own_st
  generalize k * (-1640531527 : Int32) = x
  have B := Int.emod_nonneg x.toInt (show (4294967296 : Int) ≠ 0 by decide)
  have C := Int.emod_lt_of_pos x.toInt (show (0 : Int) < 4294967296 by decide)
  rcases hz with rfl | rfl | rfl
  · rw [show own_sh 16 = 28 from rfl, c_iushr x 28 28 (by decide) (by decide)]
    have e : ((2 ^ 28 : Nat) : Int) = 268435456 := rfl
    have e' : (16 : Int32).toInt = 16 := by decide
    rw [e, e']; omega
  · rw [show own_sh 32 = 27 from rfl, c_iushr x 27 27 (by decide) (by decide)]
    have e : ((2 ^ 27 : Nat) : Int) = 134217728 := rfl
    have e' : (32 : Int32).toInt = 32 := by decide
    rw [e, e']; omega
  · rw [show own_sh 64 = 26 from rfl, c_iushr x 26 26 (by decide) (by decide)]
    have e : ((2 ^ 26 : Nat) : Int) = 67108864 := rfl
    have e' : (64 : Int32).toInt = 64 := by decide
    rw [e, e']; omega
theorem own_next {z j : Int32} {jn : Nat} (hz : z = 16 ∨ z = 32 ∨ z = 64) (hj : j.toInt = jn) (hl : j.toInt < z.toInt) : ((j + 1) &&& (z - 1)).toInt = (((jn + 1) % z.toNatClampNeg : Nat) : Int) := by
  have e1 := c_iadd j 1
  have l1 : (1 : Int32).toInt = 1 := by decide
  have r1 := rng32 (j + 1)
  rw [l1] at e1
  rcases hz with rfl | rfl | rfl
  · have e' : (16 : Int32).toInt = 16 := by decide
    rw [show (16 : Int32) - 1 = 15 from rfl, c_mask (j + 1) 15 4 (by decide) (by decide), show (16 : Int32).toNatClampNeg = 16 from rfl]
    have e : ((2 ^ 4 : Nat) : Int) = 16 := rfl
    rw [e]; omega
  · have e' : (32 : Int32).toInt = 32 := by decide
    rw [show (32 : Int32) - 1 = 31 from rfl, c_mask (j + 1) 31 5 (by decide) (by decide), show (32 : Int32).toNatClampNeg = 32 from rfl]
    have e : ((2 ^ 5 : Nat) : Int) = 32 := rfl
    rw [e]; omega
  · have e' : (64 : Int32).toInt = 64 := by decide
    rw [show (64 : Int32) - 1 = 63 from rfl, c_mask (j + 1) 63 6 (by decide) (by decide), show (64 : Int32).toNatClampNeg = 64 from rfl]
    have e : ((2 ^ 6 : Nat) : Int) = 64 := rfl
    rw [e]; omega
theorem own_mapget (K : List Int32) {j : Int32} {jn : Nat} (hj : j.toInt = jn) : (K.map Value.int).getD j.toNatClampNeg (.int 0) = .int (K.getD jn 0) := by
  rw [own_ncl hj]
  simp only [List.getD_eq_getElem?_getD, List.getElem?_map]
  cases K[jn]? <;> rfl
theorem own_mapgetD (K : List UInt64) {j : Int32} {jn : Nat} (hj : j.toInt = jn) : (K.map Value.double).getD j.toNatClampNeg (.double 0) = .double (K.getD jn 0) := by
  rw [own_ncl hj]
  simp only [List.getD_eq_getElem?_getD, List.getElem?_map]
  cases K[jn]? <;> rfl
theorem own_nlz16 {z r : Int32} (hz : z = 16 ∨ z = 32 ∨ z = 64) (h : NlzIs z.toInt r.toInt) : r + 1 = own_sh z := by
  have T : ∀ i : Nat, i < 7 → r.toInt = 31 - (i : Int) → r = Int32.ofInt (31 - i) := by
    intro i hi q
    refine Int32.toInt_inj.mp ?_
    rw [q]
    have C : i = 0 ∨ i = 1 ∨ i = 2 ∨ i = 3 ∨ i = 4 ∨ i = 5 ∨ i = 6 := by omega
    rcases C with rfl | rfl | rfl | rfl | rfl | rfl | rfl <;> decide
  have U : ∀ k : Nat, z.toInt ≤ 64 → ((2 ^ k : Nat) : Int) ≤ z.toInt → k < 7 := fun k hz' q => Nat.lt_of_not_le fun w => by
    have : 2 ^ 7 ≤ 2 ^ k := Nat.pow_le_pow_right (by decide) w
    omega
  rcases h with ⟨h, -⟩ | ⟨k, -, hr, h1, h2⟩
  · rcases hz with rfl | rfl | rfl <;> exact absurd h (by decide)
  · have hk : k < 7 := U k (by rcases hz with rfl | rfl | rfl <;> decide) h1
    have := T k hk hr
    subst this
    clear T U hr
    have : k = 0 ∨ k = 1 ∨ k = 2 ∨ k = 3 ∨ k = 4 ∨ k = 5 ∨ k = 6 := by omega
    rcases hz with rfl | rfl | rfl <;> rcases this with rfl | rfl | rfl | rfl | rfl | rfl | rfl <;> revert h1 h2 <;> decide
end OwnMap
theorem own_t0 {x : Int32} (h : x.toInt = 0) : x = 0 := (own_i0 x).2.2.mpr h
theorem own_tn {x : Int32} (h : x.toInt ≠ 0) : x ≠ 0 := fun q => h ((own_i0 x).2.2.mp q)
theorem own_te {x y : Int32} (h : x.toInt = y.toInt) : x = y := Int32.toInt_inj.mp h
theorem own_hob (x : Int32) {r s : Int32} (h1 : 15 ≤ x.toInt) (h2 : x.toInt ≤ 61) (hr : NlzIs x.toInt r.toInt) (hs : x &&& (((-2147483648 : Int32).toUInt32 >>> (r &&& 31).toUInt32).toInt32) = s) : s = 8 ∨ s = 16 ∨ s = 32 := by
  obtain ⟨n, hn, rfl⟩ : ∃ n : Fin 64, 15 ≤ n.1 ∧ x = Int32.ofNat n.1 := by
    refine ⟨⟨x.toInt.toNat, by omega⟩, by show 15 ≤ x.toInt.toNat; omega, Int32.toInt_inj.mp ?_⟩
    show x.toInt = (Int32.ofNat x.toInt.toNat).toInt
    rw [Int32.toInt_ofNat_of_lt (by omega)]
    omega
  subst hs
  have E : (Int32.ofNat n.1).toInt = n.1 := Int32.toInt_ofNat_of_lt (by have := n.2; omega)
  rw [E] at hr h1 h2
  rcases hr with ⟨q, -⟩ | ⟨k, -, q, p1, p2⟩
  · omega
  · have hk : k = 3 ∨ k = 4 ∨ k = 5 := by
      have l1 : k < 6 := Nat.lt_of_not_le fun w => by
        have : 2 ^ 6 ≤ 2 ^ k := Nat.pow_le_pow_right (by decide) w
        omega
      have l2 : 2 < k := Nat.lt_of_not_le fun w => by
        have : 2 ^ (k + 1) ≤ 2 ^ 3 := Nat.pow_le_pow_right (by decide) (by omega)
        omega
      omega
    rcases hk with rfl | rfl | rfl
    · obtain rfl : r = 28 := own_te (by rw [q]; decide)
      have e : ((2 ^ (3 + 1) : Nat) : Int) = 16 := rfl
      left; revert hn p1 p2; clear q E h1 h2 e; revert n; decide +kernel
    · obtain rfl : r = 27 := own_te (by rw [q]; decide)
      right; left; revert hn p1 p2; clear q E h1 h2; revert n; decide +kernel
    · obtain rfl : r = 26 := own_te (by rw [q]; decide)
      right; right; revert hn p1 p2; clear q E h1 h2; revert n; decide +kernel
theorem own_padI (n : Nat) : ∀ i, ((List.replicate n (0 : Int32)).map Value.int).getD i (.int 0) = ([] : List Value).getD i (.int 0) := by
  rw [List.map_replicate]; exact pad_rep [] _ n
theorem own_padD (n : Nat) : ∀ i, ((List.replicate n (0 : UInt64)).map Value.double).getD i (.double 0) = ([] : List Value).getD i (.double 0) := by
  rw [List.map_replicate]; exact pad_rep [] _ n
theorem own_z3 {s z : Int32} (h : s = 8 ∨ s = 16 ∨ s = 32) (hz : s * (2 : Int32) = z) : z = 16 ∨ z = 32 ∨ z = 64 := by
  subst hz
  rcases h with rfl | rfl | rfl <;> decide
theorem own_zb {z : Int32} (h : z = 16 ∨ z = 32 ∨ z = 64) : 16 ≤ z.toInt ∧ z.toInt ≤ 64 ∧ ((z.toNatClampNeg : Nat) : Int) = z.toInt ∧ 16 ≤ z.toNatClampNeg := by
  rcases h with rfl | rfl | rfl <;> decide
theorem d3_0 : decode jdk_29_method_65_code 0 = .ok (.iload_n 0, 1) := by decide +kernel
theorem d3_1 : decode jdk_29_method_65_code 1 = .ok (.iload_n 1, 1) := by decide +kernel
theorem d3_2 : decode jdk_29_method_65_code 2 = .ok (.if_icmp .lt 7, 3) := by decide +kernel
theorem d3_5 : decode jdk_29_method_65_code 5 = .ok (.iload_n 0, 1) := by decide +kernel
theorem d3_6 : decode jdk_29_method_65_code 6 = .ok (.goto 4, 3) := by decide +kernel
theorem d3_9 : decode jdk_29_method_65_code 9 = .ok (.iload_n 1, 1) := by decide +kernel
theorem d3_10 : decode jdk_29_method_65_code 10 = .ok (.ireturn, 1) := by decide +kernel
theorem own_pf1 : plainFor (⟨"java/lang/Math", "max", "(II)I"⟩ : MethodName) = true := Jvm.Free.JP.mathPlain rfl (by decide)
def Q_rmMx (x y : Int32) (n0 : Nat) (h0 : Heap) (v : Option Value) (h : Heap) (L : List Loc) : Prop := ∃ r : Int32, v = some (.int r) ∧ x.toInt ≤ r.toInt ∧ y.toInt ≤ r.toInt ∧ (r.toInt = x.toInt ∨ r.toInt = y.toInt) ∧ Fr n0 L ∧ h = h0
theorem ef_rmMx (x y : Int32) (m : MethodId) : entryFrame m #[(.int x), (.int y)] 2 = mkF m 0 #[.val (.int x), .val (.int y)] [] := by first | (simp [entryFrame, mkF, argsToLocals, Value.category]; done) | rfl
set_option maxRecDepth 65536 in
set_option maxHeartbeats 40000000 in
theorem rmMx (l : Launch) (Z : State) (a0 : Array Value) (hw : ∀ d ∈ tables_1, d.before a0 Z = true) (x y : Int32) (h0 : Heap) (n0 : Nat) (Z0 : n0 ≤ h0.size)  :
    MetFree l (⟨"java/lang/Math", "max", "(II)I"⟩ : MethodName) (head1 [Jvm.Cond.code (⟨"java/lang/Math", "max", "(II)I"⟩ : MethodName) jdk_29_method_65_code 2 (some .int)] ({ frames := 0, cells := 0, slots := 0, locals := 0 } : Room)) (fun as_ U => as_ = #[(.int x), (.int y)] ∧ Z.Warmed39 U.vm ∧ U.heap = h0) (fun _ _ _ _ _ => True) (fun _ U o U' => ∃ v L, o = .returned v ∧ Q_rmMx x y n0 h0 v U'.heap L ∧ FrameEnd U o U' L ({ frames := 0, cells := 0, slots := 0, locals := 0 } : Room).cells ({ frames := 0, cells := 0, slots := 0, locals := 0 } : Room).slots) := by
  refine own_met own_pf1 (ef_rmMx x y) ?_
  intro p e s m below meth c T0 X0 hx hby hml hret hlk hnm hown hZ e0
  have N0 := Fr.nil n0
  refine g_iloadN X0 hx 1 (hb hby d3_0) rfl rfl ?_
  refine g_iloadN X0 hx 2 (hb hby d3_1) rfl rfl ?_
  refine g_ic_lt X0 hx 9 5 (hb hby d3_2) (by decide) (by decide) rfl (fun c64 => ?_) (fun c64 => ?_)
  · skip
    refine g_iloadN X0 hx 10 (hb hby d3_9) rfl rfl ?_
    exact g_retI X0 hx hlk hret (hb hby d3_10) (by decide) (by decide) e0 ⟨_, rfl, by omega, by omega, by omega, N0, rfl⟩
  · skip
    refine g_iloadN X0 hx 6 (hb hby d3_5) rfl rfl ?_
    refine g_goto X0 hx 10 (hb hby d3_6) (by decide) (by decide) ?_
    exact g_retI X0 hx hlk hret (hb hby d3_10) (by decide) (by decide) e0 ⟨_, rfl, by omega, by omega, by omega, N0, rfl⟩
theorem d4_0 : decode jdk_33_method_45_code 0 = .ok (.iload_n 0, 1) := by decide +kernel
theorem d4_1 : decode jdk_33_method_45_code 1 = .ok (.ldc 127, 2) := by decide +kernel
theorem d4_3 : decode jdk_33_method_45_code 3 = .ok (.iload_n 0, 1) := by decide +kernel
theorem d4_4 : decode jdk_33_method_45_code 4 = .ok (.invokestatic 51, 3) := by decide +kernel
theorem d4_7 : decode jdk_33_method_45_code 7 = .ok (.iushr, 1) := by decide +kernel
theorem d4_8 : decode jdk_33_method_45_code 8 = .ok (.iand, 1) := by decide +kernel
theorem d4_9 : decode jdk_33_method_45_code 9 = .ok (.ireturn, 1) := by decide +kernel
theorem own_pf2 : plainFor (⟨"java/lang/Integer", "highestOneBit", "(I)I"⟩ : MethodName) = true := plainFor_of_name (by first | (simp [plainName, overriddenIn]; done) | decide +kernel)
def Q_rmH (n0 : Nat) (h0 : Heap) (v : Option Value) (h : Heap) (L : List Loc) : Prop := ∃ r : Int32, v = some (.int r) ∧ (r = 8 ∨ r = 16 ∨ r = 32) ∧ Fr n0 L ∧ h = h0
theorem ef_rmH (x : Int32) (m : MethodId) : entryFrame m #[(.int x)] 1 = mkF m 0 #[.val (.int x)] [] := by first | (simp [entryFrame, mkF, argsToLocals, Value.category]; done) | rfl
set_option maxRecDepth 65536 in
set_option maxHeartbeats 40000000 in
theorem rmH (l : Launch) (Z : State) (a0 : Array Value) (hw : ∀ d ∈ tables_1, d.before a0 Z = true) (x : Int32) (h0 : Heap) (n0 : Nat) (Z0 : n0 ≤ h0.size) (b1 : 15 ≤ x.toInt) (b2 : x.toInt ≤ 61) :
    MetFree l (⟨"java/lang/Integer", "highestOneBit", "(I)I"⟩ : MethodName) (head1 [Jvm.Cond.code (⟨"java/lang/Integer", "highestOneBit", "(I)I"⟩ : MethodName) jdk_33_method_45_code 1 (some .int)] ({ frames := 1, cells := 0, slots := 0, locals := 30 } : Room)) (fun as_ U => as_ = #[(.int x)] ∧ Z.Warmed39 U.vm ∧ U.heap = h0) (fun _ _ _ _ _ => True) (fun _ U o U' => ∃ v L, o = .returned v ∧ Q_rmH n0 h0 v U'.heap L ∧ FrameEnd U o U' L ({ frames := 1, cells := 0, slots := 0, locals := 30 } : Room).cells ({ frames := 1, cells := 0, slots := 0, locals := 30 } : Room).slots) := by
  refine own_met own_pf2 (ef_rmH x) ?_
  intro p e s m below meth c T0 X0 hx hby hml hret hlk hnm hown hZ e0
  have N0 := Fr.nil n0
  refine g_iloadN X0 hx 1 (hb hby d4_0) rfl rfl ?_
  refine g_ldcI X0 hx 3 hZ hown (hw _ (List.mem_of_getElem? (i := 20) rfl)) (hb hby d4_1) rfl ?_
  refine g_iloadN X0 hx 4 (hb hby d4_3) rfl rfl ?_
  refine g_static X0 hx hZ hown (hw _ (List.mem_of_getElem? (i := 21) rfl)) (hw _ (List.mem_of_getElem? (i := 22) rfl)) (hw _ (List.mem_of_getElem? (i := 18) rfl)) (hw _ (List.mem_of_getElem? (i := 23) rfl)) (by decide) (rmZ l Z a0 hw x h0 n0 Z0 (by omega)) e0 (argsL := [(.int x)]) (rest := [(.int (-2147483648 : Int32)), (.int x)]) rfl rfl 2 7 rfl (by rw [hml]; rfl) (lenOf own_pd3 rfl) (Nat.le_refl _) (by decide) (by decide) (by decide) (by decide) (hb hby d4_4) ?_
  intro v65 T65 L65 X65 hQ65
  obtain ⟨rz, rfl, N65, q65, hrz⟩ := hQ65
  have N66 := Fr.app N0 N65
  show Go p e below _ T65 (mkF m 7 #[.val (.int x)] [(.int rz), (.int (-2147483648 : Int32)), (.int x)])
  refine g_iushr X65 hx 8 (hb hby d4_7) rfl ?_
  refine g_iand X65 hx 9 (hb hby d4_8) rfl ?_
  exact g_retI X65 hx hlk hret (hb hby d4_9) (by decide) (by decide) q65 ⟨_, rfl, own_hob x b1 b2 hrz rfl, N66, rfl⟩
theorem d1_0 : decode prog_39_method_1_code 0 = .ok (.aload_n 0, 1) := by decide +kernel
theorem d1_1 : decode prog_39_method_1_code 1 = .ok (.invokespecial 1, 3) := by decide +kernel
theorem d1_4 : decode prog_39_method_1_code 4 = .ok (.iload_n 1, 1) := by decide +kernel
theorem d1_5 : decode prog_39_method_1_code 5 = .ok (.bipush 8, 2) := by decide +kernel
theorem d1_7 : decode prog_39_method_1_code 7 = .ok (.invokestatic 7, 3) := by decide +kernel
theorem d1_10 : decode prog_39_method_1_code 10 = .ok (.iconst 2, 1) := by decide +kernel
theorem d1_11 : decode prog_39_method_1_code 11 = .ok (.imul, 1) := by decide +kernel
theorem d1_12 : decode prog_39_method_1_code 12 = .ok (.iconst 1, 1) := by decide +kernel
theorem d1_13 : decode prog_39_method_1_code 13 = .ok (.isub, 1) := by decide +kernel
theorem d1_14 : decode prog_39_method_1_code 14 = .ok (.invokestatic 13, 3) := by decide +kernel
theorem d1_17 : decode prog_39_method_1_code 17 = .ok (.iconst 2, 1) := by decide +kernel
theorem d1_18 : decode prog_39_method_1_code 18 = .ok (.imul, 1) := by decide +kernel
theorem d1_19 : decode prog_39_method_1_code 19 = .ok (.istore_n 2, 1) := by decide +kernel
theorem d1_20 : decode prog_39_method_1_code 20 = .ok (.aload_n 0, 1) := by decide +kernel
theorem d1_21 : decode prog_39_method_1_code 21 = .ok (.iload_n 2, 1) := by decide +kernel
theorem d1_22 : decode prog_39_method_1_code 22 = .ok (.newarray .int, 2) := by decide +kernel
theorem d1_24 : decode prog_39_method_1_code 24 = .ok (.putfield 19, 3) := by decide +kernel
theorem d1_27 : decode prog_39_method_1_code 27 = .ok (.aload_n 0, 1) := by decide +kernel
theorem d1_28 : decode prog_39_method_1_code 28 = .ok (.iload_n 2, 1) := by decide +kernel
theorem d1_29 : decode prog_39_method_1_code 29 = .ok (.newarray .double, 2) := by decide +kernel
theorem d1_31 : decode prog_39_method_1_code 31 = .ok (.putfield 25, 3) := by decide +kernel
theorem d1_34 : decode prog_39_method_1_code 34 = .ok (.return_, 1) := by decide +kernel
theorem own_pf3 : plainFor (⟨"com/example/folksonomy/folksonomy/weighting/IntDoubleMap", "<init>", "(I)V"⟩ : MethodName) = true := plainFor_of_name (by first | (simp [plainName, overriddenIn]; done) | decide +kernel)
def Q_rmI (Z : State) (ob : Addr) (n0 : Nat) (h0 : Heap) (v : Option Value) (h : Heap) (L : List Loc) : Prop := v = none ∧ Fr n0 L ∧ Keep h0 h [ob] ∧ ∃ (ka va : Addr) (z : Int32) (kk vk : ClassId), (z = 16 ∨ z = 32 ∨ z = 64) ∧ Fld Z h ob "com/example/folksonomy/folksonomy/weighting/IntDoubleMap" "keys" "[I" (.ref ka) ∧ Fld Z h ob "com/example/folksonomy/folksonomy/weighting/IntDoubleMap" "values" "[D" (.ref va) ∧ Fld Z h ob "com/example/folksonomy/folksonomy/weighting/IntDoubleMap" "size" "I" (.int 0) ∧ Arv Z h ka kk .int z ((List.replicate z.toNatClampNeg 0).map Value.int) (.int 0) ∧ Arv Z h va vk .double z ((List.replicate z.toNatClampNeg 0).map Value.double) (.double 0) ∧ n0 ≤ ka ∧ n0 ≤ va ∧ ka ≠ va ∧ h0.size ≤ ka ∧ h0.size ≤ va
theorem ef_rmI (ob : Addr) (x : Int32) (m : MethodId) : entryFrame m #[(.ref ob), (.int x)] 3 = mkF m 0 #[.val (.ref ob), .val (.int x), .unset] [] := by first | (simp [entryFrame, mkF, argsToLocals, Value.category]; done) | rfl
set_option maxRecDepth 65536 in
set_option maxHeartbeats 40000000 in
theorem rmI (l : Launch) (Z : State) (a0 : Array Value) (hw : ∀ d ∈ tables_1, d.before a0 Z = true) (ob : Addr) (x : Int32) (h0 : Heap) (n0 : Nat) (Z0 : n0 ≤ h0.size) (bx : 0 ≤ x.toInt ∧ x.toInt ≤ 31) (Eo : Exa Z h0 ob "com/example/folksonomy/folksonomy/weighting/IntDoubleMap") (ga : n0 ≤ ob) (Fk : Fld Z h0 ob "com/example/folksonomy/folksonomy/weighting/IntDoubleMap" "keys" "[I" .null) (Fv : Fld Z h0 ob "com/example/folksonomy/folksonomy/weighting/IntDoubleMap" "values" "[D" .null) (Fs : Fld Z h0 ob "com/example/folksonomy/folksonomy/weighting/IntDoubleMap" "size" "I" (.int 0)) :
    MetFree l (⟨"com/example/folksonomy/folksonomy/weighting/IntDoubleMap", "<init>", "(I)V"⟩ : MethodName) (head1 [Jvm.Cond.code (⟨"com/example/folksonomy/folksonomy/weighting/IntDoubleMap", "<init>", "(I)V"⟩ : MethodName) prog_39_method_1_code 3 none] ({ frames := 2, cells := 2, slots := 128, locals := 64 } : Room)) (fun as_ U => as_ = #[(.ref ob), (.int x)] ∧ Z.Warmed39 U.vm ∧ U.heap = h0) (fun _ _ _ _ _ => True) (fun _ U o U' => ∃ v L, o = .returned v ∧ Q_rmI Z ob n0 h0 v U'.heap L ∧ FrameEnd U o U' L ({ frames := 2, cells := 2, slots := 128, locals := 64 } : Room).cells ({ frames := 2, cells := 2, slots := 128, locals := 64 } : Room).slots) := by
  refine own_met own_pf3 (ef_rmI ob x) ?_
  intro p e s m below meth c T0 X0 hx hby hml hret hlk hnm hown hZ e0
  have N0 := Fr.nil n0
  refine g_aloadN X0 hx 1 (hb hby d1_0) rfl rfl rfl ?_
  refine g_objinit X0 hx hZ hown (hw _ (List.mem_of_getElem? (i := 9) rfl)) (hw _ (List.mem_of_getElem? (i := 10) rfl)) (hw _ (List.mem_of_getElem? (i := 11) rfl)) e0 0 4 (hb hby d1_1) rfl (by rw [hml]; rfl) (by decide) (Nat.le_refl _) (by decide) ?_
  intro T67 X67 e67
  refine g_iloadN X67 hx 5 (hb hby d1_4) rfl rfl ?_
  refine g_bipush X67 hx (8 : Int32) 7 (hb hby d1_5) rfl (by decide) ?_
  refine g_static X67 hx hZ hown (hw _ (List.mem_of_getElem? (i := 12) rfl)) (hw _ (List.mem_of_getElem? (i := 13) rfl)) (hw _ (List.mem_of_getElem? (i := 14) rfl)) (hw _ (List.mem_of_getElem? (i := 15) rfl)) (by decide) (rmMx l Z a0 hw x 8 h0 n0 Z0) e67 (argsL := [(.int x), (.int (8 : Int32))]) (rest := []) rfl rfl 0 10 rfl (by rw [hml]; rfl) (lenOf own_pd2 rfl) (Nat.le_refl _) (by decide) (by decide) (by decide) (by decide) (hb hby d1_7) ?_
  intro v68 T68 L68 X68 hQ68
  obtain ⟨mx, rfl, m1, m2, m3, N68, q68⟩ := hQ68
  have N69 := Fr.app N0 N68
  show Go p e below _ T68 (mkF m 10 #[.val (.ref ob), .val (.int x), .unset] [(.int mx)])
  refine g_iconst X68 hx (2 : Int32) 11 (hb hby d1_10) rfl (by decide) ?_
  refine g_imul X68 hx 12 (hb hby d1_11) rfl ?_
  refine g_iconst X68 hx (1 : Int32) 13 (hb hby d1_12) rfl (by decide) ?_
  refine g_isub X68 hx 14 (hb hby d1_13) rfl ?_
  generalize hy : ((mx * (2 : Int32)) - (1 : Int32)) = y
  have by_ : 15 ≤ y.toInt ∧ y.toInt ≤ 61 := by
    have e1 := c_imul mx 2
    have e2 := rng32 (mx * 2)
    have e3 := c_isub (mx * 2) 1
    have e4 := rng32 y
    have l1 : (1 : Int32).toInt = 1 := by decide
    have l2 : (2 : Int32).toInt = 2 := by decide
    have l8 : (8 : Int32).toInt = 8 := by decide
    rw [hy, l1] at e3
    rw [l2] at e1
    omega
  refine g_static X68 hx hZ hown (hw _ (List.mem_of_getElem? (i := 16) rfl)) (hw _ (List.mem_of_getElem? (i := 17) rfl)) (hw _ (List.mem_of_getElem? (i := 18) rfl)) (hw _ (List.mem_of_getElem? (i := 19) rfl)) (by decide) (rmH l Z a0 hw y h0 n0 Z0 by_.1 by_.2) q68 (argsL := [(.int y)]) (rest := []) rfl rfl 0 17 rfl (by rw [hml]; rfl) (lenOf own_pd3 rfl) (Nat.le_refl _) (by decide) (by decide) (by decide) (by decide) (hb hby d1_14) ?_
  intro v70 T70 L70 X70 hQ70
  obtain ⟨hb_, rfl, hh, N70, q70⟩ := hQ70
  have N71 := Fr.app N69 N70
  show Go p e below _ T70 (mkF m 17 #[.val (.ref ob), .val (.int x), .unset] [(.int hb_)])
  refine g_iconst X70 hx (2 : Int32) 18 (hb hby d1_17) rfl (by decide) ?_
  refine g_imul X70 hx 19 (hb hby d1_18) rfl ?_
  refine g_istoreN (l' := #[.val (.ref ob), .val (.int x), .val (.int (hb_ * (2 : Int32)))]) X70 hx 20 (hb hby d1_19) rfl rfl ?_
  generalize hz : (hb_ * (2 : Int32)) = z
  have hz3 := own_z3 hh hz
  have zb := own_zb hz3
  refine g_aloadN X70 hx 21 (hb hby d1_20) rfl rfl rfl ?_
  refine g_iloadN X70 hx 22 (hb hby d1_21) rfl rfl ?_
  refine g_newP X70 hx hZ (aty := .int) (hw _ (List.mem_of_getElem? (i := 25) rfl)) q70 (by omega) (cap := 64) (by show z.toInt ≤ 64; omega) (by decide) 24 (hb hby d1_22) rfl (by decide) (by decide) (ad := "[I") (by decide) ?_
  intro T72 h72 k72 a72 g72 X72 e72 E72 V72 A72
  have ne73 : ob ≠ a72 := Nat.ne_of_lt (by rw [g72]; exact Eo.lt)
  have ge74 : n0 ≤ a72 := by rw [g72]; exact Z0
  have sz75 : h0.size ≤ a72 := by rw [g72]; exact (Keep.refl h0 [ob]).1
  have F76 := Eo.ext E72
  have F77 := Fk.ext E72
  have F78 := Fv.ext E72
  have F79 := Fs.ext E72
  have K80 := (Keep.refl h0 [ob]).ext E72
  have Z81 : n0 ≤ h72.size := Nat.le_trans Z0 E72.1
  have V72' : Arv Z h72 a72 k72 .int z ((List.replicate z.toNatClampNeg (0 : Int32)).map Value.int) (.int 0) := V72.pad (own_padI _)
  refine g_putF X72 hx hZ hown (hw _ (List.mem_of_getElem? (i := 26) rfl)) Via.refl e72 F77 F76 (Or.inl (hw _ (List.mem_of_getElem? (i := 27) rfl))) (hw _ (List.mem_of_getElem? (i := 4) rfl)) (ty := (.array .int)) (by decide) rfl rfl 27 (hb hby d1_24) rfl ?_
  intro T82 h82 X82 e82 W82
  have F83 : Fld Z h82 ob "com/example/folksonomy/folksonomy/weighting/IntDoubleMap" "keys" "[I" (.ref a72) := F77.same W82
  have F84 := F76.wr W82
  have F85 := F78.other W82 (Or.inr (slot_ne (Or.inl (hw _ (List.mem_of_getElem? (i := 30) rfl))) (Or.inl (hw _ (List.mem_of_getElem? (i := 27) rfl))) (by decide) (t := (.array .double)) (t' := (.array .int)) (by decide) (by decide)))
  have F86 := F79.other W82 (Or.inr (slot_ne (Or.inl (hw _ (List.mem_of_getElem? (i := 42) rfl))) (Or.inl (hw _ (List.mem_of_getElem? (i := 27) rfl))) (by decide) (t := .int) (t' := (.array .int)) (by decide) (by decide)))
  have F87 := A72.wr W82
  have F88 := V72'.other W82 (Ne.symm ne73)
  have K89 := K80.wr W82 (Or.inl (List.mem_of_getElem? (i := 0) rfl))
  have N90 := Fr.snoc X82 N71 ga
  have Z91 : n0 ≤ h82.size := by rw [W82.size]; exact Z81
  refine g_aloadN X82 hx 28 (hb hby d1_27) rfl rfl rfl ?_
  refine g_iloadN X82 hx 29 (hb hby d1_28) rfl rfl ?_
  refine g_newP X82 hx hZ (aty := .double) (hw _ (List.mem_of_getElem? (i := 28) rfl)) e82 (by omega) (cap := 64) (by show z.toInt ≤ 64; omega) (by decide) 31 (hb hby d1_29) rfl (by decide) (by decide) (ad := "[D") (by decide) ?_
  intro T92 h92 k92 a92 g92 X92 e92 E92 V92 A92
  have ne93 : ob ≠ a92 := Nat.ne_of_lt (by rw [g92]; exact F84.lt)
  have ne94 : a72 ≠ a92 := Nat.ne_of_lt (by rw [g92]; exact F87.lt)
  have ge95 : n0 ≤ a92 := by rw [g92]; exact Z91
  have sz96 : h0.size ≤ a92 := by rw [g92]; exact K89.1
  have F97 := F84.ext E92
  have F98 := F85.ext E92
  have F99 := F86.ext E92
  have F100 := F87.ext E92
  have F101 := F88.ext E92
  have F102 := F83.ext E92
  have K103 := K89.ext E92
  have Z104 : n0 ≤ h92.size := Nat.le_trans Z91 E92.1
  have V92' : Arv Z h92 a92 k92 .double z ((List.replicate z.toNatClampNeg (0 : UInt64)).map Value.double) (.double 0) := V92.pad (own_padD _)
  refine g_putF X92 hx hZ hown (hw _ (List.mem_of_getElem? (i := 29) rfl)) Via.refl e92 F98 F97 (Or.inl (hw _ (List.mem_of_getElem? (i := 30) rfl))) (hw _ (List.mem_of_getElem? (i := 4) rfl)) (ty := (.array .double)) (by decide) rfl rfl 34 (hb hby d1_31) rfl ?_
  intro T105 h105 X105 e105 W105
  have F106 : Fld Z h105 ob "com/example/folksonomy/folksonomy/weighting/IntDoubleMap" "values" "[D" (.ref a92) := F98.same W105
  have F107 := F97.wr W105
  have F108 := F99.other W105 (Or.inr (slot_ne (Or.inl (hw _ (List.mem_of_getElem? (i := 42) rfl))) (Or.inl (hw _ (List.mem_of_getElem? (i := 30) rfl))) (by decide) (t := .int) (t' := (.array .double)) (by decide) (by decide)))
  have F109 := F100.wr W105
  have F110 := F101.other W105 (Ne.symm ne73)
  have F111 := F102.other W105 (Or.inr (slot_ne (Or.inl (hw _ (List.mem_of_getElem? (i := 27) rfl))) (Or.inl (hw _ (List.mem_of_getElem? (i := 30) rfl))) (by decide) (t := (.array .int)) (t' := (.array .double)) (by decide) (by decide)))
  have F112 := A92.wr W105
  have F113 := V92'.other W105 (Ne.symm ne93)
  have K114 := K103.wr W105 (Or.inl (List.mem_of_getElem? (i := 0) rfl))
  have N115 := Fr.snoc X105 N90 ga
  have Z116 : n0 ≤ h105.size := by rw [W105.size]; exact Z104
  exact g_retV X105 hx hlk hret (hb hby d1_34) (by decide) (by decide) e105 ⟨rfl, N115, K114, a72, a92, z, _, _, hz3, F111, F106, F108, F110, F113, ge74, ge95, ne94, sz75, sz96⟩
def Q_rmS (r : Nat) (n0 : Nat) (h0 : Heap) (v : Option Value) (h : Heap) (L : List Loc) : Prop := ∃ ri : Int32, v = some (.int ri) ∧ ri.toInt = (r : Int) ∧ Fr n0 L ∧ h = h0
theorem d7_0 : decode prog_39_method_5_code 0 = .ok (.aload_n 0, 1) := by decide +kernel
theorem d7_1 : decode prog_39_method_5_code 1 = .ok (.arraylength, 1) := by decide +kernel
theorem d7_2 : decode prog_39_method_5_code 2 = .ok (.iconst 1, 1) := by decide +kernel
theorem d7_3 : decode prog_39_method_5_code 3 = .ok (.isub, 1) := by decide +kernel
theorem d7_4 : decode prog_39_method_5_code 4 = .ok (.istore_n 2, 1) := by decide +kernel
theorem d7_5 : decode prog_39_method_5_code 5 = .ok (.iload_n 1, 1) := by decide +kernel
theorem d7_6 : decode prog_39_method_5_code 6 = .ok (.ldc 40, 2) := by decide +kernel
theorem d7_8 : decode prog_39_method_5_code 8 = .ok (.imul, 1) := by decide +kernel
theorem d7_9 : decode prog_39_method_5_code 9 = .ok (.aload_n 0, 1) := by decide +kernel
theorem d7_10 : decode prog_39_method_5_code 10 = .ok (.arraylength, 1) := by decide +kernel
theorem d7_11 : decode prog_39_method_5_code 11 = .ok (.invokestatic 41, 3) := by decide +kernel
theorem d7_14 : decode prog_39_method_5_code 14 = .ok (.iconst 1, 1) := by decide +kernel
theorem d7_15 : decode prog_39_method_5_code 15 = .ok (.iadd, 1) := by decide +kernel
theorem d7_16 : decode prog_39_method_5_code 16 = .ok (.iushr, 1) := by decide +kernel
theorem d7_17 : decode prog_39_method_5_code 17 = .ok (.istore_n 3, 1) := by decide +kernel
theorem d7_18 : decode prog_39_method_5_code 18 = .ok (.aload_n 0, 1) := by decide +kernel
theorem d7_19 : decode prog_39_method_5_code 19 = .ok (.iload_n 3, 1) := by decide +kernel
theorem d7_20 : decode prog_39_method_5_code 20 = .ok (.iaload, 1) := by decide +kernel
theorem d7_21 : decode prog_39_method_5_code 21 = .ok (.ifCond .eq 21, 3) := by decide +kernel
theorem d7_24 : decode prog_39_method_5_code 24 = .ok (.aload_n 0, 1) := by decide +kernel
theorem d7_25 : decode prog_39_method_5_code 25 = .ok (.iload_n 3, 1) := by decide +kernel
theorem d7_26 : decode prog_39_method_5_code 26 = .ok (.iaload, 1) := by decide +kernel
theorem d7_27 : decode prog_39_method_5_code 27 = .ok (.iload_n 1, 1) := by decide +kernel
theorem d7_28 : decode prog_39_method_5_code 28 = .ok (.iconst 1, 1) := by decide +kernel
theorem d7_29 : decode prog_39_method_5_code 29 = .ok (.iadd, 1) := by decide +kernel
theorem d7_30 : decode prog_39_method_5_code 30 = .ok (.if_icmp .eq 12, 3) := by decide +kernel
theorem d7_33 : decode prog_39_method_5_code 33 = .ok (.iload_n 3, 1) := by decide +kernel
theorem d7_34 : decode prog_39_method_5_code 34 = .ok (.iconst 1, 1) := by decide +kernel
theorem d7_35 : decode prog_39_method_5_code 35 = .ok (.iadd, 1) := by decide +kernel
theorem d7_36 : decode prog_39_method_5_code 36 = .ok (.iload_n 2, 1) := by decide +kernel
theorem d7_37 : decode prog_39_method_5_code 37 = .ok (.iand, 1) := by decide +kernel
theorem d7_38 : decode prog_39_method_5_code 38 = .ok (.istore_n 3, 1) := by decide +kernel
theorem d7_39 : decode prog_39_method_5_code 39 = .ok (.goto (-21), 3) := by decide +kernel
theorem d7_42 : decode prog_39_method_5_code 42 = .ok (.iload_n 3, 1) := by decide +kernel
theorem d7_43 : decode prog_39_method_5_code 43 = .ok (.ireturn, 1) := by decide +kernel
set_option maxRecDepth 65536 in
set_option maxHeartbeats 40000000 in
theorem rmS_18 {p : Program} {l : Launch} {e : Env} {s : State} {m : MethodId} {args : Array Value} {below : List Frame} {meth : Method} {c : Code} {T0 Z : State} {a0 : Array Value} {h0 : Heap} {n0 : Nat} {R : Room} {locs : List Loc} {a : Addr} {k z : Int32} {kk : ClassId} {K : List Int32} {r : Nat} (d : Nat) (j : Int32) (jn : Nat) (X0 : Stand p l e R s m args below meth c T0 locs 0 0) (hx : p.tables.exec = Jvm.exec) (hby : c.code = prog_39_method_5_code) (hml : c.maxLocals = 4) (hret : meth.sig.returnType = (some .int)) (hlk : meth.locks = false) (hown : s.vm.findClass "com/example/folksonomy/folksonomy/weighting/IntDoubleMap" = some m.cls) (hZ : Z.Warmed39 s.vm) (hw : ∀ d ∈ tables_1, d.before a0 Z = true) (e0 : T0.heap = h0) (Z0 : n0 ≤ h0.size) (N0 : Fr n0 locs) (hz : z = 16 ∨ z = 32 ∨ z = 64) (V : Arv Z h0 a kk .int z ((K).map Value.int) (.int 0)) (hj : j.toInt = (jn : Int)) (hl : jn < z.toNatClampNeg) (hp : Path z.toNatClampNeg K (k + 1) d jn r) :
    Go p e below (EndQ s (Q_rmS r n0 h0) 0 0) T0 (mkF m 18 #[.val (.ref a), .val (.int k), .val (.int (z - (1 : Int32))), .val (.int j)] []) := by
  have zb := own_zb hz
  induction d generalizing j jn with
  | zero =>
    refine g_aloadN X0 hx 19 (hb hby d7_18) rfl rfl rfl ?_
    refine g_iloadN X0 hx 20 (hb hby d7_19) rfl rfl ?_
    refine g_iaload X0 hx hZ e0 V (by omega) (by omega) (own_mapget K hj) 21 (hb hby d7_20) rfl ?_
    refine g_if_eq X0 hx 42 24 (hb hby d7_21) (by decide) (by decide) rfl (fun c117 => ?_) (fun c117 => ?_)
    · skip
      refine g_iloadN X0 hx 43 (hb hby d7_42) rfl rfl ?_
      exact g_retI X0 hx hlk hret (hb hby d7_43) (by decide) (by decide) e0 ⟨_, rfl, by rw [hp.1]; exact hj, N0, rfl⟩
    · skip
      refine g_aloadN X0 hx 25 (hb hby d7_24) rfl rfl rfl ?_
      refine g_iloadN X0 hx 26 (hb hby d7_25) rfl rfl ?_
      refine g_iaload X0 hx hZ e0 V (by omega) (by omega) (own_mapget K hj) 27 (hb hby d7_26) rfl ?_
      refine g_iloadN X0 hx 28 (hb hby d7_27) rfl rfl ?_
      refine g_iconst X0 hx (1 : Int32) 29 (hb hby d7_28) rfl (by decide) ?_
      refine g_iadd X0 hx 30 (hb hby d7_29) rfl ?_
      refine g_ic_eq X0 hx 42 33 (hb hby d7_30) (by decide) (by decide) rfl (fun c118 => ?_) (fun c118 => ?_)
      · skip
        refine g_iloadN X0 hx 43 (hb hby d7_42) rfl rfl ?_
        exact g_retI X0 hx hlk hret (hb hby d7_43) (by decide) (by decide) e0 ⟨_, rfl, by rw [hp.1]; exact hj, N0, rfl⟩
      · skip
        exact absurd hp.2 (fun q => q.elim (fun q => own_tn c117 q) (fun q => c118 (by rw [q])))
  | succ d ih =>
    refine g_aloadN X0 hx 19 (hb hby d7_18) rfl rfl rfl ?_
    refine g_iloadN X0 hx 20 (hb hby d7_19) rfl rfl ?_
    refine g_iaload X0 hx hZ e0 V (by omega) (by omega) (own_mapget K hj) 21 (hb hby d7_20) rfl ?_
    refine g_if_eq X0 hx 42 24 (hb hby d7_21) (by decide) (by decide) rfl (fun c119 => ?_) (fun c119 => ?_)
    · skip
      exact absurd (own_t0 c119) hp.1
    · skip
      refine g_aloadN X0 hx 25 (hb hby d7_24) rfl rfl rfl ?_
      refine g_iloadN X0 hx 26 (hb hby d7_25) rfl rfl ?_
      refine g_iaload X0 hx hZ e0 V (by omega) (by omega) (own_mapget K hj) 27 (hb hby d7_26) rfl ?_
      refine g_iloadN X0 hx 28 (hb hby d7_27) rfl rfl ?_
      refine g_iconst X0 hx (1 : Int32) 29 (hb hby d7_28) rfl (by decide) ?_
      refine g_iadd X0 hx 30 (hb hby d7_29) rfl ?_
      refine g_ic_eq X0 hx 42 33 (hb hby d7_30) (by decide) (by decide) rfl (fun c120 => ?_) (fun c120 => ?_)
      · skip
        exact absurd (own_te c120) hp.2.1
      · skip
        refine g_iloadN X0 hx 34 (hb hby d7_33) rfl rfl ?_
        refine g_iconst X0 hx (1 : Int32) 35 (hb hby d7_34) rfl (by decide) ?_
        refine g_iadd X0 hx 36 (hb hby d7_35) rfl ?_
        refine g_iloadN X0 hx 37 (hb hby d7_36) rfl rfl ?_
        refine g_iand X0 hx 38 (hb hby d7_37) rfl ?_
        refine g_istoreN (l' := #[.val (.ref a), .val (.int k), .val (.int (z - (1 : Int32))), .val (.int ((j + (1 : Int32)) &&& (z - (1 : Int32))))]) X0 hx 39 (hb hby d7_38) rfl rfl ?_
        refine g_goto X0 hx 18 (hb hby d7_39) (by decide) (by decide) ?_
        exact ih _ _ (own_next hz hj (by omega)) (Nat.mod_lt _ (by omega)) hp.2.2
theorem own_pf4 : plainFor (⟨"com/example/folksonomy/folksonomy/weighting/IntDoubleMap", "slot", "([II)I"⟩ : MethodName) = true := plainFor_of_name (by first | (simp [plainName, overriddenIn]; done) | decide +kernel)
theorem ef_rmS (a : Addr) (k : Int32) (m : MethodId) : entryFrame m #[(.ref a), (.int k)] 4 = mkF m 0 #[.val (.ref a), .val (.int k), .unset, .unset] [] := by first | (simp [entryFrame, mkF, argsToLocals, Value.category]; done) | rfl
set_option maxRecDepth 65536 in
set_option maxHeartbeats 40000000 in
theorem rmS (l : Launch) (Z : State) (a0 : Array Value) (hw : ∀ d ∈ tables_1, d.before a0 Z = true) (a : Addr) (k : Int32) (h0 : Heap) (n0 : Nat) (Z0 : n0 ≤ h0.size) (kk : ClassId) (z : Int32) (K : List Int32) (d r : Nat) (hz : z = 16 ∨ z = 32 ∨ z = 64) (V : Arv Z h0 a kk .int z ((K).map Value.int) (.int 0)) (hp : Path z.toNatClampNeg K (k + 1) d (own_st z k).toNatClampNeg r) :
    MetFree l (⟨"com/example/folksonomy/folksonomy/weighting/IntDoubleMap", "slot", "([II)I"⟩ : MethodName) (head1 [Jvm.Cond.code (⟨"com/example/folksonomy/folksonomy/weighting/IntDoubleMap", "slot", "([II)I"⟩ : MethodName) prog_39_method_5_code 4 (some .int)] ({ frames := 1, cells := 0, slots := 0, locals := 40 } : Room)) (fun as_ U => as_ = #[(.ref a), (.int k)] ∧ Z.Warmed39 U.vm ∧ U.heap = h0) (fun _ _ _ _ _ => True) (fun _ U o U' => ∃ v L, o = .returned v ∧ Q_rmS r n0 h0 v U'.heap L ∧ FrameEnd U o U' L ({ frames := 1, cells := 0, slots := 0, locals := 40 } : Room).cells ({ frames := 1, cells := 0, slots := 0, locals := 40 } : Room).slots) := by
  refine own_met own_pf4 (ef_rmS a k) ?_
  intro p e s m below meth c T0 X0 hx hby hml hret hlk hnm hown hZ e0
  have N0 := Fr.nil n0
  have zb := own_zb hz
  refine g_aloadN X0 hx 1 (hb hby d7_0) rfl rfl rfl ?_
  refine g_len X0 hx hZ e0 V 2 (hb hby d7_1) rfl ?_
  refine g_iconst X0 hx (1 : Int32) 3 (hb hby d7_2) rfl (by decide) ?_
  refine g_isub X0 hx 4 (hb hby d7_3) rfl ?_
  refine g_istoreN (l' := #[.val (.ref a), .val (.int k), .val (.int (z - (1 : Int32))), .unset]) X0 hx 5 (hb hby d7_4) rfl rfl ?_
  refine g_iloadN X0 hx 6 (hb hby d7_5) rfl rfl ?_
  refine g_ldcI X0 hx 8 hZ hown (hw _ (List.mem_of_getElem? (i := 39) rfl)) (hb hby d7_6) rfl ?_
  refine g_imul X0 hx 9 (hb hby d7_8) rfl ?_
  refine g_aloadN X0 hx 10 (hb hby d7_9) rfl rfl rfl ?_
  refine g_len X0 hx hZ e0 V 11 (hb hby d7_10) rfl ?_
  refine g_static X0 hx hZ hown (hw _ (List.mem_of_getElem? (i := 40) rfl)) (hw _ (List.mem_of_getElem? (i := 22) rfl)) (hw _ (List.mem_of_getElem? (i := 18) rfl)) (hw _ (List.mem_of_getElem? (i := 23) rfl)) (by decide) (rmZ l Z a0 hw z h0 n0 Z0 (by omega)) e0 (argsL := [(.int z)]) (rest := [(.int (k * (-1640531527 : Int32)))]) rfl rfl 1 14 rfl (by rw [hml]; rfl) (lenOf own_pd3 rfl) (Nat.le_refl _) (by decide) (by decide) (by decide) (by decide) (hb hby d7_11) ?_
  intro v121 T121 L121 X121 hQ121
  obtain ⟨rz, rfl, N121, q121, hrz⟩ := hQ121
  have N122 := Fr.app N0 N121
  show Go p e below _ T121 (mkF m 14 #[.val (.ref a), .val (.int k), .val (.int (z - (1 : Int32))), .unset] [(.int rz), (.int (k * (-1640531527 : Int32)))])
  refine g_iconst X121 hx (1 : Int32) 15 (hb hby d7_14) rfl (by decide) ?_
  refine g_iadd X121 hx 16 (hb hby d7_15) rfl ?_
  have ez := own_nlz16 hz hrz
  rw [ez]
  refine g_iushr X121 hx 17 (hb hby d7_16) rfl ?_
  refine g_istoreN (l' := #[.val (.ref a), .val (.int k), .val (.int (z - (1 : Int32))), .val (.int (((k * (-1640531527 : Int32)).toUInt32 >>> ((own_sh z) &&& 31).toUInt32).toInt32))]) X121 hx 18 (hb hby d7_17) rfl rfl ?_
  have sl := own_st_lt hz k
  have nc : ((own_st z k).toNatClampNeg : Int) = (own_st z k).toInt := by simp only [Int32.toNatClampNeg]; omega
  exact rmS_18 d (own_st z k) _ X121 hx hby hml hret hlk hown hZ hw q121 Z0 N122 hz V nc.symm (by omega) hp
theorem d8_0 : decode prog_39_method_2_code 0 = .ok (.aload_n 0, 1) := by decide +kernel
theorem d8_1 : decode prog_39_method_2_code 1 = .ok (.getfield 19, 3) := by decide +kernel
theorem d8_4 : decode prog_39_method_2_code 4 = .ok (.iload_n 1, 1) := by decide +kernel
theorem d8_5 : decode prog_39_method_2_code 5 = .ok (.invokestatic 29, 3) := by decide +kernel
theorem d8_8 : decode prog_39_method_2_code 8 = .ok (.istore 4, 2) := by decide +kernel
theorem d8_10 : decode prog_39_method_2_code 10 = .ok (.aload_n 0, 1) := by decide +kernel
theorem d8_11 : decode prog_39_method_2_code 11 = .ok (.getfield 19, 3) := by decide +kernel
theorem d8_14 : decode prog_39_method_2_code 14 = .ok (.iload 4, 2) := by decide +kernel
theorem d8_16 : decode prog_39_method_2_code 16 = .ok (.iaload, 1) := by decide +kernel
theorem d8_17 : decode prog_39_method_2_code 17 = .ok (.ifCond .ne 7, 3) := by decide +kernel
theorem d8_20 : decode prog_39_method_2_code 20 = .ok (.dload_n 2, 1) := by decide +kernel
theorem d8_21 : decode prog_39_method_2_code 21 = .ok (.goto 10, 3) := by decide +kernel
theorem d8_24 : decode prog_39_method_2_code 24 = .ok (.aload_n 0, 1) := by decide +kernel
theorem d8_25 : decode prog_39_method_2_code 25 = .ok (.getfield 25, 3) := by decide +kernel
theorem d8_28 : decode prog_39_method_2_code 28 = .ok (.iload 4, 2) := by decide +kernel
theorem d8_30 : decode prog_39_method_2_code 30 = .ok (.daload, 1) := by decide +kernel
theorem d8_31 : decode prog_39_method_2_code 31 = .ok (.dreturn, 1) := by decide +kernel
theorem own_pf5 : plainFor (⟨"com/example/folksonomy/folksonomy/weighting/IntDoubleMap", "get", "(ID)D"⟩ : MethodName) = true := plainFor_of_name (by first | (simp [plainName, overriddenIn]; done) | decide +kernel)
def Q_rmG (K : List Int32) (V : List UInt64) (r : Nat) (ab : UInt64) (n0 : Nat) (h0 : Heap) (v : Option Value) (h : Heap) (L : List Loc) : Prop := v = some (.double (if K.getD r 0 = 0 then ab else V.getD r 0)) ∧ Fr n0 L ∧ h = h0
theorem ef_rmG (o : Addr) (k : Int32) (ab : UInt64) (m : MethodId) : entryFrame m #[(.ref o), (.int k), (.double ab)] 5 = mkF m 0 #[.val (.ref o), .val (.int k), .val (.double ab), .second, .unset] [] := by first | (simp [entryFrame, mkF, argsToLocals, Value.category]; done) | rfl
set_option maxRecDepth 65536 in
set_option maxHeartbeats 40000000 in
theorem rmG (l : Launch) (Z : State) (a0 : Array Value) (hw : ∀ d ∈ tables_1, d.before a0 Z = true) (o : Addr) (k : Int32) (ab : UInt64) (h0 : Heap) (n0 : Nat) (Z0 : n0 ≤ h0.size) (ka va : Addr) (kk vk : ClassId) (z : Int32) (K : List Int32) (V : List UInt64) (d r : Nat) (hz : z = 16 ∨ z = 32 ∨ z = 64) (hr : r < z.toNatClampNeg) (hp : Path z.toNatClampNeg K (k + 1) d (own_st z k).toNatClampNeg r) (Fk : Fld Z h0 o "com/example/folksonomy/folksonomy/weighting/IntDoubleMap" "keys" "[I" (.ref ka)) (Fv : Fld Z h0 o "com/example/folksonomy/folksonomy/weighting/IntDoubleMap" "values" "[D" (.ref va)) (Vk : Arv Z h0 ka kk .int z ((K).map Value.int) (.int 0)) (Vv : Arv Z h0 va vk .double z ((V).map Value.double) (.double 0)) :
    MetFree l (⟨"com/example/folksonomy/folksonomy/weighting/IntDoubleMap", "get", "(ID)D"⟩ : MethodName) (head1 [Jvm.Cond.code (⟨"com/example/folksonomy/folksonomy/weighting/IntDoubleMap", "get", "(ID)D"⟩ : MethodName) prog_39_method_2_code 5 (some .double)] ({ frames := 2, cells := 0, slots := 0, locals := 70 } : Room)) (fun as_ U => as_ = #[(.ref o), (.int k), (.double ab)] ∧ Z.Warmed39 U.vm ∧ U.heap = h0) (fun _ _ _ _ _ => True) (fun _ U o U' => ∃ v L, o = .returned v ∧ Q_rmG K V r ab n0 h0 v U'.heap L ∧ FrameEnd U o U' L ({ frames := 2, cells := 0, slots := 0, locals := 70 } : Room).cells ({ frames := 2, cells := 0, slots := 0, locals := 70 } : Room).slots) := by
  refine own_met own_pf5 (ef_rmG o k ab) ?_
  intro p e s m below meth c T0 X0 hx hby hml hret hlk hnm hown hZ e0
  have N0 := Fr.nil n0
  have zb := own_zb hz
  refine g_aloadN X0 hx 1 (hb hby d8_0) rfl rfl rfl ?_
  refine g_getF X0 hx hZ hown (hw _ (List.mem_of_getElem? (i := 26) rfl)) Via.refl e0 Fk 4 (hb hby d8_1) rfl ?_
  intro T123 X123 e123
  refine g_iloadN X123 hx 5 (hb hby d8_4) rfl rfl ?_
  refine g_static X123 hx hZ hown (hw _ (List.mem_of_getElem? (i := 36) rfl)) (hw _ (List.mem_of_getElem? (i := 37) rfl)) (hw _ (List.mem_of_getElem? (i := 5) rfl)) (hw _ (List.mem_of_getElem? (i := 38) rfl)) (by decide) (rmS l Z a0 hw ka k h0 n0 Z0 kk z K d r hz Vk hp) e123 (argsL := [(.ref ka), (.int k)]) (rest := []) rfl rfl 0 8 rfl (by rw [hml]; rfl) (lenOf own_pd5 rfl) (Nat.le_refl _) (by decide) (by decide) (by decide) (by decide) (hb hby d8_5) ?_
  intro v124 T124 L124 X124 hQ124
  obtain ⟨ri, rfl, hri, N124, q124⟩ := hQ124
  have N125 := Fr.app N0 N124
  show Go p e below _ T124 (mkF m 8 #[.val (.ref o), .val (.int k), .val (.double ab), .second, .unset] [(.int ri)])
  refine g_istore (l' := #[.val (.ref o), .val (.int k), .val (.double ab), .second, .val (.int ri)]) X124 hx 10 (hb hby d8_8) rfl rfl ?_
  refine g_aloadN X124 hx 11 (hb hby d8_10) rfl rfl rfl ?_
  refine g_getF X124 hx hZ hown (hw _ (List.mem_of_getElem? (i := 26) rfl)) Via.refl q124 Fk 14 (hb hby d8_11) rfl ?_
  intro T126 X126 e126
  refine g_iload X126 hx 16 (hb hby d8_14) rfl rfl ?_
  refine g_iaload X126 hx hZ e126 Vk (by omega) (by omega) (own_mapget K hri) 17 (hb hby d8_16) rfl ?_
  refine g_if_ne X126 hx 24 20 (hb hby d8_17) (by decide) (by decide) rfl (fun c127 => ?_) (fun c127 => ?_)
  · skip
    refine g_aloadN X126 hx 25 (hb hby d8_24) rfl rfl rfl ?_
    refine g_getF X126 hx hZ hown (hw _ (List.mem_of_getElem? (i := 29) rfl)) Via.refl e126 Fv 28 (hb hby d8_25) rfl ?_
    intro T128 X128 e128
    refine g_iload X128 hx 30 (hb hby d8_28) rfl rfl ?_
    refine g_daload X128 hx hZ e128 Vv (by omega) (by omega) (own_mapgetD V hri) 31 (hb hby d8_30) rfl ?_
    exact g_retD X128 hx hlk hret (hb hby d8_31) (by decide) (by decide) e128 ⟨by rw [if_neg (own_tn c127)], N125, rfl⟩
  · skip
    refine g_dloadN X126 hx 21 (hb hby d8_20) rfl rfl ?_
    refine g_goto X126 hx 31 (hb hby d8_21) (by decide) (by decide) ?_
    exact g_retD X126 hx hlk hret (hb hby d8_31) (by decide) (by decide) e126 ⟨by rw [if_pos (own_t0 c127)], N125, rfl⟩
theorem d6_0 : decode prog_39_method_4_code 0 = .ok (.aload_n 0, 1) := by decide +kernel
theorem d6_1 : decode prog_39_method_4_code 1 = .ok (.getfield 19, 3) := by decide +kernel
theorem d6_4 : decode prog_39_method_4_code 4 = .ok (.iload_n 1, 1) := by decide +kernel
theorem d6_5 : decode prog_39_method_4_code 5 = .ok (.invokestatic 29, 3) := by decide +kernel
theorem d6_8 : decode prog_39_method_4_code 8 = .ok (.istore 4, 2) := by decide +kernel
theorem d6_10 : decode prog_39_method_4_code 10 = .ok (.aload_n 0, 1) := by decide +kernel
theorem d6_11 : decode prog_39_method_4_code 11 = .ok (.getfield 19, 3) := by decide +kernel
theorem d6_14 : decode prog_39_method_4_code 14 = .ok (.iload 4, 2) := by decide +kernel
theorem d6_16 : decode prog_39_method_4_code 16 = .ok (.iload_n 1, 1) := by decide +kernel
theorem d6_17 : decode prog_39_method_4_code 17 = .ok (.iconst 1, 1) := by decide +kernel
theorem d6_18 : decode prog_39_method_4_code 18 = .ok (.iadd, 1) := by decide +kernel
theorem d6_19 : decode prog_39_method_4_code 19 = .ok (.iastore, 1) := by decide +kernel
theorem d6_20 : decode prog_39_method_4_code 20 = .ok (.aload_n 0, 1) := by decide +kernel
theorem d6_21 : decode prog_39_method_4_code 21 = .ok (.getfield 25, 3) := by decide +kernel
theorem d6_24 : decode prog_39_method_4_code 24 = .ok (.iload 4, 2) := by decide +kernel
theorem d6_26 : decode prog_39_method_4_code 26 = .ok (.dload_n 2, 1) := by decide +kernel
theorem d6_27 : decode prog_39_method_4_code 27 = .ok (.dastore, 1) := by decide +kernel
theorem d6_28 : decode prog_39_method_4_code 28 = .ok (.aload_n 0, 1) := by decide +kernel
theorem d6_29 : decode prog_39_method_4_code 29 = .ok (.dup, 1) := by decide +kernel
theorem d6_30 : decode prog_39_method_4_code 30 = .ok (.getfield 33, 3) := by decide +kernel
theorem d6_33 : decode prog_39_method_4_code 33 = .ok (.iconst 1, 1) := by decide +kernel
theorem d6_34 : decode prog_39_method_4_code 34 = .ok (.iadd, 1) := by decide +kernel
theorem d6_35 : decode prog_39_method_4_code 35 = .ok (.putfield 33, 3) := by decide +kernel
theorem d6_38 : decode prog_39_method_4_code 38 = .ok (.iconst 2, 1) := by decide +kernel
theorem d6_39 : decode prog_39_method_4_code 39 = .ok (.aload_n 0, 1) := by decide +kernel
theorem d6_40 : decode prog_39_method_4_code 40 = .ok (.getfield 33, 3) := by decide +kernel
theorem d6_43 : decode prog_39_method_4_code 43 = .ok (.imul, 1) := by decide +kernel
theorem d6_44 : decode prog_39_method_4_code 44 = .ok (.aload_n 0, 1) := by decide +kernel
theorem d6_45 : decode prog_39_method_4_code 45 = .ok (.getfield 19, 3) := by decide +kernel
theorem d6_48 : decode prog_39_method_4_code 48 = .ok (.arraylength, 1) := by decide +kernel
theorem d6_49 : decode prog_39_method_4_code 49 = .ok (.if_icmp .le 7, 3) := by decide +kernel
theorem d6_52 : decode prog_39_method_4_code 52 = .ok (.aload_n 0, 1) := by decide +kernel
theorem d6_53 : decode prog_39_method_4_code 53 = .ok (.invokevirtual 37, 3) := by decide +kernel
theorem d6_56 : decode prog_39_method_4_code 56 = .ok (.return_, 1) := by decide +kernel
theorem own_pf6 : plainFor (⟨"com/example/folksonomy/folksonomy/weighting/IntDoubleMap", "put", "(ID)V"⟩ : MethodName) = true := plainFor_of_name (by first | (simp [plainName, overriddenIn]; done) | decide +kernel)
def Q_rmP (Z : State) (ob ka va : Addr) (kk vk : ClassId) (z k sz : Int32) (x : UInt64) (K : List Int32) (V : List UInt64) (r : Nat) (n0 : Nat) (h0 : Heap) (v : Option Value) (h : Heap) (L : List Loc) : Prop := v = none ∧ Fr n0 L ∧ Keep h0 h [ob, ka, va] ∧ Fld Z h ob "com/example/folksonomy/folksonomy/weighting/IntDoubleMap" "keys" "[I" (.ref ka) ∧ Fld Z h ob "com/example/folksonomy/folksonomy/weighting/IntDoubleMap" "values" "[D" (.ref va) ∧ Fld Z h ob "com/example/folksonomy/folksonomy/weighting/IntDoubleMap" "size" "I" (.int (sz + 1)) ∧ Arv Z h ka kk .int z ((K.set r (k + 1)).map Value.int) (.int 0) ∧ Arv Z h va vk .double z ((V.set r x).map Value.double) (.double 0)
theorem ef_rmP (ob : Addr) (k : Int32) (x : UInt64) (m : MethodId) : entryFrame m #[(.ref ob), (.int k), (.double x)] 5 = mkF m 0 #[.val (.ref ob), .val (.int k), .val (.double x), .second, .unset] [] := by first | (simp [entryFrame, mkF, argsToLocals, Value.category]; done) | rfl
set_option maxRecDepth 65536 in
set_option maxHeartbeats 40000000 in
theorem rmP (l : Launch) (Z : State) (a0 : Array Value) (hw : ∀ d ∈ tables_1, d.before a0 Z = true) (ob : Addr) (k : Int32) (x : UInt64) (h0 : Heap) (n0 : Nat) (Z0 : n0 ≤ h0.size) (ka va : Addr) (kk vk : ClassId) (z : Int32) (K : List Int32) (V : List UInt64) (d r : Nat) (hz : z = 16 ∨ z = 32 ∨ z = 64) (hr : r < z.toNatClampNeg) (hp : Path z.toNatClampNeg K (k + 1) d (own_st z k).toNatClampNeg r) (Fk : Fld Z h0 ob "com/example/folksonomy/folksonomy/weighting/IntDoubleMap" "keys" "[I" (.ref ka)) (Fv : Fld Z h0 ob "com/example/folksonomy/folksonomy/weighting/IntDoubleMap" "values" "[D" (.ref va)) (Vk : Arv Z h0 ka kk .int z ((K).map Value.int) (.int 0)) (Vv : Arv Z h0 va vk .double z ((V).map Value.double) (.double 0)) (sz : Int32) (bz : 0 ≤ sz.toInt ∧ sz.toInt ≤ 2) (lK : K.length = z.toNatClampNeg) (lV : V.length = z.toNatClampNeg) (Eo : Exa Z h0 ob "com/example/folksonomy/folksonomy/weighting/IntDoubleMap") (Fs : Fld Z h0 ob "com/example/folksonomy/folksonomy/weighting/IntDoubleMap" "size" "I" (.int sz)) (go : n0 ≤ ob) (gk : n0 ≤ ka) (gv : n0 ≤ va) (n1 : ob ≠ ka) (n2 : ob ≠ va) (n3 : ka ≠ va) :
    MetFree l (⟨"com/example/folksonomy/folksonomy/weighting/IntDoubleMap", "put", "(ID)V"⟩ : MethodName) (head1 [Jvm.Cond.code (⟨"com/example/folksonomy/folksonomy/weighting/IntDoubleMap", "put", "(ID)V"⟩ : MethodName) prog_39_method_4_code 5 none] ({ frames := 2, cells := 0, slots := 0, locals := 70 } : Room)) (fun as_ U => as_ = #[(.ref ob), (.int k), (.double x)] ∧ Z.Warmed39 U.vm ∧ U.heap = h0) (fun _ _ _ _ _ => True) (fun _ U o U' => ∃ v L, o = .returned v ∧ Q_rmP Z ob ka va kk vk z k sz x K V r n0 h0 v U'.heap L ∧ FrameEnd U o U' L ({ frames := 2, cells := 0, slots := 0, locals := 70 } : Room).cells ({ frames := 2, cells := 0, slots := 0, locals := 70 } : Room).slots) := by
  refine own_met own_pf6 (ef_rmP ob k x) ?_
  intro p e s m below meth c T0 X0 hx hby hml hret hlk hnm hown hZ e0
  have N0 := Fr.nil n0
  have zb := own_zb hz
  refine g_aloadN X0 hx 1 (hb hby d6_0) rfl rfl rfl ?_
  refine g_getF X0 hx hZ hown (hw _ (List.mem_of_getElem? (i := 26) rfl)) Via.refl e0 Fk 4 (hb hby d6_1) rfl ?_
  intro T129 X129 e129
  refine g_iloadN X129 hx 5 (hb hby d6_4) rfl rfl ?_
  refine g_static X129 hx hZ hown (hw _ (List.mem_of_getElem? (i := 36) rfl)) (hw _ (List.mem_of_getElem? (i := 37) rfl)) (hw _ (List.mem_of_getElem? (i := 5) rfl)) (hw _ (List.mem_of_getElem? (i := 38) rfl)) (by decide) (rmS l Z a0 hw ka k h0 n0 Z0 kk z K d r hz Vk hp) e129 (argsL := [(.ref ka), (.int k)]) (rest := []) rfl rfl 0 8 rfl (by rw [hml]; rfl) (lenOf own_pd5 rfl) (Nat.le_refl _) (by decide) (by decide) (by decide) (by decide) (hb hby d6_5) ?_
  intro v130 T130 L130 X130 hQ130
  obtain ⟨ri, rfl, hri, N130, q130⟩ := hQ130
  have N131 := Fr.app N0 N130
  show Go p e below _ T130 (mkF m 8 #[.val (.ref ob), .val (.int k), .val (.double x), .second, .unset] [(.int ri)])
  refine g_istore (l' := #[.val (.ref ob), .val (.int k), .val (.double x), .second, .val (.int ri)]) X130 hx 10 (hb hby d6_8) rfl rfl ?_
  refine g_aloadN X130 hx 11 (hb hby d6_10) rfl rfl rfl ?_
  refine g_getF X130 hx hZ hown (hw _ (List.mem_of_getElem? (i := 26) rfl)) Via.refl q130 Fk 14 (hb hby d6_11) rfl ?_
  intro T132 X132 e132
  refine g_iload X132 hx 16 (hb hby d6_14) rfl rfl ?_
  refine g_iloadN X132 hx 17 (hb hby d6_16) rfl rfl ?_
  refine g_iconst X132 hx (1 : Int32) 18 (hb hby d6_17) rfl (by decide) ?_
  refine g_iadd X132 hx 19 (hb hby d6_18) rfl ?_
  refine g_iastore X132 hx hZ e132 Vk r hri (by omega) (by rw [List.length_map]; omega) 20 (hb hby d6_19) rfl ?_
  intro T133 h133 X133 e133 W133 V133
  have F134 := Eo.wr W133
  have F135 := Fk.other W133 (Or.inl n1)
  have F136 := Fv.other W133 (Or.inl n1)
  have F138 := Vv.other W133 (Ne.symm n3)
  have F139 := Fs.other W133 (Or.inl n1)
  have K140 := (Keep.refl h0 [ob, ka, va]).wr W133 (Or.inl (List.mem_of_getElem? (i := 1) rfl))
  have N141 := Fr.snoc X133 N131 gk
  have Z142 : n0 ≤ h133.size := by rw [W133.size]; exact Z0
  have V133' : Arv Z h133 ka kk .int z ((K.set r (k + 1)).map Value.int) (.int 0) := by rw [List.map_set]; exact V133
  refine g_aloadN X133 hx 21 (hb hby d6_20) rfl rfl rfl ?_
  refine g_getF X133 hx hZ hown (hw _ (List.mem_of_getElem? (i := 29) rfl)) Via.refl e133 F136 24 (hb hby d6_21) rfl ?_
  intro T143 X143 e143
  refine g_iload X143 hx 26 (hb hby d6_24) rfl rfl ?_
  refine g_dloadN X143 hx 27 (hb hby d6_26) rfl rfl ?_
  refine g_dastore X143 hx hZ e143 F138 r hri (by omega) (by rw [List.length_map]; omega) 28 (hb hby d6_27) rfl ?_
  intro T144 h144 X144 e144 W144 V144
  have F145 := F134.wr W144
  have F146 := F135.other W144 (Or.inl n2)
  have F147 := F136.other W144 (Or.inl n2)
  have F148 := V133'.other W144 n3
  have F150 := F139.other W144 (Or.inl n2)
  have K151 := K140.wr W144 (Or.inl (List.mem_of_getElem? (i := 2) rfl))
  have N152 := Fr.snoc X144 N141 gv
  have Z153 : n0 ≤ h144.size := by rw [W144.size]; exact Z142
  have V144' : Arv Z h144 va vk .double z ((V.set r x).map Value.double) (.double 0) := by rw [List.map_set]; exact V144
  refine g_aloadN X144 hx 29 (hb hby d6_28) rfl rfl rfl ?_
  refine g_dup X144 hx 30 (hb hby d6_29) rfl rfl ?_
  refine g_getF X144 hx hZ hown (hw _ (List.mem_of_getElem? (i := 41) rfl)) Via.refl e144 F150 33 (hb hby d6_30) rfl ?_
  intro T154 X154 e154
  refine g_iconst X154 hx (1 : Int32) 34 (hb hby d6_33) rfl (by decide) ?_
  refine g_iadd X154 hx 35 (hb hby d6_34) rfl ?_
  refine g_putF X154 hx hZ hown (hw _ (List.mem_of_getElem? (i := 41) rfl)) Via.refl e154 F150 F145 (Or.inl (hw _ (List.mem_of_getElem? (i := 42) rfl))) (hw _ (List.mem_of_getElem? (i := 4) rfl)) (ty := .int) (by decide) rfl rfl 38 (hb hby d6_35) rfl ?_
  intro T155 h155 X155 e155 W155
  have F156 : Fld Z h155 ob "com/example/folksonomy/folksonomy/weighting/IntDoubleMap" "size" "I" (.int (sz + (1 : Int32))) := F150.same W155
  have F157 := F145.wr W155
  have F158 := F146.other W155 (Or.inr (slot_ne (Or.inl (hw _ (List.mem_of_getElem? (i := 27) rfl))) (Or.inl (hw _ (List.mem_of_getElem? (i := 42) rfl))) (by decide) (t := (.array .int)) (t' := .int) (by decide) (by decide)))
  have F159 := F147.other W155 (Or.inr (slot_ne (Or.inl (hw _ (List.mem_of_getElem? (i := 30) rfl))) (Or.inl (hw _ (List.mem_of_getElem? (i := 42) rfl))) (by decide) (t := (.array .double)) (t' := .int) (by decide) (by decide)))
  have F160 := F148.other W155 (Ne.symm n1)
  have F161 := V144'.other W155 (Ne.symm n2)
  have K162 := K151.wr W155 (Or.inl (List.mem_of_getElem? (i := 0) rfl))
  have N163 := Fr.snoc X155 N152 go
  have Z164 : n0 ≤ h155.size := by rw [W155.size]; exact Z153
  refine g_iconst X155 hx (2 : Int32) 39 (hb hby d6_38) rfl (by decide) ?_
  refine g_aloadN X155 hx 40 (hb hby d6_39) rfl rfl rfl ?_
  refine g_getF X155 hx hZ hown (hw _ (List.mem_of_getElem? (i := 41) rfl)) Via.refl e155 F156 43 (hb hby d6_40) rfl ?_
  intro T165 X165 e165
  refine g_imul X165 hx 44 (hb hby d6_43) rfl ?_
  refine g_aloadN X165 hx 45 (hb hby d6_44) rfl rfl rfl ?_
  refine g_getF X165 hx hZ hown (hw _ (List.mem_of_getElem? (i := 26) rfl)) Via.refl e165 F158 48 (hb hby d6_45) rfl ?_
  intro T166 X166 e166
  refine g_len X166 hx hZ e166 F160 49 (hb hby d6_48) rfl ?_
  have e1 := c_iadd sz 1
  have e2 := rng32 (sz + 1)
  have e3 := c_imul 2 (sz + 1)
  have e4 := rng32 (2 * (sz + 1))
  have l1 : (1 : Int32).toInt = 1 := by decide
  have l2 : (2 : Int32).toInt = 2 := by decide
  rw [l1] at e1
  rw [l2] at e3
  refine g_ic_le X166 hx 56 52 (hb hby d6_49) (by decide) (by decide) rfl (fun c167 => ?_) (fun c167 => ?_)
  · skip
    exact g_retV X166 hx hlk hret (hb hby d6_56) (by decide) (by decide) e166 ⟨rfl, N163, K162, F158, F159, F156, F160, F161⟩
  · skip
    exfalso; omega
theorem own_drefl {a : UInt64} (h : Jvm.Free.Fl.NoNaN64 a) : FP.dcmp a a = some (compare (0 : Int) 0) := (Jvm.FP.Core.dcmp_refl (Jvm.Free.Fl.noNaN64_no.mp h)).trans rfl
set_option maxRecDepth 65536 in
set_option maxHeartbeats 40000000 in
theorem rm0_195 {p : Program} {l : Launch} {e : Env} {s : State} {m : MethodId} {args : Array Value} {below : List Frame} {meth : Method} {c : Code} {T0 Z : State} {a0 : Array Value} {h0 : Heap} {n0 : Nat} {p0 p1 p2 p3 p5 : Int32} {p4 : Int64} {k1 k2 k3 ex f2 f3 : Int32} {v1 v2 v3 ab : UInt64} {o ka va : Addr} {kk vk : ClassId} {z : Int32} {K : List Int32} {V : List UInt64} {L0 : List Loc} {sl key : Int32} (X0 : Stand p l e room_1 s m args below meth c T0 L0 3 131) (hx : p.tables.exec = Jvm.exec) (hby : c.code = code) (hml : c.maxLocals = maxLocals) (hret : meth.sig.returnType = ret) (hlk : meth.locks = false) (hown : s.vm.findClass "com/example/folksonomy/folksonomy/weighting/IntDoubleMapGetPinLaw" = some m.cls) (hZ : Z.Warmed39 s.vm) (hw : ∀ d ∈ tables_1, d.before a0 Z = true) (e0 : T0.heap = h0) (Z0 : n0 ≤ h0.size) (N0 : Fr n0 L0) (hz : z = 16 ∨ z = 32 ∨ z = 64) (Eo : Exa Z h0 o "com/example/folksonomy/folksonomy/weighting/IntDoubleMap") (Fk : Fld Z h0 o "com/example/folksonomy/folksonomy/weighting/IntDoubleMap" "keys" "[I" (.ref ka)) (Fv : Fld Z h0 o "com/example/folksonomy/folksonomy/weighting/IntDoubleMap" "values" "[D" (.ref va)) (Vk : Arv Z h0 ka kk .int z ((K).map Value.int) (.int 0)) (Vv : Arv Z h0 va vk .double z ((V).map Value.double) (.double 0)) (W : ∀ key : Int32, 0 ≤ key.toInt → ∃ d r, Path z.toNatClampNeg K (key + 1) d (own_st z key).toNatClampNeg r ∧ r < z.toNatClampNeg ∧ (if K.getD r 0 = 0 then ab else V.getD r 0) = (if key = k1 then v1 else if f2 ≠ 0 ∧ key = k2 then v2 else if f3 ≠ 0 ∧ key = k3 then v3 else ab)) (nn1 : Jvm.Free.Fl.NoNaN64 v1) (nn2 : Jvm.Free.Fl.NoNaN64 v2) (nn3 : Jvm.Free.Fl.NoNaN64 v3) (nn4 : Jvm.Free.Fl.NoNaN64 ab) (hk : 0 ≤ key.toInt) :
    Go p e below (EndQ s (Q_rm0 n0) 16 384) T0 (mkF m 195 #[.val (.int p0), .val (.int p1), .val (.int p2), .val (.int p3), .val (.long p4), .second, .val (.int p5), .val (.int k1), .val (.int k2), .val (.int k3), .val (.double v1), .second, .val (.double v2), .second, .val (.double v3), .second, .val (.int ex), .val (.double ab), .second, .val (.int f2), .val (.int f3), .val (.ref o), .val (.int sl), .val (.int key), .unset, .unset] []) := by
  obtain ⟨d, r, hp, hr, hW⟩ := W key hk
  have zb := own_zb hz
  refine g_iload X0 hx 197 (hb hby at_195) rfl rfl ?_
  refine g_iload X0 hx 199 (hb hby at_197) rfl rfl ?_
  refine g_ic_ne X0 hx 209 202 (hb hby at_199) (by decide) (by decide) rfl (fun c168 => ?_) (fun c168 => ?_)
  · skip
    refine g_iload X0 hx 211 (hb hby at_209) rfl rfl ?_
    refine g_if_eq X0 hx 228 214 (hb hby at_211) (by decide) (by decide) rfl (fun c169 => ?_) (fun c169 => ?_)
    · skip
      refine g_iload X0 hx 230 (hb hby at_228) rfl rfl ?_
      refine g_if_eq X0 hx 247 233 (hb hby at_230) (by decide) (by decide) rfl (fun c170 => ?_) (fun c170 => ?_)
      · skip
        refine g_dload X0 hx 249 (hb hby at_247) rfl rfl ?_
        refine g_dstore (l' := #[.val (.int p0), .val (.int p1), .val (.int p2), .val (.int p3), .val (.long p4), .second, .val (.int p5), .val (.int k1), .val (.int k2), .val (.int k3), .val (.double v1), .second, .val (.double v2), .second, .val (.double v3), .second, .val (.int ex), .val (.double ab), .second, .val (.int f2), .val (.int f3), .val (.ref o), .val (.int sl), .val (.int key), .val (.double ab), .second]) X0 hx 251 (hb hby at_249) rfl rfl ?_
        have hW' : (if K.getD r 0 = 0 then ab else V.getD r 0) = ab := by rw [hW]; rw [if_neg (fun q => c168 (congrArg Int32.toInt q)), if_neg (fun q => q.1 (own_t0 c169)), if_neg (fun q => q.1 (own_t0 c170))]
        refine g_aload X0 hx 253 (hb hby at_251) rfl rfl rfl ?_
        refine g_iload X0 hx 255 (hb hby at_253) rfl rfl ?_
        refine g_dload X0 hx 257 (hb hby at_255) rfl rfl ?_
        refine g_virt X0 hx hZ (C := "com/example/folksonomy/folksonomy/weighting/IntDoubleMap") hown (hw _ (List.mem_of_getElem? (i := 43) rfl)) (hw _ (List.mem_of_getElem? (i := 44) rfl)) (hw _ (List.mem_of_getElem? (i := 46) rfl)) (hw _ (List.mem_of_getElem? (i := 46) rfl)) (hw _ (List.mem_of_getElem? (i := 45) rfl)) (hw _ (List.mem_of_getElem? (i := 5) rfl)) (hw _ (List.mem_of_getElem? (i := 47) rfl)) (by decide) (rmG l Z a0 hw o key ab h0 n0 Z0 ka va kk vk z K V d r hz hr hp Fk Fv Vk Vv) e0 (b := o) Eo (argsL := [(.int key), (.double ab)]) (rest := []) rfl rfl 0 260 rfl (by rw [hml]; rfl) (lenOf own_pd6 rfl) (Nat.le_refl _) (by decide) (by decide) (by decide) (by decide) (hb hby at_257) ?_
        intro v171 T171 L171 X171 hQ171
        obtain ⟨rfl, N171, q171⟩ := hQ171
        have N172 := Fr.app N0 N171
        rw [hW']
        show Go p e below _ T171 (mkF m 260 #[.val (.int p0), .val (.int p1), .val (.int p2), .val (.int p3), .val (.long p4), .second, .val (.int p5), .val (.int k1), .val (.int k2), .val (.int k3), .val (.double v1), .second, .val (.double v2), .second, .val (.double v3), .second, .val (.int ex), .val (.double ab), .second, .val (.int f2), .val (.int f3), .val (.ref o), .val (.int sl), .val (.int key), .val (.double ab), .second] [(.double ab)])
        refine g_dload X171 hx 262 (hb hby at_260) rfl rfl ?_
        refine g_dc_ne X171 hx 263 270 266 (hb hby at_262) rfl (hb hby at_263) (by decide) (by decide) rfl (own_drefl nn4) (fun c173 => ?_) (fun c173 => ?_)
        · skip
          exact absurd rfl c173
        · skip
          refine g_iconst X171 hx (1 : Int32) 267 (hb hby at_266) rfl (by decide) ?_
          refine g_goto X171 hx 271 (hb hby at_267) (by decide) (by decide) ?_
          exact g_retZ X171 hx hlk hret (hb hby at_271) (by decide) (by decide) q171 ⟨rfl, N172⟩
      · skip
        refine g_iload X0 hx 235 (hb hby at_233) rfl rfl ?_
        refine g_iload X0 hx 237 (hb hby at_235) rfl rfl ?_
        refine g_ic_ne X0 hx 247 240 (hb hby at_237) (by decide) (by decide) rfl (fun c174 => ?_) (fun c174 => ?_)
        · skip
          refine g_dload X0 hx 249 (hb hby at_247) rfl rfl ?_
          refine g_dstore (l' := #[.val (.int p0), .val (.int p1), .val (.int p2), .val (.int p3), .val (.long p4), .second, .val (.int p5), .val (.int k1), .val (.int k2), .val (.int k3), .val (.double v1), .second, .val (.double v2), .second, .val (.double v3), .second, .val (.int ex), .val (.double ab), .second, .val (.int f2), .val (.int f3), .val (.ref o), .val (.int sl), .val (.int key), .val (.double ab), .second]) X0 hx 251 (hb hby at_249) rfl rfl ?_
          have hW' : (if K.getD r 0 = 0 then ab else V.getD r 0) = ab := by rw [hW]; rw [if_neg (fun q => c168 (congrArg Int32.toInt q)), if_neg (fun q => q.1 (own_t0 c169)), if_neg (fun q => c174 (congrArg Int32.toInt q.2))]
          refine g_aload X0 hx 253 (hb hby at_251) rfl rfl rfl ?_
          refine g_iload X0 hx 255 (hb hby at_253) rfl rfl ?_
          refine g_dload X0 hx 257 (hb hby at_255) rfl rfl ?_
          refine g_virt X0 hx hZ (C := "com/example/folksonomy/folksonomy/weighting/IntDoubleMap") hown (hw _ (List.mem_of_getElem? (i := 43) rfl)) (hw _ (List.mem_of_getElem? (i := 44) rfl)) (hw _ (List.mem_of_getElem? (i := 46) rfl)) (hw _ (List.mem_of_getElem? (i := 46) rfl)) (hw _ (List.mem_of_getElem? (i := 45) rfl)) (hw _ (List.mem_of_getElem? (i := 5) rfl)) (hw _ (List.mem_of_getElem? (i := 47) rfl)) (by decide) (rmG l Z a0 hw o key ab h0 n0 Z0 ka va kk vk z K V d r hz hr hp Fk Fv Vk Vv) e0 (b := o) Eo (argsL := [(.int key), (.double ab)]) (rest := []) rfl rfl 0 260 rfl (by rw [hml]; rfl) (lenOf own_pd6 rfl) (Nat.le_refl _) (by decide) (by decide) (by decide) (by decide) (hb hby at_257) ?_
          intro v175 T175 L175 X175 hQ175
          obtain ⟨rfl, N175, q175⟩ := hQ175
          have N176 := Fr.app N0 N175
          rw [hW']
          show Go p e below _ T175 (mkF m 260 #[.val (.int p0), .val (.int p1), .val (.int p2), .val (.int p3), .val (.long p4), .second, .val (.int p5), .val (.int k1), .val (.int k2), .val (.int k3), .val (.double v1), .second, .val (.double v2), .second, .val (.double v3), .second, .val (.int ex), .val (.double ab), .second, .val (.int f2), .val (.int f3), .val (.ref o), .val (.int sl), .val (.int key), .val (.double ab), .second] [(.double ab)])
          refine g_dload X175 hx 262 (hb hby at_260) rfl rfl ?_
          refine g_dc_ne X175 hx 263 270 266 (hb hby at_262) rfl (hb hby at_263) (by decide) (by decide) rfl (own_drefl nn4) (fun c177 => ?_) (fun c177 => ?_)
          · skip
            exact absurd rfl c177
          · skip
            refine g_iconst X175 hx (1 : Int32) 267 (hb hby at_266) rfl (by decide) ?_
            refine g_goto X175 hx 271 (hb hby at_267) (by decide) (by decide) ?_
            exact g_retZ X175 hx hlk hret (hb hby at_271) (by decide) (by decide) q175 ⟨rfl, N176⟩
        · skip
          refine g_dload X0 hx 242 (hb hby at_240) rfl rfl ?_
          refine g_dstore (l' := #[.val (.int p0), .val (.int p1), .val (.int p2), .val (.int p3), .val (.long p4), .second, .val (.int p5), .val (.int k1), .val (.int k2), .val (.int k3), .val (.double v1), .second, .val (.double v2), .second, .val (.double v3), .second, .val (.int ex), .val (.double ab), .second, .val (.int f2), .val (.int f3), .val (.ref o), .val (.int sl), .val (.int key), .val (.double v3), .second]) X0 hx 244 (hb hby at_242) rfl rfl ?_
          refine g_goto X0 hx 251 (hb hby at_244) (by decide) (by decide) ?_
          have hW' : (if K.getD r 0 = 0 then ab else V.getD r 0) = v3 := by rw [hW]; rw [if_neg (fun q => c168 (congrArg Int32.toInt q)), if_neg (fun q => q.1 (own_t0 c169)), if_pos ⟨own_tn c170, own_te c174⟩]
          refine g_aload X0 hx 253 (hb hby at_251) rfl rfl rfl ?_
          refine g_iload X0 hx 255 (hb hby at_253) rfl rfl ?_
          refine g_dload X0 hx 257 (hb hby at_255) rfl rfl ?_
          refine g_virt X0 hx hZ (C := "com/example/folksonomy/folksonomy/weighting/IntDoubleMap") hown (hw _ (List.mem_of_getElem? (i := 43) rfl)) (hw _ (List.mem_of_getElem? (i := 44) rfl)) (hw _ (List.mem_of_getElem? (i := 46) rfl)) (hw _ (List.mem_of_getElem? (i := 46) rfl)) (hw _ (List.mem_of_getElem? (i := 45) rfl)) (hw _ (List.mem_of_getElem? (i := 5) rfl)) (hw _ (List.mem_of_getElem? (i := 47) rfl)) (by decide) (rmG l Z a0 hw o key ab h0 n0 Z0 ka va kk vk z K V d r hz hr hp Fk Fv Vk Vv) e0 (b := o) Eo (argsL := [(.int key), (.double ab)]) (rest := []) rfl rfl 0 260 rfl (by rw [hml]; rfl) (lenOf own_pd6 rfl) (Nat.le_refl _) (by decide) (by decide) (by decide) (by decide) (hb hby at_257) ?_
          intro v178 T178 L178 X178 hQ178
          obtain ⟨rfl, N178, q178⟩ := hQ178
          have N179 := Fr.app N0 N178
          rw [hW']
          show Go p e below _ T178 (mkF m 260 #[.val (.int p0), .val (.int p1), .val (.int p2), .val (.int p3), .val (.long p4), .second, .val (.int p5), .val (.int k1), .val (.int k2), .val (.int k3), .val (.double v1), .second, .val (.double v2), .second, .val (.double v3), .second, .val (.int ex), .val (.double ab), .second, .val (.int f2), .val (.int f3), .val (.ref o), .val (.int sl), .val (.int key), .val (.double v3), .second] [(.double v3)])
          refine g_dload X178 hx 262 (hb hby at_260) rfl rfl ?_
          refine g_dc_ne X178 hx 263 270 266 (hb hby at_262) rfl (hb hby at_263) (by decide) (by decide) rfl (own_drefl nn3) (fun c180 => ?_) (fun c180 => ?_)
          · skip
            exact absurd rfl c180
          · skip
            refine g_iconst X178 hx (1 : Int32) 267 (hb hby at_266) rfl (by decide) ?_
            refine g_goto X178 hx 271 (hb hby at_267) (by decide) (by decide) ?_
            exact g_retZ X178 hx hlk hret (hb hby at_271) (by decide) (by decide) q178 ⟨rfl, N179⟩
    · skip
      refine g_iload X0 hx 216 (hb hby at_214) rfl rfl ?_
      refine g_iload X0 hx 218 (hb hby at_216) rfl rfl ?_
      refine g_ic_ne X0 hx 228 221 (hb hby at_218) (by decide) (by decide) rfl (fun c181 => ?_) (fun c181 => ?_)
      · skip
        refine g_iload X0 hx 230 (hb hby at_228) rfl rfl ?_
        refine g_if_eq X0 hx 247 233 (hb hby at_230) (by decide) (by decide) rfl (fun c182 => ?_) (fun c182 => ?_)
        · skip
          refine g_dload X0 hx 249 (hb hby at_247) rfl rfl ?_
          refine g_dstore (l' := #[.val (.int p0), .val (.int p1), .val (.int p2), .val (.int p3), .val (.long p4), .second, .val (.int p5), .val (.int k1), .val (.int k2), .val (.int k3), .val (.double v1), .second, .val (.double v2), .second, .val (.double v3), .second, .val (.int ex), .val (.double ab), .second, .val (.int f2), .val (.int f3), .val (.ref o), .val (.int sl), .val (.int key), .val (.double ab), .second]) X0 hx 251 (hb hby at_249) rfl rfl ?_
          have hW' : (if K.getD r 0 = 0 then ab else V.getD r 0) = ab := by rw [hW]; rw [if_neg (fun q => c168 (congrArg Int32.toInt q)), if_neg (fun q => c181 (congrArg Int32.toInt q.2)), if_neg (fun q => q.1 (own_t0 c182))]
          refine g_aload X0 hx 253 (hb hby at_251) rfl rfl rfl ?_
          refine g_iload X0 hx 255 (hb hby at_253) rfl rfl ?_
          refine g_dload X0 hx 257 (hb hby at_255) rfl rfl ?_
          refine g_virt X0 hx hZ (C := "com/example/folksonomy/folksonomy/weighting/IntDoubleMap") hown (hw _ (List.mem_of_getElem? (i := 43) rfl)) (hw _ (List.mem_of_getElem? (i := 44) rfl)) (hw _ (List.mem_of_getElem? (i := 46) rfl)) (hw _ (List.mem_of_getElem? (i := 46) rfl)) (hw _ (List.mem_of_getElem? (i := 45) rfl)) (hw _ (List.mem_of_getElem? (i := 5) rfl)) (hw _ (List.mem_of_getElem? (i := 47) rfl)) (by decide) (rmG l Z a0 hw o key ab h0 n0 Z0 ka va kk vk z K V d r hz hr hp Fk Fv Vk Vv) e0 (b := o) Eo (argsL := [(.int key), (.double ab)]) (rest := []) rfl rfl 0 260 rfl (by rw [hml]; rfl) (lenOf own_pd6 rfl) (Nat.le_refl _) (by decide) (by decide) (by decide) (by decide) (hb hby at_257) ?_
          intro v183 T183 L183 X183 hQ183
          obtain ⟨rfl, N183, q183⟩ := hQ183
          have N184 := Fr.app N0 N183
          rw [hW']
          show Go p e below _ T183 (mkF m 260 #[.val (.int p0), .val (.int p1), .val (.int p2), .val (.int p3), .val (.long p4), .second, .val (.int p5), .val (.int k1), .val (.int k2), .val (.int k3), .val (.double v1), .second, .val (.double v2), .second, .val (.double v3), .second, .val (.int ex), .val (.double ab), .second, .val (.int f2), .val (.int f3), .val (.ref o), .val (.int sl), .val (.int key), .val (.double ab), .second] [(.double ab)])
          refine g_dload X183 hx 262 (hb hby at_260) rfl rfl ?_
          refine g_dc_ne X183 hx 263 270 266 (hb hby at_262) rfl (hb hby at_263) (by decide) (by decide) rfl (own_drefl nn4) (fun c185 => ?_) (fun c185 => ?_)
          · skip
            exact absurd rfl c185
          · skip
            refine g_iconst X183 hx (1 : Int32) 267 (hb hby at_266) rfl (by decide) ?_
            refine g_goto X183 hx 271 (hb hby at_267) (by decide) (by decide) ?_
            exact g_retZ X183 hx hlk hret (hb hby at_271) (by decide) (by decide) q183 ⟨rfl, N184⟩
        · skip
          refine g_iload X0 hx 235 (hb hby at_233) rfl rfl ?_
          refine g_iload X0 hx 237 (hb hby at_235) rfl rfl ?_
          refine g_ic_ne X0 hx 247 240 (hb hby at_237) (by decide) (by decide) rfl (fun c186 => ?_) (fun c186 => ?_)
          · skip
            refine g_dload X0 hx 249 (hb hby at_247) rfl rfl ?_
            refine g_dstore (l' := #[.val (.int p0), .val (.int p1), .val (.int p2), .val (.int p3), .val (.long p4), .second, .val (.int p5), .val (.int k1), .val (.int k2), .val (.int k3), .val (.double v1), .second, .val (.double v2), .second, .val (.double v3), .second, .val (.int ex), .val (.double ab), .second, .val (.int f2), .val (.int f3), .val (.ref o), .val (.int sl), .val (.int key), .val (.double ab), .second]) X0 hx 251 (hb hby at_249) rfl rfl ?_
            have hW' : (if K.getD r 0 = 0 then ab else V.getD r 0) = ab := by rw [hW]; rw [if_neg (fun q => c168 (congrArg Int32.toInt q)), if_neg (fun q => c181 (congrArg Int32.toInt q.2)), if_neg (fun q => c186 (congrArg Int32.toInt q.2))]
            refine g_aload X0 hx 253 (hb hby at_251) rfl rfl rfl ?_
            refine g_iload X0 hx 255 (hb hby at_253) rfl rfl ?_
            refine g_dload X0 hx 257 (hb hby at_255) rfl rfl ?_
            refine g_virt X0 hx hZ (C := "com/example/folksonomy/folksonomy/weighting/IntDoubleMap") hown (hw _ (List.mem_of_getElem? (i := 43) rfl)) (hw _ (List.mem_of_getElem? (i := 44) rfl)) (hw _ (List.mem_of_getElem? (i := 46) rfl)) (hw _ (List.mem_of_getElem? (i := 46) rfl)) (hw _ (List.mem_of_getElem? (i := 45) rfl)) (hw _ (List.mem_of_getElem? (i := 5) rfl)) (hw _ (List.mem_of_getElem? (i := 47) rfl)) (by decide) (rmG l Z a0 hw o key ab h0 n0 Z0 ka va kk vk z K V d r hz hr hp Fk Fv Vk Vv) e0 (b := o) Eo (argsL := [(.int key), (.double ab)]) (rest := []) rfl rfl 0 260 rfl (by rw [hml]; rfl) (lenOf own_pd6 rfl) (Nat.le_refl _) (by decide) (by decide) (by decide) (by decide) (hb hby at_257) ?_
            intro v187 T187 L187 X187 hQ187
            obtain ⟨rfl, N187, q187⟩ := hQ187
            have N188 := Fr.app N0 N187
            rw [hW']
            show Go p e below _ T187 (mkF m 260 #[.val (.int p0), .val (.int p1), .val (.int p2), .val (.int p3), .val (.long p4), .second, .val (.int p5), .val (.int k1), .val (.int k2), .val (.int k3), .val (.double v1), .second, .val (.double v2), .second, .val (.double v3), .second, .val (.int ex), .val (.double ab), .second, .val (.int f2), .val (.int f3), .val (.ref o), .val (.int sl), .val (.int key), .val (.double ab), .second] [(.double ab)])
            refine g_dload X187 hx 262 (hb hby at_260) rfl rfl ?_
            refine g_dc_ne X187 hx 263 270 266 (hb hby at_262) rfl (hb hby at_263) (by decide) (by decide) rfl (own_drefl nn4) (fun c189 => ?_) (fun c189 => ?_)
            · skip
              exact absurd rfl c189
            · skip
              refine g_iconst X187 hx (1 : Int32) 267 (hb hby at_266) rfl (by decide) ?_
              refine g_goto X187 hx 271 (hb hby at_267) (by decide) (by decide) ?_
              exact g_retZ X187 hx hlk hret (hb hby at_271) (by decide) (by decide) q187 ⟨rfl, N188⟩
          · skip
            refine g_dload X0 hx 242 (hb hby at_240) rfl rfl ?_
            refine g_dstore (l' := #[.val (.int p0), .val (.int p1), .val (.int p2), .val (.int p3), .val (.long p4), .second, .val (.int p5), .val (.int k1), .val (.int k2), .val (.int k3), .val (.double v1), .second, .val (.double v2), .second, .val (.double v3), .second, .val (.int ex), .val (.double ab), .second, .val (.int f2), .val (.int f3), .val (.ref o), .val (.int sl), .val (.int key), .val (.double v3), .second]) X0 hx 244 (hb hby at_242) rfl rfl ?_
            refine g_goto X0 hx 251 (hb hby at_244) (by decide) (by decide) ?_
            have hW' : (if K.getD r 0 = 0 then ab else V.getD r 0) = v3 := by rw [hW]; rw [if_neg (fun q => c168 (congrArg Int32.toInt q)), if_neg (fun q => c181 (congrArg Int32.toInt q.2)), if_pos ⟨own_tn c182, own_te c186⟩]
            refine g_aload X0 hx 253 (hb hby at_251) rfl rfl rfl ?_
            refine g_iload X0 hx 255 (hb hby at_253) rfl rfl ?_
            refine g_dload X0 hx 257 (hb hby at_255) rfl rfl ?_
            refine g_virt X0 hx hZ (C := "com/example/folksonomy/folksonomy/weighting/IntDoubleMap") hown (hw _ (List.mem_of_getElem? (i := 43) rfl)) (hw _ (List.mem_of_getElem? (i := 44) rfl)) (hw _ (List.mem_of_getElem? (i := 46) rfl)) (hw _ (List.mem_of_getElem? (i := 46) rfl)) (hw _ (List.mem_of_getElem? (i := 45) rfl)) (hw _ (List.mem_of_getElem? (i := 5) rfl)) (hw _ (List.mem_of_getElem? (i := 47) rfl)) (by decide) (rmG l Z a0 hw o key ab h0 n0 Z0 ka va kk vk z K V d r hz hr hp Fk Fv Vk Vv) e0 (b := o) Eo (argsL := [(.int key), (.double ab)]) (rest := []) rfl rfl 0 260 rfl (by rw [hml]; rfl) (lenOf own_pd6 rfl) (Nat.le_refl _) (by decide) (by decide) (by decide) (by decide) (hb hby at_257) ?_
            intro v190 T190 L190 X190 hQ190
            obtain ⟨rfl, N190, q190⟩ := hQ190
            have N191 := Fr.app N0 N190
            rw [hW']
            show Go p e below _ T190 (mkF m 260 #[.val (.int p0), .val (.int p1), .val (.int p2), .val (.int p3), .val (.long p4), .second, .val (.int p5), .val (.int k1), .val (.int k2), .val (.int k3), .val (.double v1), .second, .val (.double v2), .second, .val (.double v3), .second, .val (.int ex), .val (.double ab), .second, .val (.int f2), .val (.int f3), .val (.ref o), .val (.int sl), .val (.int key), .val (.double v3), .second] [(.double v3)])
            refine g_dload X190 hx 262 (hb hby at_260) rfl rfl ?_
            refine g_dc_ne X190 hx 263 270 266 (hb hby at_262) rfl (hb hby at_263) (by decide) (by decide) rfl (own_drefl nn3) (fun c192 => ?_) (fun c192 => ?_)
            · skip
              exact absurd rfl c192
            · skip
              refine g_iconst X190 hx (1 : Int32) 267 (hb hby at_266) rfl (by decide) ?_
              refine g_goto X190 hx 271 (hb hby at_267) (by decide) (by decide) ?_
              exact g_retZ X190 hx hlk hret (hb hby at_271) (by decide) (by decide) q190 ⟨rfl, N191⟩
      · skip
        refine g_dload X0 hx 223 (hb hby at_221) rfl rfl ?_
        refine g_dstore (l' := #[.val (.int p0), .val (.int p1), .val (.int p2), .val (.int p3), .val (.long p4), .second, .val (.int p5), .val (.int k1), .val (.int k2), .val (.int k3), .val (.double v1), .second, .val (.double v2), .second, .val (.double v3), .second, .val (.int ex), .val (.double ab), .second, .val (.int f2), .val (.int f3), .val (.ref o), .val (.int sl), .val (.int key), .val (.double v2), .second]) X0 hx 225 (hb hby at_223) rfl rfl ?_
        refine g_goto X0 hx 251 (hb hby at_225) (by decide) (by decide) ?_
        have hW' : (if K.getD r 0 = 0 then ab else V.getD r 0) = v2 := by rw [hW]; rw [if_neg (fun q => c168 (congrArg Int32.toInt q)), if_pos ⟨own_tn c169, own_te c181⟩]
        refine g_aload X0 hx 253 (hb hby at_251) rfl rfl rfl ?_
        refine g_iload X0 hx 255 (hb hby at_253) rfl rfl ?_
        refine g_dload X0 hx 257 (hb hby at_255) rfl rfl ?_
        refine g_virt X0 hx hZ (C := "com/example/folksonomy/folksonomy/weighting/IntDoubleMap") hown (hw _ (List.mem_of_getElem? (i := 43) rfl)) (hw _ (List.mem_of_getElem? (i := 44) rfl)) (hw _ (List.mem_of_getElem? (i := 46) rfl)) (hw _ (List.mem_of_getElem? (i := 46) rfl)) (hw _ (List.mem_of_getElem? (i := 45) rfl)) (hw _ (List.mem_of_getElem? (i := 5) rfl)) (hw _ (List.mem_of_getElem? (i := 47) rfl)) (by decide) (rmG l Z a0 hw o key ab h0 n0 Z0 ka va kk vk z K V d r hz hr hp Fk Fv Vk Vv) e0 (b := o) Eo (argsL := [(.int key), (.double ab)]) (rest := []) rfl rfl 0 260 rfl (by rw [hml]; rfl) (lenOf own_pd6 rfl) (Nat.le_refl _) (by decide) (by decide) (by decide) (by decide) (hb hby at_257) ?_
        intro v193 T193 L193 X193 hQ193
        obtain ⟨rfl, N193, q193⟩ := hQ193
        have N194 := Fr.app N0 N193
        rw [hW']
        show Go p e below _ T193 (mkF m 260 #[.val (.int p0), .val (.int p1), .val (.int p2), .val (.int p3), .val (.long p4), .second, .val (.int p5), .val (.int k1), .val (.int k2), .val (.int k3), .val (.double v1), .second, .val (.double v2), .second, .val (.double v3), .second, .val (.int ex), .val (.double ab), .second, .val (.int f2), .val (.int f3), .val (.ref o), .val (.int sl), .val (.int key), .val (.double v2), .second] [(.double v2)])
        refine g_dload X193 hx 262 (hb hby at_260) rfl rfl ?_
        refine g_dc_ne X193 hx 263 270 266 (hb hby at_262) rfl (hb hby at_263) (by decide) (by decide) rfl (own_drefl nn2) (fun c195 => ?_) (fun c195 => ?_)
        · skip
          exact absurd rfl c195
        · skip
          refine g_iconst X193 hx (1 : Int32) 267 (hb hby at_266) rfl (by decide) ?_
          refine g_goto X193 hx 271 (hb hby at_267) (by decide) (by decide) ?_
          exact g_retZ X193 hx hlk hret (hb hby at_271) (by decide) (by decide) q193 ⟨rfl, N194⟩
  · skip
    refine g_dload X0 hx 204 (hb hby at_202) rfl rfl ?_
    refine g_dstore (l' := #[.val (.int p0), .val (.int p1), .val (.int p2), .val (.int p3), .val (.long p4), .second, .val (.int p5), .val (.int k1), .val (.int k2), .val (.int k3), .val (.double v1), .second, .val (.double v2), .second, .val (.double v3), .second, .val (.int ex), .val (.double ab), .second, .val (.int f2), .val (.int f3), .val (.ref o), .val (.int sl), .val (.int key), .val (.double v1), .second]) X0 hx 206 (hb hby at_204) rfl rfl ?_
    refine g_goto X0 hx 251 (hb hby at_206) (by decide) (by decide) ?_
    have hW' : (if K.getD r 0 = 0 then ab else V.getD r 0) = v1 := by rw [hW]; rw [if_pos (own_te c168)]
    refine g_aload X0 hx 253 (hb hby at_251) rfl rfl rfl ?_
    refine g_iload X0 hx 255 (hb hby at_253) rfl rfl ?_
    refine g_dload X0 hx 257 (hb hby at_255) rfl rfl ?_
    refine g_virt X0 hx hZ (C := "com/example/folksonomy/folksonomy/weighting/IntDoubleMap") hown (hw _ (List.mem_of_getElem? (i := 43) rfl)) (hw _ (List.mem_of_getElem? (i := 44) rfl)) (hw _ (List.mem_of_getElem? (i := 46) rfl)) (hw _ (List.mem_of_getElem? (i := 46) rfl)) (hw _ (List.mem_of_getElem? (i := 45) rfl)) (hw _ (List.mem_of_getElem? (i := 5) rfl)) (hw _ (List.mem_of_getElem? (i := 47) rfl)) (by decide) (rmG l Z a0 hw o key ab h0 n0 Z0 ka va kk vk z K V d r hz hr hp Fk Fv Vk Vv) e0 (b := o) Eo (argsL := [(.int key), (.double ab)]) (rest := []) rfl rfl 0 260 rfl (by rw [hml]; rfl) (lenOf own_pd6 rfl) (Nat.le_refl _) (by decide) (by decide) (by decide) (by decide) (hb hby at_257) ?_
    intro v196 T196 L196 X196 hQ196
    obtain ⟨rfl, N196, q196⟩ := hQ196
    have N197 := Fr.app N0 N196
    rw [hW']
    show Go p e below _ T196 (mkF m 260 #[.val (.int p0), .val (.int p1), .val (.int p2), .val (.int p3), .val (.long p4), .second, .val (.int p5), .val (.int k1), .val (.int k2), .val (.int k3), .val (.double v1), .second, .val (.double v2), .second, .val (.double v3), .second, .val (.int ex), .val (.double ab), .second, .val (.int f2), .val (.int f3), .val (.ref o), .val (.int sl), .val (.int key), .val (.double v1), .second] [(.double v1)])
    refine g_dload X196 hx 262 (hb hby at_260) rfl rfl ?_
    refine g_dc_ne X196 hx 263 270 266 (hb hby at_262) rfl (hb hby at_263) (by decide) (by decide) rfl (own_drefl nn1) (fun c198 => ?_) (fun c198 => ?_)
    · skip
      exact absurd rfl c198
    · skip
      refine g_iconst X196 hx (1 : Int32) 267 (hb hby at_266) rfl (by decide) ?_
      refine g_goto X196 hx 271 (hb hby at_267) (by decide) (by decide) ?_
      exact g_retZ X196 hx hlk hret (hb hby at_271) (by decide) (by decide) q196 ⟨rfl, N197⟩
theorem own_kp (x : Int32) : 0 ≤ (x &&& (2147483647 : Int32)).toInt ∧ (x &&& (2147483647 : Int32)).toInt ≤ 2147483647 := by
  have := c_mask x 2147483647 31 (by decide) (by decide)
  have e : ((2 ^ 31 : Nat) : Int) = 2147483648 := rfl
  rw [e] at this
  omega
set_option maxRecDepth 65536 in
set_option maxHeartbeats 40000000 in
theorem rm0_145 {p : Program} {l : Launch} {e : Env} {s : State} {m : MethodId} {args : Array Value} {below : List Frame} {meth : Method} {c : Code} {T0 Z : State} {a0 : Array Value} {h0 : Heap} {n0 : Nat} {p0 p1 p2 p3 p5 : Int32} {p4 : Int64} {k1 k2 k3 ex f2 f3 : Int32} {v1 v2 v3 ab : UInt64} {o ka va : Addr} {kk vk : ClassId} {z : Int32} {K : List Int32} {V : List UInt64} {L0 : List Loc} (X0 : Stand p l e room_1 s m args below meth c T0 L0 3 131) (hx : p.tables.exec = Jvm.exec) (hby : c.code = code) (hml : c.maxLocals = maxLocals) (hret : meth.sig.returnType = ret) (hlk : meth.locks = false) (hown : s.vm.findClass "com/example/folksonomy/folksonomy/weighting/IntDoubleMapGetPinLaw" = some m.cls) (hZ : Z.Warmed39 s.vm) (hw : ∀ d ∈ tables_1, d.before a0 Z = true) (e0 : T0.heap = h0) (Z0 : n0 ≤ h0.size) (N0 : Fr n0 L0) (hz : z = 16 ∨ z = 32 ∨ z = 64) (Eo : Exa Z h0 o "com/example/folksonomy/folksonomy/weighting/IntDoubleMap") (Fk : Fld Z h0 o "com/example/folksonomy/folksonomy/weighting/IntDoubleMap" "keys" "[I" (.ref ka)) (Fv : Fld Z h0 o "com/example/folksonomy/folksonomy/weighting/IntDoubleMap" "values" "[D" (.ref va)) (Vk : Arv Z h0 ka kk .int z ((K).map Value.int) (.int 0)) (Vv : Arv Z h0 va vk .double z ((V).map Value.double) (.double 0)) (W : ∀ key : Int32, 0 ≤ key.toInt → ∃ d r, Path z.toNatClampNeg K (key + 1) d (own_st z key).toNatClampNeg r ∧ r < z.toNatClampNeg ∧ (if K.getD r 0 = 0 then ab else V.getD r 0) = (if key = k1 then v1 else if f2 ≠ 0 ∧ key = k2 then v2 else if f3 ≠ 0 ∧ key = k3 then v3 else ab)) (nn1 : Jvm.Free.Fl.NoNaN64 v1) (nn2 : Jvm.Free.Fl.NoNaN64 v2) (nn3 : Jvm.Free.Fl.NoNaN64 v3) (nn4 : Jvm.Free.Fl.NoNaN64 ab) (b1 : 0 ≤ k1.toInt) (b2 : 0 ≤ k2.toInt) (b3 : 0 ≤ k3.toInt) :
    Go p e below (EndQ s (Q_rm0 n0) 16 384) T0 (mkF m 145 #[.val (.int p0), .val (.int p1), .val (.int p2), .val (.int p3), .val (.long p4), .second, .val (.int p5), .val (.int k1), .val (.int k2), .val (.int k3), .val (.double v1), .second, .val (.double v2), .second, .val (.double v3), .second, .val (.int ex), .val (.double ab), .second, .val (.int f2), .val (.int f3), .val (.ref o), .unset, .unset, .unset, .unset] []) := by
  refine g_iload X0 hx 147 (hb hby at_145) rfl rfl ?_
  refine g_iconst X0 hx (3 : Int32) 148 (hb hby at_147) rfl (by decide) ?_
  refine g_iand X0 hx 149 (hb hby at_148) rfl ?_
  refine g_istore (l' := #[.val (.int p0), .val (.int p1), .val (.int p2), .val (.int p3), .val (.long p4), .second, .val (.int p5), .val (.int k1), .val (.int k2), .val (.int k3), .val (.double v1), .second, .val (.double v2), .second, .val (.double v3), .second, .val (.int ex), .val (.double ab), .second, .val (.int f2), .val (.int f3), .val (.ref o), .val (.int (p5 &&& (3 : Int32))), .unset, .unset, .unset]) X0 hx 151 (hb hby at_149) rfl rfl ?_
  refine g_iload X0 hx 153 (hb hby at_151) rfl rfl ?_
  refine g_if_ne X0 hx 163 156 (hb hby at_153) (by decide) (by decide) rfl (fun c199 => ?_) (fun c199 => ?_)
  · skip
    refine g_iload X0 hx 165 (hb hby at_163) rfl rfl ?_
    refine g_iconst X0 hx (1 : Int32) 166 (hb hby at_165) rfl (by decide) ?_
    have ll201 : ((1 : Int32) : Int32).toInt = 1 := by decide
    refine g_ic_ne X0 hx 176 169 (hb hby at_166) (by decide) (by decide) rfl (fun c200 => ?_) (fun c200 => ?_)
    · skip
      refine g_iload X0 hx 178 (hb hby at_176) rfl rfl ?_
      refine g_iconst X0 hx (2 : Int32) 179 (hb hby at_178) rfl (by decide) ?_
      have ll203 : ((2 : Int32) : Int32).toInt = 2 := by decide
      refine g_ic_ne X0 hx 189 182 (hb hby at_179) (by decide) (by decide) rfl (fun c202 => ?_) (fun c202 => ?_)
      · skip
        refine g_iloadN X0 hx 190 (hb hby at_189) rfl rfl ?_
        refine g_ldcI X0 hx 192 hZ hown (hw _ (List.mem_of_getElem? (i := 0) rfl)) (hb hby at_190) rfl ?_
        refine g_iand X0 hx 193 (hb hby at_192) rfl ?_
        refine g_istore (l' := #[.val (.int p0), .val (.int p1), .val (.int p2), .val (.int p3), .val (.long p4), .second, .val (.int p5), .val (.int k1), .val (.int k2), .val (.int k3), .val (.double v1), .second, .val (.double v2), .second, .val (.double v3), .second, .val (.int ex), .val (.double ab), .second, .val (.int f2), .val (.int f3), .val (.ref o), .val (.int (p5 &&& (3 : Int32))), .val (.int (p3 &&& (2147483647 : Int32))), .unset, .unset]) X0 hx 195 (hb hby at_193) rfl rfl ?_
        exact rm0_195 X0 hx hby hml hret hlk hown hZ hw e0 Z0 N0 hz Eo Fk Fv Vk Vv W nn1 nn2 nn3 nn4 (own_kp p3).1
      · skip
        refine g_iload X0 hx 184 (hb hby at_182) rfl rfl ?_
        refine g_istore (l' := #[.val (.int p0), .val (.int p1), .val (.int p2), .val (.int p3), .val (.long p4), .second, .val (.int p5), .val (.int k1), .val (.int k2), .val (.int k3), .val (.double v1), .second, .val (.double v2), .second, .val (.double v3), .second, .val (.int ex), .val (.double ab), .second, .val (.int f2), .val (.int f3), .val (.ref o), .val (.int (p5 &&& (3 : Int32))), .val (.int k3), .unset, .unset]) X0 hx 186 (hb hby at_184) rfl rfl ?_
        refine g_goto X0 hx 195 (hb hby at_186) (by decide) (by decide) ?_
        exact rm0_195 X0 hx hby hml hret hlk hown hZ hw e0 Z0 N0 hz Eo Fk Fv Vk Vv W nn1 nn2 nn3 nn4 b3
    · skip
      refine g_iload X0 hx 171 (hb hby at_169) rfl rfl ?_
      refine g_istore (l' := #[.val (.int p0), .val (.int p1), .val (.int p2), .val (.int p3), .val (.long p4), .second, .val (.int p5), .val (.int k1), .val (.int k2), .val (.int k3), .val (.double v1), .second, .val (.double v2), .second, .val (.double v3), .second, .val (.int ex), .val (.double ab), .second, .val (.int f2), .val (.int f3), .val (.ref o), .val (.int (p5 &&& (3 : Int32))), .val (.int k2), .unset, .unset]) X0 hx 173 (hb hby at_171) rfl rfl ?_
      refine g_goto X0 hx 195 (hb hby at_173) (by decide) (by decide) ?_
      exact rm0_195 X0 hx hby hml hret hlk hown hZ hw e0 Z0 N0 hz Eo Fk Fv Vk Vv W nn1 nn2 nn3 nn4 b2
  · skip
    refine g_iload X0 hx 158 (hb hby at_156) rfl rfl ?_
    refine g_istore (l' := #[.val (.int p0), .val (.int p1), .val (.int p2), .val (.int p3), .val (.long p4), .second, .val (.int p5), .val (.int k1), .val (.int k2), .val (.int k3), .val (.double v1), .second, .val (.double v2), .second, .val (.double v3), .second, .val (.int ex), .val (.double ab), .second, .val (.int f2), .val (.int f3), .val (.ref o), .val (.int (p5 &&& (3 : Int32))), .val (.int k1), .unset, .unset]) X0 hx 160 (hb hby at_158) rfl rfl ?_
    refine g_goto X0 hx 195 (hb hby at_160) (by decide) (by decide) ?_
    exact rm0_195 X0 hx hby hml hret hlk hown hZ hw e0 Z0 N0 hz Eo Fk Fv Vk Vv W nn1 nn2 nn3 nn4 b1
theorem own_stn {z : Int32} (hz : z = 16 ∨ z = 32 ∨ z = 64) (k : Int32) : (own_st z k).toNatClampNeg < z.toNatClampNeg := by
  have := own_st_lt hz k
  simp only [Int32.toNatClampNeg]
  omega
theorem own_one {k k' : Int32} {v : UInt64} (h : k ≠ k') : ∀ e ∈ [(k, v)], e.1 ≠ k' := fun e he => by rw [List.mem_singleton.mp he]; exact h
theorem own_two {k k1 k' : Int32} {v v1 : UInt64} (h : k ≠ k') (h1 : k1 ≠ k') : ∀ e ∈ [(k, v), (k1, v1)], e.1 ≠ k' := fun e he => by
  rcases List.mem_cons.mp he with rfl | he
  · exact h
  · rw [List.mem_singleton.mp he]; exact h1
set_option maxRecDepth 65536 in
set_option maxHeartbeats 40000000 in
theorem rm0_97_00 {p : Program} {l : Launch} {e : Env} {s : State} {m : MethodId} {args : Array Value} {below : List Frame} {meth : Method} {c : Code} {T0 Z : State} {a0 : Array Value} {h0 : Heap} {n0 : Nat} {p0 p1 p2 p3 p5 : Int32} {p4 : Int64} {k1 k2 k3 ex : Int32} {v1 v2 v3 ab : UInt64} (X0 : Stand p l e room_1 s m args below meth c T0 [] 0 0) (hx : p.tables.exec = Jvm.exec) (hby : c.code = code) (hml : c.maxLocals = maxLocals) (hret : meth.sig.returnType = ret) (hlk : meth.locks = false) (hown : s.vm.findClass "com/example/folksonomy/folksonomy/weighting/IntDoubleMapGetPinLaw" = some m.cls) (hZ : Z.Warmed39 s.vm) (hw : ∀ d ∈ tables_1, d.before a0 Z = true) (e0 : T0.heap = h0) (Z0 : n0 ≤ h0.size) (N0 : Fr n0 []) (bex : 0 ≤ ex.toInt ∧ ex.toInt ≤ 31) (nn1 : Jvm.Free.Fl.NoNaN64 v1) (nn2 : Jvm.Free.Fl.NoNaN64 v2) (nn3 : Jvm.Free.Fl.NoNaN64 v3) (nn4 : Jvm.Free.Fl.NoNaN64 ab) (b1 : 0 ≤ k1.toInt) (b2 : 0 ≤ k2.toInt) (b3 : 0 ≤ k3.toInt) (dd2 : (0 : Int32) ≠ 0 → k2 ≠ k1) (dd3 : (0 : Int32) ≠ 0 → k3 ≠ k1) (dd4 : (0 : Int32) ≠ 0 → k3 ≠ k2) :
    Go p e below (EndQ s (Q_rm0 n0) 16 384) T0 (mkF m 97 #[.val (.int p0), .val (.int p1), .val (.int p2), .val (.int p3), .val (.long p4), .second, .val (.int p5), .val (.int k1), .val (.int k2), .val (.int k3), .val (.double v1), .second, .val (.double v2), .second, .val (.double v3), .second, .val (.int ex), .val (.double ab), .second, .val (.int (0 : Int32)), .val (.int (0 : Int32)), .unset, .unset, .unset, .unset, .unset] []) := by
  refine g_new X0 hx hZ hown (hw _ (List.mem_of_getElem? (i := 3) rfl)) (hw _ (List.mem_of_getElem? (i := 4) rfl)) (hw _ (List.mem_of_getElem? (i := 5) rfl)) e0 100 (hb hby at_97) rfl (by decide) (by decide) ?_
  intro T204 h204 a204 g204 X204 e204 E204 A204 D204
  have ge205 : n0 ≤ a204 := by rw [g204]; exact Z0
  have Z206 : n0 ≤ h204.size := Nat.le_trans Z0 E204.1
  have F207 : Fld Z h204 a204 "com/example/folksonomy/folksonomy/weighting/IntDoubleMap" "keys" "[I" .null := D204 (Or.inl (hw _ (List.mem_of_getElem? (i := 27) rfl))) (ty := (.array .int)) (by decide)
  have F208 : Fld Z h204 a204 "com/example/folksonomy/folksonomy/weighting/IntDoubleMap" "values" "[D" .null := D204 (Or.inl (hw _ (List.mem_of_getElem? (i := 30) rfl))) (ty := (.array .double)) (by decide)
  have F209 : Fld Z h204 a204 "com/example/folksonomy/folksonomy/weighting/IntDoubleMap" "size" "I" (.int (0 : Int32)) := D204 (Or.inl (hw _ (List.mem_of_getElem? (i := 42) rfl))) (ty := .int) (by decide)
  refine g_dup X204 hx 101 (hb hby at_100) rfl rfl ?_
  refine g_iload X204 hx 103 (hb hby at_101) rfl rfl ?_
  refine g_init X204 hx hZ rfl hown (hw _ (List.mem_of_getElem? (i := 6) rfl)) (hw _ (List.mem_of_getElem? (i := 7) rfl)) (hw _ (List.mem_of_getElem? (i := 5) rfl)) (hw _ (List.mem_of_getElem? (i := 8) rfl)) (by decide) (rmI l Z a0 hw a204 ex h204 n0 Z206 bex A204 ge205 F207 F208 F209) e204 (a := a204) (argsL := [(.int ex)]) (rest := [(.ref a204)]) rfl rfl 1 106 rfl (by rw [hml]; rfl) (lenOf own_pd0 rfl) (Nat.le_refl _) (by decide) (by decide) (by decide) (by decide) (hb hby at_103) ?_
  intro v210 T210 L210 X210 hQ210
  obtain ⟨rfl, N210, K210, ka, va, z, kk, vk, hz, Fk, Fv, Fs, Vk, Vv, gk, gv, n3, sk, sv⟩ := hQ210
  have N211 := Fr.app N0 N210
  have F212 := A204.keep K210
  have Z216 : n0 ≤ T210.heap.size := Nat.le_trans Z206 K210.1
  have n1 : a204 ≠ ka := Nat.ne_of_lt (Nat.lt_of_lt_of_le A204.lt sk)
  have n2 : a204 ≠ va := Nat.ne_of_lt (Nat.lt_of_lt_of_le A204.lt sv)
  have zb := own_zb hz
  have M0 := own_new (st := fun k => (own_st z k).toNatClampNeg) zb.2.2.2 (fun k => own_stn hz k)
  show Go p e below _ T210 (mkF m 106 #[.val (.int p0), .val (.int p1), .val (.int p2), .val (.int p3), .val (.long p4), .second, .val (.int p5), .val (.int k1), .val (.int k2), .val (.int k3), .val (.double v1), .second, .val (.double v2), .second, .val (.double v3), .second, .val (.int ex), .val (.double ab), .second, .val (.int (0 : Int32)), .val (.int (0 : Int32)), .unset, .unset, .unset, .unset, .unset] [(.ref a204)])
  refine g_astore (l' := #[.val (.int p0), .val (.int p1), .val (.int p2), .val (.int p3), .val (.long p4), .second, .val (.int p5), .val (.int k1), .val (.int k2), .val (.int k3), .val (.double v1), .second, .val (.double v2), .second, .val (.double v3), .second, .val (.int ex), .val (.double ab), .second, .val (.int (0 : Int32)), .val (.int (0 : Int32)), .val (.ref a204), .unset, .unset, .unset, .unset]) X210 hx 108 (hb hby at_106) rfl rfl rfl ?_
  refine g_aload X210 hx 110 (hb hby at_108) rfl rfl rfl ?_
  refine g_iload X210 hx 112 (hb hby at_110) rfl rfl ?_
  refine g_dload X210 hx 114 (hb hby at_112) rfl rfl ?_
  obtain ⟨d1, r1, hp1, hr1⟩ := own_find M0 k1
  have M1 := own_put M0 v1 hp1 hr1 (by simp) b1 (by simp)
  refine g_virt X210 hx hZ (C := "com/example/folksonomy/folksonomy/weighting/IntDoubleMap") hown (hw _ (List.mem_of_getElem? (i := 31) rfl)) (hw _ (List.mem_of_getElem? (i := 32) rfl)) (hw _ (List.mem_of_getElem? (i := 34) rfl)) (hw _ (List.mem_of_getElem? (i := 34) rfl)) (hw _ (List.mem_of_getElem? (i := 33) rfl)) (hw _ (List.mem_of_getElem? (i := 5) rfl)) (hw _ (List.mem_of_getElem? (i := 35) rfl)) (by decide) (rmP l Z a0 hw a204 k1 v1 T210.heap n0 Z216 ka va kk vk z (List.replicate z.toNatClampNeg 0) (List.replicate z.toNatClampNeg 0) d1 r1 hz hr1 hp1 Fk Fv Vk Vv (0 : Int32) (by decide) M0.lenK M0.lenV F212 Fs ge205 gk gv n1 n2 n3) rfl (b := a204) F212 (argsL := [(.int k1), (.double v1)]) (rest := []) rfl rfl 0 117 rfl (by rw [hml]; rfl) (lenOf own_pd4 rfl) (Nat.le_refl _) (by decide) (by decide) (by decide) (by decide) (hb hby at_114) ?_
  intro v217 T217 L217 X217 hQ217
  obtain ⟨rfl, N217, K217, Fk1, Fv1, Fs1, Vk1, Vv1⟩ := hQ217
  have N218 := Fr.app N211 N217
  have F219 := F212.keep K217
  have Z225 : n0 ≤ T217.heap.size := Nat.le_trans Z216 K217.1
  show Go p e below _ T217 (mkF m 117 #[.val (.int p0), .val (.int p1), .val (.int p2), .val (.int p3), .val (.long p4), .second, .val (.int p5), .val (.int k1), .val (.int k2), .val (.int k3), .val (.double v1), .second, .val (.double v2), .second, .val (.double v3), .second, .val (.int ex), .val (.double ab), .second, .val (.int (0 : Int32)), .val (.int (0 : Int32)), .val (.ref a204), .unset, .unset, .unset, .unset] [])
  refine g_iload X217 hx 119 (hb hby at_117) rfl rfl ?_
  have ll227 : ((0 : Int32) : Int32).toInt = 0 := by decide
  refine g_if_eq X217 hx 131 122 (hb hby at_119) (by decide) (by decide) rfl (fun c226 => ?_) (fun c226 => ?_)
  · skip
    refine g_iload X217 hx 133 (hb hby at_131) rfl rfl ?_
    have ll229 : ((0 : Int32) : Int32).toInt = 0 := by decide
    refine g_if_eq X217 hx 145 136 (hb hby at_133) (by decide) (by decide) rfl (fun c228 => ?_) (fun c228 => ?_)
    · skip
      have W : ∀ key : Int32, 0 ≤ key.toInt → ∃ d r, Path z.toNatClampNeg ((List.replicate z.toNatClampNeg 0).set r1 (k1 + 1)) (key + 1) d (own_st z key).toNatClampNeg r ∧ r < z.toNatClampNeg ∧ (if (((List.replicate z.toNatClampNeg 0).set r1 (k1 + 1))).getD r 0 = 0 then ab else (((List.replicate z.toNatClampNeg 0).set r1 v1)).getD r 0) = (if key = k1 then v1 else if (0 : Int32) ≠ 0 ∧ key = k2 then v2 else if (0 : Int32) ≠ 0 ∧ key = k3 then v3 else ab) := by
        intro key hk
        obtain ⟨d, r, hp, hr⟩ := own_find M1 key
        refine ⟨d, r, hp, hr, ?_⟩
        by_cases c1 : key = k1
        · subst c1
          have := own_hit M1 hp (v := v1) (by simp)
          rw [if_neg this.1, if_pos rfl]; exact this.2
        rw [if_neg c1]
        rw [if_neg (c := (0 : Int32) ≠ 0 ∧ key = k2) (fun q => q.1 rfl)]
        rw [if_neg (c := (0 : Int32) ≠ 0 ∧ key = k3) (fun q => q.1 rfl)]
        rw [if_pos (own_miss M1 hp (by simp only [List.mem_cons, List.not_mem_nil, or_false]; rintro e (rfl) <;> exact fun q => by simp_all))]
      exact rm0_145 X217 hx hby hml hret hlk hown hZ hw rfl Z225 N218 hz F219 Fk1 Fv1 Vk1 Vv1 W nn1 nn2 nn3 nn4 b1 b2 b3
    · skip
      exfalso; revert c228; decide
  · skip
    exfalso; revert c226; decide
set_option maxRecDepth 65536 in
set_option maxHeartbeats 40000000 in
theorem rm0_97_10 {p : Program} {l : Launch} {e : Env} {s : State} {m : MethodId} {args : Array Value} {below : List Frame} {meth : Method} {c : Code} {T0 Z : State} {a0 : Array Value} {h0 : Heap} {n0 : Nat} {p0 p1 p2 p3 p5 : Int32} {p4 : Int64} {k1 k2 k3 ex : Int32} {v1 v2 v3 ab : UInt64} (X0 : Stand p l e room_1 s m args below meth c T0 [] 0 0) (hx : p.tables.exec = Jvm.exec) (hby : c.code = code) (hml : c.maxLocals = maxLocals) (hret : meth.sig.returnType = ret) (hlk : meth.locks = false) (hown : s.vm.findClass "com/example/folksonomy/folksonomy/weighting/IntDoubleMapGetPinLaw" = some m.cls) (hZ : Z.Warmed39 s.vm) (hw : ∀ d ∈ tables_1, d.before a0 Z = true) (e0 : T0.heap = h0) (Z0 : n0 ≤ h0.size) (N0 : Fr n0 []) (bex : 0 ≤ ex.toInt ∧ ex.toInt ≤ 31) (nn1 : Jvm.Free.Fl.NoNaN64 v1) (nn2 : Jvm.Free.Fl.NoNaN64 v2) (nn3 : Jvm.Free.Fl.NoNaN64 v3) (nn4 : Jvm.Free.Fl.NoNaN64 ab) (b1 : 0 ≤ k1.toInt) (b2 : 0 ≤ k2.toInt) (b3 : 0 ≤ k3.toInt) (dd2 : (1 : Int32) ≠ 0 → k2 ≠ k1) (dd3 : (0 : Int32) ≠ 0 → k3 ≠ k1) (dd4 : (0 : Int32) ≠ 0 → k3 ≠ k2) :
    Go p e below (EndQ s (Q_rm0 n0) 16 384) T0 (mkF m 97 #[.val (.int p0), .val (.int p1), .val (.int p2), .val (.int p3), .val (.long p4), .second, .val (.int p5), .val (.int k1), .val (.int k2), .val (.int k3), .val (.double v1), .second, .val (.double v2), .second, .val (.double v3), .second, .val (.int ex), .val (.double ab), .second, .val (.int (1 : Int32)), .val (.int (0 : Int32)), .unset, .unset, .unset, .unset, .unset] []) := by
  refine g_new X0 hx hZ hown (hw _ (List.mem_of_getElem? (i := 3) rfl)) (hw _ (List.mem_of_getElem? (i := 4) rfl)) (hw _ (List.mem_of_getElem? (i := 5) rfl)) e0 100 (hb hby at_97) rfl (by decide) (by decide) ?_
  intro T230 h230 a230 g230 X230 e230 E230 A230 D230
  have ge231 : n0 ≤ a230 := by rw [g230]; exact Z0
  have Z232 : n0 ≤ h230.size := Nat.le_trans Z0 E230.1
  have F233 : Fld Z h230 a230 "com/example/folksonomy/folksonomy/weighting/IntDoubleMap" "keys" "[I" .null := D230 (Or.inl (hw _ (List.mem_of_getElem? (i := 27) rfl))) (ty := (.array .int)) (by decide)
  have F234 : Fld Z h230 a230 "com/example/folksonomy/folksonomy/weighting/IntDoubleMap" "values" "[D" .null := D230 (Or.inl (hw _ (List.mem_of_getElem? (i := 30) rfl))) (ty := (.array .double)) (by decide)
  have F235 : Fld Z h230 a230 "com/example/folksonomy/folksonomy/weighting/IntDoubleMap" "size" "I" (.int (0 : Int32)) := D230 (Or.inl (hw _ (List.mem_of_getElem? (i := 42) rfl))) (ty := .int) (by decide)
  refine g_dup X230 hx 101 (hb hby at_100) rfl rfl ?_
  refine g_iload X230 hx 103 (hb hby at_101) rfl rfl ?_
  refine g_init X230 hx hZ rfl hown (hw _ (List.mem_of_getElem? (i := 6) rfl)) (hw _ (List.mem_of_getElem? (i := 7) rfl)) (hw _ (List.mem_of_getElem? (i := 5) rfl)) (hw _ (List.mem_of_getElem? (i := 8) rfl)) (by decide) (rmI l Z a0 hw a230 ex h230 n0 Z232 bex A230 ge231 F233 F234 F235) e230 (a := a230) (argsL := [(.int ex)]) (rest := [(.ref a230)]) rfl rfl 1 106 rfl (by rw [hml]; rfl) (lenOf own_pd0 rfl) (Nat.le_refl _) (by decide) (by decide) (by decide) (by decide) (hb hby at_103) ?_
  intro v236 T236 L236 X236 hQ236
  obtain ⟨rfl, N236, K236, ka, va, z, kk, vk, hz, Fk, Fv, Fs, Vk, Vv, gk, gv, n3, sk, sv⟩ := hQ236
  have N237 := Fr.app N0 N236
  have F238 := A230.keep K236
  have Z242 : n0 ≤ T236.heap.size := Nat.le_trans Z232 K236.1
  have n1 : a230 ≠ ka := Nat.ne_of_lt (Nat.lt_of_lt_of_le A230.lt sk)
  have n2 : a230 ≠ va := Nat.ne_of_lt (Nat.lt_of_lt_of_le A230.lt sv)
  have zb := own_zb hz
  have M0 := own_new (st := fun k => (own_st z k).toNatClampNeg) zb.2.2.2 (fun k => own_stn hz k)
  show Go p e below _ T236 (mkF m 106 #[.val (.int p0), .val (.int p1), .val (.int p2), .val (.int p3), .val (.long p4), .second, .val (.int p5), .val (.int k1), .val (.int k2), .val (.int k3), .val (.double v1), .second, .val (.double v2), .second, .val (.double v3), .second, .val (.int ex), .val (.double ab), .second, .val (.int (1 : Int32)), .val (.int (0 : Int32)), .unset, .unset, .unset, .unset, .unset] [(.ref a230)])
  refine g_astore (l' := #[.val (.int p0), .val (.int p1), .val (.int p2), .val (.int p3), .val (.long p4), .second, .val (.int p5), .val (.int k1), .val (.int k2), .val (.int k3), .val (.double v1), .second, .val (.double v2), .second, .val (.double v3), .second, .val (.int ex), .val (.double ab), .second, .val (.int (1 : Int32)), .val (.int (0 : Int32)), .val (.ref a230), .unset, .unset, .unset, .unset]) X236 hx 108 (hb hby at_106) rfl rfl rfl ?_
  refine g_aload X236 hx 110 (hb hby at_108) rfl rfl rfl ?_
  refine g_iload X236 hx 112 (hb hby at_110) rfl rfl ?_
  refine g_dload X236 hx 114 (hb hby at_112) rfl rfl ?_
  obtain ⟨d1, r1, hp1, hr1⟩ := own_find M0 k1
  have M1 := own_put M0 v1 hp1 hr1 (by simp) b1 (by simp)
  refine g_virt X236 hx hZ (C := "com/example/folksonomy/folksonomy/weighting/IntDoubleMap") hown (hw _ (List.mem_of_getElem? (i := 31) rfl)) (hw _ (List.mem_of_getElem? (i := 32) rfl)) (hw _ (List.mem_of_getElem? (i := 34) rfl)) (hw _ (List.mem_of_getElem? (i := 34) rfl)) (hw _ (List.mem_of_getElem? (i := 33) rfl)) (hw _ (List.mem_of_getElem? (i := 5) rfl)) (hw _ (List.mem_of_getElem? (i := 35) rfl)) (by decide) (rmP l Z a0 hw a230 k1 v1 T236.heap n0 Z242 ka va kk vk z (List.replicate z.toNatClampNeg 0) (List.replicate z.toNatClampNeg 0) d1 r1 hz hr1 hp1 Fk Fv Vk Vv (0 : Int32) (by decide) M0.lenK M0.lenV F238 Fs ge231 gk gv n1 n2 n3) rfl (b := a230) F238 (argsL := [(.int k1), (.double v1)]) (rest := []) rfl rfl 0 117 rfl (by rw [hml]; rfl) (lenOf own_pd4 rfl) (Nat.le_refl _) (by decide) (by decide) (by decide) (by decide) (hb hby at_114) ?_
  intro v243 T243 L243 X243 hQ243
  obtain ⟨rfl, N243, K243, Fk1, Fv1, Fs1, Vk1, Vv1⟩ := hQ243
  have N244 := Fr.app N237 N243
  have F245 := F238.keep K243
  have Z251 : n0 ≤ T243.heap.size := Nat.le_trans Z242 K243.1
  show Go p e below _ T243 (mkF m 117 #[.val (.int p0), .val (.int p1), .val (.int p2), .val (.int p3), .val (.long p4), .second, .val (.int p5), .val (.int k1), .val (.int k2), .val (.int k3), .val (.double v1), .second, .val (.double v2), .second, .val (.double v3), .second, .val (.int ex), .val (.double ab), .second, .val (.int (1 : Int32)), .val (.int (0 : Int32)), .val (.ref a230), .unset, .unset, .unset, .unset] [])
  refine g_iload X243 hx 119 (hb hby at_117) rfl rfl ?_
  have ll253 : ((1 : Int32) : Int32).toInt = 1 := by decide
  refine g_if_eq X243 hx 131 122 (hb hby at_119) (by decide) (by decide) rfl (fun c252 => ?_) (fun c252 => ?_)
  · skip
    exfalso; revert c252; decide
  · skip
    refine g_aload X243 hx 124 (hb hby at_122) rfl rfl rfl ?_
    refine g_iload X243 hx 126 (hb hby at_124) rfl rfl ?_
    refine g_dload X243 hx 128 (hb hby at_126) rfl rfl ?_
    obtain ⟨d2, r2, hp2, hr2⟩ := own_find M1 k2
    have M2 := own_put M1 v2 hp2 hr2 (own_one (Ne.symm (dd2 (by decide)))) b2 (by simp)
    refine g_virt X243 hx hZ (C := "com/example/folksonomy/folksonomy/weighting/IntDoubleMap") hown (hw _ (List.mem_of_getElem? (i := 31) rfl)) (hw _ (List.mem_of_getElem? (i := 32) rfl)) (hw _ (List.mem_of_getElem? (i := 34) rfl)) (hw _ (List.mem_of_getElem? (i := 34) rfl)) (hw _ (List.mem_of_getElem? (i := 33) rfl)) (hw _ (List.mem_of_getElem? (i := 5) rfl)) (hw _ (List.mem_of_getElem? (i := 35) rfl)) (by decide) (rmP l Z a0 hw a230 k2 v2 T243.heap n0 Z251 ka va kk vk z ((List.replicate z.toNatClampNeg 0).set r1 (k1 + 1)) ((List.replicate z.toNatClampNeg 0).set r1 v1) d2 r2 hz hr2 hp2 Fk1 Fv1 Vk1 Vv1 ((0 : Int32) + (1 : Int32)) (by decide) M1.lenK M1.lenV F245 Fs1 ge231 gk gv n1 n2 n3) rfl (b := a230) F245 (argsL := [(.int k2), (.double v2)]) (rest := []) rfl rfl 0 131 rfl (by rw [hml]; rfl) (lenOf own_pd4 rfl) (Nat.le_refl _) (by decide) (by decide) (by decide) (by decide) (hb hby at_128) ?_
    intro v254 T254 L254 X254 hQ254
    obtain ⟨rfl, N254, K254, Fk2, Fv2, Fs2, Vk2, Vv2⟩ := hQ254
    have N255 := Fr.app N244 N254
    have F256 := F245.keep K254
    have Z262 : n0 ≤ T254.heap.size := Nat.le_trans Z251 K254.1
    show Go p e below _ T254 (mkF m 131 #[.val (.int p0), .val (.int p1), .val (.int p2), .val (.int p3), .val (.long p4), .second, .val (.int p5), .val (.int k1), .val (.int k2), .val (.int k3), .val (.double v1), .second, .val (.double v2), .second, .val (.double v3), .second, .val (.int ex), .val (.double ab), .second, .val (.int (1 : Int32)), .val (.int (0 : Int32)), .val (.ref a230), .unset, .unset, .unset, .unset] [])
    refine g_iload X254 hx 133 (hb hby at_131) rfl rfl ?_
    have ll264 : ((0 : Int32) : Int32).toInt = 0 := by decide
    refine g_if_eq X254 hx 145 136 (hb hby at_133) (by decide) (by decide) rfl (fun c263 => ?_) (fun c263 => ?_)
    · skip
      have W : ∀ key : Int32, 0 ≤ key.toInt → ∃ d r, Path z.toNatClampNeg (((List.replicate z.toNatClampNeg 0).set r1 (k1 + 1)).set r2 (k2 + 1)) (key + 1) d (own_st z key).toNatClampNeg r ∧ r < z.toNatClampNeg ∧ (if ((((List.replicate z.toNatClampNeg 0).set r1 (k1 + 1)).set r2 (k2 + 1))).getD r 0 = 0 then ab else ((((List.replicate z.toNatClampNeg 0).set r1 v1).set r2 v2)).getD r 0) = (if key = k1 then v1 else if (1 : Int32) ≠ 0 ∧ key = k2 then v2 else if (0 : Int32) ≠ 0 ∧ key = k3 then v3 else ab) := by
        intro key hk
        obtain ⟨d, r, hp, hr⟩ := own_find M2 key
        refine ⟨d, r, hp, hr, ?_⟩
        by_cases c1 : key = k1
        · subst c1
          have := own_hit M2 hp (v := v1) (by simp)
          rw [if_neg this.1, if_pos rfl]; exact this.2
        rw [if_neg c1]
        by_cases c2 : key = k2
        · subst c2
          have := own_hit M2 hp (v := v2) (by simp)
          rw [if_neg this.1, if_pos ⟨by decide, rfl⟩]; exact this.2
        rw [if_neg (c := (1 : Int32) ≠ 0 ∧ key = k2) (fun q => c2 q.2)]
        rw [if_neg (c := (0 : Int32) ≠ 0 ∧ key = k3) (fun q => q.1 rfl)]
        rw [if_pos (own_miss M2 hp (by simp only [List.mem_cons, List.not_mem_nil, or_false]; rintro e (rfl | rfl) <;> exact fun q => by simp_all))]
      exact rm0_145 X254 hx hby hml hret hlk hown hZ hw rfl Z262 N255 hz F256 Fk2 Fv2 Vk2 Vv2 W nn1 nn2 nn3 nn4 b1 b2 b3
    · skip
      exfalso; revert c263; decide
set_option maxRecDepth 65536 in
set_option maxHeartbeats 40000000 in
theorem rm0_97_01 {p : Program} {l : Launch} {e : Env} {s : State} {m : MethodId} {args : Array Value} {below : List Frame} {meth : Method} {c : Code} {T0 Z : State} {a0 : Array Value} {h0 : Heap} {n0 : Nat} {p0 p1 p2 p3 p5 : Int32} {p4 : Int64} {k1 k2 k3 ex : Int32} {v1 v2 v3 ab : UInt64} (X0 : Stand p l e room_1 s m args below meth c T0 [] 0 0) (hx : p.tables.exec = Jvm.exec) (hby : c.code = code) (hml : c.maxLocals = maxLocals) (hret : meth.sig.returnType = ret) (hlk : meth.locks = false) (hown : s.vm.findClass "com/example/folksonomy/folksonomy/weighting/IntDoubleMapGetPinLaw" = some m.cls) (hZ : Z.Warmed39 s.vm) (hw : ∀ d ∈ tables_1, d.before a0 Z = true) (e0 : T0.heap = h0) (Z0 : n0 ≤ h0.size) (N0 : Fr n0 []) (bex : 0 ≤ ex.toInt ∧ ex.toInt ≤ 31) (nn1 : Jvm.Free.Fl.NoNaN64 v1) (nn2 : Jvm.Free.Fl.NoNaN64 v2) (nn3 : Jvm.Free.Fl.NoNaN64 v3) (nn4 : Jvm.Free.Fl.NoNaN64 ab) (b1 : 0 ≤ k1.toInt) (b2 : 0 ≤ k2.toInt) (b3 : 0 ≤ k3.toInt) (dd2 : (0 : Int32) ≠ 0 → k2 ≠ k1) (dd3 : (1 : Int32) ≠ 0 → k3 ≠ k1) (dd4 : (1 : Int32) ≠ 0 → k3 ≠ k2) :
    Go p e below (EndQ s (Q_rm0 n0) 16 384) T0 (mkF m 97 #[.val (.int p0), .val (.int p1), .val (.int p2), .val (.int p3), .val (.long p4), .second, .val (.int p5), .val (.int k1), .val (.int k2), .val (.int k3), .val (.double v1), .second, .val (.double v2), .second, .val (.double v3), .second, .val (.int ex), .val (.double ab), .second, .val (.int (0 : Int32)), .val (.int (1 : Int32)), .unset, .unset, .unset, .unset, .unset] []) := by
  refine g_new X0 hx hZ hown (hw _ (List.mem_of_getElem? (i := 3) rfl)) (hw _ (List.mem_of_getElem? (i := 4) rfl)) (hw _ (List.mem_of_getElem? (i := 5) rfl)) e0 100 (hb hby at_97) rfl (by decide) (by decide) ?_
  intro T265 h265 a265 g265 X265 e265 E265 A265 D265
  have ge266 : n0 ≤ a265 := by rw [g265]; exact Z0
  have Z267 : n0 ≤ h265.size := Nat.le_trans Z0 E265.1
  have F268 : Fld Z h265 a265 "com/example/folksonomy/folksonomy/weighting/IntDoubleMap" "keys" "[I" .null := D265 (Or.inl (hw _ (List.mem_of_getElem? (i := 27) rfl))) (ty := (.array .int)) (by decide)
  have F269 : Fld Z h265 a265 "com/example/folksonomy/folksonomy/weighting/IntDoubleMap" "values" "[D" .null := D265 (Or.inl (hw _ (List.mem_of_getElem? (i := 30) rfl))) (ty := (.array .double)) (by decide)
  have F270 : Fld Z h265 a265 "com/example/folksonomy/folksonomy/weighting/IntDoubleMap" "size" "I" (.int (0 : Int32)) := D265 (Or.inl (hw _ (List.mem_of_getElem? (i := 42) rfl))) (ty := .int) (by decide)
  refine g_dup X265 hx 101 (hb hby at_100) rfl rfl ?_
  refine g_iload X265 hx 103 (hb hby at_101) rfl rfl ?_
  refine g_init X265 hx hZ rfl hown (hw _ (List.mem_of_getElem? (i := 6) rfl)) (hw _ (List.mem_of_getElem? (i := 7) rfl)) (hw _ (List.mem_of_getElem? (i := 5) rfl)) (hw _ (List.mem_of_getElem? (i := 8) rfl)) (by decide) (rmI l Z a0 hw a265 ex h265 n0 Z267 bex A265 ge266 F268 F269 F270) e265 (a := a265) (argsL := [(.int ex)]) (rest := [(.ref a265)]) rfl rfl 1 106 rfl (by rw [hml]; rfl) (lenOf own_pd0 rfl) (Nat.le_refl _) (by decide) (by decide) (by decide) (by decide) (hb hby at_103) ?_
  intro v271 T271 L271 X271 hQ271
  obtain ⟨rfl, N271, K271, ka, va, z, kk, vk, hz, Fk, Fv, Fs, Vk, Vv, gk, gv, n3, sk, sv⟩ := hQ271
  have N272 := Fr.app N0 N271
  have F273 := A265.keep K271
  have Z277 : n0 ≤ T271.heap.size := Nat.le_trans Z267 K271.1
  have n1 : a265 ≠ ka := Nat.ne_of_lt (Nat.lt_of_lt_of_le A265.lt sk)
  have n2 : a265 ≠ va := Nat.ne_of_lt (Nat.lt_of_lt_of_le A265.lt sv)
  have zb := own_zb hz
  have M0 := own_new (st := fun k => (own_st z k).toNatClampNeg) zb.2.2.2 (fun k => own_stn hz k)
  show Go p e below _ T271 (mkF m 106 #[.val (.int p0), .val (.int p1), .val (.int p2), .val (.int p3), .val (.long p4), .second, .val (.int p5), .val (.int k1), .val (.int k2), .val (.int k3), .val (.double v1), .second, .val (.double v2), .second, .val (.double v3), .second, .val (.int ex), .val (.double ab), .second, .val (.int (0 : Int32)), .val (.int (1 : Int32)), .unset, .unset, .unset, .unset, .unset] [(.ref a265)])
  refine g_astore (l' := #[.val (.int p0), .val (.int p1), .val (.int p2), .val (.int p3), .val (.long p4), .second, .val (.int p5), .val (.int k1), .val (.int k2), .val (.int k3), .val (.double v1), .second, .val (.double v2), .second, .val (.double v3), .second, .val (.int ex), .val (.double ab), .second, .val (.int (0 : Int32)), .val (.int (1 : Int32)), .val (.ref a265), .unset, .unset, .unset, .unset]) X271 hx 108 (hb hby at_106) rfl rfl rfl ?_
  refine g_aload X271 hx 110 (hb hby at_108) rfl rfl rfl ?_
  refine g_iload X271 hx 112 (hb hby at_110) rfl rfl ?_
  refine g_dload X271 hx 114 (hb hby at_112) rfl rfl ?_
  obtain ⟨d1, r1, hp1, hr1⟩ := own_find M0 k1
  have M1 := own_put M0 v1 hp1 hr1 (by simp) b1 (by simp)
  refine g_virt X271 hx hZ (C := "com/example/folksonomy/folksonomy/weighting/IntDoubleMap") hown (hw _ (List.mem_of_getElem? (i := 31) rfl)) (hw _ (List.mem_of_getElem? (i := 32) rfl)) (hw _ (List.mem_of_getElem? (i := 34) rfl)) (hw _ (List.mem_of_getElem? (i := 34) rfl)) (hw _ (List.mem_of_getElem? (i := 33) rfl)) (hw _ (List.mem_of_getElem? (i := 5) rfl)) (hw _ (List.mem_of_getElem? (i := 35) rfl)) (by decide) (rmP l Z a0 hw a265 k1 v1 T271.heap n0 Z277 ka va kk vk z (List.replicate z.toNatClampNeg 0) (List.replicate z.toNatClampNeg 0) d1 r1 hz hr1 hp1 Fk Fv Vk Vv (0 : Int32) (by decide) M0.lenK M0.lenV F273 Fs ge266 gk gv n1 n2 n3) rfl (b := a265) F273 (argsL := [(.int k1), (.double v1)]) (rest := []) rfl rfl 0 117 rfl (by rw [hml]; rfl) (lenOf own_pd4 rfl) (Nat.le_refl _) (by decide) (by decide) (by decide) (by decide) (hb hby at_114) ?_
  intro v278 T278 L278 X278 hQ278
  obtain ⟨rfl, N278, K278, Fk1, Fv1, Fs1, Vk1, Vv1⟩ := hQ278
  have N279 := Fr.app N272 N278
  have F280 := F273.keep K278
  have Z286 : n0 ≤ T278.heap.size := Nat.le_trans Z277 K278.1
  show Go p e below _ T278 (mkF m 117 #[.val (.int p0), .val (.int p1), .val (.int p2), .val (.int p3), .val (.long p4), .second, .val (.int p5), .val (.int k1), .val (.int k2), .val (.int k3), .val (.double v1), .second, .val (.double v2), .second, .val (.double v3), .second, .val (.int ex), .val (.double ab), .second, .val (.int (0 : Int32)), .val (.int (1 : Int32)), .val (.ref a265), .unset, .unset, .unset, .unset] [])
  refine g_iload X278 hx 119 (hb hby at_117) rfl rfl ?_
  have ll288 : ((0 : Int32) : Int32).toInt = 0 := by decide
  refine g_if_eq X278 hx 131 122 (hb hby at_119) (by decide) (by decide) rfl (fun c287 => ?_) (fun c287 => ?_)
  · skip
    refine g_iload X278 hx 133 (hb hby at_131) rfl rfl ?_
    have ll290 : ((1 : Int32) : Int32).toInt = 1 := by decide
    refine g_if_eq X278 hx 145 136 (hb hby at_133) (by decide) (by decide) rfl (fun c289 => ?_) (fun c289 => ?_)
    · skip
      exfalso; revert c289; decide
    · skip
      refine g_aload X278 hx 138 (hb hby at_136) rfl rfl rfl ?_
      refine g_iload X278 hx 140 (hb hby at_138) rfl rfl ?_
      refine g_dload X278 hx 142 (hb hby at_140) rfl rfl ?_
      obtain ⟨d3, r3, hp3, hr3⟩ := own_find M1 k3
      have M3 := own_put M1 v3 hp3 hr3 (own_one (Ne.symm (dd3 (by decide)))) b3 (by simp)
      refine g_virt X278 hx hZ (C := "com/example/folksonomy/folksonomy/weighting/IntDoubleMap") hown (hw _ (List.mem_of_getElem? (i := 31) rfl)) (hw _ (List.mem_of_getElem? (i := 32) rfl)) (hw _ (List.mem_of_getElem? (i := 34) rfl)) (hw _ (List.mem_of_getElem? (i := 34) rfl)) (hw _ (List.mem_of_getElem? (i := 33) rfl)) (hw _ (List.mem_of_getElem? (i := 5) rfl)) (hw _ (List.mem_of_getElem? (i := 35) rfl)) (by decide) (rmP l Z a0 hw a265 k3 v3 T278.heap n0 Z286 ka va kk vk z ((List.replicate z.toNatClampNeg 0).set r1 (k1 + 1)) ((List.replicate z.toNatClampNeg 0).set r1 v1) d3 r3 hz hr3 hp3 Fk1 Fv1 Vk1 Vv1 ((0 : Int32) + (1 : Int32)) (by decide) M1.lenK M1.lenV F280 Fs1 ge266 gk gv n1 n2 n3) rfl (b := a265) F280 (argsL := [(.int k3), (.double v3)]) (rest := []) rfl rfl 0 145 rfl (by rw [hml]; rfl) (lenOf own_pd4 rfl) (Nat.le_refl _) (by decide) (by decide) (by decide) (by decide) (hb hby at_142) ?_
      intro v291 T291 L291 X291 hQ291
      obtain ⟨rfl, N291, K291, Fk3, Fv3, Fs3, Vk3, Vv3⟩ := hQ291
      have N292 := Fr.app N279 N291
      have F293 := F280.keep K291
      have Z299 : n0 ≤ T291.heap.size := Nat.le_trans Z286 K291.1
      show Go p e below _ T291 (mkF m 145 #[.val (.int p0), .val (.int p1), .val (.int p2), .val (.int p3), .val (.long p4), .second, .val (.int p5), .val (.int k1), .val (.int k2), .val (.int k3), .val (.double v1), .second, .val (.double v2), .second, .val (.double v3), .second, .val (.int ex), .val (.double ab), .second, .val (.int (0 : Int32)), .val (.int (1 : Int32)), .val (.ref a265), .unset, .unset, .unset, .unset] [])
      have W : ∀ key : Int32, 0 ≤ key.toInt → ∃ d r, Path z.toNatClampNeg (((List.replicate z.toNatClampNeg 0).set r1 (k1 + 1)).set r3 (k3 + 1)) (key + 1) d (own_st z key).toNatClampNeg r ∧ r < z.toNatClampNeg ∧ (if ((((List.replicate z.toNatClampNeg 0).set r1 (k1 + 1)).set r3 (k3 + 1))).getD r 0 = 0 then ab else ((((List.replicate z.toNatClampNeg 0).set r1 v1).set r3 v3)).getD r 0) = (if key = k1 then v1 else if (0 : Int32) ≠ 0 ∧ key = k2 then v2 else if (1 : Int32) ≠ 0 ∧ key = k3 then v3 else ab) := by
        intro key hk
        obtain ⟨d, r, hp, hr⟩ := own_find M3 key
        refine ⟨d, r, hp, hr, ?_⟩
        by_cases c1 : key = k1
        · subst c1
          have := own_hit M3 hp (v := v1) (by simp)
          rw [if_neg this.1, if_pos rfl]; exact this.2
        rw [if_neg c1]
        rw [if_neg (c := (0 : Int32) ≠ 0 ∧ key = k2) (fun q => q.1 rfl)]
        by_cases c3 : key = k3
        · subst c3
          have := own_hit M3 hp (v := v3) (by simp)
          rw [if_neg this.1, if_pos ⟨by decide, rfl⟩]; exact this.2
        rw [if_neg (c := (1 : Int32) ≠ 0 ∧ key = k3) (fun q => c3 q.2)]
        rw [if_pos (own_miss M3 hp (by simp only [List.mem_cons, List.not_mem_nil, or_false]; rintro e (rfl | rfl) <;> exact fun q => by simp_all))]
      exact rm0_145 X291 hx hby hml hret hlk hown hZ hw rfl Z299 N292 hz F293 Fk3 Fv3 Vk3 Vv3 W nn1 nn2 nn3 nn4 b1 b2 b3
  · skip
    exfalso; revert c287; decide
set_option maxRecDepth 65536 in
set_option maxHeartbeats 40000000 in
theorem rm0_97_11 {p : Program} {l : Launch} {e : Env} {s : State} {m : MethodId} {args : Array Value} {below : List Frame} {meth : Method} {c : Code} {T0 Z : State} {a0 : Array Value} {h0 : Heap} {n0 : Nat} {p0 p1 p2 p3 p5 : Int32} {p4 : Int64} {k1 k2 k3 ex : Int32} {v1 v2 v3 ab : UInt64} (X0 : Stand p l e room_1 s m args below meth c T0 [] 0 0) (hx : p.tables.exec = Jvm.exec) (hby : c.code = code) (hml : c.maxLocals = maxLocals) (hret : meth.sig.returnType = ret) (hlk : meth.locks = false) (hown : s.vm.findClass "com/example/folksonomy/folksonomy/weighting/IntDoubleMapGetPinLaw" = some m.cls) (hZ : Z.Warmed39 s.vm) (hw : ∀ d ∈ tables_1, d.before a0 Z = true) (e0 : T0.heap = h0) (Z0 : n0 ≤ h0.size) (N0 : Fr n0 []) (bex : 0 ≤ ex.toInt ∧ ex.toInt ≤ 31) (nn1 : Jvm.Free.Fl.NoNaN64 v1) (nn2 : Jvm.Free.Fl.NoNaN64 v2) (nn3 : Jvm.Free.Fl.NoNaN64 v3) (nn4 : Jvm.Free.Fl.NoNaN64 ab) (b1 : 0 ≤ k1.toInt) (b2 : 0 ≤ k2.toInt) (b3 : 0 ≤ k3.toInt) (dd2 : (1 : Int32) ≠ 0 → k2 ≠ k1) (dd3 : (1 : Int32) ≠ 0 → k3 ≠ k1) (dd4 : (1 : Int32) ≠ 0 → k3 ≠ k2) :
    Go p e below (EndQ s (Q_rm0 n0) 16 384) T0 (mkF m 97 #[.val (.int p0), .val (.int p1), .val (.int p2), .val (.int p3), .val (.long p4), .second, .val (.int p5), .val (.int k1), .val (.int k2), .val (.int k3), .val (.double v1), .second, .val (.double v2), .second, .val (.double v3), .second, .val (.int ex), .val (.double ab), .second, .val (.int (1 : Int32)), .val (.int (1 : Int32)), .unset, .unset, .unset, .unset, .unset] []) := by
  refine g_new X0 hx hZ hown (hw _ (List.mem_of_getElem? (i := 3) rfl)) (hw _ (List.mem_of_getElem? (i := 4) rfl)) (hw _ (List.mem_of_getElem? (i := 5) rfl)) e0 100 (hb hby at_97) rfl (by decide) (by decide) ?_
  intro T300 h300 a300 g300 X300 e300 E300 A300 D300
  have ge301 : n0 ≤ a300 := by rw [g300]; exact Z0
  have Z302 : n0 ≤ h300.size := Nat.le_trans Z0 E300.1
  have F303 : Fld Z h300 a300 "com/example/folksonomy/folksonomy/weighting/IntDoubleMap" "keys" "[I" .null := D300 (Or.inl (hw _ (List.mem_of_getElem? (i := 27) rfl))) (ty := (.array .int)) (by decide)
  have F304 : Fld Z h300 a300 "com/example/folksonomy/folksonomy/weighting/IntDoubleMap" "values" "[D" .null := D300 (Or.inl (hw _ (List.mem_of_getElem? (i := 30) rfl))) (ty := (.array .double)) (by decide)
  have F305 : Fld Z h300 a300 "com/example/folksonomy/folksonomy/weighting/IntDoubleMap" "size" "I" (.int (0 : Int32)) := D300 (Or.inl (hw _ (List.mem_of_getElem? (i := 42) rfl))) (ty := .int) (by decide)
  refine g_dup X300 hx 101 (hb hby at_100) rfl rfl ?_
  refine g_iload X300 hx 103 (hb hby at_101) rfl rfl ?_
  refine g_init X300 hx hZ rfl hown (hw _ (List.mem_of_getElem? (i := 6) rfl)) (hw _ (List.mem_of_getElem? (i := 7) rfl)) (hw _ (List.mem_of_getElem? (i := 5) rfl)) (hw _ (List.mem_of_getElem? (i := 8) rfl)) (by decide) (rmI l Z a0 hw a300 ex h300 n0 Z302 bex A300 ge301 F303 F304 F305) e300 (a := a300) (argsL := [(.int ex)]) (rest := [(.ref a300)]) rfl rfl 1 106 rfl (by rw [hml]; rfl) (lenOf own_pd0 rfl) (Nat.le_refl _) (by decide) (by decide) (by decide) (by decide) (hb hby at_103) ?_
  intro v306 T306 L306 X306 hQ306
  obtain ⟨rfl, N306, K306, ka, va, z, kk, vk, hz, Fk, Fv, Fs, Vk, Vv, gk, gv, n3, sk, sv⟩ := hQ306
  have N307 := Fr.app N0 N306
  have F308 := A300.keep K306
  have Z312 : n0 ≤ T306.heap.size := Nat.le_trans Z302 K306.1
  have n1 : a300 ≠ ka := Nat.ne_of_lt (Nat.lt_of_lt_of_le A300.lt sk)
  have n2 : a300 ≠ va := Nat.ne_of_lt (Nat.lt_of_lt_of_le A300.lt sv)
  have zb := own_zb hz
  have M0 := own_new (st := fun k => (own_st z k).toNatClampNeg) zb.2.2.2 (fun k => own_stn hz k)
  show Go p e below _ T306 (mkF m 106 #[.val (.int p0), .val (.int p1), .val (.int p2), .val (.int p3), .val (.long p4), .second, .val (.int p5), .val (.int k1), .val (.int k2), .val (.int k3), .val (.double v1), .second, .val (.double v2), .second, .val (.double v3), .second, .val (.int ex), .val (.double ab), .second, .val (.int (1 : Int32)), .val (.int (1 : Int32)), .unset, .unset, .unset, .unset, .unset] [(.ref a300)])
  refine g_astore (l' := #[.val (.int p0), .val (.int p1), .val (.int p2), .val (.int p3), .val (.long p4), .second, .val (.int p5), .val (.int k1), .val (.int k2), .val (.int k3), .val (.double v1), .second, .val (.double v2), .second, .val (.double v3), .second, .val (.int ex), .val (.double ab), .second, .val (.int (1 : Int32)), .val (.int (1 : Int32)), .val (.ref a300), .unset, .unset, .unset, .unset]) X306 hx 108 (hb hby at_106) rfl rfl rfl ?_
  refine g_aload X306 hx 110 (hb hby at_108) rfl rfl rfl ?_
  refine g_iload X306 hx 112 (hb hby at_110) rfl rfl ?_
  refine g_dload X306 hx 114 (hb hby at_112) rfl rfl ?_
  obtain ⟨d1, r1, hp1, hr1⟩ := own_find M0 k1
  have M1 := own_put M0 v1 hp1 hr1 (by simp) b1 (by simp)
  refine g_virt X306 hx hZ (C := "com/example/folksonomy/folksonomy/weighting/IntDoubleMap") hown (hw _ (List.mem_of_getElem? (i := 31) rfl)) (hw _ (List.mem_of_getElem? (i := 32) rfl)) (hw _ (List.mem_of_getElem? (i := 34) rfl)) (hw _ (List.mem_of_getElem? (i := 34) rfl)) (hw _ (List.mem_of_getElem? (i := 33) rfl)) (hw _ (List.mem_of_getElem? (i := 5) rfl)) (hw _ (List.mem_of_getElem? (i := 35) rfl)) (by decide) (rmP l Z a0 hw a300 k1 v1 T306.heap n0 Z312 ka va kk vk z (List.replicate z.toNatClampNeg 0) (List.replicate z.toNatClampNeg 0) d1 r1 hz hr1 hp1 Fk Fv Vk Vv (0 : Int32) (by decide) M0.lenK M0.lenV F308 Fs ge301 gk gv n1 n2 n3) rfl (b := a300) F308 (argsL := [(.int k1), (.double v1)]) (rest := []) rfl rfl 0 117 rfl (by rw [hml]; rfl) (lenOf own_pd4 rfl) (Nat.le_refl _) (by decide) (by decide) (by decide) (by decide) (hb hby at_114) ?_
  intro v313 T313 L313 X313 hQ313
  obtain ⟨rfl, N313, K313, Fk1, Fv1, Fs1, Vk1, Vv1⟩ := hQ313
  have N314 := Fr.app N307 N313
  have F315 := F308.keep K313
  have Z321 : n0 ≤ T313.heap.size := Nat.le_trans Z312 K313.1
  show Go p e below _ T313 (mkF m 117 #[.val (.int p0), .val (.int p1), .val (.int p2), .val (.int p3), .val (.long p4), .second, .val (.int p5), .val (.int k1), .val (.int k2), .val (.int k3), .val (.double v1), .second, .val (.double v2), .second, .val (.double v3), .second, .val (.int ex), .val (.double ab), .second, .val (.int (1 : Int32)), .val (.int (1 : Int32)), .val (.ref a300), .unset, .unset, .unset, .unset] [])
  refine g_iload X313 hx 119 (hb hby at_117) rfl rfl ?_
  have ll323 : ((1 : Int32) : Int32).toInt = 1 := by decide
  refine g_if_eq X313 hx 131 122 (hb hby at_119) (by decide) (by decide) rfl (fun c322 => ?_) (fun c322 => ?_)
  · skip
    exfalso; revert c322; decide
  · skip
    refine g_aload X313 hx 124 (hb hby at_122) rfl rfl rfl ?_
    refine g_iload X313 hx 126 (hb hby at_124) rfl rfl ?_
    refine g_dload X313 hx 128 (hb hby at_126) rfl rfl ?_
    obtain ⟨d2, r2, hp2, hr2⟩ := own_find M1 k2
    have M2 := own_put M1 v2 hp2 hr2 (own_one (Ne.symm (dd2 (by decide)))) b2 (by simp)
    refine g_virt X313 hx hZ (C := "com/example/folksonomy/folksonomy/weighting/IntDoubleMap") hown (hw _ (List.mem_of_getElem? (i := 31) rfl)) (hw _ (List.mem_of_getElem? (i := 32) rfl)) (hw _ (List.mem_of_getElem? (i := 34) rfl)) (hw _ (List.mem_of_getElem? (i := 34) rfl)) (hw _ (List.mem_of_getElem? (i := 33) rfl)) (hw _ (List.mem_of_getElem? (i := 5) rfl)) (hw _ (List.mem_of_getElem? (i := 35) rfl)) (by decide) (rmP l Z a0 hw a300 k2 v2 T313.heap n0 Z321 ka va kk vk z ((List.replicate z.toNatClampNeg 0).set r1 (k1 + 1)) ((List.replicate z.toNatClampNeg 0).set r1 v1) d2 r2 hz hr2 hp2 Fk1 Fv1 Vk1 Vv1 ((0 : Int32) + (1 : Int32)) (by decide) M1.lenK M1.lenV F315 Fs1 ge301 gk gv n1 n2 n3) rfl (b := a300) F315 (argsL := [(.int k2), (.double v2)]) (rest := []) rfl rfl 0 131 rfl (by rw [hml]; rfl) (lenOf own_pd4 rfl) (Nat.le_refl _) (by decide) (by decide) (by decide) (by decide) (hb hby at_128) ?_
    intro v324 T324 L324 X324 hQ324
    obtain ⟨rfl, N324, K324, Fk2, Fv2, Fs2, Vk2, Vv2⟩ := hQ324
    have N325 := Fr.app N314 N324
    have F326 := F315.keep K324
    have Z332 : n0 ≤ T324.heap.size := Nat.le_trans Z321 K324.1
    show Go p e below _ T324 (mkF m 131 #[.val (.int p0), .val (.int p1), .val (.int p2), .val (.int p3), .val (.long p4), .second, .val (.int p5), .val (.int k1), .val (.int k2), .val (.int k3), .val (.double v1), .second, .val (.double v2), .second, .val (.double v3), .second, .val (.int ex), .val (.double ab), .second, .val (.int (1 : Int32)), .val (.int (1 : Int32)), .val (.ref a300), .unset, .unset, .unset, .unset] [])
    refine g_iload X324 hx 133 (hb hby at_131) rfl rfl ?_
    have ll334 : ((1 : Int32) : Int32).toInt = 1 := by decide
    refine g_if_eq X324 hx 145 136 (hb hby at_133) (by decide) (by decide) rfl (fun c333 => ?_) (fun c333 => ?_)
    · skip
      exfalso; revert c333; decide
    · skip
      refine g_aload X324 hx 138 (hb hby at_136) rfl rfl rfl ?_
      refine g_iload X324 hx 140 (hb hby at_138) rfl rfl ?_
      refine g_dload X324 hx 142 (hb hby at_140) rfl rfl ?_
      obtain ⟨d3, r3, hp3, hr3⟩ := own_find M2 k3
      have M3 := own_put M2 v3 hp3 hr3 (own_two (Ne.symm (dd4 (by decide))) (Ne.symm (dd3 (by decide)))) b3 (by simp)
      refine g_virt X324 hx hZ (C := "com/example/folksonomy/folksonomy/weighting/IntDoubleMap") hown (hw _ (List.mem_of_getElem? (i := 31) rfl)) (hw _ (List.mem_of_getElem? (i := 32) rfl)) (hw _ (List.mem_of_getElem? (i := 34) rfl)) (hw _ (List.mem_of_getElem? (i := 34) rfl)) (hw _ (List.mem_of_getElem? (i := 33) rfl)) (hw _ (List.mem_of_getElem? (i := 5) rfl)) (hw _ (List.mem_of_getElem? (i := 35) rfl)) (by decide) (rmP l Z a0 hw a300 k3 v3 T324.heap n0 Z332 ka va kk vk z (((List.replicate z.toNatClampNeg 0).set r1 (k1 + 1)).set r2 (k2 + 1)) (((List.replicate z.toNatClampNeg 0).set r1 v1).set r2 v2) d3 r3 hz hr3 hp3 Fk2 Fv2 Vk2 Vv2 (((0 : Int32) + (1 : Int32)) + (1 : Int32)) (by decide) M2.lenK M2.lenV F326 Fs2 ge301 gk gv n1 n2 n3) rfl (b := a300) F326 (argsL := [(.int k3), (.double v3)]) (rest := []) rfl rfl 0 145 rfl (by rw [hml]; rfl) (lenOf own_pd4 rfl) (Nat.le_refl _) (by decide) (by decide) (by decide) (by decide) (hb hby at_142) ?_
      intro v335 T335 L335 X335 hQ335
      obtain ⟨rfl, N335, K335, Fk3, Fv3, Fs3, Vk3, Vv3⟩ := hQ335
      have N336 := Fr.app N325 N335
      have F337 := F326.keep K335
      have Z343 : n0 ≤ T335.heap.size := Nat.le_trans Z332 K335.1
      show Go p e below _ T335 (mkF m 145 #[.val (.int p0), .val (.int p1), .val (.int p2), .val (.int p3), .val (.long p4), .second, .val (.int p5), .val (.int k1), .val (.int k2), .val (.int k3), .val (.double v1), .second, .val (.double v2), .second, .val (.double v3), .second, .val (.int ex), .val (.double ab), .second, .val (.int (1 : Int32)), .val (.int (1 : Int32)), .val (.ref a300), .unset, .unset, .unset, .unset] [])
      have W : ∀ key : Int32, 0 ≤ key.toInt → ∃ d r, Path z.toNatClampNeg ((((List.replicate z.toNatClampNeg 0).set r1 (k1 + 1)).set r2 (k2 + 1)).set r3 (k3 + 1)) (key + 1) d (own_st z key).toNatClampNeg r ∧ r < z.toNatClampNeg ∧ (if (((((List.replicate z.toNatClampNeg 0).set r1 (k1 + 1)).set r2 (k2 + 1)).set r3 (k3 + 1))).getD r 0 = 0 then ab else (((((List.replicate z.toNatClampNeg 0).set r1 v1).set r2 v2).set r3 v3)).getD r 0) = (if key = k1 then v1 else if (1 : Int32) ≠ 0 ∧ key = k2 then v2 else if (1 : Int32) ≠ 0 ∧ key = k3 then v3 else ab) := by
        intro key hk
        obtain ⟨d, r, hp, hr⟩ := own_find M3 key
        refine ⟨d, r, hp, hr, ?_⟩
        by_cases c1 : key = k1
        · subst c1
          have := own_hit M3 hp (v := v1) (by simp)
          rw [if_neg this.1, if_pos rfl]; exact this.2
        rw [if_neg c1]
        by_cases c2 : key = k2
        · subst c2
          have := own_hit M3 hp (v := v2) (by simp)
          rw [if_neg this.1, if_pos ⟨by decide, rfl⟩]; exact this.2
        rw [if_neg (c := (1 : Int32) ≠ 0 ∧ key = k2) (fun q => c2 q.2)]
        by_cases c3 : key = k3
        · subst c3
          have := own_hit M3 hp (v := v3) (by simp)
          rw [if_neg this.1, if_pos ⟨by decide, rfl⟩]; exact this.2
        rw [if_neg (c := (1 : Int32) ≠ 0 ∧ key = k3) (fun q => c3 q.2)]
        rw [if_pos (own_miss M3 hp (by simp only [List.mem_cons, List.not_mem_nil, or_false]; rintro e (rfl | rfl | rfl) <;> exact fun q => by simp_all))]
      exact rm0_145 X335 hx hby hml hret hlk hown hZ hw rfl Z343 N336 hz F337 Fk3 Fv3 Vk3 Vv3 W nn1 nn2 nn3 nn4 b1 b2 b3
theorem own_half : DFix 1 1 (4602678819172646912 : UInt64) := by
  show Jvm.FP.Core.Whole 1 (shd 1 (Jvm.FP.Core.val64 4602678819172646912))
  rw [show Jvm.FP.Core.val64 (4602678819172646912 : UInt64) = .fin false (2 ^ 52) (-53) by decide +kernel]
  show Jvm.FP.Core.signed false (2 ^ 52 * 2 ^ ((-53 : Int) + 1).toNat) = 1 * ((2 ^ (-((-53 : Int) + 1)).toNat : Nat) : Int)
  decide +kernel
theorem own_quart : DFix 1 2 (4598175219545276416 : UInt64) := by
  show Jvm.FP.Core.Whole 1 (shd 2 (Jvm.FP.Core.val64 4598175219545276416))
  rw [show Jvm.FP.Core.val64 (4598175219545276416 : UInt64) = .fin false (2 ^ 52) (-54) by decide +kernel]
  show Jvm.FP.Core.signed false (2 ^ 52 * 2 ^ ((-54 : Int) + 2).toNat) = 1 * ((2 ^ (-((-54 : Int) + 2)).toNat : Nat) : Int)
  decide +kernel
theorem own_ex (p : Int32) {ex : Int32} (h : ((p.toUInt32 >>> ((2 : Int32) &&& 31).toUInt32).toInt32) &&& (31 : Int32) = ex) : 0 ≤ ex.toInt ∧ ex.toInt ≤ 31 := by
  have := c_mask ((p.toUInt32 >>> ((2 : Int32) &&& 31).toUInt32).toInt32) 31 5 (by decide) (by decide)
  have e : ((2 ^ 5 : Nat) : Int) = 32 := rfl
  rw [h, e] at this
  omega
theorem own_v3 (x : Int32) : Jvm.Free.Fl.NoNaN64 (FP.dadd (FP.i2d x) 4602678819172646912) := own_fixnn (own_fixadd (own_fixint (Jvm.FP.Core.i2d_int x) 1) own_half (by have := rng32 x; have e : ((2 ^ 1 : Nat) : Int) = 2 := rfl; omega) (by decide))
theorem own_v4 (x : Int32) : Jvm.Free.Fl.NoNaN64 (FP.dadd (FP.i2d x) 4598175219545276416) := own_fixnn (own_fixadd (own_fixint (Jvm.FP.Core.i2d_int x) 2) own_quart (by have := rng32 x; have e : ((2 ^ 2 : Nat) : Int) = 4 := rfl; omega) (by decide))
theorem own_pfx : plainFor x = true := plainFor_of_name (show plainName "com/example/folksonomy/folksonomy/weighting/IntDoubleMapGetPinLaw" = true by first | (simp [plainName, overriddenIn]; done) | decide +kernel)
theorem ef_rm0 (p0 : Int32) (p1 : Int32) (p2 : Int32) (p3 : Int32) (p4 : Int64) (p5 : Int32) (m : MethodId) : entryFrame m #[(.int p0), (.int p1), (.int p2), (.int p3), (.long p4), (.int p5)] maxLocals = mkF m 0 #[.val (.int p0), .val (.int p1), .val (.int p2), .val (.int p3), .val (.long p4), .second, .val (.int p5), .unset, .unset, .unset, .unset, .unset, .unset, .unset, .unset, .unset, .unset, .unset, .unset, .unset, .unset, .unset, .unset, .unset, .unset, .unset] [] := by first | (simp [entryFrame, mkF, argsToLocals, Value.category, maxLocals]; done) | rfl
set_option maxRecDepth 65536 in
set_option maxHeartbeats 40000000 in
theorem rm0 (l : Launch) (Z : State) (a0 : Array Value) (hw : ∀ d ∈ tables_1, d.before a0 Z = true) (ws : List Jvm.Cond) (p0 : Int32) (p1 : Int32) (p2 : Int32) (p3 : Int32) (p4 : Int64) (p5 : Int32) (h0 : Heap) (n0 : Nat) (Z0 : n0 ≤ h0.size)  :
    MetFree l x (head1 (Jvm.Cond.code x code maxLocals ret :: ws) room_1) (fun as_ U => as_ = #[(.int p0), (.int p1), (.int p2), (.int p3), (.long p4), (.int p5)] ∧ Z.Warmed39 U.vm ∧ U.heap = h0) (fun _ _ _ _ _ => True) (fun _ U o U' => ∃ v L, o = .returned v ∧ Q_rm0 n0 v U'.heap L ∧ FrameEnd U o U' L 16 384) := by
  refine own_met own_pfx (ef_rm0 p0 p1 p2 p3 p4 p5) ?_
  intro p e s m below meth c T0 X0 hx hby hml hret hlk hnm hown hZ e0
  have N0 := Fr.nil n0
  refine g_iloadN X0 hx 1 (hb hby at_0) rfl rfl ?_
  refine g_ldcI X0 hx 3 hZ hown (hw _ (List.mem_of_getElem? (i := 0) rfl)) (hb hby at_1) rfl ?_
  refine g_iand X0 hx 4 (hb hby at_3) rfl ?_
  refine g_istore (l' := #[.val (.int p0), .val (.int p1), .val (.int p2), .val (.int p3), .val (.long p4), .second, .val (.int p5), .val (.int (p0 &&& (2147483647 : Int32))), .unset, .unset, .unset, .unset, .unset, .unset, .unset, .unset, .unset, .unset, .unset, .unset, .unset, .unset, .unset, .unset, .unset, .unset]) X0 hx 6 (hb hby at_4) rfl rfl ?_
  refine g_iloadN X0 hx 7 (hb hby at_6) rfl rfl ?_
  refine g_ldcI X0 hx 9 hZ hown (hw _ (List.mem_of_getElem? (i := 0) rfl)) (hb hby at_7) rfl ?_
  refine g_iand X0 hx 10 (hb hby at_9) rfl ?_
  refine g_istore (l' := #[.val (.int p0), .val (.int p1), .val (.int p2), .val (.int p3), .val (.long p4), .second, .val (.int p5), .val (.int (p0 &&& (2147483647 : Int32))), .val (.int (p1 &&& (2147483647 : Int32))), .unset, .unset, .unset, .unset, .unset, .unset, .unset, .unset, .unset, .unset, .unset, .unset, .unset, .unset, .unset, .unset, .unset]) X0 hx 12 (hb hby at_10) rfl rfl ?_
  refine g_iloadN X0 hx 13 (hb hby at_12) rfl rfl ?_
  refine g_ldcI X0 hx 15 hZ hown (hw _ (List.mem_of_getElem? (i := 0) rfl)) (hb hby at_13) rfl ?_
  refine g_iand X0 hx 16 (hb hby at_15) rfl ?_
  refine g_istore (l' := #[.val (.int p0), .val (.int p1), .val (.int p2), .val (.int p3), .val (.long p4), .second, .val (.int p5), .val (.int (p0 &&& (2147483647 : Int32))), .val (.int (p1 &&& (2147483647 : Int32))), .val (.int (p2 &&& (2147483647 : Int32))), .unset, .unset, .unset, .unset, .unset, .unset, .unset, .unset, .unset, .unset, .unset, .unset, .unset, .unset, .unset, .unset]) X0 hx 18 (hb hby at_16) rfl rfl ?_
  generalize hk1 : (p0 &&& (2147483647 : Int32)) = k1
  have b1 := (own_kp p0).1
  rw [hk1] at b1
  generalize hk2 : (p1 &&& (2147483647 : Int32)) = k2
  have b2 := (own_kp p1).1
  rw [hk2] at b2
  generalize hk3 : (p2 &&& (2147483647 : Int32)) = k3
  have b3 := (own_kp p2).1
  rw [hk3] at b3
  refine g_lload X0 hx 20 (hb hby at_18) rfl rfl ?_
  refine g_l2i X0 hx 21 (hb hby at_20) rfl ?_
  refine g_i2d X0 hx 22 (hb hby at_21) rfl ?_
  refine g_dstore (l' := #[.val (.int p0), .val (.int p1), .val (.int p2), .val (.int p3), .val (.long p4), .second, .val (.int p5), .val (.int k1), .val (.int k2), .val (.int k3), .val (.double (FP.i2d (p4.toInt32))), .second, .unset, .unset, .unset, .unset, .unset, .unset, .unset, .unset, .unset, .unset, .unset, .unset, .unset, .unset]) X0 hx 24 (hb hby at_22) rfl rfl ?_
  refine g_lload X0 hx 26 (hb hby at_24) rfl rfl ?_
  refine g_bipush X0 hx (32 : Int32) 28 (hb hby at_26) rfl (by decide) ?_
  refine g_lushr X0 hx 29 (hb hby at_28) rfl ?_
  refine g_l2i X0 hx 30 (hb hby at_29) rfl ?_
  refine g_i2d X0 hx 31 (hb hby at_30) rfl ?_
  refine g_dstore (l' := #[.val (.int p0), .val (.int p1), .val (.int p2), .val (.int p3), .val (.long p4), .second, .val (.int p5), .val (.int k1), .val (.int k2), .val (.int k3), .val (.double (FP.i2d (p4.toInt32))), .second, .val (.double (FP.i2d (((p4.toUInt64 >>> ((32 : Int32) &&& 0x3f).toInt64.toUInt64).toInt64).toInt32))), .second, .unset, .unset, .unset, .unset, .unset, .unset, .unset, .unset, .unset, .unset, .unset, .unset]) X0 hx 33 (hb hby at_31) rfl rfl ?_
  refine g_dload X0 hx 35 (hb hby at_33) rfl rfl ?_
  refine g_ldc2D X0 hx 38 hZ hown (hw _ (List.mem_of_getElem? (i := 1) rfl)) (hb hby at_35) rfl ?_
  refine g_dadd X0 hx 39 (hb hby at_38) rfl (own_v3 _) ?_
  refine g_dstore (l' := #[.val (.int p0), .val (.int p1), .val (.int p2), .val (.int p3), .val (.long p4), .second, .val (.int p5), .val (.int k1), .val (.int k2), .val (.int k3), .val (.double (FP.i2d (p4.toInt32))), .second, .val (.double (FP.i2d (((p4.toUInt64 >>> ((32 : Int32) &&& 0x3f).toInt64.toUInt64).toInt64).toInt32))), .second, .val (.double (FP.dadd (FP.i2d (p4.toInt32)) (4602678819172646912 : UInt64))), .second, .unset, .unset, .unset, .unset, .unset, .unset, .unset, .unset, .unset, .unset]) X0 hx 41 (hb hby at_39) rfl rfl ?_
  refine g_iload X0 hx 43 (hb hby at_41) rfl rfl ?_
  refine g_iconst X0 hx (2 : Int32) 44 (hb hby at_43) rfl (by decide) ?_
  refine g_iushr X0 hx 45 (hb hby at_44) rfl ?_
  refine g_bipush X0 hx (31 : Int32) 47 (hb hby at_45) rfl (by decide) ?_
  refine g_iand X0 hx 48 (hb hby at_47) rfl ?_
  refine g_istore (l' := #[.val (.int p0), .val (.int p1), .val (.int p2), .val (.int p3), .val (.long p4), .second, .val (.int p5), .val (.int k1), .val (.int k2), .val (.int k3), .val (.double (FP.i2d (p4.toInt32))), .second, .val (.double (FP.i2d (((p4.toUInt64 >>> ((32 : Int32) &&& 0x3f).toInt64.toUInt64).toInt64).toInt32))), .second, .val (.double (FP.dadd (FP.i2d (p4.toInt32)) (4602678819172646912 : UInt64))), .second, .val (.int (((p5.toUInt32 >>> ((2 : Int32) &&& 31).toUInt32).toInt32) &&& (31 : Int32))), .unset, .unset, .unset, .unset, .unset, .unset, .unset, .unset, .unset]) X0 hx 50 (hb hby at_48) rfl rfl ?_
  refine g_iload X0 hx 52 (hb hby at_50) rfl rfl ?_
  refine g_bipush X0 hx (7 : Int32) 54 (hb hby at_52) rfl (by decide) ?_
  refine g_ishr X0 hx 55 (hb hby at_54) rfl ?_
  refine g_i2d X0 hx 56 (hb hby at_55) rfl ?_
  refine g_ldc2D X0 hx 59 hZ hown (hw _ (List.mem_of_getElem? (i := 2) rfl)) (hb hby at_56) rfl ?_
  refine g_dadd X0 hx 60 (hb hby at_59) rfl (own_v4 _) ?_
  refine g_dstore (l' := #[.val (.int p0), .val (.int p1), .val (.int p2), .val (.int p3), .val (.long p4), .second, .val (.int p5), .val (.int k1), .val (.int k2), .val (.int k3), .val (.double (FP.i2d (p4.toInt32))), .second, .val (.double (FP.i2d (((p4.toUInt64 >>> ((32 : Int32) &&& 0x3f).toInt64.toUInt64).toInt64).toInt32))), .second, .val (.double (FP.dadd (FP.i2d (p4.toInt32)) (4602678819172646912 : UInt64))), .second, .val (.int (((p5.toUInt32 >>> ((2 : Int32) &&& 31).toUInt32).toInt32) &&& (31 : Int32))), .val (.double (FP.dadd (FP.i2d (p5 >>> ((7 : Int32) &&& 31))) (4598175219545276416 : UInt64))), .second, .unset, .unset, .unset, .unset, .unset, .unset, .unset]) X0 hx 62 (hb hby at_60) rfl rfl ?_
  have nn1 := own_dnn (Jvm.FP.Core.i2d_int (p4.toInt32))
  have nn2 := own_dnn (Jvm.FP.Core.i2d_int (((p4.toUInt64 >>> ((32 : Int32) &&& 0x3f).toInt64.toUInt64).toInt64).toInt32))
  have nn3 := own_v3 (p4.toInt32)
  have nn4 := own_v4 (p5 >>> ((7 : Int32) &&& 31))
  generalize hex : (((p5.toUInt32 >>> ((2 : Int32) &&& 31).toUInt32).toInt32) &&& (31 : Int32)) = ex
  have bex := own_ex p5 hex
  refine g_iload X0 hx 64 (hb hby at_62) rfl rfl ?_
  refine g_iload X0 hx 66 (hb hby at_64) rfl rfl ?_
  refine g_ic_eq X0 hx 73 69 (hb hby at_66) (by decide) (by decide) rfl (fun c344 => ?_) (fun c344 => ?_)
  · skip
    refine g_iconst X0 hx (0 : Int32) 74 (hb hby at_73) rfl (by decide) ?_
    refine g_istore (l' := #[.val (.int p0), .val (.int p1), .val (.int p2), .val (.int p3), .val (.long p4), .second, .val (.int p5), .val (.int k1), .val (.int k2), .val (.int k3), .val (.double (FP.i2d (p4.toInt32))), .second, .val (.double (FP.i2d (((p4.toUInt64 >>> ((32 : Int32) &&& 0x3f).toInt64.toUInt64).toInt64).toInt32))), .second, .val (.double (FP.dadd (FP.i2d (p4.toInt32)) (4602678819172646912 : UInt64))), .second, .val (.int ex), .val (.double (FP.dadd (FP.i2d (p5 >>> ((7 : Int32) &&& 31))) (4598175219545276416 : UInt64))), .second, .val (.int (0 : Int32)), .unset, .unset, .unset, .unset, .unset, .unset]) X0 hx 76 (hb hby at_74) rfl rfl ?_
    refine g_iload X0 hx 78 (hb hby at_76) rfl rfl ?_
    refine g_iload X0 hx 80 (hb hby at_78) rfl rfl ?_
    refine g_ic_eq X0 hx 94 83 (hb hby at_80) (by decide) (by decide) rfl (fun c345 => ?_) (fun c345 => ?_)
    · skip
      refine g_iconst X0 hx (0 : Int32) 95 (hb hby at_94) rfl (by decide) ?_
      refine g_istore (l' := #[.val (.int p0), .val (.int p1), .val (.int p2), .val (.int p3), .val (.long p4), .second, .val (.int p5), .val (.int k1), .val (.int k2), .val (.int k3), .val (.double (FP.i2d (p4.toInt32))), .second, .val (.double (FP.i2d (((p4.toUInt64 >>> ((32 : Int32) &&& 0x3f).toInt64.toUInt64).toInt64).toInt32))), .second, .val (.double (FP.dadd (FP.i2d (p4.toInt32)) (4602678819172646912 : UInt64))), .second, .val (.int ex), .val (.double (FP.dadd (FP.i2d (p5 >>> ((7 : Int32) &&& 31))) (4598175219545276416 : UInt64))), .second, .val (.int (0 : Int32)), .val (.int (0 : Int32)), .unset, .unset, .unset, .unset, .unset]) X0 hx 97 (hb hby at_95) rfl rfl ?_
      exact rm0_97_00 X0 hx hby hml hret hlk hown hZ hw e0 Z0 N0 bex nn1 nn2 nn3 nn4 b1 b2 b3 (fun q => absurd rfl q) (fun q => absurd rfl q) (fun q => absurd rfl q)
    · skip
      refine g_iload X0 hx 85 (hb hby at_83) rfl rfl ?_
      refine g_iload X0 hx 87 (hb hby at_85) rfl rfl ?_
      refine g_ic_eq X0 hx 94 90 (hb hby at_87) (by decide) (by decide) rfl (fun c346 => ?_) (fun c346 => ?_)
      · skip
        refine g_iconst X0 hx (0 : Int32) 95 (hb hby at_94) rfl (by decide) ?_
        refine g_istore (l' := #[.val (.int p0), .val (.int p1), .val (.int p2), .val (.int p3), .val (.long p4), .second, .val (.int p5), .val (.int k1), .val (.int k2), .val (.int k3), .val (.double (FP.i2d (p4.toInt32))), .second, .val (.double (FP.i2d (((p4.toUInt64 >>> ((32 : Int32) &&& 0x3f).toInt64.toUInt64).toInt64).toInt32))), .second, .val (.double (FP.dadd (FP.i2d (p4.toInt32)) (4602678819172646912 : UInt64))), .second, .val (.int ex), .val (.double (FP.dadd (FP.i2d (p5 >>> ((7 : Int32) &&& 31))) (4598175219545276416 : UInt64))), .second, .val (.int (0 : Int32)), .val (.int (0 : Int32)), .unset, .unset, .unset, .unset, .unset]) X0 hx 97 (hb hby at_95) rfl rfl ?_
        exact rm0_97_00 X0 hx hby hml hret hlk hown hZ hw e0 Z0 N0 bex nn1 nn2 nn3 nn4 b1 b2 b3 (fun q => absurd rfl q) (fun q => absurd rfl q) (fun q => absurd rfl q)
      · skip
        refine g_iconst X0 hx (1 : Int32) 91 (hb hby at_90) rfl (by decide) ?_
        refine g_goto X0 hx 95 (hb hby at_91) (by decide) (by decide) ?_
        refine g_istore (l' := #[.val (.int p0), .val (.int p1), .val (.int p2), .val (.int p3), .val (.long p4), .second, .val (.int p5), .val (.int k1), .val (.int k2), .val (.int k3), .val (.double (FP.i2d (p4.toInt32))), .second, .val (.double (FP.i2d (((p4.toUInt64 >>> ((32 : Int32) &&& 0x3f).toInt64.toUInt64).toInt64).toInt32))), .second, .val (.double (FP.dadd (FP.i2d (p4.toInt32)) (4602678819172646912 : UInt64))), .second, .val (.int ex), .val (.double (FP.dadd (FP.i2d (p5 >>> ((7 : Int32) &&& 31))) (4598175219545276416 : UInt64))), .second, .val (.int (0 : Int32)), .val (.int (1 : Int32)), .unset, .unset, .unset, .unset, .unset]) X0 hx 97 (hb hby at_95) rfl rfl ?_
        exact rm0_97_01 X0 hx hby hml hret hlk hown hZ hw e0 Z0 N0 bex nn1 nn2 nn3 nn4 b1 b2 b3 (fun q => absurd rfl q) (fun _ q => c345 (congrArg Int32.toInt q)) (fun _ q => c346 (congrArg Int32.toInt q))
  · skip
    refine g_iconst X0 hx (1 : Int32) 70 (hb hby at_69) rfl (by decide) ?_
    refine g_goto X0 hx 74 (hb hby at_70) (by decide) (by decide) ?_
    refine g_istore (l' := #[.val (.int p0), .val (.int p1), .val (.int p2), .val (.int p3), .val (.long p4), .second, .val (.int p5), .val (.int k1), .val (.int k2), .val (.int k3), .val (.double (FP.i2d (p4.toInt32))), .second, .val (.double (FP.i2d (((p4.toUInt64 >>> ((32 : Int32) &&& 0x3f).toInt64.toUInt64).toInt64).toInt32))), .second, .val (.double (FP.dadd (FP.i2d (p4.toInt32)) (4602678819172646912 : UInt64))), .second, .val (.int ex), .val (.double (FP.dadd (FP.i2d (p5 >>> ((7 : Int32) &&& 31))) (4598175219545276416 : UInt64))), .second, .val (.int (1 : Int32)), .unset, .unset, .unset, .unset, .unset, .unset]) X0 hx 76 (hb hby at_74) rfl rfl ?_
    refine g_iload X0 hx 78 (hb hby at_76) rfl rfl ?_
    refine g_iload X0 hx 80 (hb hby at_78) rfl rfl ?_
    refine g_ic_eq X0 hx 94 83 (hb hby at_80) (by decide) (by decide) rfl (fun c347 => ?_) (fun c347 => ?_)
    · skip
      refine g_iconst X0 hx (0 : Int32) 95 (hb hby at_94) rfl (by decide) ?_
      refine g_istore (l' := #[.val (.int p0), .val (.int p1), .val (.int p2), .val (.int p3), .val (.long p4), .second, .val (.int p5), .val (.int k1), .val (.int k2), .val (.int k3), .val (.double (FP.i2d (p4.toInt32))), .second, .val (.double (FP.i2d (((p4.toUInt64 >>> ((32 : Int32) &&& 0x3f).toInt64.toUInt64).toInt64).toInt32))), .second, .val (.double (FP.dadd (FP.i2d (p4.toInt32)) (4602678819172646912 : UInt64))), .second, .val (.int ex), .val (.double (FP.dadd (FP.i2d (p5 >>> ((7 : Int32) &&& 31))) (4598175219545276416 : UInt64))), .second, .val (.int (1 : Int32)), .val (.int (0 : Int32)), .unset, .unset, .unset, .unset, .unset]) X0 hx 97 (hb hby at_95) rfl rfl ?_
      exact rm0_97_10 X0 hx hby hml hret hlk hown hZ hw e0 Z0 N0 bex nn1 nn2 nn3 nn4 b1 b2 b3 (fun _ q => c344 (congrArg Int32.toInt q)) (fun q => absurd rfl q) (fun q => absurd rfl q)
    · skip
      refine g_iload X0 hx 85 (hb hby at_83) rfl rfl ?_
      refine g_iload X0 hx 87 (hb hby at_85) rfl rfl ?_
      refine g_ic_eq X0 hx 94 90 (hb hby at_87) (by decide) (by decide) rfl (fun c348 => ?_) (fun c348 => ?_)
      · skip
        refine g_iconst X0 hx (0 : Int32) 95 (hb hby at_94) rfl (by decide) ?_
        refine g_istore (l' := #[.val (.int p0), .val (.int p1), .val (.int p2), .val (.int p3), .val (.long p4), .second, .val (.int p5), .val (.int k1), .val (.int k2), .val (.int k3), .val (.double (FP.i2d (p4.toInt32))), .second, .val (.double (FP.i2d (((p4.toUInt64 >>> ((32 : Int32) &&& 0x3f).toInt64.toUInt64).toInt64).toInt32))), .second, .val (.double (FP.dadd (FP.i2d (p4.toInt32)) (4602678819172646912 : UInt64))), .second, .val (.int ex), .val (.double (FP.dadd (FP.i2d (p5 >>> ((7 : Int32) &&& 31))) (4598175219545276416 : UInt64))), .second, .val (.int (1 : Int32)), .val (.int (0 : Int32)), .unset, .unset, .unset, .unset, .unset]) X0 hx 97 (hb hby at_95) rfl rfl ?_
        exact rm0_97_10 X0 hx hby hml hret hlk hown hZ hw e0 Z0 N0 bex nn1 nn2 nn3 nn4 b1 b2 b3 (fun _ q => c344 (congrArg Int32.toInt q)) (fun q => absurd rfl q) (fun q => absurd rfl q)
      · skip
        refine g_iconst X0 hx (1 : Int32) 91 (hb hby at_90) rfl (by decide) ?_
        refine g_goto X0 hx 95 (hb hby at_91) (by decide) (by decide) ?_
        refine g_istore (l' := #[.val (.int p0), .val (.int p1), .val (.int p2), .val (.int p3), .val (.long p4), .second, .val (.int p5), .val (.int k1), .val (.int k2), .val (.int k3), .val (.double (FP.i2d (p4.toInt32))), .second, .val (.double (FP.i2d (((p4.toUInt64 >>> ((32 : Int32) &&& 0x3f).toInt64.toUInt64).toInt64).toInt32))), .second, .val (.double (FP.dadd (FP.i2d (p4.toInt32)) (4602678819172646912 : UInt64))), .second, .val (.int ex), .val (.double (FP.dadd (FP.i2d (p5 >>> ((7 : Int32) &&& 31))) (4598175219545276416 : UInt64))), .second, .val (.int (1 : Int32)), .val (.int (1 : Int32)), .unset, .unset, .unset, .unset, .unset]) X0 hx 97 (hb hby at_95) rfl rfl ?_
        exact rm0_97_11 X0 hx hby hml hret hlk hown hZ hw e0 Z0 N0 bex nn1 nn2 nn3 nn4 b1 b2 b3 (fun _ q => c344 (congrArg Int32.toInt q)) (fun _ q => c347 (congrArg Int32.toInt q)) (fun _ q => c348 (congrArg Int32.toInt q))
set_option maxRecDepth 65536 in
set_option maxHeartbeats 40000000 in
theorem comes_1 {Post : Tables → Env → Array Value → State → Outcome → State → Prop} (hpost : ∀ tb e args s v u, (limb_1_1.after args s (.returned v) u = true ∧ limb_1_2.after args s (.returned v) u = true ∧ True) → FrameEnd s (.returned v) u (Jvm.fieldLocs frame_1_writes args s ++ Jvm.arrayLocs frame_1_arrays args s ++ Jvm.staticLocs frame_1_statics s) 16 384 → Post tb e args s (.returned v) u) :
    ArmFor flags0 classFile x code maxLocals ret World_1 tables_1 room_1 Calls_1 rest_1 Pre_1 Post := by
  intro l hfl _ _ p e ha hc hk s m args below hf hA hF happ hP
  obtain ⟨hcalls, hrest, hpre⟩ := hP
  obtain ⟨-, -, -, hnamed, -, -, -, hat⟩ := (Spec.applies_iff hf).mp happ
  obtain ⟨hg, hn⟩ := and_e (Cond.before_iff.mp (show (Jvm.Cond.and given_1 narrow_1).before args s = true from hpre))
  obtain ⟨h1, g0⟩ := and_e hg
  obtain ⟨t0, g1⟩ := and_e g0
  obtain ⟨t1, g2⟩ := and_e g1
  obtain ⟨t2, g3⟩ := and_e g2
  obtain ⟨t3, g4⟩ := and_e g3
  obtain ⟨t4, g5⟩ := and_e g4
  have t5 := g5
  obtain ⟨w0, w1, w2, w3, w4, w5, rfl⟩ : ∃ w0 w1 w2 w3 w4 w5 : Value, args = #[w0, w1, w2, w3, w4, w5] := by
    have hs : args.size = 6 := by simpa [Cond.value, given_1] using h1
    obtain ⟨L⟩ := args
    match L, hs with
    | [w0, w1, w2, w3, w4, w5], _ => exact ⟨w0, w1, w2, w3, w4, w5, rfl⟩
  have hw := fun d (hd : d ∈ tables_1) => atoms_spec (ws := Jvm.Cond.code x code maxLocals ret :: tables_1) hat d (List.mem_cons_of_mem _ hd)
  obtain ⟨i0, e0⟩ := is_v t0
  obtain rfl : w0 = (.int i0) := Option.some.inj e0
  obtain ⟨i1, e1⟩ := is_v t1
  obtain rfl : w1 = (.int i1) := Option.some.inj e1
  obtain ⟨i2, e2⟩ := is_v t2
  obtain rfl : w2 = (.int i2) := Option.some.inj e2
  obtain ⟨i3, e3⟩ := is_v t3
  obtain rfl : w3 = (.int i3) := Option.some.inj e3
  obtain ⟨i4, e4⟩ := isL_v t4
  obtain rfl : w4 = (.long i4) := Option.some.inj e4
  obtain ⟨i5, e5⟩ := is_v t5
  obtain rfl : w5 = (.int i5) := Option.some.inj e5
  obtain ⟨n, o, h1, h2, h3, _, L, rfl, ⟨rfl, N⟩, hq⟩ := rm0 l s _ hw tables_1 i0 i1 i2 i3 i4 i5 s.heap s.heap.size (Nat.le_refl _)  p e ha hc hk s m _ below hf ((Spec.applies_iff_loose hf).mp happ).1 ⟨rfl, State.Warmed39.refl s, rfl⟩ trivial
  refine ⟨n, _, h1, h2, h3, hpost _ _ _ _ _ _ ⟨Cond.after_iff.mpr rfl, Cond.after_iff.mpr (eq_i res_at (Term.int_eval (1)) rfl), trivial⟩ ⟨hq.1, hq.2.1, (hq.2.2.sift fun y hy => Or.inr (N y hy)).mono (by decide) (by decide)⟩⟩
theorem main_1_1 : Claimed_1_1 := comes_1 fun _ _ _ _ _ _ h hF => ⟨h.1, hF⟩
theorem main_1_2 : Claimed_1_2 := comes_1 fun _ _ _ _ _ _ h hF => ⟨h.2.1, hF⟩
end Jvm.Pilot.@@N@@
namespace Jvm.Pilot.@@N@@
open Jvm Jvm.ClassFile Sem Op Lib Jvm.Free Jvm.Stand Jvm.Pilot.@@N@@.Jvm.D
/-! MADE BY PROGRAM (witnessworld.py) out of the Statement's table words and the real class files: 17 classes; the members and pool entries that the words name. The judged class is class 1, her method 1. -/
namespace start1
open Jvm.ClassFile
def u (s : String) : CpInfo := .utf8 (stringToUtf16 s)
/-- a pool by its gaps: so many unusable entries, then the entry; so many at the end -/
def gap : Nat → List CpInfo → List CpInfo
  | 0, r => r
  | n + 1, r => .unusable :: gap n r
def poolList (es : List (Nat × CpInfo)) (last : Nat) : List CpInfo := es.foldr (fun e r => gap e.1 (e.2 :: r)) (gap last [])
def pool (es : List (Nat × CpInfo)) (last : Nat) : Array CpInfo := ⟨poolList es last⟩
def fileOf (pool : Array CpInfo) (this : Nat) (attrs : Array Attribute := #[]) (ms : Array MethodInfo := #[]) (fl : Nat := 33) (sup : Nat := 0) (ifs : Array Nat := #[]) (fds : Array FieldInfo := #[]) : ClassFile where
  minorVersion := 0
  majorVersion := 65
  constantPool := pool
  accessFlags := fl
  thisClass := this
  superClass := sup
  interfaces := ifs
  fields := fds
  methods := ms
  attributes := attrs
def plain (name : String) (sup : Option ClassId) : Class where
  name := name
  kind := .ordinary
  loader := none
  accessFlags := 33
  super := sup
  interfaces := #[]
  cf := none
  fields := #[]
  methods := #[]
  instanceTypes := #[]
  staticTypes := #[]
  resolved := #[]
  callSites := []
  init := .initialized
  statics := none
  mirror := none

def pool0 : Array CpInfo := pool [(5, u "<init>"), (0, u "()V"), (1, .class_ 10), (1, u "java/lang/Object")] 113

def k0c0 : Code := { maxStack := 0, maxLocals := 1, code := object_method_1_code, exceptionTable := #[], attributes := #[] }
def k0m0 : Method := { name := "<init>", desc := "()V", sig := { parameters := [], returnType := none }, accessFlags := 1, code := some k0c0 }
/-- java/lang/Object -/
def k0 : Class := { plain "java/lang/Object" none with
  accessFlags := 33
  interfaces := #[]
  cf := some (fileOf pool0 8 #[] #[{ accessFlags := 1, nameIndex := 5, descriptorIndex := 6, attributes := #[] }] 33 0 #[] #[])
  fields := #[]
  methods := #[k0m0]
  instanceTypes := #[]
  staticTypes := #[]
  resolved := Array.replicate 124 none
  statics := none }

def pool1 : Array CpInfo := pool [(2, .class_ 4), (1, u "java/lang/Object"), (0, u "<init>"), (0, u "()V"), (0, .integer 2147483647), (0, .double 4602678819172646912), (1, .double 4598175219545276416), (1, .class_ 13), (0, u "com/example/folksonomy/folksonomy/weighting/IntDoubleMap"), (0, .methodref 12 15), (0, .nameAndType 5 16), (0, u "(I)V"), (0, .methodref 12 18), (0, .nameAndType 19 20), (0, u "put"), (0, u "(ID)V"), (0, .methodref 12 22), (0, .nameAndType 23 24), (0, u "get"), (0, u "(ID)D"), (0, .class_ 26), (0, u "com/example/folksonomy/folksonomy/weighting/IntDoubleMapGetPinLaw"), (2, u "law"), (0, u "(IIIIJI)Z")] 3

def k1m0 : Method := { name := "<init>", desc := "()V", sig := { parameters := [], returnType := none }, accessFlags := 1, code := none }
def k1c1 : Code := { maxStack := 4, maxLocals := 26, code := code, exceptionTable := #[], attributes := #[] }
def k1m1 : Method := { name := "law", desc := "(IIIIJI)Z", sig := { parameters := [.int, .int, .int, .int, .long, .int], returnType := some .boolean }, accessFlags := 9, code := some k1c1 }
/-- com/example/folksonomy/folksonomy/weighting/IntDoubleMapGetPinLaw -/
def k1 : Class := { plain "com/example/folksonomy/folksonomy/weighting/IntDoubleMapGetPinLaw" (some 0) with
  accessFlags := 49
  interfaces := #[]
  cf := some (fileOf pool1 25 #[] #[{ accessFlags := 1, nameIndex := 5, descriptorIndex := 6, attributes := #[] }, { accessFlags := 9, nameIndex := 29, descriptorIndex := 30, attributes := #[] }] 49 2 #[] #[])
  fields := #[]
  methods := #[k1m0, k1m1]
  instanceTypes := #[]
  staticTypes := #[]
  resolved := Array.replicate 34 none
  statics := none }

def pool2 : Array CpInfo := pool [(1, .methodref 2 3), (0, .class_ 4), (0, .nameAndType 5 6), (0, u "java/lang/Object"), (0, u "<init>"), (0, u "()V"), (0, .methodref 8 9), (0, .class_ 10), (0, .nameAndType 11 12), (0, u "java/lang/Math"), (0, u "max"), (0, u "(II)I"), (0, .methodref 14 15), (0, .class_ 16), (0, .nameAndType 17 18), (0, u "java/lang/Integer"), (0, u "highestOneBit"), (0, u "(I)I"), (0, .fieldref 20 21), (0, .class_ 22), (0, .nameAndType 23 24), (0, u "com/example/folksonomy/folksonomy/weighting/IntDoubleMap"), (0, u "keys"), (0, u "[I"), (0, .fieldref 20 26), (0, .nameAndType 27 28), (0, u "values"), (0, u "[D"), (0, .methodref 20 30), (0, .nameAndType 31 32), (0, u "slot"), (0, u "([II)I"), (0, .fieldref 20 34), (0, .nameAndType 35 36), (0, u "size"), (0, u "I"), (3, .integer 2654435769), (0, .methodref 14 42), (0, .nameAndType 43 18), (0, u "numberOfLeadingZeros"), (0, u "(I)V"), (2, u "get"), (0, u "(ID)D"), (3, u "put"), (0, u "(ID)V")] 4

def k2c0 : Code := { maxStack := 2, maxLocals := 3, code := prog_39_method_1_code, exceptionTable := #[], attributes := #[] }
def k2m0 : Method := { name := "<init>", desc := "(I)V", sig := { parameters := [.int], returnType := none }, accessFlags := 0, code := some k2c0 }
def k2c1 : Code := { maxStack := 2, maxLocals := 5, code := prog_39_method_2_code, exceptionTable := #[], attributes := #[] }
def k2m1 : Method := { name := "get", desc := "(ID)D", sig := { parameters := [.int, .double], returnType := some .double }, accessFlags := 0, code := some k2c1 }
def k2c2 : Code := { maxStack := 4, maxLocals := 5, code := prog_39_method_4_code, exceptionTable := #[], attributes := #[] }
def k2m2 : Method := { name := "put", desc := "(ID)V", sig := { parameters := [.int, .double], returnType := none }, accessFlags := 0, code := some k2c2 }
def k2c3 : Code := { maxStack := 3, maxLocals := 4, code := prog_39_method_5_code, exceptionTable := #[], attributes := #[] }
def k2m3 : Method := { name := "slot", desc := "([II)I", sig := { parameters := [(.array .int), .int], returnType := some .int }, accessFlags := 10, code := some k2c3 }
/-- com/example/folksonomy/folksonomy/weighting/IntDoubleMap -/
def k2 : Class := { plain "com/example/folksonomy/folksonomy/weighting/IntDoubleMap" (some 0) with
  accessFlags := 48
  interfaces := #[]
  cf := some (fileOf pool2 20 #[] #[{ accessFlags := 0, nameIndex := 5, descriptorIndex := 44, attributes := #[] }, { accessFlags := 0, nameIndex := 47, descriptorIndex := 48, attributes := #[] }, { accessFlags := 0, nameIndex := 52, descriptorIndex := 53, attributes := #[] }, { accessFlags := 10, nameIndex := 31, descriptorIndex := 32, attributes := #[] }] 48 2 #[] #[{ accessFlags := 2, nameIndex := 23, descriptorIndex := 24, attributes := #[] }, { accessFlags := 2, nameIndex := 27, descriptorIndex := 28, attributes := #[] }, { accessFlags := 2, nameIndex := 35, descriptorIndex := 36, attributes := #[] }])
  fields := #[{ name := "keys", type := (.array .int), accessFlags := 2, slot := 0, constantValue := 0 }, { name := "values", type := (.array .double), accessFlags := 2, slot := 1, constantValue := 0 }, { name := "size", type := .int, accessFlags := 2, slot := 2, constantValue := 0 }]
  methods := #[k2m0, k2m1, k2m2, k2m3]
  instanceTypes := #[(.array .int), (.array .double), .int]
  staticTypes := #[]
  resolved := Array.replicate 58 none
  statics := none }

def pool3 : Array CpInfo := pool [(1, .class_ 2), (0, u "java/lang/Math"), (1, .class_ 6), (1, u "java/lang/Object"), (0, u "<init>"), (0, u "()V"), (89, .class_ 100), (1, u "java/lang/Math$RandomNumberGeneratorHolder"), (71, u "negativeZeroFloatBits"), (0, u "J"), (2, u "negativeZeroDoubleBits"), (21, u "max"), (46, u "$assertionsDisabled"), (0, u "Z"), (88, u "(II)I"), (2, u "twoToTheDoubleScaleDown"), (0, u "D"), (4, u "twoToTheDoubleScaleUp"), (9, u "E"), (3, u "PI"), (2, u "TAU"), (2, u "DEGREES_TO_RADIANS"), (0, u "RADIANS_TO_DEGREES")] 94

def k3m0 : Method := { name := "<init>", desc := "()V", sig := { parameters := [], returnType := none }, accessFlags := 2, code := none }
def k3c1 : Code := { maxStack := 2, maxLocals := 2, code := jdk_29_method_65_code, exceptionTable := #[], attributes := #[] }
def k3m1 : Method := { name := "max", desc := "(II)I", sig := { parameters := [.int, .int], returnType := some .int }, accessFlags := 9, code := some k3c1 }
/-- java/lang/Math -/
def k3 : Class := { plain "java/lang/Math" (some 0) with
  accessFlags := 49
  interfaces := #[]
  cf := some (fileOf pool3 1 #[.nestMembers #[98]] #[{ accessFlags := 2, nameIndex := 7, descriptorIndex := 8, attributes := #[] }, { accessFlags := 9, nameIndex := 198, descriptorIndex := 335, attributes := #[] }] 49 4 #[] #[{ accessFlags := 25, nameIndex := 354, descriptorIndex := 339, attributes := #[] }, { accessFlags := 25, nameIndex := 358, descriptorIndex := 339, attributes := #[] }, { accessFlags := 25, nameIndex := 361, descriptorIndex := 339, attributes := #[] }, { accessFlags := 26, nameIndex := 364, descriptorIndex := 339, attributes := #[] }, { accessFlags := 26, nameIndex := 365, descriptorIndex := 339, attributes := #[] }, { accessFlags := 26, nameIndex := 172, descriptorIndex := 173, attributes := #[] }, { accessFlags := 26, nameIndex := 176, descriptorIndex := 173, attributes := #[] }, { accessFlags := 8, nameIndex := 344, descriptorIndex := 339, attributes := #[] }, { accessFlags := 8, nameIndex := 338, descriptorIndex := 339, attributes := #[] }, { accessFlags := 4120, nameIndex := 245, descriptorIndex := 246, attributes := #[] }])
  fields := #[{ name := "E", type := .double, accessFlags := 25, slot := 0, constantValue := 0 }, { name := "PI", type := .double, accessFlags := 25, slot := 1, constantValue := 0 }, { name := "TAU", type := .double, accessFlags := 25, slot := 2, constantValue := 0 }, { name := "DEGREES_TO_RADIANS", type := .double, accessFlags := 26, slot := 3, constantValue := 0 }, { name := "RADIANS_TO_DEGREES", type := .double, accessFlags := 26, slot := 4, constantValue := 0 }, { name := "negativeZeroFloatBits", type := .long, accessFlags := 26, slot := 5, constantValue := 0 }, { name := "negativeZeroDoubleBits", type := .long, accessFlags := 26, slot := 6, constantValue := 0 }, { name := "twoToTheDoubleScaleUp", type := .double, accessFlags := 8, slot := 7, constantValue := 0 }, { name := "twoToTheDoubleScaleDown", type := .double, accessFlags := 8, slot := 8, constantValue := 0 }, { name := "$assertionsDisabled", type := .boolean, accessFlags := 4120, slot := 9, constantValue := 0 }]
  methods := #[k3m0, k3m1]
  instanceTypes := #[]
  staticTypes := #[.double, .double, .double, .double, .double, .long, .long, .double, .double, .boolean]
  resolved := Array.replicate 460 none
  statics := none }

def pool4 : Array CpInfo := pool [(1, .class_ 2), (0, u "java/io/Serializable"), (0, .class_ 4), (0, u "java/lang/Object")] 2

/-- java/io/Serializable -/
def k4 : Class := { plain "java/io/Serializable" (some 0) with
  accessFlags := 1537
  interfaces := #[]
  cf := some (fileOf pool4 1 #[] #[] 1537 3 #[] #[])
  fields := #[]
  methods := #[]
  instanceTypes := #[]
  staticTypes := #[]
  resolved := Array.replicate 7 none
  statics := none }

def pool5 : Array CpInfo := pool [(2, .class_ 4), (1, u "java/lang/Object"), (0, u "<init>"), (0, u "()V"), (1, .class_ 10), (1, u "java/lang/Number"), (2, .class_ 14), (0, u "java/io/Serializable"), (0, u "serialVersionUID"), (0, u "J")] 20

def k5m0 : Method := { name := "<init>", desc := "()V", sig := { parameters := [], returnType := none }, accessFlags := 1, code := none }
/-- java/lang/Number -/
def k5 : Class := { plain "java/lang/Number" (some 0) with
  accessFlags := 1057
  interfaces := #[4]
  cf := some (fileOf pool5 8 #[] #[{ accessFlags := 1, nameIndex := 5, descriptorIndex := 6, attributes := #[] }] 1057 2 #[13] #[{ accessFlags := 26, nameIndex := 15, descriptorIndex := 16, attributes := #[] }])
  fields := #[{ name := "serialVersionUID", type := .long, accessFlags := 26, slot := 0, constantValue := 0 }]
  methods := #[k5m0]
  instanceTypes := #[]
  staticTypes := #[.long]
  resolved := Array.replicate 37 none
  statics := none }

def pool6 : Array CpInfo := pool [(1, .class_ 2), (0, u "java/lang/Comparable"), (0, .class_ 4), (0, u "java/lang/Object")] 7

/-- java/lang/Comparable -/
def k6 : Class := { plain "java/lang/Comparable" (some 0) with
  accessFlags := 1537
  interfaces := #[]
  cf := some (fileOf pool6 1 #[] #[] 1537 3 #[] #[])
  fields := #[]
  methods := #[]
  instanceTypes := #[]
  staticTypes := #[]
  resolved := Array.replicate 12 none
  statics := none }

def pool7 : Array CpInfo := pool [(1, .class_ 2), (0, u "java/lang/constant/Constable"), (0, .class_ 4), (0, u "java/lang/Object")] 6

/-- java/lang/constant/Constable -/
def k7 : Class := { plain "java/lang/constant/Constable" (some 0) with
  accessFlags := 1537
  interfaces := #[]
  cf := some (fileOf pool7 1 #[] #[] 1537 3 #[] #[])
  fields := #[]
  methods := #[]
  instanceTypes := #[]
  staticTypes := #[]
  resolved := Array.replicate 11 none
  statics := none }

def pool8 : Array CpInfo := pool [(1, .class_ 2), (0, u "java/lang/constant/ConstantDesc"), (0, .class_ 4), (0, u "java/lang/Object")] 32

/-- java/lang/constant/ConstantDesc -/
def k8 : Class := { plain "java/lang/constant/ConstantDesc" (some 0) with
  accessFlags := 1537
  interfaces := #[]
  cf := some (fileOf pool8 1 #[] #[] 1537 3 #[] #[])
  fields := #[]
  methods := #[]
  instanceTypes := #[]
  staticTypes := #[]
  resolved := Array.replicate 37 none
  statics := none }

def pool9 : Array CpInfo := pool [(1, .class_ 2), (0, u "java/lang/Integer"), (16, u "digits"), (0, u "[C"), (30, .methodref 1 52), (0, .nameAndType 53 54), (0, u "numberOfLeadingZeros"), (0, u "(I)I"), (30, u "DigitOnes"), (0, u "[B"), (2, u "DigitTens"), (37, .integer 2147483648), (61, .class_ 190), (0, u "java/lang/Integer$IntegerCache"), (3, u "I"), (8, .class_ 204), (0, u "java/lang/Number"), (2, u "value"), (56, .integer 65536), (37, u "TYPE"), (0, u "Ljava/lang/Class;"), (0, .class_ 305), (0, u "java/lang/Comparable"), (0, .class_ 307), (0, u "java/lang/constant/Constable"), (0, .class_ 309), (0, u "java/lang/constant/ConstantDesc"), (0, u "MIN_VALUE"), (1, u "MAX_VALUE"), (3, u "SIZE"), (1, u "BYTES"), (1, u "serialVersionUID"), (0, u "J"), (81, u "highestOneBit")] 49

def k9c0 : Code := { maxStack := 3, maxLocals := 1, code := jdk_33_method_45_code, exceptionTable := #[], attributes := #[] }
def k9m0 : Method := { name := "highestOneBit", desc := "(I)I", sig := { parameters := [.int], returnType := some .int }, accessFlags := 9, code := some k9c0 }
def k9c1 : Code := { maxStack := 3, maxLocals := 2, code := jdk_33_method_47_code, exceptionTable := #[], attributes := #[] }
def k9m1 : Method := { name := "numberOfLeadingZeros", desc := "(I)I", sig := { parameters := [.int], returnType := some .int }, accessFlags := 9, code := some k9c1 }
/-- java/lang/Integer -/
def k9 : Class := { plain "java/lang/Integer" (some 5) with
  accessFlags := 49
  interfaces := #[6, 7, 8]
  cf := some (fileOf pool9 1 #[.nestMembers #[189]] #[{ accessFlags := 9, nameIndex := 403, descriptorIndex := 54, attributes := #[] }, { accessFlags := 9, nameIndex := 53, descriptorIndex := 54, attributes := #[] }] 49 203 #[304, 306, 308] #[{ accessFlags := 25, nameIndex := 310, descriptorIndex := 194, attributes := #[] }, { accessFlags := 25, nameIndex := 312, descriptorIndex := 194, attributes := #[] }, { accessFlags := 25, nameIndex := 302, descriptorIndex := 303, attributes := #[] }, { accessFlags := 24, nameIndex := 19, descriptorIndex := 20, attributes := #[] }, { accessFlags := 24, nameIndex := 89, descriptorIndex := 86, attributes := #[] }, { accessFlags := 24, nameIndex := 85, descriptorIndex := 86, attributes := #[] }, { accessFlags := 18, nameIndex := 207, descriptorIndex := 194, attributes := #[] }, { accessFlags := 25, nameIndex := 316, descriptorIndex := 194, attributes := #[] }, { accessFlags := 25, nameIndex := 318, descriptorIndex := 194, attributes := #[] }, { accessFlags := 26, nameIndex := 320, descriptorIndex := 321, attributes := #[] }])
  fields := #[{ name := "MIN_VALUE", type := .int, accessFlags := 25, slot := 0, constantValue := 0 }, { name := "MAX_VALUE", type := .int, accessFlags := 25, slot := 1, constantValue := 0 }, { name := "TYPE", type := (.object "java/lang/Class"), accessFlags := 25, slot := 2, constantValue := 0 }, { name := "digits", type := (.array .char), accessFlags := 24, slot := 3, constantValue := 0 }, { name := "DigitTens", type := (.array .byte), accessFlags := 24, slot := 4, constantValue := 0 }, { name := "DigitOnes", type := (.array .byte), accessFlags := 24, slot := 5, constantValue := 0 }, { name := "value", type := .int, accessFlags := 18, slot := 0, constantValue := 0 }, { name := "SIZE", type := .int, accessFlags := 25, slot := 6, constantValue := 0 }, { name := "BYTES", type := .int, accessFlags := 25, slot := 7, constantValue := 0 }, { name := "serialVersionUID", type := .long, accessFlags := 26, slot := 8, constantValue := 0 }]
  methods := #[k9m0, k9m1]
  instanceTypes := #[.int]
  staticTypes := #[.int, .int, (.object "java/lang/Class"), (.array .char), (.array .byte), (.array .byte), .int, .int, .long]
  resolved := Array.replicate 453 none
  statics := none }

def pool10 : Array CpInfo := pool [(1, u "java/lang/Cloneable"), (0, .class_ 1), (0, u "java/lang/Object"), (0, .class_ 3)] 3

/-- java/lang/Cloneable -/
def k10 : Class := { plain "java/lang/Cloneable" (some 0) with
  accessFlags := 1537
  interfaces := #[]
  cf := some (fileOf pool10 2 #[] #[] 1537 4 #[] #[])
  fields := #[]
  methods := #[]
  instanceTypes := #[]
  staticTypes := #[]
  resolved := Array.replicate 8 none
  statics := none }

/-- the primitive byte -/
def k11 : Class := { plain "byte" none with kind := .primitive 'B', accessFlags := 0x411 }
/-- [B -/
def k12 : Class := { plain "[B" (some 0) with kind := .array 11 .byte, interfaces := #[10, 4], accessFlags := 1041 }

/-- the primitive double -/
def k13 : Class := { plain "double" none with kind := .primitive 'D', accessFlags := 0x411 }
/-- [D -/
def k14 : Class := { plain "[D" (some 0) with kind := .array 13 .double, interfaces := #[10, 4], accessFlags := 1041 }

/-- the primitive int -/
def k15 : Class := { plain "int" none with kind := .primitive 'I', accessFlags := 0x411 }
/-- [I -/
def k16 : Class := { plain "[I" (some 0) with kind := .array 15 .int, interfaces := #[10, 4], accessFlags := 1041 }

def heap : Heap := #[]
def classes : Array Class := #[k0, k1, k2, k3, k4, k5, k6, k7, k8, k9, k10, k11, k12, k13, k14, k15, k16]
def interned : List (Array UInt16 × Addr) := []
def slotsUsed : Nat := 0
def theMethod : MethodId := ⟨1, 1⟩
def args0 : Array Value := #[.int 5, .int 3, .int 4, .int 7, .long 4, .int 1]
def aboutOver (below : List Frame) : State where
  vm := { classes := classes, interned := interned.toArray }
  heap := heap
  slotsUsed := slotsUsed
  threads := #[{ frames := .invoking theMethod args0 :: below }]
def below0 : List Frame := [.native { method := ⟨0, 0⟩, args := #[] }]
def about1 : State := aboutOver below0
def p0 : Program := .bare "" "" ""
def e0 : Env := launch0.env 0 0 0
theorem w_frames : about1.frames = Frame.invoking theMethod args0 :: below0 := rfl
set_option maxRecDepth 65536 in
theorem w_args : argsFit about1.vm theMethod args0 = true := by decide +kernel
set_option maxRecDepth 65536 in
theorem w_heap : heapFits about1 = true := by decide +kernel
set_option maxRecDepth 65536 in
theorem w_runnable : about1.curStatus? = some .runnable := by decide +kernel
set_option maxRecDepth 65536 in
theorem w_alone : about1.alone = true := by decide +kernel
set_option maxRecDepth 65536 in
theorem w_named : about1.methodNamed? x = some theMethod := by decide +kernel
set_option maxRecDepth 65536 in
theorem w_hears : about1.hears theMethod below0 = true := by decide +kernel
set_option maxRecDepth 65536 in
theorem w_ripe : about1.ripe theMethod args0 below0 = true := by decide +kernel
theorem w_running : about1.status = .running := rfl
set_option maxRecDepth 65536 in
theorem w_room : about1.hasRoom e0.platform room_1 = true :=
  launch0.hasRoom_least _ room_1 (by decide +kernel) (by decide +kernel) (by decide +kernel) (by decide +kernel) (by decide +kernel) (by decide +kernel)
theorem allAtoms_all (ts : List Jvm.Cond) (a : Array Jvm.Value) (st : Jvm.State) : (allAtoms ts).before a st = ts.all (fun c => c.before a st) := by
  induction ts with
  | nil => rfl
  | cons c t ih =>
    show (Jvm.Cond.and c (allAtoms t)).before a st = _
    rw [Jvm.Cond.before_and, ih, List.all_cons]
def words1 : List Jvm.Cond := Jvm.Cond.code x code maxLocals ret :: tables_1
/-- a 'code' word, met by the world's own term for the bytes: nothing is compared byte by byte -/
theorem code_word {y : MethodName} {bytes : ByteArray} {mx : Nat} {rt : Option FieldType} {a : Array Value} {s : State} {m : MethodId} {meth : Method} {c : Code} (h1 : s.methodNamed? y = some m) (h2 : s.vm.method? m = some meth) (h3 : meth.code = some c) (h4 : c.code = bytes)
    (h5 : (c.maxLocals == mx && c.exceptionTable.isEmpty && decide (c.maxStack ≤ mostOperands) && decide (meth.sig.returnType = rt) && !meth.locks && decide (parseMethodDescriptor y.desc = some meth.sig)) = true) : (Jvm.Cond.code y bytes mx rt).before a s = true := by
  simp only [Bool.and_eq_true, beq_iff_eq, Bool.not_eq_true', decide_eq_true_eq] at h5
  obtain ⟨⟨⟨⟨⟨g1, g2⟩, g3⟩, g4⟩, g5⟩, g6⟩ := h5
  simp [Cond.before, Cond.holds, Cond.value, h1, h2, h3, h4, g1, g2, g3, g4, g5, g6]
def isCode : Jvm.Cond → Bool
  | .code _ _ _ _ => true
  | _ => false
theorem all_split {L : List Jvm.Cond} {P : Jvm.Cond → Bool} (h1 : L.all (fun c => isCode c || P c) = true) (h2 : ∀ c ∈ L.filter isCode, P c = true) : L.all P = true := by
  refine List.all_eq_true.mpr fun c hc => ?_
  have h := List.all_eq_true.mp h1 c hc
  rcases Bool.eq_false_or_eq_true (isCode c) with hi | hi
  · exact h2 c (List.mem_filter.mpr ⟨hc, hi⟩)
  · simpa [hi] using h
set_option maxRecDepth 65536 in
theorem w_c0 : (Jvm.Cond.code x code maxLocals ret).before args0 about1 = true := code_word (m := ⟨1, 1⟩) (meth := k1m1) (c := k1c1) (by decide +kernel) rfl rfl rfl (by decide +kernel)
set_option maxRecDepth 65536 in
theorem w_c1 : (Jvm.Cond.code ({ cls := "com/example/folksonomy/folksonomy/weighting/IntDoubleMap", name := "<init>", desc := "(I)V" } : Jvm.MethodName) prog_39_method_1_code (3 : Nat) (Option.none : Option Jvm.ClassFile.FieldType)).before args0 about1 = true := code_word (m := ⟨2, 0⟩) (meth := k2m0) (c := k2c0) (by decide +kernel) rfl rfl rfl (by decide +kernel)
set_option maxRecDepth 65536 in
theorem w_c2 : (Jvm.Cond.code ({ cls := "java/lang/Object", name := "<init>", desc := "()V" } : Jvm.MethodName) object_method_1_code (1 : Nat) (Option.none : Option Jvm.ClassFile.FieldType)).before args0 about1 = true := code_word (m := ⟨0, 0⟩) (meth := k0m0) (c := k0c0) (by decide +kernel) rfl rfl rfl (by decide +kernel)
set_option maxRecDepth 65536 in
theorem w_c3 : (Jvm.Cond.code ({ cls := "java/lang/Math", name := "max", desc := "(II)I" } : Jvm.MethodName) jdk_29_method_65_code (2 : Nat) (Option.some Jvm.ClassFile.FieldType.int)).before args0 about1 = true := code_word (m := ⟨3, 1⟩) (meth := k3m1) (c := k3c1) (by decide +kernel) rfl rfl rfl (by decide +kernel)
set_option maxRecDepth 65536 in
theorem w_c4 : (Jvm.Cond.code ({ cls := "java/lang/Integer", name := "highestOneBit", desc := "(I)I" } : Jvm.MethodName) jdk_33_method_45_code (1 : Nat) (Option.some Jvm.ClassFile.FieldType.int)).before args0 about1 = true := code_word (m := ⟨9, 0⟩) (meth := k9m0) (c := k9c0) (by decide +kernel) rfl rfl rfl (by decide +kernel)
set_option maxRecDepth 65536 in
theorem w_c5 : (Jvm.Cond.code ({ cls := "java/lang/Integer", name := "numberOfLeadingZeros", desc := "(I)I" } : Jvm.MethodName) jdk_33_method_47_code (2 : Nat) (Option.some Jvm.ClassFile.FieldType.int)).before args0 about1 = true := code_word (m := ⟨9, 1⟩) (meth := k9m1) (c := k9c1) (by decide +kernel) rfl rfl rfl (by decide +kernel)
set_option maxRecDepth 65536 in
theorem w_c6 : (Jvm.Cond.code ({ cls := "com/example/folksonomy/folksonomy/weighting/IntDoubleMap", name := "put", desc := "(ID)V" } : Jvm.MethodName) prog_39_method_4_code (5 : Nat) (Option.none : Option Jvm.ClassFile.FieldType)).before args0 about1 = true := code_word (m := ⟨2, 2⟩) (meth := k2m2) (c := k2c2) (by decide +kernel) rfl rfl rfl (by decide +kernel)
set_option maxRecDepth 65536 in
theorem w_c7 : (Jvm.Cond.code ({ cls := "com/example/folksonomy/folksonomy/weighting/IntDoubleMap", name := "slot", desc := "([II)I" } : Jvm.MethodName) prog_39_method_5_code (4 : Nat) (Option.some Jvm.ClassFile.FieldType.int)).before args0 about1 = true := code_word (m := ⟨2, 3⟩) (meth := k2m3) (c := k2c3) (by decide +kernel) rfl rfl rfl (by decide +kernel)
set_option maxRecDepth 65536 in
theorem w_c8 : (Jvm.Cond.code ({ cls := "com/example/folksonomy/folksonomy/weighting/IntDoubleMap", name := "get", desc := "(ID)D" } : Jvm.MethodName) prog_39_method_2_code (5 : Nat) (Option.some Jvm.ClassFile.FieldType.double)).before args0 about1 = true := code_word (m := ⟨2, 1⟩) (meth := k2m1) (c := k2c1) (by decide +kernel) rfl rfl rfl (by decide +kernel)
def codes1 : List Jvm.Cond := [Jvm.Cond.code x code maxLocals ret, Jvm.Cond.code ({ cls := "com/example/folksonomy/folksonomy/weighting/IntDoubleMap", name := "<init>", desc := "(I)V" } : Jvm.MethodName) prog_39_method_1_code (3 : Nat) (Option.none : Option Jvm.ClassFile.FieldType), Jvm.Cond.code ({ cls := "java/lang/Object", name := "<init>", desc := "()V" } : Jvm.MethodName) object_method_1_code (1 : Nat) (Option.none : Option Jvm.ClassFile.FieldType), Jvm.Cond.code ({ cls := "java/lang/Math", name := "max", desc := "(II)I" } : Jvm.MethodName) jdk_29_method_65_code (2 : Nat) (Option.some Jvm.ClassFile.FieldType.int), Jvm.Cond.code ({ cls := "java/lang/Integer", name := "highestOneBit", desc := "(I)I" } : Jvm.MethodName) jdk_33_method_45_code (1 : Nat) (Option.some Jvm.ClassFile.FieldType.int), Jvm.Cond.code ({ cls := "java/lang/Integer", name := "numberOfLeadingZeros", desc := "(I)I" } : Jvm.MethodName) jdk_33_method_47_code (2 : Nat) (Option.some Jvm.ClassFile.FieldType.int), Jvm.Cond.code ({ cls := "com/example/folksonomy/folksonomy/weighting/IntDoubleMap", name := "put", desc := "(ID)V" } : Jvm.MethodName) prog_39_method_4_code (5 : Nat) (Option.none : Option Jvm.ClassFile.FieldType), Jvm.Cond.code ({ cls := "com/example/folksonomy/folksonomy/weighting/IntDoubleMap", name := "slot", desc := "([II)I" } : Jvm.MethodName) prog_39_method_5_code (4 : Nat) (Option.some Jvm.ClassFile.FieldType.int), Jvm.Cond.code ({ cls := "com/example/folksonomy/folksonomy/weighting/IntDoubleMap", name := "get", desc := "(ID)D" } : Jvm.MethodName) prog_39_method_2_code (5 : Nat) (Option.some Jvm.ClassFile.FieldType.double)]
set_option maxRecDepth 65536 in
theorem codes_eq : words1.filter isCode = codes1 := rfl
theorem w_codes : ∀ c ∈ words1.filter isCode, c.before args0 about1 = true := by
  rw [codes_eq]
  intro c hc
  simp only [codes1, List.mem_cons, List.not_mem_nil, or_false] at hc
  rcases hc with rfl | rfl | rfl | rfl | rfl | rfl | rfl | rfl | rfl
  · exact w_c0
  · exact w_c1
  · exact w_c2
  · exact w_c3
  · exact w_c4
  · exact w_c5
  · exact w_c6
  · exact w_c7
  · exact w_c8
set_option maxRecDepth 65536 in
theorem w_t1 : (words1.take 24).all (fun c => isCode c || c.before args0 about1) = true := by decide +kernel
set_option maxRecDepth 65536 in
theorem w_t2 : ((words1.drop 24).take 24).all (fun c => isCode c || c.before args0 about1) = true := by decide +kernel
set_option maxRecDepth 65536 in
theorem w_t3 : ((words1.drop 24).drop 24).all (fun c => isCode c || c.before args0 about1) = true := by decide +kernel
theorem w_tables : (allAtoms (Jvm.Cond.code x code maxLocals ret :: tables_1)).before args0 about1 = true := by
  rw [allAtoms_all]
  show words1.all (fun c => c.before args0 about1) = true
  refine all_split ?_ w_codes
  rw [← List.take_append_drop 24 words1, List.all_append, w_t1, ← List.take_append_drop 24 (words1.drop 24), List.all_append, w_t2, w_t3]
  rfl
set_option maxRecDepth 65536 in
theorem w_case : (Jvm.Cond.and given_1 narrow_1).before args0 about1 = true := by decide +kernel
theorem w_applies : (headSpec (Jvm.Cond.code x code maxLocals ret :: tables_1) room_1).applies x e0.platform about1 = true :=
  (Spec.applies_iff w_frames).mpr ⟨w_running, w_runnable, w_alone, w_named, w_hears, w_ripe, w_room, w_tables⟩
theorem atStart : AtStart classFile x code maxLocals ret World_1 tables_1 room_1 Calls_1 rest_1 Pre_1 launch0 p0 e0 about1 theMethod args0 below0 :=
  ⟨lists_1, trivial, launch0.admits_env _ _ _, launch0.least_env, fairChoices_fair.cas, fairChoices_fair.clock, w_frames, w_args, w_heap, w_applies, trivial, trivial, w_case⟩
end start1
theorem witness_1 : WitnessClaimed_1 := ⟨start1.p0, start1.e0, start1.about1, start1.theMethod, start1.args0, start1.below0, start1.atStart⟩
end Jvm.Pilot.@@N@@
