import JvmDerived
import JvmDerived.Pilot.@@N@@Statement
import JvmDerived.Pilot.@@N@@Code
set_option linter.unusedVariables false
set_option linter.unusedSimpArgs false
namespace Jvm.Pilot.@@N@@
open Jvm Jvm.ClassFile Sem Op Lib Jvm.Free Jvm.Stand Jvm.LawKit Jvm.RoadKit Bundle Jvm.Pilot.@@N@@.Jvm.D
section OwnKit
variable {p : Program} {l : Launch} {e : Env} {R : Room} {s : State} {m : MethodId} {args : Array Value} {below : List Frame} {meth : Method} {c : Code} {T : State} {locs : List Loc} {cells slots : Nat} {Z : State} {a0 : Array Value} {h h' : Heap} {Ev : State → Outcome → Prop}
def Go (p : Program) (e : Env) (below : List Frame) (Ev : State → Outcome → Prop) (T : State) (g : JFrame) : Prop :=
  ∃ (U : State) (o : Outcome), Steps p.tables e below (T.setTop g) U ∧ U.status = .running ∧ Ended U below o ∧ Ev U o
theorem Go.on {T T' : State} {g g' : JFrame} (K : Go p e below Ev T' g') (st : ∀ t, Steps p.tables e below (T'.setTop g') t → Steps p.tables e below (T.setTop g) t) : Go p e below Ev T g := by
  obtain ⟨U, o, h1, h2⟩ := K
  exact ⟨U, o, st _ h1, h2⟩
/-- what a body leaves -/
abbrev EndQ (s : State) (Q : Option Value → Heap → List Loc → Prop) (K N : Nat) : State → Outcome → Prop := fun U o => ∃ (v : Option Value) (L : List Loc), o = .returned v ∧ Q v U.heap L ∧ FrameEnd s o U L K N
theorem own_met {x : MethodName} {code : ByteArray} {ml : Nat} {ret : Option FieldType} {ws : List Jvm.Cond} {rm : Room} {as : Array Value} {h0 : Heap} {Q : Option Value → Heap → List Loc → Prop} {K N : Nat} {Ls : Array Slot} (hpn : plainFor x = true) (hef : ∀ m, entryFrame m as ml = mkF m 0 Ls [])
    (body : ∀ (p : Program) (e : Env) (s : State) (m : MethodId) (below : List Frame) (meth : Method) (c : Code) (T : State), Stand p l e rm s m as below meth c T [] 0 0 → p.tables.exec = Jvm.exec → c.code = code → c.maxLocals = ml → meth.sig.returnType = ret → meth.locks = false → meth.name = x.name → s.vm.findClass x.cls = some m.cls → Z.Warmed39 s.vm → T.heap = h0 → Go p e below (EndQ s Q K N) T (mkF m 0 Ls [])) :
    MetFree l x (head1 (Jvm.Cond.code x code ml ret :: ws) rm) (fun a U => a = as ∧ Z.Warmed39 U.vm ∧ U.heap = h0) (fun _ _ _ _ _ => True) (fun _ U o U' => ∃ v L, o = .returned v ∧ Q v U'.heap L ∧ FrameEnd U o U' L K N) := by
  refine MetFree.of_bodySF hpn hisR ?_
  intro p e s m args below meth c s₁ Bd hml0 hP hK
  obtain ⟨rfl, hZ, hh⟩ := hP
  have e0 : s₁.heap = h0 := by rw [← hh, Bd.state]; rfl
  obtain ⟨U, o, h1, h2, h3, h4⟩ := body p e s m below meth c s₁ (Stand.of_body Bd) Bd.exec Bd.bytes hml0 Bd.returns (BodyLoose.notSynchronized Bd) (name_of_methodNamed Bd.named Bd.method).1 (findClass_of_methodNamed Bd.named) hZ e0
  rw [← hef m] at h1
  exact ⟨U, o, h1, h2, h3, h4⟩
theorem g_leave (X : Stand p l e R s m args below meth c T locs cells slots) (hlk : meth.locks = false) {Q : Option Value → Heap → List Loc → Prop} {K N : Nat} {g : JFrame} {v : Option Value} (hv : meth.sig.returnType = none → v = none) (hK : cells ≤ K) (hN : slots ≤ N) (eT : T.heap = h) (hQ : Q v h locs)
    (hst : ∀ fs, (∀ (f : JFrame) (acts : List Action), f.method = m → f.locked = none → f.entered = [] → (doReturn e (T.setTop f) acts v).1 = T.setFrames fs) → Steps p.tables e below (T.setTop g) (T.setFrames fs)) : Go p e below (EndQ s Q K N) T g := by
  obtain ⟨fs, hr, hrun, hended, hW, hsame⟩ := X.leave (v := v) hv hlk
  exact ⟨_, _, hst fs hr, hrun, hended, _, _, rfl, by rw [show (T.setFrames fs).heap = T.heap from rfl, eT]; exact hQ, ⟨_, rfl⟩, hW, hsame.mono hK hN⟩
theorem g_retI (X : Stand p l e R s m args below meth c T locs cells slots) (hx : p.tables.exec = Jvm.exec) (hlk : meth.locks = false) {Q : Option Value → Heap → List Loc → Prop} {K N : Nat} {pc : Nat} {Ls : Array Slot} {z : Int32} {rest : List Value} (hret : meth.sig.returnType = some .int) (hd : decode c.code pc = .ok (.ireturn, 1)) (hK : cells ≤ K) (hN : slots ≤ N) (eT : T.heap = h) (hQ : Q (some (.int z)) h locs) : Go p e below (EndQ s Q K N) T (mkF m pc Ls (.int z :: rest)) :=
  g_leave X hlk (fun q => by rw [hret] at q; cases q) hK hN eT hQ (fun fs hr => retOut X hx hret rfl (Or.inl ⟨rfl, Or.inl rfl, _, rfl⟩) hd hr)
theorem g_retZ (X : Stand p l e R s m args below meth c T locs cells slots) (hx : p.tables.exec = Jvm.exec) (hlk : meth.locks = false) {Q : Option Value → Heap → List Loc → Prop} {K N : Nat} {pc : Nat} {Ls : Array Slot} {z : Int32} {rest : List Value} (hret : meth.sig.returnType = some .boolean) (hd : decode c.code pc = .ok (.ireturn, 1)) (hK : cells ≤ K) (hN : slots ≤ N) (eT : T.heap = h) (hQ : Q (some (.int (nar .boolean z))) h locs) : Go p e below (EndQ s Q K N) T (mkF m pc Ls (.int z :: rest)) :=
  g_leave X hlk (fun q => by rw [hret] at q; cases q) hK hN eT hQ (fun fs hr => retN X hx (t := .boolean) hret (by simp) hd hr)
theorem g_retD (X : Stand p l e R s m args below meth c T locs cells slots) (hx : p.tables.exec = Jvm.exec) (hlk : meth.locks = false) {Q : Option Value → Heap → List Loc → Prop} {K N : Nat} {pc : Nat} {Ls : Array Slot} {z : UInt64} {rest : List Value} (hret : meth.sig.returnType = some .double) (hd : decode c.code pc = .ok (.dreturn, 1)) (hK : cells ≤ K) (hN : slots ≤ N) (eT : T.heap = h) (hQ : Q (some (.double z)) h locs) : Go p e below (EndQ s Q K N) T (mkF m pc Ls (.double z :: rest)) :=
  g_leave X hlk (fun q => by rw [hret] at q; cases q) hK hN eT hQ (fun fs hr => retOut X hx hret rfl (Or.inr (Or.inr (Or.inl ⟨rfl, rfl, _, rfl⟩))) hd hr)
theorem g_retJ (X : Stand p l e R s m args below meth c T locs cells slots) (hx : p.tables.exec = Jvm.exec) (hlk : meth.locks = false) {Q : Option Value → Heap → List Loc → Prop} {K N : Nat} {pc : Nat} {Ls : Array Slot} {z : Int64} {rest : List Value} (hret : meth.sig.returnType = some .long) (hd : decode c.code pc = .ok (.lreturn, 1)) (hK : cells ≤ K) (hN : slots ≤ N) (eT : T.heap = h) (hQ : Q (some (.long z)) h locs) : Go p e below (EndQ s Q K N) T (mkF m pc Ls (.long z :: rest)) :=
  g_leave X hlk (fun q => by rw [hret] at q; cases q) hK hN eT hQ (fun fs hr => retOut X hx hret rfl (Or.inr (Or.inl ⟨rfl, rfl, _, rfl⟩)) hd hr)
theorem g_retA (X : Stand p l e R s m args below meth c T locs cells slots) (hx : p.tables.exec = Jvm.exec) (hlk : meth.locks = false) {Q : Option Value → Heap → List Loc → Prop} {K N : Nat} {pc : Nat} {Ls : Array Slot} {w : Value} {rest : List Value} {t : FieldType} (hret : meth.sig.returnType = some t) (ht : t.isReference = true) (hw : w.isRef = true) (hn : narrow t w = w) (hd : decode c.code pc = .ok (.areturn, 1)) (hK : cells ≤ K) (hN : slots ≤ N) (eT : T.heap = h) (hQ : Q (some w) h locs) : Go p e below (EndQ s Q K N) T (mkF m pc Ls (w :: rest)) :=
  g_leave X hlk (fun q => by rw [hret] at q; cases q) hK hN eT hQ (fun fs hr => retOut X hx hret hn (Or.inr (Or.inr (Or.inr (Or.inr ⟨rfl, ht, hw⟩)))) hd hr)
theorem g_retV (X : Stand p l e R s m args below meth c T locs cells slots) (hx : p.tables.exec = Jvm.exec) (hlk : meth.locks = false) {Q : Option Value → Heap → List Loc → Prop} {K N : Nat} {pc : Nat} {Ls : Array Slot} (hret : meth.sig.returnType = none) (hd : decode c.code pc = .ok (.return_, 1)) (hK : cells ≤ K) (hN : slots ≤ N) (eT : T.heap = h) (hQ : Q none h locs) : Go p e below (EndQ s Q K N) T (mkF m pc Ls []) :=
  g_leave X hlk (fun _ => rfl) hK hN eT hQ (fun fs hr => X.returnOut hx hret hd hr)
theorem g_iloadN (X : Stand p l e R s m args below meth c T locs cells slots) (hx : p.tables.exec = Jvm.exec) {pc : Nat} {Ls : Array Slot} {st : List Value} {k : Fin 4} {v : Int32} (q : Nat) (hd : decode c.code pc = .ok (.iload_n k, 1)) (hq : pc + 1 = q) (hl : Ls[k.val]? = some (.val (.int v))) (K : Go p e below Ev T (mkF m q Ls (.int v :: st))) : Go p e below Ev T (mkF m pc Ls st) := by
  subst hq
  exact K.on fun _ k => XS.iloadN X.here hx rfl hd hl k
theorem g_iload (X : Stand p l e R s m args below meth c T locs cells slots) (hx : p.tables.exec = Jvm.exec) {pc : Nat} {Ls : Array Slot} {st : List Value} {k : Nat} {v : Int32} (q : Nat) (hd : decode c.code pc = .ok (.iload k, 2)) (hq : pc + 2 = q) (hl : Ls[k]? = some (.val (.int v))) (K : Go p e below Ev T (mkF m q Ls (.int v :: st))) : Go p e below Ev T (mkF m pc Ls st) := by
  subst hq
  exact K.on fun _ k => XS.iload X.here hx rfl hd hl k
theorem g_istoreN (X : Stand p l e R s m args below meth c T locs cells slots) (hx : p.tables.exec = Jvm.exec) {pc : Nat} {Ls : Array Slot} {st : List Value} {k : Fin 4} {v : Int32} {l' : Array Slot} (q : Nat) (hd : decode c.code pc = .ok (.istore_n k, 1)) (hq : pc + 1 = q) (hl : storeLocals Ls k.val (.int v) = some l') (K : Go p e below Ev T (mkF m q l' st)) : Go p e below Ev T (mkF m pc Ls (.int v :: st)) := by
  subst hq
  exact K.on fun _ k => XS.istoreN X.here hx rfl hd rfl hl k
theorem g_istore (X : Stand p l e R s m args below meth c T locs cells slots) (hx : p.tables.exec = Jvm.exec) {pc : Nat} {Ls : Array Slot} {st : List Value} {k : Nat} {v : Int32} {l' : Array Slot} (q : Nat) (hd : decode c.code pc = .ok (.istore k, 2)) (hq : pc + 2 = q) (hl : storeLocals Ls k (.int v) = some l') (K : Go p e below Ev T (mkF m q l' st)) : Go p e below Ev T (mkF m pc Ls (.int v :: st)) := by
  subst hq
  exact K.on fun _ k => XS.istore X.here hx rfl hd rfl hl k
theorem g_lloadN (X : Stand p l e R s m args below meth c T locs cells slots) (hx : p.tables.exec = Jvm.exec) {pc : Nat} {Ls : Array Slot} {st : List Value} {k : Fin 4} {v : Int64} (q : Nat) (hd : decode c.code pc = .ok (.lload_n k, 1)) (hq : pc + 1 = q) (hl : Ls[k.val]? = some (.val (.long v))) (K : Go p e below Ev T (mkF m q Ls (.long v :: st))) : Go p e below Ev T (mkF m pc Ls st) := by
  subst hq
  exact K.on fun _ k => XS.lloadN X.here hx rfl hd hl k
theorem g_lload (X : Stand p l e R s m args below meth c T locs cells slots) (hx : p.tables.exec = Jvm.exec) {pc : Nat} {Ls : Array Slot} {st : List Value} {k : Nat} {v : Int64} (q : Nat) (hd : decode c.code pc = .ok (.lload k, 2)) (hq : pc + 2 = q) (hl : Ls[k]? = some (.val (.long v))) (K : Go p e below Ev T (mkF m q Ls (.long v :: st))) : Go p e below Ev T (mkF m pc Ls st) := by
  subst hq
  exact K.on fun _ k => XS.lload X.here hx rfl hd hl k
theorem g_lstoreN (X : Stand p l e R s m args below meth c T locs cells slots) (hx : p.tables.exec = Jvm.exec) {pc : Nat} {Ls : Array Slot} {st : List Value} {k : Fin 4} {v : Int64} {l' : Array Slot} (q : Nat) (hd : decode c.code pc = .ok (.lstore_n k, 1)) (hq : pc + 1 = q) (hl : storeLocals Ls k.val (.long v) = some l') (K : Go p e below Ev T (mkF m q l' st)) : Go p e below Ev T (mkF m pc Ls (.long v :: st)) := by
  subst hq
  exact K.on fun _ k => XS.lstoreN X.here hx rfl hd rfl hl k
theorem g_lstore (X : Stand p l e R s m args below meth c T locs cells slots) (hx : p.tables.exec = Jvm.exec) {pc : Nat} {Ls : Array Slot} {st : List Value} {k : Nat} {v : Int64} {l' : Array Slot} (q : Nat) (hd : decode c.code pc = .ok (.lstore k, 2)) (hq : pc + 2 = q) (hl : storeLocals Ls k (.long v) = some l') (K : Go p e below Ev T (mkF m q l' st)) : Go p e below Ev T (mkF m pc Ls (.long v :: st)) := by
  subst hq
  exact K.on fun _ k => XS.lstore X.here hx rfl hd rfl hl k
theorem g_dloadN (X : Stand p l e R s m args below meth c T locs cells slots) (hx : p.tables.exec = Jvm.exec) {pc : Nat} {Ls : Array Slot} {st : List Value} {k : Fin 4} {v : UInt64} (q : Nat) (hd : decode c.code pc = .ok (.dload_n k, 1)) (hq : pc + 1 = q) (hl : Ls[k.val]? = some (.val (.double v))) (K : Go p e below Ev T (mkF m q Ls (.double v :: st))) : Go p e below Ev T (mkF m pc Ls st) := by
  subst hq
  exact K.on fun _ k => XS.dloadN X.here hx rfl hd hl k
theorem g_dload (X : Stand p l e R s m args below meth c T locs cells slots) (hx : p.tables.exec = Jvm.exec) {pc : Nat} {Ls : Array Slot} {st : List Value} {k : Nat} {v : UInt64} (q : Nat) (hd : decode c.code pc = .ok (.dload k, 2)) (hq : pc + 2 = q) (hl : Ls[k]? = some (.val (.double v))) (K : Go p e below Ev T (mkF m q Ls (.double v :: st))) : Go p e below Ev T (mkF m pc Ls st) := by
  subst hq
  exact K.on fun _ k => XS.dload X.here hx rfl hd hl k
theorem g_dstoreN (X : Stand p l e R s m args below meth c T locs cells slots) (hx : p.tables.exec = Jvm.exec) {pc : Nat} {Ls : Array Slot} {st : List Value} {k : Fin 4} {v : UInt64} {l' : Array Slot} (q : Nat) (hd : decode c.code pc = .ok (.dstore_n k, 1)) (hq : pc + 1 = q) (hl : storeLocals Ls k.val (.double v) = some l') (K : Go p e below Ev T (mkF m q l' st)) : Go p e below Ev T (mkF m pc Ls (.double v :: st)) := by
  subst hq
  exact K.on fun _ k => XS.dstoreN X.here hx rfl hd rfl hl k
theorem g_dstore (X : Stand p l e R s m args below meth c T locs cells slots) (hx : p.tables.exec = Jvm.exec) {pc : Nat} {Ls : Array Slot} {st : List Value} {k : Nat} {v : UInt64} {l' : Array Slot} (q : Nat) (hd : decode c.code pc = .ok (.dstore k, 2)) (hq : pc + 2 = q) (hl : storeLocals Ls k (.double v) = some l') (K : Go p e below Ev T (mkF m q l' st)) : Go p e below Ev T (mkF m pc Ls (.double v :: st)) := by
  subst hq
  exact K.on fun _ k => XS.dstore X.here hx rfl hd rfl hl k
theorem g_aloadN (X : Stand p l e R s m args below meth c T locs cells slots) (hx : p.tables.exec = Jvm.exec) {pc : Nat} {Ls : Array Slot} {st : List Value} {k : Fin 4} {v : Value} (q : Nat) (hd : decode c.code pc = .ok (.aload_n k, 1)) (hq : pc + 1 = q) (hl : Ls[k.val]? = some (.val v)) (hv : v.isRef = true) (K : Go p e below Ev T (mkF m q Ls (v :: st))) : Go p e below Ev T (mkF m pc Ls st) := by
  subst hq
  exact K.on fun _ k => XS.aloadN X.here hx rfl hd hl hv k
theorem g_aload (X : Stand p l e R s m args below meth c T locs cells slots) (hx : p.tables.exec = Jvm.exec) {pc : Nat} {Ls : Array Slot} {st : List Value} {k : Nat} {v : Value} (q : Nat) (hd : decode c.code pc = .ok (.aload k, 2)) (hq : pc + 2 = q) (hl : Ls[k]? = some (.val v)) (hv : v.isRef = true) (K : Go p e below Ev T (mkF m q Ls (v :: st))) : Go p e below Ev T (mkF m pc Ls st) := by
  subst hq
  exact K.on fun _ k => XS.aload X.here hx rfl hd hl hv k
theorem g_astoreN (X : Stand p l e R s m args below meth c T locs cells slots) (hx : p.tables.exec = Jvm.exec) {pc : Nat} {Ls : Array Slot} {st : List Value} {k : Fin 4} {v : Value} {l' : Array Slot} (q : Nat) (hd : decode c.code pc = .ok (.astore_n k, 1)) (hq : pc + 1 = q) (hv : v.isRef = true) (hl : storeLocals Ls k.val v = some l') (K : Go p e below Ev T (mkF m q l' st)) : Go p e below Ev T (mkF m pc Ls (v :: st)) := by
  subst hq
  exact K.on fun _ k => XS.astoreN X.here hx rfl hd rfl hv hl k
theorem g_astore (X : Stand p l e R s m args below meth c T locs cells slots) (hx : p.tables.exec = Jvm.exec) {pc : Nat} {Ls : Array Slot} {st : List Value} {k : Nat} {v : Value} {l' : Array Slot} (q : Nat) (hd : decode c.code pc = .ok (.astore k, 2)) (hq : pc + 2 = q) (hv : v.isRef = true) (hl : storeLocals Ls k v = some l') (K : Go p e below Ev T (mkF m q l' st)) : Go p e below Ev T (mkF m pc Ls (v :: st)) := by
  subst hq
  exact K.on fun _ k => XS.astore X.here hx rfl hd rfl hv hl k
theorem g_iconst (X : Stand p l e R s m args below meth c T locs cells slots) (hx : p.tables.exec = Jvm.exec) {pc : Nat} {Ls : Array Slot} {st : List Value} {i : Int} (v : Int32) (q : Nat) (hd : decode c.code pc = .ok (.iconst i, 1)) (hq : pc + 1 = q) (hv : Int32.ofInt i = v) (K : Go p e below Ev T (mkF m q Ls (.int v :: st))) : Go p e below Ev T (mkF m pc Ls st) := by
  subst hq
  exact K.on fun _ k => XT.iconstV X.here hx rfl v hd hv k
theorem g_bipush (X : Stand p l e R s m args below meth c T locs cells slots) (hx : p.tables.exec = Jvm.exec) {pc : Nat} {Ls : Array Slot} {st : List Value} {i : Int} (v : Int32) (q : Nat) (hd : decode c.code pc = .ok (.bipush i, 2)) (hq : pc + 2 = q) (hv : (Int8.ofInt i).toInt32 = v) (K : Go p e below Ev T (mkF m q Ls (.int v :: st))) : Go p e below Ev T (mkF m pc Ls st) := by
  subst hq
  exact K.on fun _ k => XT.bipushV X.here hx rfl v hd hv k
theorem g_sipush (X : Stand p l e R s m args below meth c T locs cells slots) (hx : p.tables.exec = Jvm.exec) {pc : Nat} {Ls : Array Slot} {st : List Value} {i : Int} (v : Int32) (q : Nat) (hd : decode c.code pc = .ok (.sipush i, 3)) (hq : pc + 3 = q) (hv : (Int16.ofInt i).toInt32 = v) (K : Go p e below Ev T (mkF m q Ls (.int v :: st))) : Go p e below Ev T (mkF m pc Ls st) := by
  subst hq
  exact K.on fun _ k => XT.sipushV X.here hx rfl v hd hv k
theorem g_lconst (X : Stand p l e R s m args below meth c T locs cells slots) (hx : p.tables.exec = Jvm.exec) {pc : Nat} {Ls : Array Slot} {st : List Value} {i : Fin 2} (v : Int64) (q : Nat) (hd : decode c.code pc = .ok (.lconst i, 1)) (hq : pc + 1 = q) (hv : Int64.ofNat i = v) (K : Go p e below Ev T (mkF m q Ls (.long v :: st))) : Go p e below Ev T (mkF m pc Ls st) := by
  subst hq
  exact K.on fun _ k => XT.lconstV X.here hx rfl v hd hv k
theorem g_dconst0 (X : Stand p l e R s m args below meth c T locs cells slots) (hx : p.tables.exec = Jvm.exec) {pc : Nat} {Ls : Array Slot} {st : List Value}  (q : Nat) (hd : decode c.code pc = .ok (.dconst 0, 1)) (hq : pc + 1 = q)  (K : Go p e below Ev T (mkF m q Ls (.double 0 :: st))) : Go p e below Ev T (mkF m pc Ls st) := by
  subst hq
  exact K.on fun _ k => XS.dconst0 X.here hx rfl hd rfl k
theorem g_dconst1 (X : Stand p l e R s m args below meth c T locs cells slots) (hx : p.tables.exec = Jvm.exec) {pc : Nat} {Ls : Array Slot} {st : List Value}  (q : Nat) (hd : decode c.code pc = .ok (.dconst 1, 1)) (hq : pc + 1 = q)  (K : Go p e below Ev T (mkF m q Ls (.double 4607182418800017408 :: st))) : Go p e below Ev T (mkF m pc Ls st) := by
  subst hq
  exact K.on fun _ k => XS.dconst1 X.here hx rfl hd rfl k
theorem g_null (X : Stand p l e R s m args below meth c T locs cells slots) (hx : p.tables.exec = Jvm.exec) {pc : Nat} {Ls : Array Slot} {st : List Value}  (q : Nat) (hd : decode c.code pc = .ok (.aconst_null, 1)) (hq : pc + 1 = q)  (K : Go p e below Ev T (mkF m q Ls (.null :: st))) : Go p e below Ev T (mkF m pc Ls st) := by
  subst hq
  exact K.on fun _ k => XS.aconstNull X.here hx rfl hd k
theorem g_iinc (X : Stand p l e R s m args below meth c T locs cells slots) (hx : p.tables.exec = Jvm.exec) {pc : Nat} {Ls : Array Slot} {st : List Value} {k : Nat} {i : Int} {v w : Int32} {l' : Array Slot} (q : Nat) (hd : decode c.code pc = .ok (.iinc k i, 3)) (hq : pc + 3 = q) (hl : Ls[k]? = some (.val (.int v))) (hv : Int32.ofInt i = w) (hl' : storeLocals Ls k (.int (v + w)) = some l') (K : Go p e below Ev T (mkF m q l' st)) : Go p e below Ev T (mkF m pc Ls st) := by
  subst hq
  exact K.on fun _ k => XT.iincV X.here hx rfl w hd hv hl hl' k
theorem g_iadd (X : Stand p l e R s m args below meth c T locs cells slots) (hx : p.tables.exec = Jvm.exec) {pc : Nat} {Ls : Array Slot} {st : List Value} {x y : Int32} (q : Nat) (hd : decode c.code pc = .ok (.iadd, 1)) (hq : pc + 1 = q)  (K : Go p e below Ev T (mkF m q Ls (.int (x + y) :: st))) : Go p e below Ev T (mkF m pc Ls (.int y :: .int x :: st)) := by
  subst hq
  exact K.on fun _ k => XS.iadd X.here hx rfl hd rfl k
theorem g_ladd (X : Stand p l e R s m args below meth c T locs cells slots) (hx : p.tables.exec = Jvm.exec) {pc : Nat} {Ls : Array Slot} {st : List Value} {x y : Int64} (q : Nat) (hd : decode c.code pc = .ok (.ladd, 1)) (hq : pc + 1 = q)  (K : Go p e below Ev T (mkF m q Ls (.long (x + y) :: st))) : Go p e below Ev T (mkF m pc Ls (.long y :: .long x :: st)) := by
  subst hq
  exact K.on fun _ k => XS.ladd X.here hx rfl hd rfl k
theorem g_isub (X : Stand p l e R s m args below meth c T locs cells slots) (hx : p.tables.exec = Jvm.exec) {pc : Nat} {Ls : Array Slot} {st : List Value} {x y : Int32} (q : Nat) (hd : decode c.code pc = .ok (.isub, 1)) (hq : pc + 1 = q)  (K : Go p e below Ev T (mkF m q Ls (.int (x - y) :: st))) : Go p e below Ev T (mkF m pc Ls (.int y :: .int x :: st)) := by
  subst hq
  exact K.on fun _ k => XS.isub X.here hx rfl hd rfl k
theorem g_lsub (X : Stand p l e R s m args below meth c T locs cells slots) (hx : p.tables.exec = Jvm.exec) {pc : Nat} {Ls : Array Slot} {st : List Value} {x y : Int64} (q : Nat) (hd : decode c.code pc = .ok (.lsub, 1)) (hq : pc + 1 = q)  (K : Go p e below Ev T (mkF m q Ls (.long (x - y) :: st))) : Go p e below Ev T (mkF m pc Ls (.long y :: .long x :: st)) := by
  subst hq
  exact K.on fun _ k => XS.lsub X.here hx rfl hd rfl k
theorem g_imul (X : Stand p l e R s m args below meth c T locs cells slots) (hx : p.tables.exec = Jvm.exec) {pc : Nat} {Ls : Array Slot} {st : List Value} {x y : Int32} (q : Nat) (hd : decode c.code pc = .ok (.imul, 1)) (hq : pc + 1 = q)  (K : Go p e below Ev T (mkF m q Ls (.int (x * y) :: st))) : Go p e below Ev T (mkF m pc Ls (.int y :: .int x :: st)) := by
  subst hq
  exact K.on fun _ k => XS.imul X.here hx rfl hd rfl k
theorem g_lmul (X : Stand p l e R s m args below meth c T locs cells slots) (hx : p.tables.exec = Jvm.exec) {pc : Nat} {Ls : Array Slot} {st : List Value} {x y : Int64} (q : Nat) (hd : decode c.code pc = .ok (.lmul, 1)) (hq : pc + 1 = q)  (K : Go p e below Ev T (mkF m q Ls (.long (x * y) :: st))) : Go p e below Ev T (mkF m pc Ls (.long y :: .long x :: st)) := by
  subst hq
  exact K.on fun _ k => XS.lmul X.here hx rfl hd rfl k
theorem g_iand (X : Stand p l e R s m args below meth c T locs cells slots) (hx : p.tables.exec = Jvm.exec) {pc : Nat} {Ls : Array Slot} {st : List Value} {x y : Int32} (q : Nat) (hd : decode c.code pc = .ok (.iand, 1)) (hq : pc + 1 = q)  (K : Go p e below Ev T (mkF m q Ls (.int (x &&& y) :: st))) : Go p e below Ev T (mkF m pc Ls (.int y :: .int x :: st)) := by
  subst hq
  exact K.on fun _ k => XS.iand X.here hx rfl hd rfl k
theorem g_land (X : Stand p l e R s m args below meth c T locs cells slots) (hx : p.tables.exec = Jvm.exec) {pc : Nat} {Ls : Array Slot} {st : List Value} {x y : Int64} (q : Nat) (hd : decode c.code pc = .ok (.land, 1)) (hq : pc + 1 = q)  (K : Go p e below Ev T (mkF m q Ls (.long (x &&& y) :: st))) : Go p e below Ev T (mkF m pc Ls (.long y :: .long x :: st)) := by
  subst hq
  exact K.on fun _ k => XS.land X.here hx rfl hd rfl k
theorem g_ior (X : Stand p l e R s m args below meth c T locs cells slots) (hx : p.tables.exec = Jvm.exec) {pc : Nat} {Ls : Array Slot} {st : List Value} {x y : Int32} (q : Nat) (hd : decode c.code pc = .ok (.ior, 1)) (hq : pc + 1 = q)  (K : Go p e below Ev T (mkF m q Ls (.int (x ||| y) :: st))) : Go p e below Ev T (mkF m pc Ls (.int y :: .int x :: st)) := by
  subst hq
  exact K.on fun _ k => XS.ior X.here hx rfl hd rfl k
theorem g_lor (X : Stand p l e R s m args below meth c T locs cells slots) (hx : p.tables.exec = Jvm.exec) {pc : Nat} {Ls : Array Slot} {st : List Value} {x y : Int64} (q : Nat) (hd : decode c.code pc = .ok (.lor, 1)) (hq : pc + 1 = q)  (K : Go p e below Ev T (mkF m q Ls (.long (x ||| y) :: st))) : Go p e below Ev T (mkF m pc Ls (.long y :: .long x :: st)) := by
  subst hq
  exact K.on fun _ k => XS.lor X.here hx rfl hd rfl k
theorem g_ixor (X : Stand p l e R s m args below meth c T locs cells slots) (hx : p.tables.exec = Jvm.exec) {pc : Nat} {Ls : Array Slot} {st : List Value} {x y : Int32} (q : Nat) (hd : decode c.code pc = .ok (.ixor, 1)) (hq : pc + 1 = q)  (K : Go p e below Ev T (mkF m q Ls (.int (x ^^^ y) :: st))) : Go p e below Ev T (mkF m pc Ls (.int y :: .int x :: st)) := by
  subst hq
  exact K.on fun _ k => XS.ixor X.here hx rfl hd rfl k
theorem g_lxor (X : Stand p l e R s m args below meth c T locs cells slots) (hx : p.tables.exec = Jvm.exec) {pc : Nat} {Ls : Array Slot} {st : List Value} {x y : Int64} (q : Nat) (hd : decode c.code pc = .ok (.lxor, 1)) (hq : pc + 1 = q)  (K : Go p e below Ev T (mkF m q Ls (.long (x ^^^ y) :: st))) : Go p e below Ev T (mkF m pc Ls (.long y :: .long x :: st)) := by
  subst hq
  exact K.on fun _ k => XS.lxor X.here hx rfl hd rfl k
theorem g_idiv (X : Stand p l e R s m args below meth c T locs cells slots) (hx : p.tables.exec = Jvm.exec) {pc : Nat} {Ls : Array Slot} {st : List Value} {x y : Int32} (q : Nat) (hd : decode c.code pc = .ok (.idiv, 1)) (hq : pc + 1 = q) (hy : y ≠ 0) (K : Go p e below Ev T (mkF m q Ls (.int (x / y) :: st))) : Go p e below Ev T (mkF m pc Ls (.int y :: .int x :: st)) := by
  subst hq
  exact K.on fun _ k => XS.idiv X.here hx rfl hd rfl hy k
theorem g_ineg (X : Stand p l e R s m args below meth c T locs cells slots) (hx : p.tables.exec = Jvm.exec) {pc : Nat} {Ls : Array Slot} {st : List Value} {x : Int32} (q : Nat) (hd : decode c.code pc = .ok (.ineg, 1)) (hq : pc + 1 = q)  (K : Go p e below Ev T (mkF m q Ls (.int (-x) :: st))) : Go p e below Ev T (mkF m pc Ls (.int x :: st)) := by
  subst hq
  exact K.on fun _ k => XS.ineg X.here hx rfl hd rfl k
theorem g_ldiv (X : Stand p l e R s m args below meth c T locs cells slots) (hx : p.tables.exec = Jvm.exec) {pc : Nat} {Ls : Array Slot} {st : List Value} {x y : Int64} (q : Nat) (hd : decode c.code pc = .ok (.ldiv, 1)) (hq : pc + 1 = q) (hy : y ≠ 0) (K : Go p e below Ev T (mkF m q Ls (.long (x / y) :: st))) : Go p e below Ev T (mkF m pc Ls (.long y :: .long x :: st)) := by
  subst hq
  exact K.on fun _ k => XS.ldiv X.here hx rfl hd rfl hy k
theorem g_lneg (X : Stand p l e R s m args below meth c T locs cells slots) (hx : p.tables.exec = Jvm.exec) {pc : Nat} {Ls : Array Slot} {st : List Value} {x : Int64} (q : Nat) (hd : decode c.code pc = .ok (.lneg, 1)) (hq : pc + 1 = q)  (K : Go p e below Ev T (mkF m q Ls (.long (-x) :: st))) : Go p e below Ev T (mkF m pc Ls (.long x :: st)) := by
  subst hq
  exact K.on fun _ k => XS.lneg X.here hx rfl hd rfl k
theorem g_irem (X : Stand p l e R s m args below meth c T locs cells slots) (hx : p.tables.exec = Jvm.exec) {pc : Nat} {Ls : Array Slot} {st : List Value} {x y : Int32} (q : Nat) (hd : decode c.code pc = .ok (.irem, 1)) (hq : pc + 1 = q) (hy : y ≠ 0) (K : Go p e below Ev T (mkF m q Ls (.int (x % y) :: st))) : Go p e below Ev T (mkF m pc Ls (.int y :: .int x :: st)) := by
  subst hq
  exact K.on fun _ k => iremM X hx rfl hd rfl hy k
theorem g_lrem (X : Stand p l e R s m args below meth c T locs cells slots) (hx : p.tables.exec = Jvm.exec) {pc : Nat} {Ls : Array Slot} {st : List Value} {x y : Int64} (q : Nat) (hd : decode c.code pc = .ok (.lrem, 1)) (hq : pc + 1 = q) (hy : y ≠ 0) (K : Go p e below Ev T (mkF m q Ls (.long (x - (x / y) * y) :: st))) : Go p e below Ev T (mkF m pc Ls (.long y :: .long x :: st)) := by
  subst hq
  exact K.on fun _ k => XS.lrem X.here hx rfl hd rfl hy k
theorem g_ishl (X : Stand p l e R s m args below meth c T locs cells slots) (hx : p.tables.exec = Jvm.exec) {pc : Nat} {Ls : Array Slot} {st : List Value} {x y : Int32} (q : Nat) (hd : decode c.code pc = .ok (.ishl, 1)) (hq : pc + 1 = q)  (K : Go p e below Ev T (mkF m q Ls (.int (x <<< (y &&& 31)) :: st))) : Go p e below Ev T (mkF m pc Ls (.int y :: .int x :: st)) := by
  subst hq
  exact K.on fun _ k => XS.ishl X.here hx rfl hd rfl k
theorem g_ishr (X : Stand p l e R s m args below meth c T locs cells slots) (hx : p.tables.exec = Jvm.exec) {pc : Nat} {Ls : Array Slot} {st : List Value} {x y : Int32} (q : Nat) (hd : decode c.code pc = .ok (.ishr, 1)) (hq : pc + 1 = q)  (K : Go p e below Ev T (mkF m q Ls (.int (x >>> (y &&& 31)) :: st))) : Go p e below Ev T (mkF m pc Ls (.int y :: .int x :: st)) := by
  subst hq
  exact K.on fun _ k => XS.ishr X.here hx rfl hd rfl k
theorem g_iushr (X : Stand p l e R s m args below meth c T locs cells slots) (hx : p.tables.exec = Jvm.exec) {pc : Nat} {Ls : Array Slot} {st : List Value} {x y : Int32} (q : Nat) (hd : decode c.code pc = .ok (.iushr, 1)) (hq : pc + 1 = q)  (K : Go p e below Ev T (mkF m q Ls (.int ((x.toUInt32 >>> (y &&& 31).toUInt32).toInt32) :: st))) : Go p e below Ev T (mkF m pc Ls (.int y :: .int x :: st)) := by
  subst hq
  exact K.on fun _ k => XS.iushr X.here hx rfl hd rfl k
theorem g_lshl (X : Stand p l e R s m args below meth c T locs cells slots) (hx : p.tables.exec = Jvm.exec) {pc : Nat} {Ls : Array Slot} {st : List Value} {x : Int64} {y : Int32} (q : Nat) (hd : decode c.code pc = .ok (.lshl, 1)) (hq : pc + 1 = q)  (K : Go p e below Ev T (mkF m q Ls (.long (x <<< (y &&& 0x3f).toInt64) :: st))) : Go p e below Ev T (mkF m pc Ls (.int y :: .long x :: st)) := by
  subst hq
  exact K.on fun _ k => XS.lshl X.here hx rfl hd rfl k
theorem g_lshr (X : Stand p l e R s m args below meth c T locs cells slots) (hx : p.tables.exec = Jvm.exec) {pc : Nat} {Ls : Array Slot} {st : List Value} {x : Int64} {y : Int32} (q : Nat) (hd : decode c.code pc = .ok (.lshr, 1)) (hq : pc + 1 = q)  (K : Go p e below Ev T (mkF m q Ls (.long (x >>> (y &&& 0x3f).toInt64) :: st))) : Go p e below Ev T (mkF m pc Ls (.int y :: .long x :: st)) := by
  subst hq
  exact K.on fun _ k => XS.lshr X.here hx rfl hd rfl k
theorem g_lushr (X : Stand p l e R s m args below meth c T locs cells slots) (hx : p.tables.exec = Jvm.exec) {pc : Nat} {Ls : Array Slot} {st : List Value} {x : Int64} {y : Int32} (q : Nat) (hd : decode c.code pc = .ok (.lushr, 1)) (hq : pc + 1 = q)  (K : Go p e below Ev T (mkF m q Ls (.long ((x.toUInt64 >>> (y &&& 0x3f).toInt64.toUInt64).toInt64) :: st))) : Go p e below Ev T (mkF m pc Ls (.int y :: .long x :: st)) := by
  subst hq
  exact K.on fun _ k => XS.lushr X.here hx rfl hd rfl k
theorem g_i2l (X : Stand p l e R s m args below meth c T locs cells slots) (hx : p.tables.exec = Jvm.exec) {pc : Nat} {Ls : Array Slot} {st : List Value} {x : Int32} (q : Nat) (hd : decode c.code pc = .ok (.i2l, 1)) (hq : pc + 1 = q)  (K : Go p e below Ev T (mkF m q Ls (.long (x.toInt64) :: st))) : Go p e below Ev T (mkF m pc Ls (.int x :: st)) := by
  subst hq
  exact K.on fun _ k => XS.i2l X.here hx rfl hd rfl k
theorem g_l2i (X : Stand p l e R s m args below meth c T locs cells slots) (hx : p.tables.exec = Jvm.exec) {pc : Nat} {Ls : Array Slot} {st : List Value} {x : Int64} (q : Nat) (hd : decode c.code pc = .ok (.l2i, 1)) (hq : pc + 1 = q)  (K : Go p e below Ev T (mkF m q Ls (.int (x.toInt32) :: st))) : Go p e below Ev T (mkF m pc Ls (.long x :: st)) := by
  subst hq
  exact K.on fun _ k => XS.l2i X.here hx rfl hd rfl k
theorem g_i2b (X : Stand p l e R s m args below meth c T locs cells slots) (hx : p.tables.exec = Jvm.exec) {pc : Nat} {Ls : Array Slot} {st : List Value} {x : Int32} (q : Nat) (hd : decode c.code pc = .ok (.i2b, 1)) (hq : pc + 1 = q)  (K : Go p e below Ev T (mkF m q Ls (.int (x.toInt8.toInt32) :: st))) : Go p e below Ev T (mkF m pc Ls (.int x :: st)) := by
  subst hq
  exact K.on fun _ k => XS.i2b X.here hx rfl hd rfl k
theorem g_i2s (X : Stand p l e R s m args below meth c T locs cells slots) (hx : p.tables.exec = Jvm.exec) {pc : Nat} {Ls : Array Slot} {st : List Value} {x : Int32} (q : Nat) (hd : decode c.code pc = .ok (.i2s, 1)) (hq : pc + 1 = q)  (K : Go p e below Ev T (mkF m q Ls (.int (x.toInt16.toInt32) :: st))) : Go p e below Ev T (mkF m pc Ls (.int x :: st)) := by
  subst hq
  exact K.on fun _ k => XS.i2s X.here hx rfl hd rfl k
theorem g_i2c (X : Stand p l e R s m args below meth c T locs cells slots) (hx : p.tables.exec = Jvm.exec) {pc : Nat} {Ls : Array Slot} {st : List Value} {x : Int32} (q : Nat) (hd : decode c.code pc = .ok (.i2c, 1)) (hq : pc + 1 = q)  (K : Go p e below Ev T (mkF m q Ls (.int (x.toUInt32.toUInt16.toUInt32.toInt32) :: st))) : Go p e below Ev T (mkF m pc Ls (.int x :: st)) := by
  subst hq
  exact K.on fun _ k => XS.i2c X.here hx rfl hd rfl k
theorem g_lcmp (X : Stand p l e R s m args below meth c T locs cells slots) (hx : p.tables.exec = Jvm.exec) {pc : Nat} {Ls : Array Slot} {st : List Value} {x y : Int64} (q : Nat) (hd : decode c.code pc = .ok (.lcmp, 1)) (hq : pc + 1 = q)  (K : Go p e below Ev T (mkF m q Ls (.int (lcmpW x y) :: st))) : Go p e below Ev T (mkF m pc Ls (.long y :: .long x :: st)) := by
  subst hq
  exact K.on fun _ k => XS.lcmp X.here hx rfl hd rfl k
theorem g_i2d (X : Stand p l e R s m args below meth c T locs cells slots) (hx : p.tables.exec = Jvm.exec) {pc : Nat} {Ls : Array Slot} {st : List Value} {x : Int32} (q : Nat) (hd : decode c.code pc = .ok (.i2d, 1)) (hq : pc + 1 = q)  (K : Go p e below Ev T (mkF m q Ls (.double (FP.i2d x) :: st))) : Go p e below Ev T (mkF m pc Ls (.int x :: st)) := by
  subst hq
  exact K.on fun _ k => XS.i2dS X.here hx rfl hd rfl rfl k
theorem g_l2d (X : Stand p l e R s m args below meth c T locs cells slots) (hx : p.tables.exec = Jvm.exec) {pc : Nat} {Ls : Array Slot} {st : List Value} {x : Int64} (q : Nat) (hd : decode c.code pc = .ok (.l2d, 1)) (hq : pc + 1 = q)  (K : Go p e below Ev T (mkF m q Ls (.double (FP.l2d x) :: st))) : Go p e below Ev T (mkF m pc Ls (.long x :: st)) := by
  subst hq
  exact K.on fun _ k => XS.l2dS X.here hx rfl hd rfl rfl k
theorem g_dneg (X : Stand p l e R s m args below meth c T locs cells slots) (hx : p.tables.exec = Jvm.exec) {pc : Nat} {Ls : Array Slot} {st : List Value} {x : UInt64} (q : Nat) (hd : decode c.code pc = .ok (.dneg, 1)) (hq : pc + 1 = q)  (K : Go p e below Ev T (mkF m q Ls (.double (FP.dneg x) :: st))) : Go p e below Ev T (mkF m pc Ls (.double x :: st)) := by
  subst hq
  exact K.on fun _ k => XS.dnegS X.here hx rfl hd rfl rfl k
theorem g_dadd (X : Stand p l e R s m args below meth c T locs cells slots) (hx : p.tables.exec = Jvm.exec) {pc : Nat} {Ls : Array Slot} {st : List Value} {x y : UInt64} (q : Nat) (hd : decode c.code pc = .ok (.dadd, 1)) (hq : pc + 1 = q) (hn : Jvm.Free.Fl.NoNaN64 (FP.dadd x y)) (K : Go p e below Ev T (mkF m q Ls (.double (FP.dadd x y) :: st))) : Go p e below Ev T (mkF m pc Ls (.double y :: .double x :: st)) := by
  subst hq
  exact K.on fun _ k => XS.daddS X.here hx rfl hd rfl hn rfl k
theorem g_dsub (X : Stand p l e R s m args below meth c T locs cells slots) (hx : p.tables.exec = Jvm.exec) {pc : Nat} {Ls : Array Slot} {st : List Value} {x y : UInt64} (q : Nat) (hd : decode c.code pc = .ok (.dsub, 1)) (hq : pc + 1 = q) (hn : Jvm.Free.Fl.NoNaN64 (FP.dsub x y)) (K : Go p e below Ev T (mkF m q Ls (.double (FP.dsub x y) :: st))) : Go p e below Ev T (mkF m pc Ls (.double y :: .double x :: st)) := by
  subst hq
  exact K.on fun _ k => XS.dsubS X.here hx rfl hd rfl hn rfl k
theorem g_dmul (X : Stand p l e R s m args below meth c T locs cells slots) (hx : p.tables.exec = Jvm.exec) {pc : Nat} {Ls : Array Slot} {st : List Value} {x y : UInt64} (q : Nat) (hd : decode c.code pc = .ok (.dmul, 1)) (hq : pc + 1 = q) (hn : Jvm.Free.Fl.NoNaN64 (FP.dmul x y)) (K : Go p e below Ev T (mkF m q Ls (.double (FP.dmul x y) :: st))) : Go p e below Ev T (mkF m pc Ls (.double y :: .double x :: st)) := by
  subst hq
  exact K.on fun _ k => XS.dmulS X.here hx rfl hd rfl hn rfl k
theorem g_ddiv (X : Stand p l e R s m args below meth c T locs cells slots) (hx : p.tables.exec = Jvm.exec) {pc : Nat} {Ls : Array Slot} {st : List Value} {x y : UInt64} (q : Nat) (hd : decode c.code pc = .ok (.ddiv, 1)) (hq : pc + 1 = q) (hn : Jvm.Free.Fl.NoNaN64 (FP.ddiv x y)) (K : Go p e below Ev T (mkF m q Ls (.double (FP.ddiv x y) :: st))) : Go p e below Ev T (mkF m pc Ls (.double y :: .double x :: st)) := by
  subst hq
  exact K.on fun _ k => XS.ddivS X.here hx rfl hd rfl hn rfl k
theorem g_dcmp (X : Stand p l e R s m args below meth c T locs cells slots) (hx : p.tables.exec = Jvm.exec) {pc : Nat} {Ls : Array Slot} {st : List Value} {x y : UInt64} {o : CmpOp} {r : Int32} (q : Nat) (hd : decode c.code pc = .ok (.dcmp o, 1)) (hq : pc + 1 = q) (hr : cmpValue (FP.dcmp x y) o = r) (K : Go p e below Ev T (mkF m q Ls (.int r :: st))) : Go p e below Ev T (mkF m pc Ls (.double y :: .double x :: st)) := by
  subst hq
  exact K.on fun _ k => XS.dcmpS X.here hx rfl hd rfl hr k
theorem g_dup (X : Stand p l e R s m args below meth c T locs cells slots) (hx : p.tables.exec = Jvm.exec) {pc : Nat} {Ls : Array Slot} {st : List Value} {x : Value} (q : Nat) (hd : decode c.code pc = .ok (.dup, 1)) (hq : pc + 1 = q) (hc : x.category = 1) (K : Go p e below Ev T (mkF m q Ls (x :: x :: st))) : Go p e below Ev T (mkF m pc Ls (x :: st)) := by
  subst hq
  exact K.on fun _ k => XS.dup X.here hx rfl hd rfl hc k
theorem g_pop (X : Stand p l e R s m args below meth c T locs cells slots) (hx : p.tables.exec = Jvm.exec) {pc : Nat} {Ls : Array Slot} {st : List Value} {x : Value} (q : Nat) (hd : decode c.code pc = .ok (.pop, 1)) (hq : pc + 1 = q) (hc : x.category = 1) (K : Go p e below Ev T (mkF m q Ls st)) : Go p e below Ev T (mkF m pc Ls (x :: st)) := by
  subst hq
  exact K.on fun _ k => XS.pop X.here hx rfl hd rfl hc k
theorem g_dupX1 (X : Stand p l e R s m args below meth c T locs cells slots) (hx : p.tables.exec = Jvm.exec) {pc : Nat} {Ls : Array Slot} {st : List Value} {x y : Value} (q : Nat) (hd : decode c.code pc = .ok (.dup_x1, 1)) (hq : pc + 1 = q) (hc : x.category = 1) (hc' : y.category = 1) (K : Go p e below Ev T (mkF m q Ls (x :: y :: x :: st))) : Go p e below Ev T (mkF m pc Ls (x :: y :: st)) := by
  subst hq
  exact K.on fun _ k => XS.dupX1 X.here hx rfl hd rfl hc hc' k
theorem g_dup2 (X : Stand p l e R s m args below meth c T locs cells slots) (hx : p.tables.exec = Jvm.exec) {pc : Nat} {Ls : Array Slot} {st : List Value} {x y : Value} (q : Nat) (hd : decode c.code pc = .ok (.dup2, 1)) (hq : pc + 1 = q) (hc : x.category = 1) (hc' : y.category = 1) (K : Go p e below Ev T (mkF m q Ls (x :: y :: x :: y :: st))) : Go p e below Ev T (mkF m pc Ls (x :: y :: st)) := by
  subst hq
  exact K.on fun _ k => XT.dup2 X.here hx rfl hd rfl hc hc' k
theorem g_ldcI (X : Stand p l e R s m args below meth c T locs cells slots) (hx : p.tables.exec = Jvm.exec) {pc : Nat} {Ls : Array Slot} {st : List Value} {own : String} {i : Nat} {v : Int32} (q : Nat) (hZ : Z.Warmed39 s.vm) (hown : s.vm.findClass own = some m.cls) (w : (Jvm.Cond.constant own i v).before a0 Z = true) (hd : decode c.code pc = .ok (.ldc i, 2)) (hq : pc + 2 = q) (K : Go p e below Ev T (mkF m q Ls (.int v :: st))) : Go p e below Ev T (mkF m pc Ls st) := by
  subst hq
  exact K.on fun _ k => X.ldcI hx hown (mvT hZ w) rfl hd k
theorem g_ldcWI (X : Stand p l e R s m args below meth c T locs cells slots) (hx : p.tables.exec = Jvm.exec) {pc : Nat} {Ls : Array Slot} {st : List Value} {own : String} {i : Nat} {v : Int32} (q : Nat) (hZ : Z.Warmed39 s.vm) (hown : s.vm.findClass own = some m.cls) (w : (Jvm.Cond.constant own i v).before a0 Z = true) (hd : decode c.code pc = .ok (.ldc_w i, 3)) (hq : pc + 3 = q) (K : Go p e below Ev T (mkF m q Ls (.int v :: st))) : Go p e below Ev T (mkF m pc Ls st) := by
  subst hq
  exact K.on fun _ k => X.ldcWI hx hown (mvT hZ w) rfl hd k
theorem g_ldc2J (X : Stand p l e R s m args below meth c T locs cells slots) (hx : p.tables.exec = Jvm.exec) {pc : Nat} {Ls : Array Slot} {st : List Value} {own : String} {i : Nat} {v : Int64} (q : Nat) (hZ : Z.Warmed39 s.vm) (hown : s.vm.findClass own = some m.cls) (w : (Jvm.Cond.constantLong own i v).before a0 Z = true) (hd : decode c.code pc = .ok (.ldc2_w i, 3)) (hq : pc + 3 = q) (K : Go p e below Ev T (mkF m q Ls (.long v :: st))) : Go p e below Ev T (mkF m pc Ls st) := by
  subst hq
  exact K.on fun _ k => X.ldc2J hx hown (mvT hZ w) rfl hd k
theorem g_ldc2D (X : Stand p l e R s m args below meth c T locs cells slots) (hx : p.tables.exec = Jvm.exec) {pc : Nat} {Ls : Array Slot} {st : List Value} {own : String} {i : Nat} {v : UInt64} (q : Nat) (hZ : Z.Warmed39 s.vm) (hown : s.vm.findClass own = some m.cls) (w : (Jvm.Cond.constantDouble own i v).before a0 Z = true) (hd : decode c.code pc = .ok (.ldc2_w i, 3)) (hq : pc + 3 = q) (K : Go p e below Ev T (mkF m q Ls (.double v :: st))) : Go p e below Ev T (mkF m pc Ls st) := by
  subst hq
  exact K.on (X.ldc2DoubleC hx hown (mvT hZ w) (g := mkF m pc Ls st) rfl hd)
theorem g_goto (X : Stand p l e R s m args below meth c T locs cells slots) (hx : p.tables.exec = Jvm.exec) {pc : Nat} {Ls : Array Slot} {st : List Value} {o : Int} (q : Nat) (hd : decode c.code pc = .ok (.goto o, 3)) (ho : 0 ≤ (pc : Int) + o) (hq : ((pc : Int) + o).toNat = q) (K : Go p e below Ev T (mkF m q Ls st)) : Go p e below Ev T (mkF m pc Ls st) :=
  K.on fun _ k => XS.goto X.here hx rfl rfl hd ho hq k
theorem own_i0 (x : Int32) : (x < 0 ↔ x.toInt < 0) ∧ (0 < x ↔ 0 < x.toInt) ∧ (x = 0 ↔ x.toInt = 0) := by
  refine ⟨by rw [Int32.lt_iff_toInt_lt]; simp, by rw [Int32.lt_iff_toInt_lt]; simp, ?_⟩
  rw [← Int32.toInt_inj]; simp
theorem g_if_eq (X : Stand p l e R s m args below meth c T locs cells slots) (hx : p.tables.exec = Jvm.exec) {pc : Nat} {Ls : Array Slot} {st : List Value} {x : Int32} {o : Int} (q1 q2 : Nat) (hd : decode c.code pc = .ok (.ifCond .eq o, 3)) (ho : 0 ≤ (pc : Int) + o) (h1 : ((pc : Int) + o).toNat = q1) (h2 : pc + 3 = q2) (Kt : x.toInt = 0 → Go p e below Ev T (mkF m q1 Ls st)) (Kf : x.toInt ≠ 0 → Go p e below Ev T (mkF m q2 Ls st)) : Go p e below Ev T (mkF m pc Ls (.int x :: st)) := by
  have Q := own_i0 x
  by_cases hc : x = 0
  · exact (Kt (by first | omega | (simp only [Q] at hc; omega))).on fun _ k => XS.ifYes X.here hx rfl rfl hd rfl (XT.i0_eq_t (by simpa using hc)) ho h1 k
  · subst h2
    exact (Kf (by first | omega | (simp only [Q] at hc; omega))).on fun _ k => XS.ifNo X.here hx rfl hd rfl (XT.i0_eq_f (by simpa using hc)) k
theorem g_if_ne (X : Stand p l e R s m args below meth c T locs cells slots) (hx : p.tables.exec = Jvm.exec) {pc : Nat} {Ls : Array Slot} {st : List Value} {x : Int32} {o : Int} (q1 q2 : Nat) (hd : decode c.code pc = .ok (.ifCond .ne o, 3)) (ho : 0 ≤ (pc : Int) + o) (h1 : ((pc : Int) + o).toNat = q1) (h2 : pc + 3 = q2) (Kt : x.toInt ≠ 0 → Go p e below Ev T (mkF m q1 Ls st)) (Kf : x.toInt = 0 → Go p e below Ev T (mkF m q2 Ls st)) : Go p e below Ev T (mkF m pc Ls (.int x :: st)) := by
  have Q := own_i0 x
  by_cases hc : ¬ x = 0
  · exact (Kt (by first | omega | (simp only [Q] at hc; omega))).on fun _ k => XS.ifYes X.here hx rfl rfl hd rfl (XT.i0_ne_t (by simpa using hc)) ho h1 k
  · subst h2
    exact (Kf (by first | omega | (simp only [Q] at hc; omega))).on fun _ k => XS.ifNo X.here hx rfl hd rfl (XT.i0_ne_f (by simpa using hc)) k
theorem g_if_lt (X : Stand p l e R s m args below meth c T locs cells slots) (hx : p.tables.exec = Jvm.exec) {pc : Nat} {Ls : Array Slot} {st : List Value} {x : Int32} {o : Int} (q1 q2 : Nat) (hd : decode c.code pc = .ok (.ifCond .lt o, 3)) (ho : 0 ≤ (pc : Int) + o) (h1 : ((pc : Int) + o).toNat = q1) (h2 : pc + 3 = q2) (Kt : x.toInt < 0 → Go p e below Ev T (mkF m q1 Ls st)) (Kf : 0 ≤ x.toInt → Go p e below Ev T (mkF m q2 Ls st)) : Go p e below Ev T (mkF m pc Ls (.int x :: st)) := by
  have Q := own_i0 x
  by_cases hc : x < 0
  · exact (Kt (by first | omega | (simp only [Q] at hc; omega))).on fun _ k => XS.ifYes X.here hx rfl rfl hd rfl (XT.i0_lt_t (by simpa using hc)) ho h1 k
  · subst h2
    exact (Kf (by first | omega | (simp only [Q] at hc; omega))).on fun _ k => XS.ifNo X.here hx rfl hd rfl (XT.i0_lt_f (by simpa using hc)) k
theorem g_if_ge (X : Stand p l e R s m args below meth c T locs cells slots) (hx : p.tables.exec = Jvm.exec) {pc : Nat} {Ls : Array Slot} {st : List Value} {x : Int32} {o : Int} (q1 q2 : Nat) (hd : decode c.code pc = .ok (.ifCond .ge o, 3)) (ho : 0 ≤ (pc : Int) + o) (h1 : ((pc : Int) + o).toNat = q1) (h2 : pc + 3 = q2) (Kt : 0 ≤ x.toInt → Go p e below Ev T (mkF m q1 Ls st)) (Kf : x.toInt < 0 → Go p e below Ev T (mkF m q2 Ls st)) : Go p e below Ev T (mkF m pc Ls (.int x :: st)) := by
  have Q := own_i0 x
  by_cases hc : ¬ x < 0
  · exact (Kt (by first | omega | (simp only [Q] at hc; omega))).on fun _ k => XS.ifYes X.here hx rfl rfl hd rfl (XT.i0_ge_t (by simpa using hc)) ho h1 k
  · subst h2
    exact (Kf (by first | omega | (simp only [Q] at hc; omega))).on fun _ k => XS.ifNo X.here hx rfl hd rfl (XT.i0_ge_f (by simpa using hc)) k
theorem g_if_gt (X : Stand p l e R s m args below meth c T locs cells slots) (hx : p.tables.exec = Jvm.exec) {pc : Nat} {Ls : Array Slot} {st : List Value} {x : Int32} {o : Int} (q1 q2 : Nat) (hd : decode c.code pc = .ok (.ifCond .gt o, 3)) (ho : 0 ≤ (pc : Int) + o) (h1 : ((pc : Int) + o).toNat = q1) (h2 : pc + 3 = q2) (Kt : 0 < x.toInt → Go p e below Ev T (mkF m q1 Ls st)) (Kf : x.toInt ≤ 0 → Go p e below Ev T (mkF m q2 Ls st)) : Go p e below Ev T (mkF m pc Ls (.int x :: st)) := by
  have Q := own_i0 x
  by_cases hc : 0 < x
  · exact (Kt (by first | omega | (simp only [Q] at hc; omega))).on fun _ k => XS.ifYes X.here hx rfl rfl hd rfl (XT.i0_gt_t (by simpa using hc)) ho h1 k
  · subst h2
    exact (Kf (by first | omega | (simp only [Q] at hc; omega))).on fun _ k => XS.ifNo X.here hx rfl hd rfl (XT.i0_gt_f (by simpa using hc)) k
theorem g_if_le (X : Stand p l e R s m args below meth c T locs cells slots) (hx : p.tables.exec = Jvm.exec) {pc : Nat} {Ls : Array Slot} {st : List Value} {x : Int32} {o : Int} (q1 q2 : Nat) (hd : decode c.code pc = .ok (.ifCond .le o, 3)) (ho : 0 ≤ (pc : Int) + o) (h1 : ((pc : Int) + o).toNat = q1) (h2 : pc + 3 = q2) (Kt : x.toInt ≤ 0 → Go p e below Ev T (mkF m q1 Ls st)) (Kf : 0 < x.toInt → Go p e below Ev T (mkF m q2 Ls st)) : Go p e below Ev T (mkF m pc Ls (.int x :: st)) := by
  have Q := own_i0 x
  by_cases hc : ¬ 0 < x
  · exact (Kt (by first | omega | (simp only [Q] at hc; omega))).on fun _ k => XS.ifYes X.here hx rfl rfl hd rfl (XT.i0_le_t (by simpa using hc)) ho h1 k
  · subst h2
    exact (Kf (by first | omega | (simp only [Q] at hc; omega))).on fun _ k => XS.ifNo X.here hx rfl hd rfl (XT.i0_le_f (by simpa using hc)) k
theorem own_ii (x y : Int32) : (x < y ↔ x.toInt < y.toInt) ∧ (y < x ↔ y.toInt < x.toInt) ∧ (x = y ↔ x.toInt = y.toInt) := by
  exact ⟨Int32.lt_iff_toInt_lt, Int32.lt_iff_toInt_lt, Int32.toInt_inj.symm⟩
theorem g_ic_eq (X : Stand p l e R s m args below meth c T locs cells slots) (hx : p.tables.exec = Jvm.exec) {pc : Nat} {Ls : Array Slot} {st : List Value} {x y : Int32} {o : Int} (q1 q2 : Nat) (hd : decode c.code pc = .ok (.if_icmp .eq o, 3)) (ho : 0 ≤ (pc : Int) + o) (h1 : ((pc : Int) + o).toNat = q1) (h2 : pc + 3 = q2) (Kt : x.toInt = y.toInt → Go p e below Ev T (mkF m q1 Ls st)) (Kf : x.toInt ≠ y.toInt → Go p e below Ev T (mkF m q2 Ls st)) : Go p e below Ev T (mkF m pc Ls (.int y :: .int x :: st)) := by
  have Q := own_ii x y
  by_cases hc : x = y
  · exact (Kt (by first | omega | (simp only [Q] at hc; omega))).on fun _ k => XS.icmpYes X.here hx rfl rfl hd rfl (XT.ii_eq_t (by simpa using hc)) ho h1 k
  · subst h2
    exact (Kf (by first | omega | (simp only [Q] at hc; omega))).on fun _ k => XS.icmpNo X.here hx rfl hd rfl (XT.ii_eq_f (by simpa using hc)) k
theorem g_ic_ne (X : Stand p l e R s m args below meth c T locs cells slots) (hx : p.tables.exec = Jvm.exec) {pc : Nat} {Ls : Array Slot} {st : List Value} {x y : Int32} {o : Int} (q1 q2 : Nat) (hd : decode c.code pc = .ok (.if_icmp .ne o, 3)) (ho : 0 ≤ (pc : Int) + o) (h1 : ((pc : Int) + o).toNat = q1) (h2 : pc + 3 = q2) (Kt : x.toInt ≠ y.toInt → Go p e below Ev T (mkF m q1 Ls st)) (Kf : x.toInt = y.toInt → Go p e below Ev T (mkF m q2 Ls st)) : Go p e below Ev T (mkF m pc Ls (.int y :: .int x :: st)) := by
  have Q := own_ii x y
  by_cases hc : ¬ x = y
  · exact (Kt (by first | omega | (simp only [Q] at hc; omega))).on fun _ k => XS.icmpYes X.here hx rfl rfl hd rfl (XT.ii_ne_t (by simpa using hc)) ho h1 k
  · subst h2
    exact (Kf (by first | omega | (simp only [Q] at hc; omega))).on fun _ k => XS.icmpNo X.here hx rfl hd rfl (XT.ii_ne_f (by simpa using hc)) k
theorem g_ic_lt (X : Stand p l e R s m args below meth c T locs cells slots) (hx : p.tables.exec = Jvm.exec) {pc : Nat} {Ls : Array Slot} {st : List Value} {x y : Int32} {o : Int} (q1 q2 : Nat) (hd : decode c.code pc = .ok (.if_icmp .lt o, 3)) (ho : 0 ≤ (pc : Int) + o) (h1 : ((pc : Int) + o).toNat = q1) (h2 : pc + 3 = q2) (Kt : x.toInt < y.toInt → Go p e below Ev T (mkF m q1 Ls st)) (Kf : y.toInt ≤ x.toInt → Go p e below Ev T (mkF m q2 Ls st)) : Go p e below Ev T (mkF m pc Ls (.int y :: .int x :: st)) := by
  have Q := own_ii x y
  by_cases hc : x < y
  · exact (Kt (by first | omega | (simp only [Q] at hc; omega))).on fun _ k => XS.icmpYes X.here hx rfl rfl hd rfl (XT.ii_lt_t (by simpa using hc)) ho h1 k
  · subst h2
    exact (Kf (by first | omega | (simp only [Q] at hc; omega))).on fun _ k => XS.icmpNo X.here hx rfl hd rfl (XT.ii_lt_f (by simpa using hc)) k
theorem g_ic_ge (X : Stand p l e R s m args below meth c T locs cells slots) (hx : p.tables.exec = Jvm.exec) {pc : Nat} {Ls : Array Slot} {st : List Value} {x y : Int32} {o : Int} (q1 q2 : Nat) (hd : decode c.code pc = .ok (.if_icmp .ge o, 3)) (ho : 0 ≤ (pc : Int) + o) (h1 : ((pc : Int) + o).toNat = q1) (h2 : pc + 3 = q2) (Kt : y.toInt ≤ x.toInt → Go p e below Ev T (mkF m q1 Ls st)) (Kf : x.toInt < y.toInt → Go p e below Ev T (mkF m q2 Ls st)) : Go p e below Ev T (mkF m pc Ls (.int y :: .int x :: st)) := by
  have Q := own_ii x y
  by_cases hc : ¬ x < y
  · exact (Kt (by first | omega | (simp only [Q] at hc; omega))).on fun _ k => XS.icmpYes X.here hx rfl rfl hd rfl (XT.ii_ge_t (by simpa using hc)) ho h1 k
  · subst h2
    exact (Kf (by first | omega | (simp only [Q] at hc; omega))).on fun _ k => XS.icmpNo X.here hx rfl hd rfl (XT.ii_ge_f (by simpa using hc)) k
theorem g_ic_gt (X : Stand p l e R s m args below meth c T locs cells slots) (hx : p.tables.exec = Jvm.exec) {pc : Nat} {Ls : Array Slot} {st : List Value} {x y : Int32} {o : Int} (q1 q2 : Nat) (hd : decode c.code pc = .ok (.if_icmp .gt o, 3)) (ho : 0 ≤ (pc : Int) + o) (h1 : ((pc : Int) + o).toNat = q1) (h2 : pc + 3 = q2) (Kt : y.toInt < x.toInt → Go p e below Ev T (mkF m q1 Ls st)) (Kf : x.toInt ≤ y.toInt → Go p e below Ev T (mkF m q2 Ls st)) : Go p e below Ev T (mkF m pc Ls (.int y :: .int x :: st)) := by
  have Q := own_ii x y
  by_cases hc : y < x
  · exact (Kt (by first | omega | (simp only [Q] at hc; omega))).on fun _ k => XS.icmpYes X.here hx rfl rfl hd rfl (XT.ii_gt_t (by simpa using hc)) ho h1 k
  · subst h2
    exact (Kf (by first | omega | (simp only [Q] at hc; omega))).on fun _ k => XS.icmpNo X.here hx rfl hd rfl (XT.ii_gt_f (by simpa using hc)) k
theorem g_ic_le (X : Stand p l e R s m args below meth c T locs cells slots) (hx : p.tables.exec = Jvm.exec) {pc : Nat} {Ls : Array Slot} {st : List Value} {x y : Int32} {o : Int} (q1 q2 : Nat) (hd : decode c.code pc = .ok (.if_icmp .le o, 3)) (ho : 0 ≤ (pc : Int) + o) (h1 : ((pc : Int) + o).toNat = q1) (h2 : pc + 3 = q2) (Kt : x.toInt ≤ y.toInt → Go p e below Ev T (mkF m q1 Ls st)) (Kf : y.toInt < x.toInt → Go p e below Ev T (mkF m q2 Ls st)) : Go p e below Ev T (mkF m pc Ls (.int y :: .int x :: st)) := by
  have Q := own_ii x y
  by_cases hc : ¬ y < x
  · exact (Kt (by first | omega | (simp only [Q] at hc; omega))).on fun _ k => XS.icmpYes X.here hx rfl rfl hd rfl (XT.ii_le_t (by simpa using hc)) ho h1 k
  · subst h2
    exact (Kf (by first | omega | (simp only [Q] at hc; omega))).on fun _ k => XS.icmpNo X.here hx rfl hd rfl (XT.ii_le_f (by simpa using hc)) k
theorem g_lc_eq (X : Stand p l e R s m args below meth c T locs cells slots) (hx : p.tables.exec = Jvm.exec) {pc : Nat} {Ls : Array Slot} {st : List Value} {x y : Int64} {o : Int} (q0 q1 q2 : Nat) (hd0 : decode c.code pc = .ok (.lcmp, 1)) (h0 : pc + 1 = q0) (hd : decode c.code q0 = .ok (.ifCond .eq o, 3)) (ho : 0 ≤ (q0 : Int) + o) (h1 : ((q0 : Int) + o).toNat = q1) (h2 : q0 + 3 = q2) (Kt : x.toInt = y.toInt → Go p e below Ev T (mkF m q1 Ls st)) (Kf : x.toInt ≠ y.toInt → Go p e below Ev T (mkF m q2 Ls st)) : Go p e below Ev T (mkF m pc Ls (.long y :: .long x :: st)) := by
  have Q := c_lcmp x y
  have C : x.toInt < y.toInt ∨ x.toInt = y.toInt ∨ y.toInt < x.toInt := by omega
  refine g_lcmp X hx q0 hd0 h0 (g_if_eq X hx q1 q2 hd ho h1 h2 (fun hc => Kt ?_) (fun hc => Kf ?_)) <;> (rcases C with C | C | C <;> first | (have := Q.1 C; omega) | (have := Q.2.1 C; omega) | (have := Q.2.2 C; omega))
theorem g_lc_ne (X : Stand p l e R s m args below meth c T locs cells slots) (hx : p.tables.exec = Jvm.exec) {pc : Nat} {Ls : Array Slot} {st : List Value} {x y : Int64} {o : Int} (q0 q1 q2 : Nat) (hd0 : decode c.code pc = .ok (.lcmp, 1)) (h0 : pc + 1 = q0) (hd : decode c.code q0 = .ok (.ifCond .ne o, 3)) (ho : 0 ≤ (q0 : Int) + o) (h1 : ((q0 : Int) + o).toNat = q1) (h2 : q0 + 3 = q2) (Kt : x.toInt ≠ y.toInt → Go p e below Ev T (mkF m q1 Ls st)) (Kf : x.toInt = y.toInt → Go p e below Ev T (mkF m q2 Ls st)) : Go p e below Ev T (mkF m pc Ls (.long y :: .long x :: st)) := by
  have Q := c_lcmp x y
  have C : x.toInt < y.toInt ∨ x.toInt = y.toInt ∨ y.toInt < x.toInt := by omega
  refine g_lcmp X hx q0 hd0 h0 (g_if_ne X hx q1 q2 hd ho h1 h2 (fun hc => Kt ?_) (fun hc => Kf ?_)) <;> (rcases C with C | C | C <;> first | (have := Q.1 C; omega) | (have := Q.2.1 C; omega) | (have := Q.2.2 C; omega))
theorem g_lc_lt (X : Stand p l e R s m args below meth c T locs cells slots) (hx : p.tables.exec = Jvm.exec) {pc : Nat} {Ls : Array Slot} {st : List Value} {x y : Int64} {o : Int} (q0 q1 q2 : Nat) (hd0 : decode c.code pc = .ok (.lcmp, 1)) (h0 : pc + 1 = q0) (hd : decode c.code q0 = .ok (.ifCond .lt o, 3)) (ho : 0 ≤ (q0 : Int) + o) (h1 : ((q0 : Int) + o).toNat = q1) (h2 : q0 + 3 = q2) (Kt : x.toInt < y.toInt → Go p e below Ev T (mkF m q1 Ls st)) (Kf : y.toInt ≤ x.toInt → Go p e below Ev T (mkF m q2 Ls st)) : Go p e below Ev T (mkF m pc Ls (.long y :: .long x :: st)) := by
  have Q := c_lcmp x y
  have C : x.toInt < y.toInt ∨ x.toInt = y.toInt ∨ y.toInt < x.toInt := by omega
  refine g_lcmp X hx q0 hd0 h0 (g_if_lt X hx q1 q2 hd ho h1 h2 (fun hc => Kt ?_) (fun hc => Kf ?_)) <;> (rcases C with C | C | C <;> first | (have := Q.1 C; omega) | (have := Q.2.1 C; omega) | (have := Q.2.2 C; omega))
theorem g_lc_ge (X : Stand p l e R s m args below meth c T locs cells slots) (hx : p.tables.exec = Jvm.exec) {pc : Nat} {Ls : Array Slot} {st : List Value} {x y : Int64} {o : Int} (q0 q1 q2 : Nat) (hd0 : decode c.code pc = .ok (.lcmp, 1)) (h0 : pc + 1 = q0) (hd : decode c.code q0 = .ok (.ifCond .ge o, 3)) (ho : 0 ≤ (q0 : Int) + o) (h1 : ((q0 : Int) + o).toNat = q1) (h2 : q0 + 3 = q2) (Kt : y.toInt ≤ x.toInt → Go p e below Ev T (mkF m q1 Ls st)) (Kf : x.toInt < y.toInt → Go p e below Ev T (mkF m q2 Ls st)) : Go p e below Ev T (mkF m pc Ls (.long y :: .long x :: st)) := by
  have Q := c_lcmp x y
  have C : x.toInt < y.toInt ∨ x.toInt = y.toInt ∨ y.toInt < x.toInt := by omega
  refine g_lcmp X hx q0 hd0 h0 (g_if_ge X hx q1 q2 hd ho h1 h2 (fun hc => Kt ?_) (fun hc => Kf ?_)) <;> (rcases C with C | C | C <;> first | (have := Q.1 C; omega) | (have := Q.2.1 C; omega) | (have := Q.2.2 C; omega))
theorem g_lc_gt (X : Stand p l e R s m args below meth c T locs cells slots) (hx : p.tables.exec = Jvm.exec) {pc : Nat} {Ls : Array Slot} {st : List Value} {x y : Int64} {o : Int} (q0 q1 q2 : Nat) (hd0 : decode c.code pc = .ok (.lcmp, 1)) (h0 : pc + 1 = q0) (hd : decode c.code q0 = .ok (.ifCond .gt o, 3)) (ho : 0 ≤ (q0 : Int) + o) (h1 : ((q0 : Int) + o).toNat = q1) (h2 : q0 + 3 = q2) (Kt : y.toInt < x.toInt → Go p e below Ev T (mkF m q1 Ls st)) (Kf : x.toInt ≤ y.toInt → Go p e below Ev T (mkF m q2 Ls st)) : Go p e below Ev T (mkF m pc Ls (.long y :: .long x :: st)) := by
  have Q := c_lcmp x y
  have C : x.toInt < y.toInt ∨ x.toInt = y.toInt ∨ y.toInt < x.toInt := by omega
  refine g_lcmp X hx q0 hd0 h0 (g_if_gt X hx q1 q2 hd ho h1 h2 (fun hc => Kt ?_) (fun hc => Kf ?_)) <;> (rcases C with C | C | C <;> first | (have := Q.1 C; omega) | (have := Q.2.1 C; omega) | (have := Q.2.2 C; omega))
theorem g_lc_le (X : Stand p l e R s m args below meth c T locs cells slots) (hx : p.tables.exec = Jvm.exec) {pc : Nat} {Ls : Array Slot} {st : List Value} {x y : Int64} {o : Int} (q0 q1 q2 : Nat) (hd0 : decode c.code pc = .ok (.lcmp, 1)) (h0 : pc + 1 = q0) (hd : decode c.code q0 = .ok (.ifCond .le o, 3)) (ho : 0 ≤ (q0 : Int) + o) (h1 : ((q0 : Int) + o).toNat = q1) (h2 : q0 + 3 = q2) (Kt : x.toInt ≤ y.toInt → Go p e below Ev T (mkF m q1 Ls st)) (Kf : y.toInt < x.toInt → Go p e below Ev T (mkF m q2 Ls st)) : Go p e below Ev T (mkF m pc Ls (.long y :: .long x :: st)) := by
  have Q := c_lcmp x y
  have C : x.toInt < y.toInt ∨ x.toInt = y.toInt ∨ y.toInt < x.toInt := by omega
  refine g_lcmp X hx q0 hd0 h0 (g_if_le X hx q1 q2 hd ho h1 h2 (fun hc => Kt ?_) (fun hc => Kf ?_)) <;> (rcases C with C | C | C <;> first | (have := Q.1 C; omega) | (have := Q.2.1 C; omega) | (have := Q.2.2 C; omega))
theorem own_cmpv (i j : Int) (o : CmpOp) : (i < j → (cmpValue (some (compare i j)) o).toInt = -1) ∧ (i = j → (cmpValue (some (compare i j)) o).toInt = 0) ∧ (j < i → (cmpValue (some (compare i j)) o).toInt = 1) := by
  refine ⟨fun q => ?_, fun q => ?_, fun q => ?_⟩
  · rw [show compare i j = .lt from by rw [Jvm.FP.Core.compare_ite]; simp [q]]; cases o <;> rfl
  · rw [show compare i j = .eq from by rw [Jvm.FP.Core.compare_ite]; simp [q]]; cases o <;> rfl
  · rw [show compare i j = .gt from by rw [Jvm.FP.Core.compare_ite]; simp [show ¬ i < j by omega, show ¬ i = j by omega]]; cases o <;> rfl
theorem g_dc_eq (X : Stand p l e R s m args below meth c T locs cells slots) (hx : p.tables.exec = Jvm.exec) {pc : Nat} {Ls : Array Slot} {st : List Value} {x y : UInt64} {oo : CmpOp} {i j : Int} {o : Int} (q0 q1 q2 : Nat) (hd0 : decode c.code pc = .ok (.dcmp oo, 1)) (h0 : pc + 1 = q0) (hd : decode c.code q0 = .ok (.ifCond .eq o, 3)) (ho : 0 ≤ (q0 : Int) + o) (h1 : ((q0 : Int) + o).toNat = q1) (h2 : q0 + 3 = q2) (hv : FP.dcmp x y = some (compare i j)) (Kt : i = j → Go p e below Ev T (mkF m q1 Ls st)) (Kf : i ≠ j → Go p e below Ev T (mkF m q2 Ls st)) : Go p e below Ev T (mkF m pc Ls (.double y :: .double x :: st)) := by
  have Q := own_cmpv i j oo
  have C : i < j ∨ i = j ∨ j < i := by omega
  refine g_dcmp X hx q0 hd0 h0 (by rw [hv]) (g_if_eq X hx q1 q2 hd ho h1 h2 (fun hc => Kt ?_) (fun hc => Kf ?_)) <;> (rcases C with C | C | C <;> first | (have := Q.1 C; omega) | (have := Q.2.1 C; omega) | (have := Q.2.2 C; omega))
theorem g_dc_ne (X : Stand p l e R s m args below meth c T locs cells slots) (hx : p.tables.exec = Jvm.exec) {pc : Nat} {Ls : Array Slot} {st : List Value} {x y : UInt64} {oo : CmpOp} {i j : Int} {o : Int} (q0 q1 q2 : Nat) (hd0 : decode c.code pc = .ok (.dcmp oo, 1)) (h0 : pc + 1 = q0) (hd : decode c.code q0 = .ok (.ifCond .ne o, 3)) (ho : 0 ≤ (q0 : Int) + o) (h1 : ((q0 : Int) + o).toNat = q1) (h2 : q0 + 3 = q2) (hv : FP.dcmp x y = some (compare i j)) (Kt : i ≠ j → Go p e below Ev T (mkF m q1 Ls st)) (Kf : i = j → Go p e below Ev T (mkF m q2 Ls st)) : Go p e below Ev T (mkF m pc Ls (.double y :: .double x :: st)) := by
  have Q := own_cmpv i j oo
  have C : i < j ∨ i = j ∨ j < i := by omega
  refine g_dcmp X hx q0 hd0 h0 (by rw [hv]) (g_if_ne X hx q1 q2 hd ho h1 h2 (fun hc => Kt ?_) (fun hc => Kf ?_)) <;> (rcases C with C | C | C <;> first | (have := Q.1 C; omega) | (have := Q.2.1 C; omega) | (have := Q.2.2 C; omega))
theorem g_dc_lt (X : Stand p l e R s m args below meth c T locs cells slots) (hx : p.tables.exec = Jvm.exec) {pc : Nat} {Ls : Array Slot} {st : List Value} {x y : UInt64} {oo : CmpOp} {i j : Int} {o : Int} (q0 q1 q2 : Nat) (hd0 : decode c.code pc = .ok (.dcmp oo, 1)) (h0 : pc + 1 = q0) (hd : decode c.code q0 = .ok (.ifCond .lt o, 3)) (ho : 0 ≤ (q0 : Int) + o) (h1 : ((q0 : Int) + o).toNat = q1) (h2 : q0 + 3 = q2) (hv : FP.dcmp x y = some (compare i j)) (Kt : i < j → Go p e below Ev T (mkF m q1 Ls st)) (Kf : j ≤ i → Go p e below Ev T (mkF m q2 Ls st)) : Go p e below Ev T (mkF m pc Ls (.double y :: .double x :: st)) := by
  have Q := own_cmpv i j oo
  have C : i < j ∨ i = j ∨ j < i := by omega
  refine g_dcmp X hx q0 hd0 h0 (by rw [hv]) (g_if_lt X hx q1 q2 hd ho h1 h2 (fun hc => Kt ?_) (fun hc => Kf ?_)) <;> (rcases C with C | C | C <;> first | (have := Q.1 C; omega) | (have := Q.2.1 C; omega) | (have := Q.2.2 C; omega))
theorem g_dc_ge (X : Stand p l e R s m args below meth c T locs cells slots) (hx : p.tables.exec = Jvm.exec) {pc : Nat} {Ls : Array Slot} {st : List Value} {x y : UInt64} {oo : CmpOp} {i j : Int} {o : Int} (q0 q1 q2 : Nat) (hd0 : decode c.code pc = .ok (.dcmp oo, 1)) (h0 : pc + 1 = q0) (hd : decode c.code q0 = .ok (.ifCond .ge o, 3)) (ho : 0 ≤ (q0 : Int) + o) (h1 : ((q0 : Int) + o).toNat = q1) (h2 : q0 + 3 = q2) (hv : FP.dcmp x y = some (compare i j)) (Kt : j ≤ i → Go p e below Ev T (mkF m q1 Ls st)) (Kf : i < j → Go p e below Ev T (mkF m q2 Ls st)) : Go p e below Ev T (mkF m pc Ls (.double y :: .double x :: st)) := by
  have Q := own_cmpv i j oo
  have C : i < j ∨ i = j ∨ j < i := by omega
  refine g_dcmp X hx q0 hd0 h0 (by rw [hv]) (g_if_ge X hx q1 q2 hd ho h1 h2 (fun hc => Kt ?_) (fun hc => Kf ?_)) <;> (rcases C with C | C | C <;> first | (have := Q.1 C; omega) | (have := Q.2.1 C; omega) | (have := Q.2.2 C; omega))
theorem g_dc_gt (X : Stand p l e R s m args below meth c T locs cells slots) (hx : p.tables.exec = Jvm.exec) {pc : Nat} {Ls : Array Slot} {st : List Value} {x y : UInt64} {oo : CmpOp} {i j : Int} {o : Int} (q0 q1 q2 : Nat) (hd0 : decode c.code pc = .ok (.dcmp oo, 1)) (h0 : pc + 1 = q0) (hd : decode c.code q0 = .ok (.ifCond .gt o, 3)) (ho : 0 ≤ (q0 : Int) + o) (h1 : ((q0 : Int) + o).toNat = q1) (h2 : q0 + 3 = q2) (hv : FP.dcmp x y = some (compare i j)) (Kt : j < i → Go p e below Ev T (mkF m q1 Ls st)) (Kf : i ≤ j → Go p e below Ev T (mkF m q2 Ls st)) : Go p e below Ev T (mkF m pc Ls (.double y :: .double x :: st)) := by
  have Q := own_cmpv i j oo
  have C : i < j ∨ i = j ∨ j < i := by omega
  refine g_dcmp X hx q0 hd0 h0 (by rw [hv]) (g_if_gt X hx q1 q2 hd ho h1 h2 (fun hc => Kt ?_) (fun hc => Kf ?_)) <;> (rcases C with C | C | C <;> first | (have := Q.1 C; omega) | (have := Q.2.1 C; omega) | (have := Q.2.2 C; omega))
theorem g_dc_le (X : Stand p l e R s m args below meth c T locs cells slots) (hx : p.tables.exec = Jvm.exec) {pc : Nat} {Ls : Array Slot} {st : List Value} {x y : UInt64} {oo : CmpOp} {i j : Int} {o : Int} (q0 q1 q2 : Nat) (hd0 : decode c.code pc = .ok (.dcmp oo, 1)) (h0 : pc + 1 = q0) (hd : decode c.code q0 = .ok (.ifCond .le o, 3)) (ho : 0 ≤ (q0 : Int) + o) (h1 : ((q0 : Int) + o).toNat = q1) (h2 : q0 + 3 = q2) (hv : FP.dcmp x y = some (compare i j)) (Kt : i ≤ j → Go p e below Ev T (mkF m q1 Ls st)) (Kf : j < i → Go p e below Ev T (mkF m q2 Ls st)) : Go p e below Ev T (mkF m pc Ls (.double y :: .double x :: st)) := by
  have Q := own_cmpv i j oo
  have C : i < j ∨ i = j ∨ j < i := by omega
  refine g_dcmp X hx q0 hd0 h0 (by rw [hv]) (g_if_le X hx q1 q2 hd ho h1 h2 (fun hc => Kt ?_) (fun hc => Kf ?_)) <;> (rcases C with C | C | C <;> first | (have := Q.1 C; omega) | (have := Q.2.1 C; omega) | (have := Q.2.2 C; omega))
theorem g_ifnull_t (X : Stand p l e R s m args below meth c T locs cells slots) (hx : p.tables.exec = Jvm.exec) {pc : Nat} {Ls : Array Slot} {st : List Value} {o : Int} (q : Nat) (hd : decode c.code pc = .ok (.ifnull o, 3)) (ho : 0 ≤ (pc : Int) + o) (h1 : ((pc : Int) + o).toNat = q) (K : Go p e below Ev T (mkF m q Ls st)) : Go p e below Ev T (mkF m pc Ls (.null :: st)) :=
  K.on fun _ k => XS.ifnullYes X.here hx rfl rfl hd rfl ho h1 k
theorem g_ifnull_f (X : Stand p l e R s m args below meth c T locs cells slots) (hx : p.tables.exec = Jvm.exec) {pc : Nat} {Ls : Array Slot} {st : List Value} {o : Int} {b : Addr} (q : Nat) (hd : decode c.code pc = .ok (.ifnull o, 3)) (h1 : pc + 3 = q) (K : Go p e below Ev T (mkF m q Ls st)) : Go p e below Ev T (mkF m pc Ls (.ref b :: st)) := by
  subst h1
  exact K.on fun _ k => XS.ifnullNo X.here hx rfl hd rfl k
theorem g_ifnonnull_t (X : Stand p l e R s m args below meth c T locs cells slots) (hx : p.tables.exec = Jvm.exec) {pc : Nat} {Ls : Array Slot} {st : List Value} {o : Int} {b : Addr} (q : Nat) (hd : decode c.code pc = .ok (.ifnonnull o, 3)) (ho : 0 ≤ (pc : Int) + o) (h1 : ((pc : Int) + o).toNat = q) (K : Go p e below Ev T (mkF m q Ls st)) : Go p e below Ev T (mkF m pc Ls (.ref b :: st)) :=
  K.on fun _ k => XS.ifnonnullYes X.here hx rfl rfl hd rfl ho h1 k
theorem g_ifnonnull_f (X : Stand p l e R s m args below meth c T locs cells slots) (hx : p.tables.exec = Jvm.exec) {pc : Nat} {Ls : Array Slot} {st : List Value} {o : Int} (q : Nat) (hd : decode c.code pc = .ok (.ifnonnull o, 3)) (h1 : pc + 3 = q) (K : Go p e below Ev T (mkF m q Ls st)) : Go p e below Ev T (mkF m pc Ls (.null :: st)) := by
  subst h1
  exact K.on fun _ k => XS.ifnonnullNo X.here hx rfl hd rfl k
theorem g_new (X : Stand p l e R s m args below meth c T locs cells slots) (hx : p.tables.exec = Jvm.exec) {pc : Nat} {Ls : Array Slot} {st : List Value} (hZ : Z.Warmed39 s.vm) {own C : String} {i n : Nat} (hown : s.vm.findClass own = some m.cls) (w : (Jvm.Cond.classLink own i C).before a0 Z = true) (wi : (Jvm.Cond.instantiable C n).before a0 Z = true) (wz : (Jvm.Cond.initialized C).before a0 Z = true) (eT : T.heap = h) (q : Nat) (hd : decode c.code pc = .ok (.new i, 3)) (hq : pc + 3 = q) (hc : cells + 1 ≤ R.cells) (hl : slots + n ≤ R.slots)
    (K : ∀ (T' : State) (h' : Heap) (a : Addr), a = h.size → Stand p l e R s m args below meth c T' locs (cells + 1) (slots + n) → T'.heap = h' → Ext h h' → Exa Z h' a C → (∀ {O nm d : String} {ty : FieldType}, Laid Z a0 C O nm d → parseFieldDescriptor d = some ty → Fld Z h' a O nm d (defaultValue ty)) → Go p e below Ev T' (mkF m q Ls (.ref a :: st))) : Go p e below Ev T (mkF m pc Ls st) := by
  subst hq
  obtain ⟨T', h', X', e', E', A', D', -, st'⟩ := newO X hx hZ hown w wi wz eT (g := mkF m pc Ls st) rfl hd hc hl
  exact (K T' h' _ rfl X' e' E' A' D').on st'
theorem g_getF (X : Stand p l e R s m args below meth c T locs cells slots) (hx : p.tables.exec = Jvm.exec) {pc : Nat} {Ls : Array Slot} {st : List Value} (hZ : Z.Warmed39 s.vm) {own R0 O n d : String} {i : Nat} (hown : s.vm.findClass own = some m.cls) (w : (Jvm.Cond.fieldLink own i R0 n d).before a0 Z = true) (via : Via Z R0 O n d) (eT : T.heap = h) {a : Addr} {v : Value} (F : Fld Z h a O n d v) (q : Nat) (hd : decode c.code pc = .ok (.getfield i, 3)) (hq : pc + 3 = q) (K : ∀ T', Stand p l e R s m args below meth c T' locs cells slots → T'.heap = h → Go p e below Ev T' (mkF m q Ls (v :: st))) : Go p e below Ev T (mkF m pc Ls (.ref a :: st)) := by
  subst hq
  obtain ⟨T', X', e', st'⟩ := getF X hx hZ hown (host := "") (Or.inl w) via eT F (g := mkF m pc Ls (.ref a :: st)) rfl rfl hd
  exact (K T' X' e').on st'
theorem g_putF (X : Stand p l e R s m args below meth c T locs cells slots) (hx : p.tables.exec = Jvm.exec) {pc : Nat} {Ls : Array Slot} {st : List Value} (hZ : Z.Warmed39 s.vm) {own R0 O n d C : String} {i kk : Nat} {ty : FieldType} (hown : s.vm.findClass own = some m.cls) (w : (Jvm.Cond.fieldLink own i R0 n d).before a0 Z = true) (via : Via Z R0 O n d) (eT : T.heap = h) {a : Addr} {v old : Value} (F : Fld Z h a O n d old) (E : Exa Z h a C) (L : (Jvm.Cond.lays C O n d).before a0 Z = true ∨ ((Jvm.Cond.laysFinal C O n d).before a0 Z = true ∧ own = O ∧ meth.name = "<init>")) (wi : (Jvm.Cond.instantiable C kk).before a0 Z = true) (hty : parseFieldDescriptor d = some ty) (hn : narrow ty v = v) (hf : fits ty v = true) (q : Nat) (hd : decode c.code pc = .ok (.putfield i, 3)) (hq : pc + 3 = q)
    (K : ∀ T' h', Stand p l e R s m args below meth c T' (locs ++ [⟨a, Jvm.RoadKit.slotOf Z O n d⟩]) cells slots → T'.heap = h' → Wr h h' a (Jvm.RoadKit.slotOf Z O n d) v → Go p e below Ev T' (mkF m q Ls st)) : Go p e below Ev T (mkF m pc Ls (v :: .ref a :: st)) := by
  subst hq
  obtain ⟨T', h', X', e', W', st'⟩ := putF X hx hZ hown (host := "") (Or.inl w) via eT F E L wi hty hn hf (g := mkF m pc Ls (v :: .ref a :: st)) rfl rfl hd
  exact (K T' h' X' e' W').on st'
theorem g_objinit (X : Stand p l e R s m args below meth c T locs cells slots) (hx : p.tables.exec = Jvm.exec) {pc : Nat} {Ls : Array Slot} {st : List Value} (hZ : Z.Warmed39 s.vm) {own : String} {i : Nat} (hown : s.vm.findClass own = some m.cls) (w1 : (Jvm.Cond.methodLink own i ⟨"java/lang/Object", "<init>", "()V"⟩).before a0 Z = true) (w2 : (Jvm.Cond.instanceMethod ⟨"java/lang/Object", "<init>", "()V"⟩).before a0 Z = true) (w3 : (Jvm.Cond.code ⟨"java/lang/Object", "<init>", "()V"⟩ object_method_1_code 1 none).before a0 Z = true) (eT : T.heap = h) {a : Addr} (W : Nat) (q : Nat) (hd : decode c.code pc = .ok (.invokespecial i, 3)) (hq : pc + 3 = q) (hsz : Ls.size = c.maxLocals) (hf : 1 ≤ R.frames) (hW : (st.map fun v => v.category).sum ≤ W) (hl : W + 12 ≤ R.locals) (K : ∀ T', Stand p l e R s m args below meth c T' locs cells slots → T'.heap = h → Go p e below Ev T' (mkF m q Ls st)) : Go p e below Ev T (mkF m pc Ls (.ref a :: st)) := by
  subst hq
  obtain ⟨T', X', e', st'⟩ := initO X hx hZ hown w1 w2 w3 eT (g := mkF m pc Ls (.ref a :: st)) rfl hsz rfl hd hf (W := W) (by show 2 * 0 + _ ≤ _; omega) hl
  exact (K T' X' e').on st'
theorem g_static (X : Stand p l e R s m args below meth c T locs cells slots) (hx : p.tables.exec = Jvm.exec) {pc : Nat} {Ls : Array Slot} {st : List Value} (hZ : Z.Warmed39 s.vm) {own : String} {i : Nat} {y : MethodName} {bytes : ByteArray} {maxL : Nat} {ret : Option FieldType} {rm : Room} {as' : Array Value} {Q : Option Value → Heap → List Loc → Prop} {argsL rest : List Value} (hown : s.vm.findClass own = some m.cls) (w1 : (Jvm.Cond.methodLink own i y).before a0 Z = true) (w2 : (Jvm.Cond.static y).before a0 Z = true) (w3 : (Jvm.Cond.initialized y.cls).before a0 Z = true) (w4 : (Jvm.Cond.code y bytes maxL ret).before a0 Z = true) (hy : y.cls ≠ "java/lang/invoke/MethodHandle" ∧ y.cls ≠ "java/lang/invoke/VarHandle") (hM : MetFree l y (head1 [Jvm.Cond.code y bytes maxL ret] rm) (fun a U => a = as' ∧ Z.Warmed39 U.vm ∧ U.heap = h) (fun _ _ _ _ _ => True) (fun _ U o U' => ∃ v L, o = .returned v ∧ Q v U'.heap L ∧ FrameEnd U o U' L rm.cells rm.slots)) (eT : T.heap = h) (hst : st = argsL.reverse ++ rest) (has : argsL.toArray = as') (W : Nat) (q : Nat) (hq : pc + 3 = q) (hsz : Ls.size = c.maxLocals) (hlen : ∀ sig, parseMethodDescriptor y.desc = some sig → argsL.length = sig.parameters.length) (hW : (rest.map fun v => v.category).sum ≤ W) (hf : rm.frames + 1 ≤ R.frames) (hl : W + (maxL + 11) + rm.locals ≤ R.locals) (hc : cells + rm.cells ≤ R.cells) (hs : slots + rm.slots ≤ R.slots) (hd : decode c.code pc = .ok (.invokestatic i, 3))
    (K : ∀ (v : Option Value) (T' : State) (L : List Loc), Stand p l e R s m args below meth c T' (locs ++ L) (cells + rm.cells) (slots + rm.slots) → Q v T'.heap L → Go p e below Ev T' (mkF m q Ls (v.toList ++ rest))) : Go p e below Ev T (mkF m pc Ls st) := by
  subst hq hst
  obtain ⟨v, vm1, ⟨T', L', k', n'⟩, -, X', ⟨L, hQ, l', y', z'⟩, st'⟩ := Jvm.LawKit.callS X hx hown (mvT hZ w1) (mvT hZ w2) (mvT hZ w3) (mvT hZ w4) hy (backOf (W := W) hM hZ w4 w3 hf hl) (g := mkF m pc Ls (argsL.reverse ++ rest)) rfl hsz (argsL := argsL) (rest := rest) hlen rfl (by show 2 * 0 + _ ≤ _; omega) hd (fun _ _ => ⟨has, eT, hc, hs⟩)
  dsimp only [Pt.U, Pt.locs, Pt.cells, Pt.slots] at X' l' y' z' st' hQ
  subst l' y' z'
  exact (K v T' L X' hQ).on fun t k => st' t k
theorem g_init (X : Stand p l e R s m args below meth c T locs cells slots) (hx : p.tables.exec = Jvm.exec) {pc : Nat} {Ls : Array Slot} {st : List Value} (hZ : Z.Warmed39 s.vm) {own : String} {i : Nat} {y : MethodName} {bytes : ByteArray} {maxL : Nat} {rm : Room} {as' : Array Value} {Q : Option Value → Heap → List Loc → Prop} {argsL rest : List Value} (hy1 : y.name = "<init>") (hown : s.vm.findClass own = some m.cls) (w1 : (Jvm.Cond.methodLink own i y).before a0 Z = true) (w2 : (Jvm.Cond.instanceMethod y).before a0 Z = true) (w3 : (Jvm.Cond.initialized y.cls).before a0 Z = true) (w4 : (Jvm.Cond.code y bytes maxL none).before a0 Z = true) (hy : y.cls ≠ "java/lang/invoke/MethodHandle" ∧ y.cls ≠ "java/lang/invoke/VarHandle") (hM : MetFree l y (head1 [Jvm.Cond.code y bytes maxL none] rm) (fun a U => a = as' ∧ Z.Warmed39 U.vm ∧ U.heap = h) (fun _ _ _ _ _ => True) (fun _ U o U' => ∃ v L, o = .returned v ∧ Q v U'.heap L ∧ FrameEnd U o U' L rm.cells rm.slots)) (eT : T.heap = h) {a : Addr} (hst : st = argsL.reverse ++ .ref a :: rest) (has : (.ref a :: argsL).toArray = as') (W : Nat) (q : Nat) (hq : pc + 3 = q) (hsz : Ls.size = c.maxLocals) (hlen : ∀ sig, parseMethodDescriptor y.desc = some sig → argsL.length = sig.parameters.length) (hW : (rest.map fun v => v.category).sum ≤ W) (hf : rm.frames + 1 ≤ R.frames) (hl : W + (maxL + 11) + rm.locals ≤ R.locals) (hc : cells + rm.cells ≤ R.cells) (hs : slots + rm.slots ≤ R.slots) (hd : decode c.code pc = .ok (.invokespecial i, 3))
    (K : ∀ (v : Option Value) (T' : State) (L : List Loc), Stand p l e R s m args below meth c T' (locs ++ L) (cells + rm.cells) (slots + rm.slots) → Q v T'.heap L → Go p e below Ev T' (mkF m q Ls (v.toList ++ rest))) : Go p e below Ev T (mkF m pc Ls st) := by
  subst hq hst
  obtain ⟨v, vm1, ⟨T', L', k', n'⟩, -, X', ⟨L, hQ, l', y', z'⟩, st'⟩ := X.specialBack hx hy1 hown (mvT hZ w1) (mvT hZ w2) (mvT hZ w4) hy (backOf (W := W) hM hZ w4 w3 hf hl) (g := mkF m pc Ls (argsL.reverse ++ .ref a :: rest)) rfl hsz (Steps.refl _) (a := a) (argsL := argsL) (rest := rest) hlen rfl (by show 2 * 0 + _ ≤ _; omega) hd (fun _ _ => ⟨has, eT, hc, hs⟩)
  dsimp only [Pt.U, Pt.locs, Pt.cells, Pt.slots] at X' l' y' z' st' hQ
  subst l' y' z'
  exact (K v T' L X' hQ).on fun t k => st'.trans k
theorem g_virt (X : Stand p l e R s m args below meth c T locs cells slots) (hx : p.tables.exec = Jvm.exec) {pc : Nat} {Ls : Array Slot} {st : List Value} (hZ : Z.Warmed39 s.vm) {own : String} {i : Nat} {y z : MethodName} {C : String} {bytes : ByteArray} {maxL : Nat} {ret : Option FieldType} {rm : Room} {as' : Array Value} {Q : Option Value → Heap → List Loc → Prop} {argsL rest : List Value} (hown : s.vm.findClass own = some m.cls) (w1 : (Jvm.Cond.methodLink own i y).before a0 Z = true) (w2 : (Jvm.Cond.declares y).before a0 Z = true) (w5 : (Jvm.Cond.selects y.cls y y).before a0 Z = true) (w6 : (Jvm.Cond.selects C y z).before a0 Z = true) (w7 : (Jvm.Cond.instanceMethod z).before a0 Z = true) (w3 : (Jvm.Cond.initialized z.cls).before a0 Z = true) (w4 : (Jvm.Cond.code z bytes maxL ret).before a0 Z = true) (hy : y.cls ≠ "java/lang/invoke/MethodHandle" ∧ y.cls ≠ "java/lang/invoke/VarHandle") (hM : MetFree l z (head1 [Jvm.Cond.code z bytes maxL ret] rm) (fun a U => a = as' ∧ Z.Warmed39 U.vm ∧ U.heap = h) (fun _ _ _ _ _ => True) (fun _ U o U' => ∃ v L, o = .returned v ∧ Q v U'.heap L ∧ FrameEnd U o U' L rm.cells rm.slots)) (eT : T.heap = h) {b : Addr} (E : Exa Z h b C) (hst : st = argsL.reverse ++ .ref b :: rest) (has : (.ref b :: argsL).toArray = as') (W : Nat) (q : Nat) (hq : pc + 3 = q) (hsz : Ls.size = c.maxLocals) (hlen : ∀ sig, parseMethodDescriptor y.desc = some sig → argsL.length = sig.parameters.length) (hW : (rest.map fun v => v.category).sum ≤ W) (hf : rm.frames + 1 ≤ R.frames) (hl : W + (maxL + 11) + rm.locals ≤ R.locals) (hc : cells + rm.cells ≤ R.cells) (hs : slots + rm.slots ≤ R.slots) (hd : decode c.code pc = .ok (.invokevirtual i, 3))
    (K : ∀ (v : Option Value) (T' : State) (L : List Loc), Stand p l e R s m args below meth c T' (locs ++ L) (cells + rm.cells) (slots + rm.slots) → Q v T'.heap L → Go p e below Ev T' (mkF m q Ls (v.toList ++ rest))) : Go p e below Ev T (mkF m pc Ls st) := by
  subst hq hst
  obtain ⟨cq, kq, qa, qb, qc⟩ := isOf hZ eT E
  obtain ⟨v, vm1, ⟨T', L', k', n'⟩, -, X', ⟨L, hQ, l', y', z'⟩, st'⟩ := X.virtualBack hx hown (mvT hZ w1) (mvT hZ w2) (notFace_of_selects (args := #[]) (mvT hZ w5)) (mvT hZ w6) (mvT hZ w7) hy (backOf (W := W) hM hZ w4 w3 hf hl) qa qc (g := mkF m pc Ls (argsL.reverse ++ .ref b :: rest)) rfl hsz (Steps.refl _) (argsL := argsL) (rest := rest) hlen rfl (by show 2 * 0 + _ ≤ _; omega) hd (fun _ _ => ⟨has, eT, hc, hs⟩)
  dsimp only [Pt.U, Pt.locs, Pt.cells, Pt.slots] at X' l' y' z' st' hQ
  subst l' y' z'
  exact (K v T' L X' hQ).on fun t k => st'.trans k
theorem own_at {n : Nat} (j : Int32) (h0 : 0 ≤ j.toInt) (z : Int32) (h1 : j.toInt < z.toInt) (S : n = z.toNatClampNeg) : ¬ (j < 0 ∨ n ≤ j.toNatClampNeg) := by
  subst S
  intro q
  rcases q with q | q
  · have := (own_i0 j).1.mp q; omega
  · simp only [Int32.toNatClampNeg] at q; omega
theorem own_ncl {j : Int32} {k : Nat} (h : j.toInt = (k : Int)) : j.toNatClampNeg = k := by simp only [Int32.toNatClampNeg]; omega
theorem g_newP (X : Stand p l e R s m args below meth c T locs cells slots) (hx : p.tables.exec = Jvm.exec) {pc : Nat} {Ls : Array Slot} {st : List Value} (hZ : Z.Warmed39 s.vm) {aty : ArrayType} (w : (Jvm.Cond.arrayClass (newarray.typeOf aty)).before a0 Z = true) (eT : T.heap = h) {n : Int32} (hn : 0 ≤ n.toInt) {cap : Nat} (hcap : n.toInt ≤ cap) (hb : cap * 8 ≤ 536870912) (q : Nat) (hd : decode c.code pc = .ok (.newarray aty, 2)) (hq : pc + 2 = q) (hc : cells + 1 ≤ R.cells) (hl : slots + cap ≤ R.slots) {ad : String} (had : "[" ++ (newarray.typeOf aty).toString = ad)
    (K : ∀ (T' : State) (h' : Heap) (k : ClassId) (a : Addr), a = h.size → Stand p l e R s m args below meth c T' locs (cells + 1) (slots + cap) → T'.heap = h' → Ext h h' → Arv Z h' a k (newarray.typeOf aty) n [] (defaultValue (newarray.typeOf aty)) → Exa Z h' a ad → Go p e below Ev T' (mkF m q Ls (.ref a :: st))) : Go p e below Ev T (mkF m pc Ls (.int n :: st)) := by
  subst hq
  have hn' : ¬ n < 0 := fun q => by have := (own_i0 n).1.mp q; omega
  obtain ⟨T', h', k, X', e', E', A', B', st'⟩ := newPE X hx hZ w eT (g := mkF m pc Ls (.int n :: st)) rfl hd rfl hn' (cap := cap) (by simp only [Int32.toNatClampNeg]; omega) hb hc hl had
  exact (K T' h' k _ rfl X' e' E' (Arv.new A' hn') B').on st'
theorem g_len (X : Stand p l e R s m args below meth c T locs cells slots) (hx : p.tables.exec = Jvm.exec) {pc : Nat} {Ls : Array Slot} {st : List Value} (hZ : Z.Warmed39 s.vm) (eT : T.heap = h) {a : Addr} {k : ClassId} {ty : FieldType} {z : Int32} {vs : List Value} {dv : Value} (V : Arv Z h a k ty z vs dv) (q : Nat) (hd : decode c.code pc = .ok (.arraylength, 1)) (hq : pc + 1 = q) (K : Go p e below Ev T (mkF m q Ls (.int z :: st))) : Go p e below Ev T (mkF m pc Ls (.ref a :: st)) := by
  subst hq
  obtain ⟨cl, A, q1, S, q3, H, G⟩ := V
  refine K.on fun t k => X.arraylength hx (by rw [eT]; exact A.1) (State.isArrayOf_alike hZ.alike A.2.1) (g := mkF m pc Ls (.ref a :: st)) rfl rfl hd t ?_
  rw [len_of S q3]
  exact k
theorem g_dastore (X : Stand p l e R s m args below meth c T locs cells slots) (hx : p.tables.exec = Jvm.exec) {pc : Nat} {Ls : Array Slot} {st : List Value} (hZ : Z.Warmed39 s.vm) (eT : T.heap = h) {a : Addr} {k : ClassId} {z j : Int32} {x : UInt64} {vs : List Value} {dv : Value} (V : Arv Z h a k .double z vs dv) (i : Nat) (hi : j.toInt = (i : Int)) (hz : j.toInt < z.toInt) (hv : i < vs.length) (q : Nat) (hd : decode c.code pc = .ok (.dastore, 1)) (hq : pc + 1 = q)
    (K : ∀ T' h', Stand p l e R s m args below meth c T' (locs ++ [⟨a, j.toNatClampNeg⟩]) cells slots → T'.heap = h' → Wr h h' a j.toNatClampNeg (.double x) → Arv Z h' a k .double z (vs.set i (.double x)) dv → Go p e below Ev T' (mkF m q Ls st)) : Go p e below Ev T (mkF m pc Ls (.double x :: .int j :: .ref a :: st)) := by
  subst hq
  obtain ⟨cl, A, q1, S, q3, H, G⟩ := V
  have hj := own_at j (by omega) z hz S
  obtain ⟨T', h', X', e', W', st'⟩ := stD X hx hZ eT A hj (g := mkF m pc Ls (.double x :: .int j :: .ref a :: st)) rfl rfl hd
  exact (K T' h' X' e' W' (Arv.set A q1 S q3 H G rfl W' i (own_ncl hi) hv)).on st'
theorem g_iastore (X : Stand p l e R s m args below meth c T locs cells slots) (hx : p.tables.exec = Jvm.exec) {pc : Nat} {Ls : Array Slot} {st : List Value} (hZ : Z.Warmed39 s.vm) (eT : T.heap = h) {a : Addr} {k : ClassId} {z j : Int32} {x : Int32} {vs : List Value} {dv : Value} (V : Arv Z h a k .int z vs dv) (i : Nat) (hi : j.toInt = (i : Int)) (hz : j.toInt < z.toInt) (hv : i < vs.length) (q : Nat) (hd : decode c.code pc = .ok (.iastore, 1)) (hq : pc + 1 = q)
    (K : ∀ T' h', Stand p l e R s m args below meth c T' (locs ++ [⟨a, j.toNatClampNeg⟩]) cells slots → T'.heap = h' → Wr h h' a j.toNatClampNeg (.int x) → Arv Z h' a k .int z (vs.set i (.int x)) dv → Go p e below Ev T' (mkF m q Ls st)) : Go p e below Ev T (mkF m pc Ls (.int x :: .int j :: .ref a :: st)) := by
  subst hq
  obtain ⟨cl, A, q1, S, q3, H, G⟩ := V
  have hj := own_at j (by omega) z hz S
  obtain ⟨T', h', X', e', W', st'⟩ := stI X hx hZ eT A hj (g := mkF m pc Ls (.int x :: .int j :: .ref a :: st)) rfl rfl hd
  exact (K T' h' X' e' W' (Arv.set A q1 S q3 H G rfl W' i (own_ncl hi) hv)).on st'
theorem g_lastore (X : Stand p l e R s m args below meth c T locs cells slots) (hx : p.tables.exec = Jvm.exec) {pc : Nat} {Ls : Array Slot} {st : List Value} (hZ : Z.Warmed39 s.vm) (eT : T.heap = h) {a : Addr} {k : ClassId} {z j : Int32} {x : Int64} {vs : List Value} {dv : Value} (V : Arv Z h a k .long z vs dv) (i : Nat) (hi : j.toInt = (i : Int)) (hz : j.toInt < z.toInt) (hv : i < vs.length) (q : Nat) (hd : decode c.code pc = .ok (.lastore, 1)) (hq : pc + 1 = q)
    (K : ∀ T' h', Stand p l e R s m args below meth c T' (locs ++ [⟨a, j.toNatClampNeg⟩]) cells slots → T'.heap = h' → Wr h h' a j.toNatClampNeg (.long x) → Arv Z h' a k .long z (vs.set i (.long x)) dv → Go p e below Ev T' (mkF m q Ls st)) : Go p e below Ev T (mkF m pc Ls (.long x :: .int j :: .ref a :: st)) := by
  subst hq
  obtain ⟨cl, A, q1, S, q3, H, G⟩ := V
  have hj := own_at j (by omega) z hz S
  obtain ⟨T', h', X', e', W', st'⟩ := stJ X hx hZ eT A hj (g := mkF m pc Ls (.long x :: .int j :: .ref a :: st)) rfl rfl hd
  exact (K T' h' X' e' W' (Arv.set A q1 S q3 H G rfl W' i (own_ncl hi) hv)).on st'
theorem g_daload (X : Stand p l e R s m args below meth c T locs cells slots) (hx : p.tables.exec = Jvm.exec) {pc : Nat} {Ls : Array Slot} {st : List Value} (hZ : Z.Warmed39 s.vm) (eT : T.heap = h) {a : Addr} {k : ClassId} {z j : Int32} {v : Value} {vs : List Value} {dv : Value} (V : Arv Z h a k .double z vs dv) (hi : 0 ≤ j.toInt) (hz : j.toInt < z.toInt) (hv : vs.getD j.toNatClampNeg dv = v) (q : Nat) (hd : decode c.code pc = .ok (.daload, 1)) (hq : pc + 1 = q) (K : Go p e below Ev T (mkF m q Ls (v :: st))) : Go p e below Ev T (mkF m pc Ls (.int j :: .ref a :: st)) := by
  subst hq
  obtain ⟨cl, A, q1, S, q3, H, G⟩ := V
  have hj := own_at j hi z hz S
  exact K.on fun t k => X.daload hx (by rw [eT]; exact A.1) (State.isArrayOf_alike hZ.alike A.2.1) A.2.2 hj (H.at hj hv) (g := mkF m pc Ls (.int j :: .ref a :: st)) rfl rfl hd t k
theorem g_iaload (X : Stand p l e R s m args below meth c T locs cells slots) (hx : p.tables.exec = Jvm.exec) {pc : Nat} {Ls : Array Slot} {st : List Value} (hZ : Z.Warmed39 s.vm) (eT : T.heap = h) {a : Addr} {k : ClassId} {z j : Int32} {v : Value} {vs : List Value} {dv : Value} (V : Arv Z h a k .int z vs dv) (hi : 0 ≤ j.toInt) (hz : j.toInt < z.toInt) (hv : vs.getD j.toNatClampNeg dv = v) (q : Nat) (hd : decode c.code pc = .ok (.iaload, 1)) (hq : pc + 1 = q) (K : Go p e below Ev T (mkF m q Ls (v :: st))) : Go p e below Ev T (mkF m pc Ls (.int j :: .ref a :: st)) := by
  subst hq
  obtain ⟨cl, A, q1, S, q3, H, G⟩ := V
  have hj := own_at j hi z hz S
  exact K.on fun t k => X.iaload hx (by rw [eT]; exact A.1) (State.isArrayOf_alike hZ.alike A.2.1) A.2.2 hj (H.at hj hv) (g := mkF m pc Ls (.int j :: .ref a :: st)) rfl rfl hd t k
theorem g_laload (X : Stand p l e R s m args below meth c T locs cells slots) (hx : p.tables.exec = Jvm.exec) {pc : Nat} {Ls : Array Slot} {st : List Value} (hZ : Z.Warmed39 s.vm) (eT : T.heap = h) {a : Addr} {k : ClassId} {z j : Int32} {v : Value} {vs : List Value} {dv : Value} (V : Arv Z h a k .long z vs dv) (hi : 0 ≤ j.toInt) (hz : j.toInt < z.toInt) (hv : vs.getD j.toNatClampNeg dv = v) (q : Nat) (hd : decode c.code pc = .ok (.laload, 1)) (hq : pc + 1 = q) (K : Go p e below Ev T (mkF m q Ls (v :: st))) : Go p e below Ev T (mkF m pc Ls (.int j :: .ref a :: st)) := by
  subst hq
  obtain ⟨cl, A, q1, S, q3, H, G⟩ := V
  have hj := own_at j hi z hz S
  exact K.on fun t k => X.laload hx (by rw [eT]; exact A.1) (State.isArrayOf_alike hZ.alike A.2.1) A.2.2 hj (H.at hj hv) (g := mkF m pc Ls (.int j :: .ref a :: st)) rfl rfl hd t k
theorem g_clone (X : Stand p l e R s m args below meth c T locs cells slots) (hx : p.tables.exec = Jvm.exec) {pc : Nat} {Ls : Array Slot} {st : List Value} (hZ : Z.Warmed39 s.vm) {own ad : String} {i : Nat} (hown : s.vm.findClass own = some m.cls) (w1 : (Jvm.Cond.methodLink own i ⟨ad, "clone", "()Ljava/lang/Object;"⟩).before a0 Z = true) (w2 : (Jvm.Cond.sameMethod ad "java/lang/Object" "clone" "()Ljava/lang/Object;").before a0 Z = true) (w3 : (Jvm.Cond.native ⟨"java/lang/Object", "clone", "()Ljava/lang/Object;"⟩).before a0 Z = true) (w4 : (Jvm.Cond.instanceMethod ⟨"java/lang/Object", "clone", "()Ljava/lang/Object;"⟩).before a0 Z = true) (w5 : (Jvm.Cond.selects ad ⟨ad, "clone", "()Ljava/lang/Object;"⟩ ⟨"java/lang/Object", "clone", "()Ljava/lang/Object;"⟩).before a0 Z = true) (w6 : (Jvm.Cond.castable ad "java/lang/Cloneable").before a0 Z = true) (eT : T.heap = h) {a : Addr} {k : ClassId} {ty : FieldType} {z : Int32} {vs : List Value} {dv : Value} (V : Arv Z h a k ty z vs dv) (E : Exa Z h a ad) (W cap : Nat) (q : Nat) (hd : decode c.code pc = .ok (.invokevirtual i, 3)) (hq : pc + 3 = q) (hsz : Ls.size = c.maxLocals) (hf : 1 ≤ R.frames) (hW : (st.map fun v => v.category).sum ≤ W) (hl : W + 14 ≤ R.locals) (hcap : z.toInt ≤ cap) (hc : cells + 1 ≤ R.cells) (hs : slots + cap ≤ R.slots)
    (K : ∀ (T' : State) (h' : Heap) (b : Addr), b = h.size → Stand p l e R s m args below meth c T' locs (cells + 1) (slots + cap) → T'.heap = h' → Ext h h' → Arv Z h' b k ty z vs dv → Exa Z h' b ad → Go p e below Ev T' (mkF m q Ls (.ref b :: st))) : Go p e below Ev T (mkF m pc Ls (.ref a :: st)) := by
  subst hq
  obtain ⟨T', h', X', e', E', V', B', st'⟩ := cloneH X hx hZ hown w1 w2 w3 w4 w5 w6 eT V.arh E (g := mkF m pc Ls (.ref a :: st)) rfl hsz rfl hd hf (W := W) (cap := cap) (by show 2 * 0 + _ ≤ _; omega) hl (by simp only [Int32.toNatClampNeg]; omega) hc hs
  exact (K T' h' _ rfl X' e' E' V' B').on st'
theorem g_cast (X : Stand p l e R s m args below meth c T locs cells slots) (hx : p.tables.exec = Jvm.exec) {pc : Nat} {Ls : Array Slot} {st : List Value} (hZ : Z.Warmed39 s.vm) {own C : String} {i : Nat} (hown : s.vm.findClass own = some m.cls) (w : (Jvm.Cond.classLink own i C).before a0 Z = true) (eT : T.heap = h) {a : Addr} (F : Ins Z h a C true) (q : Nat) (hd : decode c.code pc = .ok (.checkcast i, 3)) (hq : pc + 3 = q) (K : ∀ T', Stand p l e R s m args below meth c T' locs cells slots → T'.heap = h → Go p e below Ev T' (mkF m q Ls (.ref a :: st))) : Go p e below Ev T (mkF m pc Ls (.ref a :: st)) := by
  subst hq
  obtain ⟨T', X', e', st'⟩ := castY X hx hZ hown w eT F (g := mkF m pc Ls (.ref a :: st)) rfl rfl hd
  exact (K T' X' e').on st'
end OwnKit
theorem own_pd0 : parseMethodDescriptor "(D[DDD)V" = some ⟨[.double, (.array .double), .double, .double], none⟩ := by decide +kernel
theorem own_pd1 : parseMethodDescriptor "()V" = some ⟨[], none⟩ := by decide +kernel
theorem own_pd2 : parseMethodDescriptor "()Ljava/lang/Object;" = some ⟨[], some (.object "java/lang/Object")⟩ := by decide +kernel
theorem own_pd3 : parseMethodDescriptor "()D" = some ⟨[], some .double⟩ := by decide +kernel
def Q_rm0 (n0 : Nat) (v : Option Value) (h : Heap) (L : List Loc) : Prop := v = some (.int 1) ∧ Fr n0 L
theorem own_dlit {i : Int} {a : UInt64} (s : Bool) (c : Nat) (q : Int) (h : Jvm.FP.Core.val64 a = .fin s c q) (h2 : Jvm.FP.Core.signed s (c * 2 ^ q.toNat) = i * ((2 ^ (-q).toNat : Nat) : Int)) : Jvm.FP.Core.DInt i a := by
  show Jvm.FP.Core.Whole i _
  rw [h]
  exact h2
theorem own_dnn {i : Int} {a : UInt64} (h : Jvm.FP.Core.DInt i a) : Jvm.Free.Fl.NoNaN64 a := Jvm.Free.Fl.noNaN64_no.mpr ((Jvm.FP.Core.notNaN_iff a).mpr (Jvm.FP.Core.Whole.ne_nan h))
theorem own_dzero : Jvm.FP.Core.DInt 0 (0 : UInt64) := own_dlit false 0 (-1074) (by decide +kernel) (by decide +kernel)
theorem own_done : Jvm.FP.Core.DInt 1 (4607182418800017408 : UInt64) := own_dlit false (2 ^ 52) (-52) (by decide +kernel) (by decide +kernel)
theorem own_two : Jvm.FP.Core.DInt 2 (4611686018427387904 : UInt64) := own_dlit false (2 ^ 52) (-51) (by decide +kernel) (by decide +kernel)
theorem own_dbl {i : Int} {a : UInt64} (h : Jvm.FP.Core.DInt i a) (hi : 0 ≤ i ∧ i < 1048576) : Jvm.FP.Core.DInt (2 * i) (FP.dmul 4611686018427387904 a) := Jvm.FP.Core.dmul_int own_two h (by omega)
theorem d1_0 : decode prog_55_method_1_code 0 = .ok (.aload_n 0, 1) := by decide +kernel
theorem d1_1 : decode prog_55_method_1_code 1 = .ok (.invokespecial 1, 3) := by decide +kernel
theorem d1_4 : decode prog_55_method_1_code 4 = .ok (.aload_n 0, 1) := by decide +kernel
theorem d1_5 : decode prog_55_method_1_code 5 = .ok (.dload_n 1, 1) := by decide +kernel
theorem d1_6 : decode prog_55_method_1_code 6 = .ok (.putfield 7, 3) := by decide +kernel
theorem d1_9 : decode prog_55_method_1_code 9 = .ok (.aload_n 0, 1) := by decide +kernel
theorem d1_10 : decode prog_55_method_1_code 10 = .ok (.aload_n 3, 1) := by decide +kernel
theorem d1_11 : decode prog_55_method_1_code 11 = .ok (.invokevirtual 13, 3) := by decide +kernel
theorem d1_14 : decode prog_55_method_1_code 14 = .ok (.checkcast 14, 3) := by decide +kernel
theorem d1_17 : decode prog_55_method_1_code 17 = .ok (.putfield 19, 3) := by decide +kernel
theorem d1_20 : decode prog_55_method_1_code 20 = .ok (.aload_n 0, 1) := by decide +kernel
theorem d1_21 : decode prog_55_method_1_code 21 = .ok (.dload 4, 2) := by decide +kernel
theorem d1_23 : decode prog_55_method_1_code 23 = .ok (.putfield 22, 3) := by decide +kernel
theorem d1_26 : decode prog_55_method_1_code 26 = .ok (.aload_n 0, 1) := by decide +kernel
theorem d1_27 : decode prog_55_method_1_code 27 = .ok (.dload 6, 2) := by decide +kernel
theorem d1_29 : decode prog_55_method_1_code 29 = .ok (.putfield 25, 3) := by decide +kernel
theorem d1_32 : decode prog_55_method_1_code 32 = .ok (.return_, 1) := by decide +kernel
theorem own_pf0 : plainFor (⟨"com/example/neaplight/neaplight/Tide", "<init>", "(D[DDD)V"⟩ : MethodName) = true := plainFor_of_name (by first | (simp [plainName, overriddenIn]; done) | decide +kernel)
def Q_rm1 (Z : State) (a : Addr) (u : UInt64) (kb : ClassId) (z : Int32) (vs : List Value) (dv : Value) (n0 : Nat) (h0 : Heap) (v : Option Value) (h : Heap) (L : List Loc) : Prop := v = none ∧ Fr n0 L ∧ Keep h0 h [a] ∧ Fld Z h a "com/example/neaplight/neaplight/Tide" "stable" "D" (.double u) ∧ ∃ b2, Fld Z h a "com/example/neaplight/neaplight/Tide" "nominal" "[D" (.ref b2) ∧ Arv Z h b2 kb .double z vs dv
theorem ef_rm1 (a : Addr) (u : UInt64) (b : Addr) (v1 v2 : UInt64) (m : MethodId) : entryFrame m #[(.ref a), (.double u), (.ref b), (.double v1), (.double v2)] 8 = mkF m 0 #[.val (.ref a), .val (.double u), .second, .val (.ref b), .val (.double v1), .second, .val (.double v2), .second] [] := by first | (simp [entryFrame, mkF, argsToLocals, Value.category]; done) | rfl
set_option maxRecDepth 65536 in
set_option maxHeartbeats 40000000 in
theorem rm1 (l : Launch) (Z : State) (a0 : Array Value) (hw : ∀ d ∈ tables_1, d.before a0 Z = true) (a : Addr) (u : UInt64) (b : Addr) (v1 v2 : UInt64) (h0 : Heap) (n0 : Nat) (Z0 : n0 ≤ h0.size) (kb : ClassId) (z : Int32) (vs : List Value) (dv : Value) (Ea : Exa Z h0 a "com/example/neaplight/neaplight/Tide") (Eb : Exa Z h0 b "[D") (Vb : Arv Z h0 b kb .double z vs dv) (hz3 : z.toInt ≤ 3) (ga : n0 ≤ a) (nba : b ≠ a) (F_stable : Fld Z h0 a "com/example/neaplight/neaplight/Tide" "stable" "D" (.double 0)) (F_start : Fld Z h0 a "com/example/neaplight/neaplight/Tide" "start" "D" (.double 0)) (F_end : Fld Z h0 a "com/example/neaplight/neaplight/Tide" "end" "D" (.double 0)) (F_nominal : Fld Z h0 a "com/example/neaplight/neaplight/Tide" "nominal" "[D" .null) :
    MetFree l (⟨"com/example/neaplight/neaplight/Tide", "<init>", "(D[DDD)V"⟩ : MethodName) (head1 [Jvm.Cond.code (⟨"com/example/neaplight/neaplight/Tide", "<init>", "(D[DDD)V"⟩ : MethodName) prog_55_method_1_code 8 none] ({ frames := 1, cells := 1, slots := 3, locals := 16 } : Room)) (fun as_ U => as_ = #[(.ref a), (.double u), (.ref b), (.double v1), (.double v2)] ∧ Z.Warmed39 U.vm ∧ U.heap = h0) (fun _ _ _ _ _ => True) (fun _ U o U' => ∃ v L, o = .returned v ∧ Q_rm1 Z a u kb z vs dv n0 h0 v U'.heap L ∧ FrameEnd U o U' L ({ frames := 1, cells := 1, slots := 3, locals := 16 } : Room).cells ({ frames := 1, cells := 1, slots := 3, locals := 16 } : Room).slots) := by
  refine own_met own_pf0 (ef_rm1 a u b v1 v2) ?_
  intro p e s m below meth c T0 X0 hx hby hml hret hlk hnm hown hZ e0
  have N0 := Fr.nil n0
  refine g_aloadN X0 hx 1 (hb hby d1_0) rfl rfl rfl ?_
  refine g_objinit X0 hx hZ hown (hw _ (List.mem_of_getElem? (i := 8) rfl)) (hw _ (List.mem_of_getElem? (i := 9) rfl)) (hw _ (List.mem_of_getElem? (i := 10) rfl)) e0 0 4 (hb hby d1_1) rfl (by rw [hml]; rfl) (by decide) (Nat.le_refl _) (by decide) ?_
  intro T1 X1 e1
  refine g_aloadN X1 hx 5 (hb hby d1_4) rfl rfl rfl ?_
  refine g_dloadN X1 hx 6 (hb hby d1_5) rfl rfl ?_
  refine g_putF X1 hx hZ hown (hw _ (List.mem_of_getElem? (i := 11) rfl)) Via.refl e1 F_stable Ea (Or.inr ⟨(hw _ (List.mem_of_getElem? (i := 12) rfl)), rfl, hnm⟩) (hw _ (List.mem_of_getElem? (i := 3) rfl)) (ty := .double) (by decide) rfl rfl 9 (hb hby d1_6) rfl ?_
  intro T2 h2 X2 e2 W2
  have F3 : Fld Z h2 a "com/example/neaplight/neaplight/Tide" "stable" "D" (.double u) := F_stable.same W2
  have F4 := Ea.wr W2
  have F5 := Eb.wr W2
  have F6 := Vb.other W2 nba
  have F7 := F_start.other W2 (Or.inr (slot_ne (Or.inr (hw _ (List.mem_of_getElem? (i := 25) rfl))) (Or.inr (hw _ (List.mem_of_getElem? (i := 12) rfl))) (by decide) (t := .double) (t' := .double) (by decide) (by decide)))
  have F8 := F_end.other W2 (Or.inr (slot_ne (Or.inr (hw _ (List.mem_of_getElem? (i := 27) rfl))) (Or.inr (hw _ (List.mem_of_getElem? (i := 12) rfl))) (by decide) (t := .double) (t' := .double) (by decide) (by decide)))
  have F9 := F_nominal.other W2 (Or.inr (slot_ne (Or.inr (hw _ (List.mem_of_getElem? (i := 23) rfl))) (Or.inr (hw _ (List.mem_of_getElem? (i := 12) rfl))) (by decide) (t := (.array .double)) (t' := .double) (by decide) (by decide)))
  have K10 := (Keep.refl h0 [a]).wr W2 (Or.inl (List.mem_of_getElem? (i := 0) rfl))
  have N11 := Fr.snoc X2 N0 ga
  have Z12 : n0 ≤ h2.size := by rw [W2.size]; exact Z0
  refine g_aloadN X2 hx 10 (hb hby d1_9) rfl rfl rfl ?_
  refine g_aloadN X2 hx 11 (hb hby d1_10) rfl rfl rfl ?_
  refine g_clone X2 hx hZ hown (hw _ (List.mem_of_getElem? (i := 13) rfl)) (hw _ (List.mem_of_getElem? (i := 14) rfl)) (hw _ (List.mem_of_getElem? (i := 18) rfl)) (hw _ (List.mem_of_getElem? (i := 16) rfl)) (hw _ (List.mem_of_getElem? (i := 17) rfl)) (hw _ (List.mem_of_getElem? (i := 19) rfl)) e2 F6 F5 1 3 14 (hb hby d1_11) rfl (by rw [hml]; rfl) (by decide) (Nat.le_refl _) (by decide) hz3 (by decide) (by decide) ?_
  intro T13 h13 a13 g13 X13 e13 E13 V13 A13
  have ne14 : a ≠ a13 := Nat.ne_of_lt (by rw [g13]; exact F4.lt)
  have ne15 : b ≠ a13 := Nat.ne_of_lt (by rw [g13]; exact F5.lt)
  have ge16 : n0 ≤ a13 := by rw [g13]; exact Z12
  have sz17 : h0.size ≤ a13 := by rw [g13]; exact K10.1
  have F18 := F4.ext E13
  have F19 := F5.ext E13
  have F20 := F6.ext E13
  have F21 := F7.ext E13
  have F22 := F8.ext E13
  have F23 := F9.ext E13
  have F24 := F3.ext E13
  have K25 := K10.ext E13
  have Z26 : n0 ≤ h13.size := Nat.le_trans Z12 E13.1
  refine g_cast X13 hx hZ hown (hw _ (List.mem_of_getElem? (i := 20) rfl)) e13 (Ins.self A13) 17 (hb hby d1_14) rfl ?_
  intro T27 X27 e27
  refine g_putF X27 hx hZ hown (hw _ (List.mem_of_getElem? (i := 22) rfl)) Via.refl e27 F23 F18 (Or.inr ⟨(hw _ (List.mem_of_getElem? (i := 23) rfl)), rfl, hnm⟩) (hw _ (List.mem_of_getElem? (i := 3) rfl)) (ty := (.array .double)) (by decide) rfl rfl 20 (hb hby d1_17) rfl ?_
  intro T28 h28 X28 e28 W28
  have F29 : Fld Z h28 a "com/example/neaplight/neaplight/Tide" "nominal" "[D" (.ref a13) := F23.same W28
  have F30 := F18.wr W28
  have F31 := F19.wr W28
  have F32 := F20.other W28 nba
  have F33 := F21.other W28 (Or.inr (slot_ne (Or.inr (hw _ (List.mem_of_getElem? (i := 25) rfl))) (Or.inr (hw _ (List.mem_of_getElem? (i := 23) rfl))) (by decide) (t := .double) (t' := (.array .double)) (by decide) (by decide)))
  have F34 := F22.other W28 (Or.inr (slot_ne (Or.inr (hw _ (List.mem_of_getElem? (i := 27) rfl))) (Or.inr (hw _ (List.mem_of_getElem? (i := 23) rfl))) (by decide) (t := .double) (t' := (.array .double)) (by decide) (by decide)))
  have F35 := F24.other W28 (Or.inr (slot_ne (Or.inr (hw _ (List.mem_of_getElem? (i := 12) rfl))) (Or.inr (hw _ (List.mem_of_getElem? (i := 23) rfl))) (by decide) (t := .double) (t' := (.array .double)) (by decide) (by decide)))
  have F36 := A13.wr W28
  have F37 := V13.other W28 (Ne.symm ne14)
  have K38 := K25.wr W28 (Or.inl (List.mem_of_getElem? (i := 0) rfl))
  have N39 := Fr.snoc X28 N11 ga
  have Z40 : n0 ≤ h28.size := by rw [W28.size]; exact Z26
  refine g_aloadN X28 hx 21 (hb hby d1_20) rfl rfl rfl ?_
  refine g_dload X28 hx 23 (hb hby d1_21) rfl rfl ?_
  refine g_putF X28 hx hZ hown (hw _ (List.mem_of_getElem? (i := 24) rfl)) Via.refl e28 F33 F30 (Or.inr ⟨(hw _ (List.mem_of_getElem? (i := 25) rfl)), rfl, hnm⟩) (hw _ (List.mem_of_getElem? (i := 3) rfl)) (ty := .double) (by decide) rfl rfl 26 (hb hby d1_23) rfl ?_
  intro T41 h41 X41 e41 W41
  have F42 : Fld Z h41 a "com/example/neaplight/neaplight/Tide" "start" "D" (.double v1) := F33.same W41
  have F43 := F30.wr W41
  have F44 := F31.wr W41
  have F45 := F32.other W41 nba
  have F46 := F34.other W41 (Or.inr (slot_ne (Or.inr (hw _ (List.mem_of_getElem? (i := 27) rfl))) (Or.inr (hw _ (List.mem_of_getElem? (i := 25) rfl))) (by decide) (t := .double) (t' := .double) (by decide) (by decide)))
  have F47 := F35.other W41 (Or.inr (slot_ne (Or.inr (hw _ (List.mem_of_getElem? (i := 12) rfl))) (Or.inr (hw _ (List.mem_of_getElem? (i := 25) rfl))) (by decide) (t := .double) (t' := .double) (by decide) (by decide)))
  have F48 := F36.wr W41
  have F49 := F37.other W41 (Ne.symm ne14)
  have F50 := F29.other W41 (Or.inr (slot_ne (Or.inr (hw _ (List.mem_of_getElem? (i := 23) rfl))) (Or.inr (hw _ (List.mem_of_getElem? (i := 25) rfl))) (by decide) (t := (.array .double)) (t' := .double) (by decide) (by decide)))
  have K51 := K38.wr W41 (Or.inl (List.mem_of_getElem? (i := 0) rfl))
  have N52 := Fr.snoc X41 N39 ga
  have Z53 : n0 ≤ h41.size := by rw [W41.size]; exact Z40
  refine g_aloadN X41 hx 27 (hb hby d1_26) rfl rfl rfl ?_
  refine g_dload X41 hx 29 (hb hby d1_27) rfl rfl ?_
  refine g_putF X41 hx hZ hown (hw _ (List.mem_of_getElem? (i := 26) rfl)) Via.refl e41 F46 F43 (Or.inr ⟨(hw _ (List.mem_of_getElem? (i := 27) rfl)), rfl, hnm⟩) (hw _ (List.mem_of_getElem? (i := 3) rfl)) (ty := .double) (by decide) rfl rfl 32 (hb hby d1_29) rfl ?_
  intro T54 h54 X54 e54 W54
  have F55 : Fld Z h54 a "com/example/neaplight/neaplight/Tide" "end" "D" (.double v2) := F46.same W54
  have F56 := F43.wr W54
  have F57 := F44.wr W54
  have F58 := F45.other W54 nba
  have F59 := F47.other W54 (Or.inr (slot_ne (Or.inr (hw _ (List.mem_of_getElem? (i := 12) rfl))) (Or.inr (hw _ (List.mem_of_getElem? (i := 27) rfl))) (by decide) (t := .double) (t' := .double) (by decide) (by decide)))
  have F60 := F48.wr W54
  have F61 := F49.other W54 (Ne.symm ne14)
  have F62 := F50.other W54 (Or.inr (slot_ne (Or.inr (hw _ (List.mem_of_getElem? (i := 23) rfl))) (Or.inr (hw _ (List.mem_of_getElem? (i := 27) rfl))) (by decide) (t := (.array .double)) (t' := .double) (by decide) (by decide)))
  have F63 := F42.other W54 (Or.inr (slot_ne (Or.inr (hw _ (List.mem_of_getElem? (i := 25) rfl))) (Or.inr (hw _ (List.mem_of_getElem? (i := 27) rfl))) (by decide) (t := .double) (t' := .double) (by decide) (by decide)))
  have K64 := K51.wr W54 (Or.inl (List.mem_of_getElem? (i := 0) rfl))
  have N65 := Fr.snoc X54 N52 ga
  have Z66 : n0 ≤ h54.size := by rw [W54.size]; exact Z53
  exact g_retV X54 hx hlk hret (hb hby d1_32) (by decide) (by decide) e54 ⟨rfl, N65, K64, F59, ⟨_, F62, F61⟩⟩
theorem d3_0 : decode prog_55_method_9_code 0 = .ok (.aload_n 0, 1) := by decide +kernel
theorem d3_1 : decode prog_55_method_9_code 1 = .ok (.getfield 7, 3) := by decide +kernel
theorem d3_4 : decode prog_55_method_9_code 4 = .ok (.dstore_n 1, 1) := by decide +kernel
theorem d3_5 : decode prog_55_method_9_code 5 = .ok (.aload_n 0, 1) := by decide +kernel
theorem d3_6 : decode prog_55_method_9_code 6 = .ok (.getfield 19, 3) := by decide +kernel
theorem d3_9 : decode prog_55_method_9_code 9 = .ok (.astore_n 3, 1) := by decide +kernel
theorem d3_10 : decode prog_55_method_9_code 10 = .ok (.aload_n 3, 1) := by decide +kernel
theorem d3_11 : decode prog_55_method_9_code 11 = .ok (.arraylength, 1) := by decide +kernel
theorem d3_12 : decode prog_55_method_9_code 12 = .ok (.istore 4, 2) := by decide +kernel
theorem d3_14 : decode prog_55_method_9_code 14 = .ok (.iconst 0, 1) := by decide +kernel
theorem d3_15 : decode prog_55_method_9_code 15 = .ok (.istore 5, 2) := by decide +kernel
theorem d3_17 : decode prog_55_method_9_code 17 = .ok (.iload 5, 2) := by decide +kernel
theorem d3_19 : decode prog_55_method_9_code 19 = .ok (.iload 4, 2) := by decide +kernel
theorem d3_21 : decode prog_55_method_9_code 21 = .ok (.if_icmp .ge 24, 3) := by decide +kernel
theorem d3_24 : decode prog_55_method_9_code 24 = .ok (.aload_n 3, 1) := by decide +kernel
theorem d3_25 : decode prog_55_method_9_code 25 = .ok (.iload 5, 2) := by decide +kernel
theorem d3_27 : decode prog_55_method_9_code 27 = .ok (.daload, 1) := by decide +kernel
theorem d3_28 : decode prog_55_method_9_code 28 = .ok (.dstore 6, 2) := by decide +kernel
theorem d3_30 : decode prog_55_method_9_code 30 = .ok (.dload_n 1, 1) := by decide +kernel
theorem d3_31 : decode prog_55_method_9_code 31 = .ok (.ldc2_w 38, 3) := by decide +kernel
theorem d3_34 : decode prog_55_method_9_code 34 = .ok (.dload 6, 2) := by decide +kernel
theorem d3_36 : decode prog_55_method_9_code 36 = .ok (.dmul, 1) := by decide +kernel
theorem d3_37 : decode prog_55_method_9_code 37 = .ok (.dadd, 1) := by decide +kernel
theorem d3_38 : decode prog_55_method_9_code 38 = .ok (.dstore_n 1, 1) := by decide +kernel
theorem d3_39 : decode prog_55_method_9_code 39 = .ok (.iinc 5 1, 3) := by decide +kernel
theorem d3_42 : decode prog_55_method_9_code 42 = .ok (.goto (-25), 3) := by decide +kernel
theorem d3_45 : decode prog_55_method_9_code 45 = .ok (.dload_n 1, 1) := by decide +kernel
theorem d3_46 : decode prog_55_method_9_code 46 = .ok (.dreturn, 1) := by decide +kernel
theorem own_pf1 : plainFor (⟨"com/example/neaplight/neaplight/Tide", "peak", "()D"⟩ : MethodName) = true := plainFor_of_name (by first | (simp [plainName, overriddenIn]; done) | decide +kernel)
def Q_rm3_0 (i : Int)  (n0 : Nat) (h0 : Heap) (v : Option Value) (h : Heap) (L : List Loc) : Prop := ∃ x : UInt64, v = some (.double x) ∧ Jvm.FP.Core.DInt (i) x ∧ Fr n0 L ∧ h = h0
theorem ef_rm3_0 (a : Addr) (m : MethodId) : entryFrame m #[(.ref a)] 8 = mkF m 0 #[.val (.ref a), .unset, .unset, .unset, .unset, .unset, .unset, .unset] [] := by first | (simp [entryFrame, mkF, argsToLocals, Value.category]; done) | rfl
set_option maxRecDepth 65536 in
set_option maxHeartbeats 40000000 in
theorem rm3_0 (l : Launch) (Z : State) (a0 : Array Value) (hw : ∀ d ∈ tables_1, d.before a0 Z = true) (a : Addr) (h0 : Heap) (n0 : Nat) (Z0 : n0 ≤ h0.size) (b : Addr) (kb : ClassId) (u : UInt64) (i : Int) (hu : Jvm.FP.Core.DInt i u) (bu : 0 ≤ i ∧ i < 1048576) (dv : Value)  (F_stable : Fld Z h0 a "com/example/neaplight/neaplight/Tide" "stable" "D" (.double u)) (F_nominal : Fld Z h0 a "com/example/neaplight/neaplight/Tide" "nominal" "[D" (.ref b)) (Vb : Arv Z h0 b kb .double 0 [] dv) :
    MetFree l (⟨"com/example/neaplight/neaplight/Tide", "peak", "()D"⟩ : MethodName) (head1 [Jvm.Cond.code (⟨"com/example/neaplight/neaplight/Tide", "peak", "()D"⟩ : MethodName) prog_55_method_9_code 8 (some .double)] ({ frames := 0, cells := 0, slots := 0, locals := 0 } : Room)) (fun as_ U => as_ = #[(.ref a)] ∧ Z.Warmed39 U.vm ∧ U.heap = h0) (fun _ _ _ _ _ => True) (fun _ U o U' => ∃ v L, o = .returned v ∧ Q_rm3_0 i  n0 h0 v U'.heap L ∧ FrameEnd U o U' L ({ frames := 0, cells := 0, slots := 0, locals := 0 } : Room).cells ({ frames := 0, cells := 0, slots := 0, locals := 0 } : Room).slots) := by
  refine own_met own_pf1 (ef_rm3_0 a) ?_
  intro p e s m below meth c T0 X0 hx hby hml hret hlk hnm hown hZ e0
  have N0 := Fr.nil n0
  have A0 := hu
  refine g_aloadN X0 hx 1 (hb hby d3_0) rfl rfl rfl ?_
  refine g_getF X0 hx hZ hown (hw _ (List.mem_of_getElem? (i := 11) rfl)) Via.refl e0 F_stable 4 (hb hby d3_1) rfl ?_
  intro T67 X67 e67
  refine g_dstoreN (l' := #[.val (.ref a), .val (.double u), .second, .unset, .unset, .unset, .unset, .unset]) X67 hx 5 (hb hby d3_4) rfl rfl ?_
  refine g_aloadN X67 hx 6 (hb hby d3_5) rfl rfl rfl ?_
  refine g_getF X67 hx hZ hown (hw _ (List.mem_of_getElem? (i := 22) rfl)) Via.refl e67 F_nominal 9 (hb hby d3_6) rfl ?_
  intro T68 X68 e68
  refine g_astoreN (l' := #[.val (.ref a), .val (.double u), .second, .val (.ref b), .unset, .unset, .unset, .unset]) X68 hx 10 (hb hby d3_9) rfl rfl rfl ?_
  refine g_aloadN X68 hx 11 (hb hby d3_10) rfl rfl rfl ?_
  refine g_len X68 hx hZ e68 Vb 12 (hb hby d3_11) rfl ?_
  refine g_istore (l' := #[.val (.ref a), .val (.double u), .second, .val (.ref b), .val (.int (0 : Int32)), .unset, .unset, .unset]) X68 hx 14 (hb hby d3_12) rfl rfl ?_
  refine g_iconst X68 hx (0 : Int32) 15 (hb hby d3_14) rfl (by decide) ?_
  refine g_istore (l' := #[.val (.ref a), .val (.double u), .second, .val (.ref b), .val (.int (0 : Int32)), .val (.int (0 : Int32)), .unset, .unset]) X68 hx 17 (hb hby d3_15) rfl rfl ?_
  refine g_iload X68 hx 19 (hb hby d3_17) rfl rfl ?_
  refine g_iload X68 hx 21 (hb hby d3_19) rfl rfl ?_
  have ll70 : ((0 : Int32) : Int32).toInt = 0 := by decide
  have ll71 : ((0 : Int32) : Int32).toInt = 0 := by decide
  refine g_ic_ge X68 hx 45 24 (hb hby d3_21) (by decide) (by decide) rfl (fun c69 => ?_) (fun c69 => ?_)
  · skip
    refine g_dloadN X68 hx 46 (hb hby d3_45) rfl rfl ?_
    exact g_retD X68 hx hlk hret (hb hby d3_46) (by decide) (by decide) e68 ⟨_, rfl, A0, N0, rfl⟩
  · skip
    exfalso; revert c69; decide
def Q_rm3_1 (i : Int) (i_r0 : Int) (n0 : Nat) (h0 : Heap) (v : Option Value) (h : Heap) (L : List Loc) : Prop := ∃ x : UInt64, v = some (.double x) ∧ Jvm.FP.Core.DInt (i + 2 * i_r0) x ∧ Fr n0 L ∧ h = h0
theorem ef_rm3_1 (a : Addr) (m : MethodId) : entryFrame m #[(.ref a)] 8 = mkF m 0 #[.val (.ref a), .unset, .unset, .unset, .unset, .unset, .unset, .unset] [] := by first | (simp [entryFrame, mkF, argsToLocals, Value.category]; done) | rfl
set_option maxRecDepth 65536 in
set_option maxHeartbeats 40000000 in
theorem rm3_1 (l : Launch) (Z : State) (a0 : Array Value) (hw : ∀ d ∈ tables_1, d.before a0 Z = true) (a : Addr) (h0 : Heap) (n0 : Nat) (Z0 : n0 ≤ h0.size) (b : Addr) (kb : ClassId) (u : UInt64) (i : Int) (hu : Jvm.FP.Core.DInt i u) (bu : 0 ≤ i ∧ i < 1048576) (dv : Value) (r0 : UInt64) (i_r0 : Int) (h_r0 : Jvm.FP.Core.DInt i_r0 r0) (b_r0 : 0 ≤ i_r0 ∧ i_r0 < 1048576) (F_stable : Fld Z h0 a "com/example/neaplight/neaplight/Tide" "stable" "D" (.double u)) (F_nominal : Fld Z h0 a "com/example/neaplight/neaplight/Tide" "nominal" "[D" (.ref b)) (Vb : Arv Z h0 b kb .double 1 [.double r0] dv) :
    MetFree l (⟨"com/example/neaplight/neaplight/Tide", "peak", "()D"⟩ : MethodName) (head1 [Jvm.Cond.code (⟨"com/example/neaplight/neaplight/Tide", "peak", "()D"⟩ : MethodName) prog_55_method_9_code 8 (some .double)] ({ frames := 0, cells := 0, slots := 0, locals := 0 } : Room)) (fun as_ U => as_ = #[(.ref a)] ∧ Z.Warmed39 U.vm ∧ U.heap = h0) (fun _ _ _ _ _ => True) (fun _ U o U' => ∃ v L, o = .returned v ∧ Q_rm3_1 i i_r0 n0 h0 v U'.heap L ∧ FrameEnd U o U' L ({ frames := 0, cells := 0, slots := 0, locals := 0 } : Room).cells ({ frames := 0, cells := 0, slots := 0, locals := 0 } : Room).slots) := by
  refine own_met own_pf1 (ef_rm3_1 a) ?_
  intro p e s m below meth c T0 X0 hx hby hml hret hlk hnm hown hZ e0
  have N0 := Fr.nil n0
  have A0 := hu
  refine g_aloadN X0 hx 1 (hb hby d3_0) rfl rfl rfl ?_
  refine g_getF X0 hx hZ hown (hw _ (List.mem_of_getElem? (i := 11) rfl)) Via.refl e0 F_stable 4 (hb hby d3_1) rfl ?_
  intro T72 X72 e72
  refine g_dstoreN (l' := #[.val (.ref a), .val (.double u), .second, .unset, .unset, .unset, .unset, .unset]) X72 hx 5 (hb hby d3_4) rfl rfl ?_
  refine g_aloadN X72 hx 6 (hb hby d3_5) rfl rfl rfl ?_
  refine g_getF X72 hx hZ hown (hw _ (List.mem_of_getElem? (i := 22) rfl)) Via.refl e72 F_nominal 9 (hb hby d3_6) rfl ?_
  intro T73 X73 e73
  refine g_astoreN (l' := #[.val (.ref a), .val (.double u), .second, .val (.ref b), .unset, .unset, .unset, .unset]) X73 hx 10 (hb hby d3_9) rfl rfl rfl ?_
  refine g_aloadN X73 hx 11 (hb hby d3_10) rfl rfl rfl ?_
  refine g_len X73 hx hZ e73 Vb 12 (hb hby d3_11) rfl ?_
  refine g_istore (l' := #[.val (.ref a), .val (.double u), .second, .val (.ref b), .val (.int (1 : Int32)), .unset, .unset, .unset]) X73 hx 14 (hb hby d3_12) rfl rfl ?_
  refine g_iconst X73 hx (0 : Int32) 15 (hb hby d3_14) rfl (by decide) ?_
  refine g_istore (l' := #[.val (.ref a), .val (.double u), .second, .val (.ref b), .val (.int (1 : Int32)), .val (.int (0 : Int32)), .unset, .unset]) X73 hx 17 (hb hby d3_15) rfl rfl ?_
  refine g_iload X73 hx 19 (hb hby d3_17) rfl rfl ?_
  refine g_iload X73 hx 21 (hb hby d3_19) rfl rfl ?_
  have ll75 : ((1 : Int32) : Int32).toInt = 1 := by decide
  have ll76 : ((0 : Int32) : Int32).toInt = 0 := by decide
  refine g_ic_ge X73 hx 45 24 (hb hby d3_21) (by decide) (by decide) rfl (fun c74 => ?_) (fun c74 => ?_)
  · skip
    exfalso; revert c74; decide
  · skip
    have D0 := own_dbl h_r0 b_r0
    have A1 := Jvm.FP.Core.dadd_int A0 D0 (by omega)
    refine g_aloadN X73 hx 25 (hb hby d3_24) rfl rfl rfl ?_
    refine g_iload X73 hx 27 (hb hby d3_25) rfl rfl ?_
    refine g_daload X73 hx hZ e73 Vb (by decide) (by decide) rfl 28 (hb hby d3_27) rfl ?_
    refine g_dstore (l' := #[.val (.ref a), .val (.double u), .second, .val (.ref b), .val (.int (1 : Int32)), .val (.int (0 : Int32)), .val (.double r0), .second]) X73 hx 30 (hb hby d3_28) rfl rfl ?_
    refine g_dloadN X73 hx 31 (hb hby d3_30) rfl rfl ?_
    refine g_ldc2D X73 hx 34 hZ hown (hw _ (List.mem_of_getElem? (i := 34) rfl)) (hb hby d3_31) rfl ?_
    refine g_dload X73 hx 36 (hb hby d3_34) rfl rfl ?_
    refine g_dmul X73 hx 37 (hb hby d3_36) rfl (own_dnn D0) ?_
    refine g_dadd X73 hx 38 (hb hby d3_37) rfl (own_dnn A1) ?_
    refine g_dstoreN (l' := #[.val (.ref a), .val (.double (FP.dadd u (FP.dmul (4611686018427387904 : UInt64) r0))), .second, .val (.ref b), .val (.int (1 : Int32)), .val (.int (0 : Int32)), .val (.double r0), .second]) X73 hx 39 (hb hby d3_38) rfl rfl ?_
    refine g_iinc (w := (1 : Int32)) (l' := #[.val (.ref a), .val (.double (FP.dadd u (FP.dmul (4611686018427387904 : UInt64) r0))), .second, .val (.ref b), .val (.int (1 : Int32)), .val (.int ((0 : Int32) + (1 : Int32))), .val (.double r0), .second]) X73 hx 42 (hb hby d3_39) rfl rfl (by decide) rfl ?_
    refine g_goto X73 hx 17 (hb hby d3_42) (by decide) (by decide) ?_
    refine g_iload X73 hx 19 (hb hby d3_17) rfl rfl ?_
    refine g_iload X73 hx 21 (hb hby d3_19) rfl rfl ?_
    have ll78 : ((1 : Int32) : Int32).toInt = 1 := by decide
    have ll79 : (((0 : Int32) + (1 : Int32)) : Int32).toInt = 1 := by decide
    refine g_ic_ge X73 hx 45 24 (hb hby d3_21) (by decide) (by decide) rfl (fun c77 => ?_) (fun c77 => ?_)
    · skip
      refine g_dloadN X73 hx 46 (hb hby d3_45) rfl rfl ?_
      exact g_retD X73 hx hlk hret (hb hby d3_46) (by decide) (by decide) e73 ⟨_, rfl, A1, N0, rfl⟩
    · skip
      exfalso; revert c77; decide
def Q_rm3_2 (i : Int) (i_r0 : Int) (i_r1 : Int) (n0 : Nat) (h0 : Heap) (v : Option Value) (h : Heap) (L : List Loc) : Prop := ∃ x : UInt64, v = some (.double x) ∧ Jvm.FP.Core.DInt (i + 2 * i_r0 + 2 * i_r1) x ∧ Fr n0 L ∧ h = h0
theorem ef_rm3_2 (a : Addr) (m : MethodId) : entryFrame m #[(.ref a)] 8 = mkF m 0 #[.val (.ref a), .unset, .unset, .unset, .unset, .unset, .unset, .unset] [] := by first | (simp [entryFrame, mkF, argsToLocals, Value.category]; done) | rfl
set_option maxRecDepth 65536 in
set_option maxHeartbeats 40000000 in
theorem rm3_2 (l : Launch) (Z : State) (a0 : Array Value) (hw : ∀ d ∈ tables_1, d.before a0 Z = true) (a : Addr) (h0 : Heap) (n0 : Nat) (Z0 : n0 ≤ h0.size) (b : Addr) (kb : ClassId) (u : UInt64) (i : Int) (hu : Jvm.FP.Core.DInt i u) (bu : 0 ≤ i ∧ i < 1048576) (dv : Value) (r0 : UInt64) (i_r0 : Int) (h_r0 : Jvm.FP.Core.DInt i_r0 r0) (b_r0 : 0 ≤ i_r0 ∧ i_r0 < 1048576) (r1 : UInt64) (i_r1 : Int) (h_r1 : Jvm.FP.Core.DInt i_r1 r1) (b_r1 : 0 ≤ i_r1 ∧ i_r1 < 1048576) (F_stable : Fld Z h0 a "com/example/neaplight/neaplight/Tide" "stable" "D" (.double u)) (F_nominal : Fld Z h0 a "com/example/neaplight/neaplight/Tide" "nominal" "[D" (.ref b)) (Vb : Arv Z h0 b kb .double 2 [.double r0, .double r1] dv) :
    MetFree l (⟨"com/example/neaplight/neaplight/Tide", "peak", "()D"⟩ : MethodName) (head1 [Jvm.Cond.code (⟨"com/example/neaplight/neaplight/Tide", "peak", "()D"⟩ : MethodName) prog_55_method_9_code 8 (some .double)] ({ frames := 0, cells := 0, slots := 0, locals := 0 } : Room)) (fun as_ U => as_ = #[(.ref a)] ∧ Z.Warmed39 U.vm ∧ U.heap = h0) (fun _ _ _ _ _ => True) (fun _ U o U' => ∃ v L, o = .returned v ∧ Q_rm3_2 i i_r0 i_r1 n0 h0 v U'.heap L ∧ FrameEnd U o U' L ({ frames := 0, cells := 0, slots := 0, locals := 0 } : Room).cells ({ frames := 0, cells := 0, slots := 0, locals := 0 } : Room).slots) := by
  refine own_met own_pf1 (ef_rm3_2 a) ?_
  intro p e s m below meth c T0 X0 hx hby hml hret hlk hnm hown hZ e0
  have N0 := Fr.nil n0
  have A0 := hu
  refine g_aloadN X0 hx 1 (hb hby d3_0) rfl rfl rfl ?_
  refine g_getF X0 hx hZ hown (hw _ (List.mem_of_getElem? (i := 11) rfl)) Via.refl e0 F_stable 4 (hb hby d3_1) rfl ?_
  intro T80 X80 e80
  refine g_dstoreN (l' := #[.val (.ref a), .val (.double u), .second, .unset, .unset, .unset, .unset, .unset]) X80 hx 5 (hb hby d3_4) rfl rfl ?_
  refine g_aloadN X80 hx 6 (hb hby d3_5) rfl rfl rfl ?_
  refine g_getF X80 hx hZ hown (hw _ (List.mem_of_getElem? (i := 22) rfl)) Via.refl e80 F_nominal 9 (hb hby d3_6) rfl ?_
  intro T81 X81 e81
  refine g_astoreN (l' := #[.val (.ref a), .val (.double u), .second, .val (.ref b), .unset, .unset, .unset, .unset]) X81 hx 10 (hb hby d3_9) rfl rfl rfl ?_
  refine g_aloadN X81 hx 11 (hb hby d3_10) rfl rfl rfl ?_
  refine g_len X81 hx hZ e81 Vb 12 (hb hby d3_11) rfl ?_
  refine g_istore (l' := #[.val (.ref a), .val (.double u), .second, .val (.ref b), .val (.int (2 : Int32)), .unset, .unset, .unset]) X81 hx 14 (hb hby d3_12) rfl rfl ?_
  refine g_iconst X81 hx (0 : Int32) 15 (hb hby d3_14) rfl (by decide) ?_
  refine g_istore (l' := #[.val (.ref a), .val (.double u), .second, .val (.ref b), .val (.int (2 : Int32)), .val (.int (0 : Int32)), .unset, .unset]) X81 hx 17 (hb hby d3_15) rfl rfl ?_
  refine g_iload X81 hx 19 (hb hby d3_17) rfl rfl ?_
  refine g_iload X81 hx 21 (hb hby d3_19) rfl rfl ?_
  have ll83 : ((2 : Int32) : Int32).toInt = 2 := by decide
  have ll84 : ((0 : Int32) : Int32).toInt = 0 := by decide
  refine g_ic_ge X81 hx 45 24 (hb hby d3_21) (by decide) (by decide) rfl (fun c82 => ?_) (fun c82 => ?_)
  · skip
    exfalso; revert c82; decide
  · skip
    have D0 := own_dbl h_r0 b_r0
    have A1 := Jvm.FP.Core.dadd_int A0 D0 (by omega)
    refine g_aloadN X81 hx 25 (hb hby d3_24) rfl rfl rfl ?_
    refine g_iload X81 hx 27 (hb hby d3_25) rfl rfl ?_
    refine g_daload X81 hx hZ e81 Vb (by decide) (by decide) rfl 28 (hb hby d3_27) rfl ?_
    refine g_dstore (l' := #[.val (.ref a), .val (.double u), .second, .val (.ref b), .val (.int (2 : Int32)), .val (.int (0 : Int32)), .val (.double r0), .second]) X81 hx 30 (hb hby d3_28) rfl rfl ?_
    refine g_dloadN X81 hx 31 (hb hby d3_30) rfl rfl ?_
    refine g_ldc2D X81 hx 34 hZ hown (hw _ (List.mem_of_getElem? (i := 34) rfl)) (hb hby d3_31) rfl ?_
    refine g_dload X81 hx 36 (hb hby d3_34) rfl rfl ?_
    refine g_dmul X81 hx 37 (hb hby d3_36) rfl (own_dnn D0) ?_
    refine g_dadd X81 hx 38 (hb hby d3_37) rfl (own_dnn A1) ?_
    refine g_dstoreN (l' := #[.val (.ref a), .val (.double (FP.dadd u (FP.dmul (4611686018427387904 : UInt64) r0))), .second, .val (.ref b), .val (.int (2 : Int32)), .val (.int (0 : Int32)), .val (.double r0), .second]) X81 hx 39 (hb hby d3_38) rfl rfl ?_
    refine g_iinc (w := (1 : Int32)) (l' := #[.val (.ref a), .val (.double (FP.dadd u (FP.dmul (4611686018427387904 : UInt64) r0))), .second, .val (.ref b), .val (.int (2 : Int32)), .val (.int ((0 : Int32) + (1 : Int32))), .val (.double r0), .second]) X81 hx 42 (hb hby d3_39) rfl rfl (by decide) rfl ?_
    refine g_goto X81 hx 17 (hb hby d3_42) (by decide) (by decide) ?_
    refine g_iload X81 hx 19 (hb hby d3_17) rfl rfl ?_
    refine g_iload X81 hx 21 (hb hby d3_19) rfl rfl ?_
    have ll86 : ((2 : Int32) : Int32).toInt = 2 := by decide
    have ll87 : (((0 : Int32) + (1 : Int32)) : Int32).toInt = 1 := by decide
    refine g_ic_ge X81 hx 45 24 (hb hby d3_21) (by decide) (by decide) rfl (fun c85 => ?_) (fun c85 => ?_)
    · skip
      exfalso; revert c85; decide
    · skip
      have D1 := own_dbl h_r1 b_r1
      have A2 := Jvm.FP.Core.dadd_int A1 D1 (by omega)
      refine g_aloadN X81 hx 25 (hb hby d3_24) rfl rfl rfl ?_
      refine g_iload X81 hx 27 (hb hby d3_25) rfl rfl ?_
      refine g_daload X81 hx hZ e81 Vb (by decide) (by decide) rfl 28 (hb hby d3_27) rfl ?_
      refine g_dstore (l' := #[.val (.ref a), .val (.double (FP.dadd u (FP.dmul (4611686018427387904 : UInt64) r0))), .second, .val (.ref b), .val (.int (2 : Int32)), .val (.int ((0 : Int32) + (1 : Int32))), .val (.double r1), .second]) X81 hx 30 (hb hby d3_28) rfl rfl ?_
      refine g_dloadN X81 hx 31 (hb hby d3_30) rfl rfl ?_
      refine g_ldc2D X81 hx 34 hZ hown (hw _ (List.mem_of_getElem? (i := 34) rfl)) (hb hby d3_31) rfl ?_
      refine g_dload X81 hx 36 (hb hby d3_34) rfl rfl ?_
      refine g_dmul X81 hx 37 (hb hby d3_36) rfl (own_dnn D1) ?_
      refine g_dadd X81 hx 38 (hb hby d3_37) rfl (own_dnn A2) ?_
      refine g_dstoreN (l' := #[.val (.ref a), .val (.double (FP.dadd (FP.dadd u (FP.dmul (4611686018427387904 : UInt64) r0)) (FP.dmul (4611686018427387904 : UInt64) r1))), .second, .val (.ref b), .val (.int (2 : Int32)), .val (.int ((0 : Int32) + (1 : Int32))), .val (.double r1), .second]) X81 hx 39 (hb hby d3_38) rfl rfl ?_
      refine g_iinc (w := (1 : Int32)) (l' := #[.val (.ref a), .val (.double (FP.dadd (FP.dadd u (FP.dmul (4611686018427387904 : UInt64) r0)) (FP.dmul (4611686018427387904 : UInt64) r1))), .second, .val (.ref b), .val (.int (2 : Int32)), .val (.int (((0 : Int32) + (1 : Int32)) + (1 : Int32))), .val (.double r1), .second]) X81 hx 42 (hb hby d3_39) rfl rfl (by decide) rfl ?_
      refine g_goto X81 hx 17 (hb hby d3_42) (by decide) (by decide) ?_
      refine g_iload X81 hx 19 (hb hby d3_17) rfl rfl ?_
      refine g_iload X81 hx 21 (hb hby d3_19) rfl rfl ?_
      have ll89 : ((2 : Int32) : Int32).toInt = 2 := by decide
      have ll90 : ((((0 : Int32) + (1 : Int32)) + (1 : Int32)) : Int32).toInt = 2 := by decide
      refine g_ic_ge X81 hx 45 24 (hb hby d3_21) (by decide) (by decide) rfl (fun c88 => ?_) (fun c88 => ?_)
      · skip
        refine g_dloadN X81 hx 46 (hb hby d3_45) rfl rfl ?_
        exact g_retD X81 hx hlk hret (hb hby d3_46) (by decide) (by decide) e81 ⟨_, rfl, A2, N0, rfl⟩
      · skip
        exfalso; revert c88; decide
def Q_rm3_3 (i : Int) (i_r0 : Int) (i_r1 : Int) (i_r2 : Int) (n0 : Nat) (h0 : Heap) (v : Option Value) (h : Heap) (L : List Loc) : Prop := ∃ x : UInt64, v = some (.double x) ∧ Jvm.FP.Core.DInt (i + 2 * i_r0 + 2 * i_r1 + 2 * i_r2) x ∧ Fr n0 L ∧ h = h0
theorem ef_rm3_3 (a : Addr) (m : MethodId) : entryFrame m #[(.ref a)] 8 = mkF m 0 #[.val (.ref a), .unset, .unset, .unset, .unset, .unset, .unset, .unset] [] := by first | (simp [entryFrame, mkF, argsToLocals, Value.category]; done) | rfl
set_option maxRecDepth 65536 in
set_option maxHeartbeats 40000000 in
theorem rm3_3 (l : Launch) (Z : State) (a0 : Array Value) (hw : ∀ d ∈ tables_1, d.before a0 Z = true) (a : Addr) (h0 : Heap) (n0 : Nat) (Z0 : n0 ≤ h0.size) (b : Addr) (kb : ClassId) (u : UInt64) (i : Int) (hu : Jvm.FP.Core.DInt i u) (bu : 0 ≤ i ∧ i < 1048576) (dv : Value) (r0 : UInt64) (i_r0 : Int) (h_r0 : Jvm.FP.Core.DInt i_r0 r0) (b_r0 : 0 ≤ i_r0 ∧ i_r0 < 1048576) (r1 : UInt64) (i_r1 : Int) (h_r1 : Jvm.FP.Core.DInt i_r1 r1) (b_r1 : 0 ≤ i_r1 ∧ i_r1 < 1048576) (r2 : UInt64) (i_r2 : Int) (h_r2 : Jvm.FP.Core.DInt i_r2 r2) (b_r2 : 0 ≤ i_r2 ∧ i_r2 < 1048576) (F_stable : Fld Z h0 a "com/example/neaplight/neaplight/Tide" "stable" "D" (.double u)) (F_nominal : Fld Z h0 a "com/example/neaplight/neaplight/Tide" "nominal" "[D" (.ref b)) (Vb : Arv Z h0 b kb .double 3 [.double r0, .double r1, .double r2] dv) :
    MetFree l (⟨"com/example/neaplight/neaplight/Tide", "peak", "()D"⟩ : MethodName) (head1 [Jvm.Cond.code (⟨"com/example/neaplight/neaplight/Tide", "peak", "()D"⟩ : MethodName) prog_55_method_9_code 8 (some .double)] ({ frames := 0, cells := 0, slots := 0, locals := 0 } : Room)) (fun as_ U => as_ = #[(.ref a)] ∧ Z.Warmed39 U.vm ∧ U.heap = h0) (fun _ _ _ _ _ => True) (fun _ U o U' => ∃ v L, o = .returned v ∧ Q_rm3_3 i i_r0 i_r1 i_r2 n0 h0 v U'.heap L ∧ FrameEnd U o U' L ({ frames := 0, cells := 0, slots := 0, locals := 0 } : Room).cells ({ frames := 0, cells := 0, slots := 0, locals := 0 } : Room).slots) := by
  refine own_met own_pf1 (ef_rm3_3 a) ?_
  intro p e s m below meth c T0 X0 hx hby hml hret hlk hnm hown hZ e0
  have N0 := Fr.nil n0
  have A0 := hu
  refine g_aloadN X0 hx 1 (hb hby d3_0) rfl rfl rfl ?_
  refine g_getF X0 hx hZ hown (hw _ (List.mem_of_getElem? (i := 11) rfl)) Via.refl e0 F_stable 4 (hb hby d3_1) rfl ?_
  intro T91 X91 e91
  refine g_dstoreN (l' := #[.val (.ref a), .val (.double u), .second, .unset, .unset, .unset, .unset, .unset]) X91 hx 5 (hb hby d3_4) rfl rfl ?_
  refine g_aloadN X91 hx 6 (hb hby d3_5) rfl rfl rfl ?_
  refine g_getF X91 hx hZ hown (hw _ (List.mem_of_getElem? (i := 22) rfl)) Via.refl e91 F_nominal 9 (hb hby d3_6) rfl ?_
  intro T92 X92 e92
  refine g_astoreN (l' := #[.val (.ref a), .val (.double u), .second, .val (.ref b), .unset, .unset, .unset, .unset]) X92 hx 10 (hb hby d3_9) rfl rfl rfl ?_
  refine g_aloadN X92 hx 11 (hb hby d3_10) rfl rfl rfl ?_
  refine g_len X92 hx hZ e92 Vb 12 (hb hby d3_11) rfl ?_
  refine g_istore (l' := #[.val (.ref a), .val (.double u), .second, .val (.ref b), .val (.int (3 : Int32)), .unset, .unset, .unset]) X92 hx 14 (hb hby d3_12) rfl rfl ?_
  refine g_iconst X92 hx (0 : Int32) 15 (hb hby d3_14) rfl (by decide) ?_
  refine g_istore (l' := #[.val (.ref a), .val (.double u), .second, .val (.ref b), .val (.int (3 : Int32)), .val (.int (0 : Int32)), .unset, .unset]) X92 hx 17 (hb hby d3_15) rfl rfl ?_
  refine g_iload X92 hx 19 (hb hby d3_17) rfl rfl ?_
  refine g_iload X92 hx 21 (hb hby d3_19) rfl rfl ?_
  have ll94 : ((3 : Int32) : Int32).toInt = 3 := by decide
  have ll95 : ((0 : Int32) : Int32).toInt = 0 := by decide
  refine g_ic_ge X92 hx 45 24 (hb hby d3_21) (by decide) (by decide) rfl (fun c93 => ?_) (fun c93 => ?_)
  · skip
    exfalso; revert c93; decide
  · skip
    have D0 := own_dbl h_r0 b_r0
    have A1 := Jvm.FP.Core.dadd_int A0 D0 (by omega)
    refine g_aloadN X92 hx 25 (hb hby d3_24) rfl rfl rfl ?_
    refine g_iload X92 hx 27 (hb hby d3_25) rfl rfl ?_
    refine g_daload X92 hx hZ e92 Vb (by decide) (by decide) rfl 28 (hb hby d3_27) rfl ?_
    refine g_dstore (l' := #[.val (.ref a), .val (.double u), .second, .val (.ref b), .val (.int (3 : Int32)), .val (.int (0 : Int32)), .val (.double r0), .second]) X92 hx 30 (hb hby d3_28) rfl rfl ?_
    refine g_dloadN X92 hx 31 (hb hby d3_30) rfl rfl ?_
    refine g_ldc2D X92 hx 34 hZ hown (hw _ (List.mem_of_getElem? (i := 34) rfl)) (hb hby d3_31) rfl ?_
    refine g_dload X92 hx 36 (hb hby d3_34) rfl rfl ?_
    refine g_dmul X92 hx 37 (hb hby d3_36) rfl (own_dnn D0) ?_
    refine g_dadd X92 hx 38 (hb hby d3_37) rfl (own_dnn A1) ?_
    refine g_dstoreN (l' := #[.val (.ref a), .val (.double (FP.dadd u (FP.dmul (4611686018427387904 : UInt64) r0))), .second, .val (.ref b), .val (.int (3 : Int32)), .val (.int (0 : Int32)), .val (.double r0), .second]) X92 hx 39 (hb hby d3_38) rfl rfl ?_
    refine g_iinc (w := (1 : Int32)) (l' := #[.val (.ref a), .val (.double (FP.dadd u (FP.dmul (4611686018427387904 : UInt64) r0))), .second, .val (.ref b), .val (.int (3 : Int32)), .val (.int ((0 : Int32) + (1 : Int32))), .val (.double r0), .second]) X92 hx 42 (hb hby d3_39) rfl rfl (by decide) rfl ?_
    refine g_goto X92 hx 17 (hb hby d3_42) (by decide) (by decide) ?_
    refine g_iload X92 hx 19 (hb hby d3_17) rfl rfl ?_
    refine g_iload X92 hx 21 (hb hby d3_19) rfl rfl ?_
    have ll97 : ((3 : Int32) : Int32).toInt = 3 := by decide
    have ll98 : (((0 : Int32) + (1 : Int32)) : Int32).toInt = 1 := by decide
    refine g_ic_ge X92 hx 45 24 (hb hby d3_21) (by decide) (by decide) rfl (fun c96 => ?_) (fun c96 => ?_)
    · skip
      exfalso; revert c96; decide
    · skip
      have D1 := own_dbl h_r1 b_r1
      have A2 := Jvm.FP.Core.dadd_int A1 D1 (by omega)
      refine g_aloadN X92 hx 25 (hb hby d3_24) rfl rfl rfl ?_
      refine g_iload X92 hx 27 (hb hby d3_25) rfl rfl ?_
      refine g_daload X92 hx hZ e92 Vb (by decide) (by decide) rfl 28 (hb hby d3_27) rfl ?_
      refine g_dstore (l' := #[.val (.ref a), .val (.double (FP.dadd u (FP.dmul (4611686018427387904 : UInt64) r0))), .second, .val (.ref b), .val (.int (3 : Int32)), .val (.int ((0 : Int32) + (1 : Int32))), .val (.double r1), .second]) X92 hx 30 (hb hby d3_28) rfl rfl ?_
      refine g_dloadN X92 hx 31 (hb hby d3_30) rfl rfl ?_
      refine g_ldc2D X92 hx 34 hZ hown (hw _ (List.mem_of_getElem? (i := 34) rfl)) (hb hby d3_31) rfl ?_
      refine g_dload X92 hx 36 (hb hby d3_34) rfl rfl ?_
      refine g_dmul X92 hx 37 (hb hby d3_36) rfl (own_dnn D1) ?_
      refine g_dadd X92 hx 38 (hb hby d3_37) rfl (own_dnn A2) ?_
      refine g_dstoreN (l' := #[.val (.ref a), .val (.double (FP.dadd (FP.dadd u (FP.dmul (4611686018427387904 : UInt64) r0)) (FP.dmul (4611686018427387904 : UInt64) r1))), .second, .val (.ref b), .val (.int (3 : Int32)), .val (.int ((0 : Int32) + (1 : Int32))), .val (.double r1), .second]) X92 hx 39 (hb hby d3_38) rfl rfl ?_
      refine g_iinc (w := (1 : Int32)) (l' := #[.val (.ref a), .val (.double (FP.dadd (FP.dadd u (FP.dmul (4611686018427387904 : UInt64) r0)) (FP.dmul (4611686018427387904 : UInt64) r1))), .second, .val (.ref b), .val (.int (3 : Int32)), .val (.int (((0 : Int32) + (1 : Int32)) + (1 : Int32))), .val (.double r1), .second]) X92 hx 42 (hb hby d3_39) rfl rfl (by decide) rfl ?_
      refine g_goto X92 hx 17 (hb hby d3_42) (by decide) (by decide) ?_
      refine g_iload X92 hx 19 (hb hby d3_17) rfl rfl ?_
      refine g_iload X92 hx 21 (hb hby d3_19) rfl rfl ?_
      have ll100 : ((3 : Int32) : Int32).toInt = 3 := by decide
      have ll101 : ((((0 : Int32) + (1 : Int32)) + (1 : Int32)) : Int32).toInt = 2 := by decide
      refine g_ic_ge X92 hx 45 24 (hb hby d3_21) (by decide) (by decide) rfl (fun c99 => ?_) (fun c99 => ?_)
      · skip
        exfalso; revert c99; decide
      · skip
        have D2 := own_dbl h_r2 b_r2
        have A3 := Jvm.FP.Core.dadd_int A2 D2 (by omega)
        refine g_aloadN X92 hx 25 (hb hby d3_24) rfl rfl rfl ?_
        refine g_iload X92 hx 27 (hb hby d3_25) rfl rfl ?_
        refine g_daload X92 hx hZ e92 Vb (by decide) (by decide) rfl 28 (hb hby d3_27) rfl ?_
        refine g_dstore (l' := #[.val (.ref a), .val (.double (FP.dadd (FP.dadd u (FP.dmul (4611686018427387904 : UInt64) r0)) (FP.dmul (4611686018427387904 : UInt64) r1))), .second, .val (.ref b), .val (.int (3 : Int32)), .val (.int (((0 : Int32) + (1 : Int32)) + (1 : Int32))), .val (.double r2), .second]) X92 hx 30 (hb hby d3_28) rfl rfl ?_
        refine g_dloadN X92 hx 31 (hb hby d3_30) rfl rfl ?_
        refine g_ldc2D X92 hx 34 hZ hown (hw _ (List.mem_of_getElem? (i := 34) rfl)) (hb hby d3_31) rfl ?_
        refine g_dload X92 hx 36 (hb hby d3_34) rfl rfl ?_
        refine g_dmul X92 hx 37 (hb hby d3_36) rfl (own_dnn D2) ?_
        refine g_dadd X92 hx 38 (hb hby d3_37) rfl (own_dnn A3) ?_
        refine g_dstoreN (l' := #[.val (.ref a), .val (.double (FP.dadd (FP.dadd (FP.dadd u (FP.dmul (4611686018427387904 : UInt64) r0)) (FP.dmul (4611686018427387904 : UInt64) r1)) (FP.dmul (4611686018427387904 : UInt64) r2))), .second, .val (.ref b), .val (.int (3 : Int32)), .val (.int (((0 : Int32) + (1 : Int32)) + (1 : Int32))), .val (.double r2), .second]) X92 hx 39 (hb hby d3_38) rfl rfl ?_
        refine g_iinc (w := (1 : Int32)) (l' := #[.val (.ref a), .val (.double (FP.dadd (FP.dadd (FP.dadd u (FP.dmul (4611686018427387904 : UInt64) r0)) (FP.dmul (4611686018427387904 : UInt64) r1)) (FP.dmul (4611686018427387904 : UInt64) r2))), .second, .val (.ref b), .val (.int (3 : Int32)), .val (.int ((((0 : Int32) + (1 : Int32)) + (1 : Int32)) + (1 : Int32))), .val (.double r2), .second]) X92 hx 42 (hb hby d3_39) rfl rfl (by decide) rfl ?_
        refine g_goto X92 hx 17 (hb hby d3_42) (by decide) (by decide) ?_
        refine g_iload X92 hx 19 (hb hby d3_17) rfl rfl ?_
        refine g_iload X92 hx 21 (hb hby d3_19) rfl rfl ?_
        have ll103 : ((3 : Int32) : Int32).toInt = 3 := by decide
        have ll104 : (((((0 : Int32) + (1 : Int32)) + (1 : Int32)) + (1 : Int32)) : Int32).toInt = 3 := by decide
        refine g_ic_ge X92 hx 45 24 (hb hby d3_21) (by decide) (by decide) rfl (fun c102 => ?_) (fun c102 => ?_)
        · skip
          refine g_dloadN X92 hx 46 (hb hby d3_45) rfl rfl ?_
          exact g_retD X92 hx hlk hret (hb hby d3_46) (by decide) (by decide) e92 ⟨_, rfl, A3, N0, rfl⟩
        · skip
          exfalso; revert c102; decide
theorem own_msk {p : Int32} {x : Int64} (h : (p &&& (1048575 : Int32)).toInt64 = x) : (0 ≤ x.toInt ∧ x.toInt < 1048576) ∧ Jvm.FP.Core.DInt x.toInt (FP.l2d x) := by
  have e1 := c_mask p 1048575 20 (by decide) (by decide)
  have e2 := c_i2l (p &&& 1048575)
  rw [h] at e2
  exact ⟨by omega, Jvm.FP.Core.l2d_int (by omega)⟩
theorem own_st (p : Int32) : ∃ i : Int, Jvm.FP.Core.DInt i (FP.i2d (p &&& (255 : Int32))) ∧ 0 ≤ i ∧ i < 256 := by
  have e1 := c_mask p 255 8 (by decide) (by decide)
  exact ⟨_, Jvm.FP.Core.i2d_int _, by omega, by omega⟩
theorem own_pfx : plainFor x = true := plainFor_of_name (show plainName "com/example/neaplight/neaplight/TidePeakPinLaw" = true by first | (simp [plainName, overriddenIn]; done) | decide +kernel)
theorem ef_rm0 (p0 : Int32) (p1 : Int32) (p2 : Int32) (p3 : Int32) (p4 : Int32) (p5 : Int32) (m : MethodId) : entryFrame m #[(.int p0), (.int p1), (.int p2), (.int p3), (.int p4), (.int p5)] maxLocals = mkF m 0 #[.val (.int p0), .val (.int p1), .val (.int p2), .val (.int p3), .val (.int p4), .val (.int p5), .unset, .unset, .unset, .unset, .unset, .unset, .unset, .unset, .unset, .unset, .unset, .unset, .unset, .unset, .unset, .unset, .unset] [] := by first | (simp [entryFrame, mkF, argsToLocals, Value.category, maxLocals]; done) | rfl
set_option maxRecDepth 65536 in
set_option maxHeartbeats 40000000 in
theorem rm0 (l : Launch) (Z : State) (a0 : Array Value) (hw : ∀ d ∈ tables_1, d.before a0 Z = true) (ws : List Jvm.Cond) (p0 : Int32) (p1 : Int32) (p2 : Int32) (p3 : Int32) (p4 : Int32) (p5 : Int32) (h0 : Heap) (n0 : Nat) (Z0 : n0 ≤ h0.size)  :
    MetFree l x (head1 (Jvm.Cond.code x code maxLocals ret :: ws) room_1) (fun as_ U => as_ = #[(.int p0), (.int p1), (.int p2), (.int p3), (.int p4), (.int p5)] ∧ Z.Warmed39 U.vm ∧ U.heap = h0) (fun _ _ _ _ _ => True) (fun _ U o U' => ∃ v L, o = .returned v ∧ Q_rm0 n0 v U'.heap L ∧ FrameEnd U o U' L 16 128) := by
  refine own_met own_pfx (ef_rm0 p0 p1 p2 p3 p4 p5) ?_
  intro p e s m below meth c T0 X0 hx hby hml hret hlk hnm hown hZ e0
  have N0 := Fr.nil n0
  refine g_iloadN X0 hx 1 (hb hby at_0) rfl rfl ?_
  refine g_ldcI X0 hx 3 hZ hown (hw _ (List.mem_of_getElem? (i := 0) rfl)) (hb hby at_1) rfl ?_
  refine g_iand X0 hx 4 (hb hby at_3) rfl ?_
  refine g_i2l X0 hx 5 (hb hby at_4) rfl ?_
  refine g_lstore (l' := #[.val (.int p0), .val (.int p1), .val (.int p2), .val (.int p3), .val (.int p4), .val (.int p5), .val (.long ((p0 &&& (1048575 : Int32)).toInt64)), .second, .unset, .unset, .unset, .unset, .unset, .unset, .unset, .unset, .unset, .unset, .unset, .unset, .unset, .unset, .unset]) X0 hx 7 (hb hby at_5) rfl rfl ?_
  refine g_iloadN X0 hx 8 (hb hby at_7) rfl rfl ?_
  refine g_ldcI X0 hx 10 hZ hown (hw _ (List.mem_of_getElem? (i := 0) rfl)) (hb hby at_8) rfl ?_
  refine g_iand X0 hx 11 (hb hby at_10) rfl ?_
  refine g_i2l X0 hx 12 (hb hby at_11) rfl ?_
  refine g_lstore (l' := #[.val (.int p0), .val (.int p1), .val (.int p2), .val (.int p3), .val (.int p4), .val (.int p5), .val (.long ((p0 &&& (1048575 : Int32)).toInt64)), .second, .val (.long ((p1 &&& (1048575 : Int32)).toInt64)), .second, .unset, .unset, .unset, .unset, .unset, .unset, .unset, .unset, .unset, .unset, .unset, .unset, .unset]) X0 hx 14 (hb hby at_12) rfl rfl ?_
  refine g_iloadN X0 hx 15 (hb hby at_14) rfl rfl ?_
  refine g_ldcI X0 hx 17 hZ hown (hw _ (List.mem_of_getElem? (i := 0) rfl)) (hb hby at_15) rfl ?_
  refine g_iand X0 hx 18 (hb hby at_17) rfl ?_
  refine g_i2l X0 hx 19 (hb hby at_18) rfl ?_
  refine g_lstore (l' := #[.val (.int p0), .val (.int p1), .val (.int p2), .val (.int p3), .val (.int p4), .val (.int p5), .val (.long ((p0 &&& (1048575 : Int32)).toInt64)), .second, .val (.long ((p1 &&& (1048575 : Int32)).toInt64)), .second, .val (.long ((p2 &&& (1048575 : Int32)).toInt64)), .second, .unset, .unset, .unset, .unset, .unset, .unset, .unset, .unset, .unset, .unset, .unset]) X0 hx 21 (hb hby at_19) rfl rfl ?_
  refine g_iloadN X0 hx 22 (hb hby at_21) rfl rfl ?_
  refine g_ldcI X0 hx 24 hZ hown (hw _ (List.mem_of_getElem? (i := 0) rfl)) (hb hby at_22) rfl ?_
  refine g_iand X0 hx 25 (hb hby at_24) rfl ?_
  refine g_i2l X0 hx 26 (hb hby at_25) rfl ?_
  refine g_lstore (l' := #[.val (.int p0), .val (.int p1), .val (.int p2), .val (.int p3), .val (.int p4), .val (.int p5), .val (.long ((p0 &&& (1048575 : Int32)).toInt64)), .second, .val (.long ((p1 &&& (1048575 : Int32)).toInt64)), .second, .val (.long ((p2 &&& (1048575 : Int32)).toInt64)), .second, .val (.long ((p3 &&& (1048575 : Int32)).toInt64)), .second, .unset, .unset, .unset, .unset, .unset, .unset, .unset, .unset, .unset]) X0 hx 28 (hb hby at_26) rfl rfl ?_
  refine g_iload X0 hx 30 (hb hby at_28) rfl rfl ?_
  refine g_iconst X0 hx (3 : Int32) 31 (hb hby at_30) rfl (by decide) ?_
  refine g_iand X0 hx 32 (hb hby at_31) rfl ?_
  refine g_istore (l' := #[.val (.int p0), .val (.int p1), .val (.int p2), .val (.int p3), .val (.int p4), .val (.int p5), .val (.long ((p0 &&& (1048575 : Int32)).toInt64)), .second, .val (.long ((p1 &&& (1048575 : Int32)).toInt64)), .second, .val (.long ((p2 &&& (1048575 : Int32)).toInt64)), .second, .val (.long ((p3 &&& (1048575 : Int32)).toInt64)), .second, .val (.int (p4 &&& (3 : Int32))), .unset, .unset, .unset, .unset, .unset, .unset, .unset, .unset]) X0 hx 34 (hb hby at_32) rfl rfl ?_
  generalize hR2 : ((p3 &&& (1048575 : Int32)).toInt64) = R2
  have BR2 := own_msk hR2
  generalize hR1 : ((p2 &&& (1048575 : Int32)).toInt64) = R1
  have BR1 := own_msk hR1
  generalize hR0 : ((p1 &&& (1048575 : Int32)).toInt64) = R0
  have BR0 := own_msk hR0
  generalize hS0 : ((p0 &&& (1048575 : Int32)).toInt64) = S0
  have BS0 := own_msk hS0
  generalize hk : (p4 &&& (3 : Int32)) = k
  have kb := c_mask p4 3 2 (by decide) (by decide)
  rw [hk] at kb
  refine g_iload X0 hx 36 (hb hby at_34) rfl rfl ?_
  have l1 : (1 : Int32).toInt = 1 := by decide
  have l2 : (2 : Int32).toInt = 2 := by decide
  have l3 : (3 : Int32).toInt = 3 := by decide
  refine g_if_ne X0 hx 47 39 (hb hby at_36) (by decide) (by decide) rfl (fun c105 => ?_) (fun c105 => ?_)
  · skip
    refine g_iload X0 hx 49 (hb hby at_47) rfl rfl ?_
    refine g_iconst X0 hx (1 : Int32) 50 (hb hby at_49) rfl (by decide) ?_
    have ll107 : ((1 : Int32) : Int32).toInt = 1 := by decide
    refine g_ic_ne X0 hx 67 53 (hb hby at_50) (by decide) (by decide) rfl (fun c106 => ?_) (fun c106 => ?_)
    · skip
      refine g_iload X0 hx 69 (hb hby at_67) rfl rfl ?_
      refine g_iconst X0 hx (2 : Int32) 70 (hb hby at_69) rfl (by decide) ?_
      have ll109 : ((2 : Int32) : Int32).toInt = 2 := by decide
      refine g_ic_ne X0 hx 93 73 (hb hby at_70) (by decide) (by decide) rfl (fun c108 => ?_) (fun c108 => ?_)
      · skip
        refine g_iconst X0 hx (3 : Int32) 94 (hb hby at_93) rfl (by decide) ?_
        refine g_newP X0 hx hZ (aty := .double) (hw _ (List.mem_of_getElem? (i := 1) rfl)) e0 (by decide) (cap := 3) (by decide) (by decide) 96 (hb hby at_94) rfl (by decide) (by decide) (ad := "[D") (by decide) ?_
        intro T110 h110 k110 a110 g110 X110 e110 E110 V110 A110
        have ge111 : n0 ≤ a110 := by rw [g110]; exact Z0
        have Z112 : n0 ≤ h110.size := Nat.le_trans Z0 E110.1
        have V110' : Arv Z h110 a110 k110 .double (3 : Int32) [(.double (0 : UInt64)), (.double (0 : UInt64)), (.double (0 : UInt64))] (.double (0 : UInt64)) := V110.pad (pad_rep [] (.double (0 : UInt64)) 3)
        refine g_dup X110 hx 97 (hb hby at_96) rfl rfl ?_
        refine g_iconst X110 hx (0 : Int32) 98 (hb hby at_97) rfl (by decide) ?_
        refine g_lload X110 hx 100 (hb hby at_98) rfl rfl ?_
        refine g_l2d X110 hx 101 (hb hby at_100) rfl ?_
        refine g_dastore X110 hx hZ e110 V110' 0 (by decide) (by decide) (by show 0 < 3; decide) 102 (hb hby at_101) rfl ?_
        intro T113 h113 X113 e113 W113 V113
        have F114 := A110.wr W113
        have N116 := Fr.snoc X113 N0 ge111
        have Z117 : n0 ≤ h113.size := by rw [W113.size]; exact Z112
        have V113' : Arv Z h113 a110 k110 .double (3 : Int32) [(.double (FP.l2d R0)), (.double (0 : UInt64)), (.double (0 : UInt64))] (.double (0 : UInt64)) := V113
        refine g_dup X113 hx 103 (hb hby at_102) rfl rfl ?_
        refine g_iconst X113 hx (1 : Int32) 104 (hb hby at_103) rfl (by decide) ?_
        refine g_lload X113 hx 106 (hb hby at_104) rfl rfl ?_
        refine g_l2d X113 hx 107 (hb hby at_106) rfl ?_
        refine g_dastore X113 hx hZ e113 V113' 1 (by decide) (by decide) (by show 1 < 3; decide) 108 (hb hby at_107) rfl ?_
        intro T118 h118 X118 e118 W118 V118
        have F119 := F114.wr W118
        have N121 := Fr.snoc X118 N116 ge111
        have Z122 : n0 ≤ h118.size := by rw [W118.size]; exact Z117
        have V118' : Arv Z h118 a110 k110 .double (3 : Int32) [(.double (FP.l2d R0)), (.double (FP.l2d R1)), (.double (0 : UInt64))] (.double (0 : UInt64)) := V118
        refine g_dup X118 hx 109 (hb hby at_108) rfl rfl ?_
        refine g_iconst X118 hx (2 : Int32) 110 (hb hby at_109) rfl (by decide) ?_
        refine g_lload X118 hx 112 (hb hby at_110) rfl rfl ?_
        refine g_l2d X118 hx 113 (hb hby at_112) rfl ?_
        refine g_dastore X118 hx hZ e118 V118' 2 (by decide) (by decide) (by show 2 < 3; decide) 114 (hb hby at_113) rfl ?_
        intro T123 h123 X123 e123 W123 V123
        have F124 := F119.wr W123
        have N126 := Fr.snoc X123 N121 ge111
        have Z127 : n0 ≤ h123.size := by rw [W123.size]; exact Z122
        have V123' : Arv Z h123 a110 k110 .double (3 : Int32) [(.double (FP.l2d R0)), (.double (FP.l2d R1)), (.double (FP.l2d R2))] (.double (0 : UInt64)) := V123
        refine g_astore (l' := #[.val (.int p0), .val (.int p1), .val (.int p2), .val (.int p3), .val (.int p4), .val (.int p5), .val (.long S0), .second, .val (.long R0), .second, .val (.long R1), .second, .val (.long R2), .second, .val (.int k), .val (.ref a110), .unset, .unset, .unset, .unset, .unset, .unset, .unset]) X123 hx 116 (hb hby at_114) rfl rfl rfl ?_
        refine g_iload X123 hx 118 (hb hby at_116) rfl rfl ?_
        refine g_sipush X123 hx (255 : Int32) 121 (hb hby at_118) rfl (by decide) ?_
        refine g_iand X123 hx 122 (hb hby at_121) rfl ?_
        obtain ⟨i1, E1, b1⟩ := own_st p5
        obtain ⟨i2, E2, b2⟩ := own_st ((p5.toUInt32 >>> ((8 : Int32) &&& 31).toUInt32).toInt32)
        have E3 := Jvm.FP.Core.dadd_int E1 own_done (by omega)
        have E4 := Jvm.FP.Core.dadd_int E3 E2 (by omega)
        refine g_i2d X123 hx 123 (hb hby at_122) rfl ?_
        refine g_dstore (l' := #[.val (.int p0), .val (.int p1), .val (.int p2), .val (.int p3), .val (.int p4), .val (.int p5), .val (.long S0), .second, .val (.long R0), .second, .val (.long R1), .second, .val (.long R2), .second, .val (.int k), .val (.ref a110), .val (.double (FP.i2d (p5 &&& (255 : Int32)))), .second, .unset, .unset, .unset, .unset, .unset]) X123 hx 125 (hb hby at_123) rfl rfl ?_
        refine g_dload X123 hx 127 (hb hby at_125) rfl rfl ?_
        refine g_dconst1 X123 hx 128 (hb hby at_127) rfl ?_
        refine g_dadd X123 hx 129 (hb hby at_128) rfl (own_dnn E3) ?_
        refine g_iload X123 hx 131 (hb hby at_129) rfl rfl ?_
        refine g_bipush X123 hx (8 : Int32) 133 (hb hby at_131) rfl (by decide) ?_
        refine g_iushr X123 hx 134 (hb hby at_133) rfl ?_
        refine g_sipush X123 hx (255 : Int32) 137 (hb hby at_134) rfl (by decide) ?_
        refine g_iand X123 hx 138 (hb hby at_137) rfl ?_
        refine g_i2d X123 hx 139 (hb hby at_138) rfl ?_
        refine g_dadd X123 hx 140 (hb hby at_139) rfl (own_dnn E4) ?_
        refine g_dstore (l' := #[.val (.int p0), .val (.int p1), .val (.int p2), .val (.int p3), .val (.int p4), .val (.int p5), .val (.long S0), .second, .val (.long R0), .second, .val (.long R1), .second, .val (.long R2), .second, .val (.int k), .val (.ref a110), .val (.double (FP.i2d (p5 &&& (255 : Int32)))), .second, .val (.double (FP.dadd (FP.dadd (FP.i2d (p5 &&& (255 : Int32))) 4607182418800017408) (FP.i2d (((p5.toUInt32 >>> ((8 : Int32) &&& 31).toUInt32).toInt32) &&& (255 : Int32))))), .second, .unset, .unset, .unset]) X123 hx 142 (hb hby at_140) rfl rfl ?_
        refine g_new X123 hx hZ hown (hw _ (List.mem_of_getElem? (i := 2) rfl)) (hw _ (List.mem_of_getElem? (i := 3) rfl)) (hw _ (List.mem_of_getElem? (i := 4) rfl)) e123 145 (hb hby at_142) rfl (by decide) (by decide) ?_
        intro T128 h128 a128 g128 X128 e128 E128 A128 D128
        have ne129 : a110 ≠ a128 := Nat.ne_of_lt (by rw [g128]; exact F124.lt)
        have ge130 : n0 ≤ a128 := by rw [g128]; exact Z127
        have F131 := F124.ext E128
        have F132 := V123'.ext E128
        have Z133 : n0 ≤ h128.size := Nat.le_trans Z127 E128.1
        have F134 : Fld Z h128 a128 "com/example/neaplight/neaplight/Tide" "stable" "D" (.double (0 : UInt64)) := D128 (Or.inr (hw _ (List.mem_of_getElem? (i := 12) rfl))) (ty := .double) (by decide)
        have F135 : Fld Z h128 a128 "com/example/neaplight/neaplight/Tide" "nominal" "[D" .null := D128 (Or.inr (hw _ (List.mem_of_getElem? (i := 23) rfl))) (ty := (.array .double)) (by decide)
        have F136 : Fld Z h128 a128 "com/example/neaplight/neaplight/Tide" "start" "D" (.double (0 : UInt64)) := D128 (Or.inr (hw _ (List.mem_of_getElem? (i := 25) rfl))) (ty := .double) (by decide)
        have F137 : Fld Z h128 a128 "com/example/neaplight/neaplight/Tide" "end" "D" (.double (0 : UInt64)) := D128 (Or.inr (hw _ (List.mem_of_getElem? (i := 27) rfl))) (ty := .double) (by decide)
        refine g_dup X128 hx 146 (hb hby at_145) rfl rfl ?_
        refine g_lload X128 hx 148 (hb hby at_146) rfl rfl ?_
        refine g_l2d X128 hx 149 (hb hby at_148) rfl ?_
        refine g_aload X128 hx 151 (hb hby at_149) rfl rfl rfl ?_
        refine g_dload X128 hx 153 (hb hby at_151) rfl rfl ?_
        refine g_dload X128 hx 155 (hb hby at_153) rfl rfl ?_
        refine g_init X128 hx hZ rfl hown (hw _ (List.mem_of_getElem? (i := 5) rfl)) (hw _ (List.mem_of_getElem? (i := 6) rfl)) (hw _ (List.mem_of_getElem? (i := 4) rfl)) (hw _ (List.mem_of_getElem? (i := 7) rfl)) (by decide) (rm1 l Z a0 hw a128 (FP.l2d S0) a110 (FP.i2d (p5 &&& (255 : Int32))) (FP.dadd (FP.dadd (FP.i2d (p5 &&& (255 : Int32))) 4607182418800017408) (FP.i2d (((p5.toUInt32 >>> ((8 : Int32) &&& 31).toUInt32).toInt32) &&& (255 : Int32)))) h128 n0 Z133 k110 (3 : Int32) [(.double (FP.l2d R0)), (.double (FP.l2d R1)), (.double (FP.l2d R2))] (.double (0 : UInt64)) A128 F131 F132 (by decide) ge130 ne129 F134 F136 F137 F135) e128 (a := a128) (argsL := [(.double (FP.l2d S0)), (.ref a110), (.double (FP.i2d (p5 &&& (255 : Int32)))), (.double (FP.dadd (FP.dadd (FP.i2d (p5 &&& (255 : Int32))) 4607182418800017408) (FP.i2d (((p5.toUInt32 >>> ((8 : Int32) &&& 31).toUInt32).toInt32) &&& (255 : Int32)))))]) (rest := [(.ref a128)]) rfl rfl 1 158 rfl (by rw [hml]; rfl) (lenOf own_pd0 rfl) (Nat.le_refl _) (by decide) (by decide) (by decide) (by decide) (hb hby at_155) ?_
        intro v138 T138 L138 X138 hQ138
        obtain ⟨rfl, N138, K138, Fs138, bb138, Fn138, Vn138⟩ := hQ138
        have N139 := Fr.app N126 N138
        have F140 := F131.keep K138
        have F141 := F132.keep K138 (ninS ne129 nin0)
        have F142 := A128.keep K138
        have Z147 : n0 ≤ T138.heap.size := Nat.le_trans Z133 K138.1
        show Go p e below _ T138 (mkF m 158 #[.val (.int p0), .val (.int p1), .val (.int p2), .val (.int p3), .val (.int p4), .val (.int p5), .val (.long S0), .second, .val (.long R0), .second, .val (.long R1), .second, .val (.long R2), .second, .val (.int k), .val (.ref a110), .val (.double (FP.i2d (p5 &&& (255 : Int32)))), .second, .val (.double (FP.dadd (FP.dadd (FP.i2d (p5 &&& (255 : Int32))) 4607182418800017408) (FP.i2d (((p5.toUInt32 >>> ((8 : Int32) &&& 31).toUInt32).toInt32) &&& (255 : Int32))))), .second, .unset, .unset, .unset] [(.ref a128)])
        refine g_astore (l' := #[.val (.int p0), .val (.int p1), .val (.int p2), .val (.int p3), .val (.int p4), .val (.int p5), .val (.long S0), .second, .val (.long R0), .second, .val (.long R1), .second, .val (.long R2), .second, .val (.int k), .val (.ref a110), .val (.double (FP.i2d (p5 &&& (255 : Int32)))), .second, .val (.double (FP.dadd (FP.dadd (FP.i2d (p5 &&& (255 : Int32))) 4607182418800017408) (FP.i2d (((p5.toUInt32 >>> ((8 : Int32) &&& 31).toUInt32).toInt32) &&& (255 : Int32))))), .second, .val (.ref a128), .unset, .unset]) X138 hx 160 (hb hby at_158) rfl rfl rfl ?_
        refine g_lload X138 hx 162 (hb hby at_160) rfl rfl ?_
        refine g_lstore (l' := #[.val (.int p0), .val (.int p1), .val (.int p2), .val (.int p3), .val (.int p4), .val (.int p5), .val (.long S0), .second, .val (.long R0), .second, .val (.long R1), .second, .val (.long R2), .second, .val (.int k), .val (.ref a110), .val (.double (FP.i2d (p5 &&& (255 : Int32)))), .second, .val (.double (FP.dadd (FP.dadd (FP.i2d (p5 &&& (255 : Int32))) 4607182418800017408) (FP.i2d (((p5.toUInt32 >>> ((8 : Int32) &&& 31).toUInt32).toInt32) &&& (255 : Int32))))), .second, .val (.ref a128), .val (.long S0), .second]) X138 hx 164 (hb hby at_162) rfl rfl ?_
        refine g_iload X138 hx 166 (hb hby at_164) rfl rfl ?_
        refine g_iconst X138 hx (1 : Int32) 167 (hb hby at_166) rfl (by decide) ?_
        have ll149 : ((1 : Int32) : Int32).toInt = 1 := by decide
        refine g_ic_lt X138 hx 181 170 (hb hby at_167) (by decide) (by decide) rfl (fun c148 => ?_) (fun c148 => ?_)
        · skip
          exfalso; omega
        · skip
          refine g_lload X138 hx 172 (hb hby at_170) rfl rfl ?_
          refine g_ldc2J X138 hx 175 hZ hown (hw _ (List.mem_of_getElem? (i := 33) rfl)) (hb hby at_172) rfl ?_
          refine g_lload X138 hx 177 (hb hby at_175) rfl rfl ?_
          refine g_lmul X138 hx 178 (hb hby at_177) rfl ?_
          refine g_ladd X138 hx 179 (hb hby at_178) rfl ?_
          refine g_lstore (l' := #[.val (.int p0), .val (.int p1), .val (.int p2), .val (.int p3), .val (.int p4), .val (.int p5), .val (.long S0), .second, .val (.long R0), .second, .val (.long R1), .second, .val (.long R2), .second, .val (.int k), .val (.ref a110), .val (.double (FP.i2d (p5 &&& (255 : Int32)))), .second, .val (.double (FP.dadd (FP.dadd (FP.i2d (p5 &&& (255 : Int32))) 4607182418800017408) (FP.i2d (((p5.toUInt32 >>> ((8 : Int32) &&& 31).toUInt32).toInt32) &&& (255 : Int32))))), .second, .val (.ref a128), .val (.long (S0 + ((2 : Int64) * R0))), .second]) X138 hx 181 (hb hby at_179) rfl rfl ?_
          refine g_iload X138 hx 183 (hb hby at_181) rfl rfl ?_
          refine g_iconst X138 hx (2 : Int32) 184 (hb hby at_183) rfl (by decide) ?_
          have ll151 : ((2 : Int32) : Int32).toInt = 2 := by decide
          refine g_ic_lt X138 hx 198 187 (hb hby at_184) (by decide) (by decide) rfl (fun c150 => ?_) (fun c150 => ?_)
          · skip
            exfalso; omega
          · skip
            refine g_lload X138 hx 189 (hb hby at_187) rfl rfl ?_
            refine g_ldc2J X138 hx 192 hZ hown (hw _ (List.mem_of_getElem? (i := 33) rfl)) (hb hby at_189) rfl ?_
            refine g_lload X138 hx 194 (hb hby at_192) rfl rfl ?_
            refine g_lmul X138 hx 195 (hb hby at_194) rfl ?_
            refine g_ladd X138 hx 196 (hb hby at_195) rfl ?_
            refine g_lstore (l' := #[.val (.int p0), .val (.int p1), .val (.int p2), .val (.int p3), .val (.int p4), .val (.int p5), .val (.long S0), .second, .val (.long R0), .second, .val (.long R1), .second, .val (.long R2), .second, .val (.int k), .val (.ref a110), .val (.double (FP.i2d (p5 &&& (255 : Int32)))), .second, .val (.double (FP.dadd (FP.dadd (FP.i2d (p5 &&& (255 : Int32))) 4607182418800017408) (FP.i2d (((p5.toUInt32 >>> ((8 : Int32) &&& 31).toUInt32).toInt32) &&& (255 : Int32))))), .second, .val (.ref a128), .val (.long ((S0 + ((2 : Int64) * R0)) + ((2 : Int64) * R1))), .second]) X138 hx 198 (hb hby at_196) rfl rfl ?_
            refine g_iload X138 hx 200 (hb hby at_198) rfl rfl ?_
            refine g_iconst X138 hx (3 : Int32) 201 (hb hby at_200) rfl (by decide) ?_
            have ll153 : ((3 : Int32) : Int32).toInt = 3 := by decide
            refine g_ic_lt X138 hx 215 204 (hb hby at_201) (by decide) (by decide) rfl (fun c152 => ?_) (fun c152 => ?_)
            · skip
              exfalso; omega
            · skip
              refine g_lload X138 hx 206 (hb hby at_204) rfl rfl ?_
              refine g_ldc2J X138 hx 209 hZ hown (hw _ (List.mem_of_getElem? (i := 33) rfl)) (hb hby at_206) rfl ?_
              refine g_lload X138 hx 211 (hb hby at_209) rfl rfl ?_
              refine g_lmul X138 hx 212 (hb hby at_211) rfl ?_
              refine g_ladd X138 hx 213 (hb hby at_212) rfl ?_
              refine g_lstore (l' := #[.val (.int p0), .val (.int p1), .val (.int p2), .val (.int p3), .val (.int p4), .val (.int p5), .val (.long S0), .second, .val (.long R0), .second, .val (.long R1), .second, .val (.long R2), .second, .val (.int k), .val (.ref a110), .val (.double (FP.i2d (p5 &&& (255 : Int32)))), .second, .val (.double (FP.dadd (FP.dadd (FP.i2d (p5 &&& (255 : Int32))) 4607182418800017408) (FP.i2d (((p5.toUInt32 >>> ((8 : Int32) &&& 31).toUInt32).toInt32) &&& (255 : Int32))))), .second, .val (.ref a128), .val (.long (((S0 + ((2 : Int64) * R0)) + ((2 : Int64) * R1)) + ((2 : Int64) * R2))), .second]) X138 hx 215 (hb hby at_213) rfl rfl ?_
              refine g_aload X138 hx 217 (hb hby at_215) rfl rfl rfl ?_
              refine g_virt X138 hx hZ (C := "com/example/neaplight/neaplight/Tide") hown (hw _ (List.mem_of_getElem? (i := 28) rfl)) (hw _ (List.mem_of_getElem? (i := 29) rfl)) (hw _ (List.mem_of_getElem? (i := 31) rfl)) (hw _ (List.mem_of_getElem? (i := 31) rfl)) (hw _ (List.mem_of_getElem? (i := 30) rfl)) (hw _ (List.mem_of_getElem? (i := 4) rfl)) (hw _ (List.mem_of_getElem? (i := 32) rfl)) (by decide) (rm3_3 l Z a0 hw a128 T138.heap n0 Z147 bb138 _ (FP.l2d S0) S0.toInt BS0.2 BS0.1 _ (FP.l2d R0) R0.toInt BR0.2 BR0.1 (FP.l2d R1) R1.toInt BR1.2 BR1.1 (FP.l2d R2) R2.toInt BR2.2 BR2.1 Fs138 Fn138 Vn138) rfl (b := a128) F142 (argsL := []) (rest := []) rfl rfl 0 220 rfl (by rw [hml]; rfl) (lenOf own_pd3 rfl) (Nat.le_refl _) (by decide) (by decide) (by decide) (by decide) (hb hby at_217) ?_
              intro v154 T154 L154 X154 hQ154
              obtain ⟨x154, rfl, dx154, N154, q154⟩ := hQ154
              have N155 := Fr.app N139 N154
              show Go p e below _ T154 (mkF m 220 #[.val (.int p0), .val (.int p1), .val (.int p2), .val (.int p3), .val (.int p4), .val (.int p5), .val (.long S0), .second, .val (.long R0), .second, .val (.long R1), .second, .val (.long R2), .second, .val (.int k), .val (.ref a110), .val (.double (FP.i2d (p5 &&& (255 : Int32)))), .second, .val (.double (FP.dadd (FP.dadd (FP.i2d (p5 &&& (255 : Int32))) 4607182418800017408) (FP.i2d (((p5.toUInt32 >>> ((8 : Int32) &&& 31).toUInt32).toInt32) &&& (255 : Int32))))), .second, .val (.ref a128), .val (.long (((S0 + ((2 : Int64) * R0)) + ((2 : Int64) * R1)) + ((2 : Int64) * R2))), .second] [(.double x154)])
              refine g_lload X154 hx 222 (hb hby at_220) rfl rfl ?_
              refine g_l2d X154 hx 223 (hb hby at_222) rfl ?_
              have rr : ((((S0 + ((2 : Int64) * R0)) + ((2 : Int64) * R1)) + ((2 : Int64) * R2))).toInt = S0.toInt + 2 * R0.toInt + 2 * R1.toInt + 2 * R2.toInt := by
                have l0 : (2 : Int64).toInt = 2 := by decide
                have mR0 := c_lmul 2 R0
                have mrR0 := rng64 ((2 : Int64) * R0)
                have aR0 := c_ladd S0 ((2 : Int64) * R0)
                have arR0 := rng64 (S0 + ((2 : Int64) * R0))
                rw [l0] at mR0
                have mR1 := c_lmul 2 R1
                have mrR1 := rng64 ((2 : Int64) * R1)
                have aR1 := c_ladd (S0 + ((2 : Int64) * R0)) ((2 : Int64) * R1)
                have arR1 := rng64 ((S0 + ((2 : Int64) * R0)) + ((2 : Int64) * R1))
                rw [l0] at mR1
                have mR2 := c_lmul 2 R2
                have mrR2 := rng64 ((2 : Int64) * R2)
                have aR2 := c_ladd ((S0 + ((2 : Int64) * R0)) + ((2 : Int64) * R1)) ((2 : Int64) * R2)
                have arR2 := rng64 (((S0 + ((2 : Int64) * R0)) + ((2 : Int64) * R1)) + ((2 : Int64) * R2))
                rw [l0] at mR2
                omega
              have dr := Jvm.FP.Core.l2d_int (a := (((S0 + ((2 : Int64) * R0)) + ((2 : Int64) * R1)) + ((2 : Int64) * R2))) (by rw [rr]; omega)
              rw [rr] at dr
              refine g_dc_ne X154 hx 224 231 227 (hb hby at_223) rfl (hb hby at_224) (by decide) (by decide) rfl (Jvm.FP.Core.dcmp_int dx154 dr) (fun c156 => ?_) (fun c156 => ?_)
              · skip
                exact absurd rfl c156
              · skip
                refine g_iconst X154 hx (1 : Int32) 228 (hb hby at_227) rfl (by decide) ?_
                refine g_goto X154 hx 232 (hb hby at_228) (by decide) (by decide) ?_
                exact g_retZ X154 hx hlk hret (hb hby at_232) (by decide) (by decide) q154 ⟨rfl, N155⟩
      · skip
        refine g_iconst X0 hx (2 : Int32) 74 (hb hby at_73) rfl (by decide) ?_
        refine g_newP X0 hx hZ (aty := .double) (hw _ (List.mem_of_getElem? (i := 1) rfl)) e0 (by decide) (cap := 2) (by decide) (by decide) 76 (hb hby at_74) rfl (by decide) (by decide) (ad := "[D") (by decide) ?_
        intro T157 h157 k157 a157 g157 X157 e157 E157 V157 A157
        have ge158 : n0 ≤ a157 := by rw [g157]; exact Z0
        have Z159 : n0 ≤ h157.size := Nat.le_trans Z0 E157.1
        have V157' : Arv Z h157 a157 k157 .double (2 : Int32) [(.double (0 : UInt64)), (.double (0 : UInt64))] (.double (0 : UInt64)) := V157.pad (pad_rep [] (.double (0 : UInt64)) 2)
        refine g_dup X157 hx 77 (hb hby at_76) rfl rfl ?_
        refine g_iconst X157 hx (0 : Int32) 78 (hb hby at_77) rfl (by decide) ?_
        refine g_lload X157 hx 80 (hb hby at_78) rfl rfl ?_
        refine g_l2d X157 hx 81 (hb hby at_80) rfl ?_
        refine g_dastore X157 hx hZ e157 V157' 0 (by decide) (by decide) (by show 0 < 2; decide) 82 (hb hby at_81) rfl ?_
        intro T160 h160 X160 e160 W160 V160
        have F161 := A157.wr W160
        have N163 := Fr.snoc X160 N0 ge158
        have Z164 : n0 ≤ h160.size := by rw [W160.size]; exact Z159
        have V160' : Arv Z h160 a157 k157 .double (2 : Int32) [(.double (FP.l2d R0)), (.double (0 : UInt64))] (.double (0 : UInt64)) := V160
        refine g_dup X160 hx 83 (hb hby at_82) rfl rfl ?_
        refine g_iconst X160 hx (1 : Int32) 84 (hb hby at_83) rfl (by decide) ?_
        refine g_lload X160 hx 86 (hb hby at_84) rfl rfl ?_
        refine g_l2d X160 hx 87 (hb hby at_86) rfl ?_
        refine g_dastore X160 hx hZ e160 V160' 1 (by decide) (by decide) (by show 1 < 2; decide) 88 (hb hby at_87) rfl ?_
        intro T165 h165 X165 e165 W165 V165
        have F166 := F161.wr W165
        have N168 := Fr.snoc X165 N163 ge158
        have Z169 : n0 ≤ h165.size := by rw [W165.size]; exact Z164
        have V165' : Arv Z h165 a157 k157 .double (2 : Int32) [(.double (FP.l2d R0)), (.double (FP.l2d R1))] (.double (0 : UInt64)) := V165
        refine g_astore (l' := #[.val (.int p0), .val (.int p1), .val (.int p2), .val (.int p3), .val (.int p4), .val (.int p5), .val (.long S0), .second, .val (.long R0), .second, .val (.long R1), .second, .val (.long R2), .second, .val (.int k), .val (.ref a157), .unset, .unset, .unset, .unset, .unset, .unset, .unset]) X165 hx 90 (hb hby at_88) rfl rfl rfl ?_
        refine g_goto X165 hx 116 (hb hby at_90) (by decide) (by decide) ?_
        refine g_iload X165 hx 118 (hb hby at_116) rfl rfl ?_
        refine g_sipush X165 hx (255 : Int32) 121 (hb hby at_118) rfl (by decide) ?_
        refine g_iand X165 hx 122 (hb hby at_121) rfl ?_
        obtain ⟨i1, E1, b1⟩ := own_st p5
        obtain ⟨i2, E2, b2⟩ := own_st ((p5.toUInt32 >>> ((8 : Int32) &&& 31).toUInt32).toInt32)
        have E3 := Jvm.FP.Core.dadd_int E1 own_done (by omega)
        have E4 := Jvm.FP.Core.dadd_int E3 E2 (by omega)
        refine g_i2d X165 hx 123 (hb hby at_122) rfl ?_
        refine g_dstore (l' := #[.val (.int p0), .val (.int p1), .val (.int p2), .val (.int p3), .val (.int p4), .val (.int p5), .val (.long S0), .second, .val (.long R0), .second, .val (.long R1), .second, .val (.long R2), .second, .val (.int k), .val (.ref a157), .val (.double (FP.i2d (p5 &&& (255 : Int32)))), .second, .unset, .unset, .unset, .unset, .unset]) X165 hx 125 (hb hby at_123) rfl rfl ?_
        refine g_dload X165 hx 127 (hb hby at_125) rfl rfl ?_
        refine g_dconst1 X165 hx 128 (hb hby at_127) rfl ?_
        refine g_dadd X165 hx 129 (hb hby at_128) rfl (own_dnn E3) ?_
        refine g_iload X165 hx 131 (hb hby at_129) rfl rfl ?_
        refine g_bipush X165 hx (8 : Int32) 133 (hb hby at_131) rfl (by decide) ?_
        refine g_iushr X165 hx 134 (hb hby at_133) rfl ?_
        refine g_sipush X165 hx (255 : Int32) 137 (hb hby at_134) rfl (by decide) ?_
        refine g_iand X165 hx 138 (hb hby at_137) rfl ?_
        refine g_i2d X165 hx 139 (hb hby at_138) rfl ?_
        refine g_dadd X165 hx 140 (hb hby at_139) rfl (own_dnn E4) ?_
        refine g_dstore (l' := #[.val (.int p0), .val (.int p1), .val (.int p2), .val (.int p3), .val (.int p4), .val (.int p5), .val (.long S0), .second, .val (.long R0), .second, .val (.long R1), .second, .val (.long R2), .second, .val (.int k), .val (.ref a157), .val (.double (FP.i2d (p5 &&& (255 : Int32)))), .second, .val (.double (FP.dadd (FP.dadd (FP.i2d (p5 &&& (255 : Int32))) 4607182418800017408) (FP.i2d (((p5.toUInt32 >>> ((8 : Int32) &&& 31).toUInt32).toInt32) &&& (255 : Int32))))), .second, .unset, .unset, .unset]) X165 hx 142 (hb hby at_140) rfl rfl ?_
        refine g_new X165 hx hZ hown (hw _ (List.mem_of_getElem? (i := 2) rfl)) (hw _ (List.mem_of_getElem? (i := 3) rfl)) (hw _ (List.mem_of_getElem? (i := 4) rfl)) e165 145 (hb hby at_142) rfl (by decide) (by decide) ?_
        intro T170 h170 a170 g170 X170 e170 E170 A170 D170
        have ne171 : a157 ≠ a170 := Nat.ne_of_lt (by rw [g170]; exact F166.lt)
        have ge172 : n0 ≤ a170 := by rw [g170]; exact Z169
        have F173 := F166.ext E170
        have F174 := V165'.ext E170
        have Z175 : n0 ≤ h170.size := Nat.le_trans Z169 E170.1
        have F176 : Fld Z h170 a170 "com/example/neaplight/neaplight/Tide" "stable" "D" (.double (0 : UInt64)) := D170 (Or.inr (hw _ (List.mem_of_getElem? (i := 12) rfl))) (ty := .double) (by decide)
        have F177 : Fld Z h170 a170 "com/example/neaplight/neaplight/Tide" "nominal" "[D" .null := D170 (Or.inr (hw _ (List.mem_of_getElem? (i := 23) rfl))) (ty := (.array .double)) (by decide)
        have F178 : Fld Z h170 a170 "com/example/neaplight/neaplight/Tide" "start" "D" (.double (0 : UInt64)) := D170 (Or.inr (hw _ (List.mem_of_getElem? (i := 25) rfl))) (ty := .double) (by decide)
        have F179 : Fld Z h170 a170 "com/example/neaplight/neaplight/Tide" "end" "D" (.double (0 : UInt64)) := D170 (Or.inr (hw _ (List.mem_of_getElem? (i := 27) rfl))) (ty := .double) (by decide)
        refine g_dup X170 hx 146 (hb hby at_145) rfl rfl ?_
        refine g_lload X170 hx 148 (hb hby at_146) rfl rfl ?_
        refine g_l2d X170 hx 149 (hb hby at_148) rfl ?_
        refine g_aload X170 hx 151 (hb hby at_149) rfl rfl rfl ?_
        refine g_dload X170 hx 153 (hb hby at_151) rfl rfl ?_
        refine g_dload X170 hx 155 (hb hby at_153) rfl rfl ?_
        refine g_init X170 hx hZ rfl hown (hw _ (List.mem_of_getElem? (i := 5) rfl)) (hw _ (List.mem_of_getElem? (i := 6) rfl)) (hw _ (List.mem_of_getElem? (i := 4) rfl)) (hw _ (List.mem_of_getElem? (i := 7) rfl)) (by decide) (rm1 l Z a0 hw a170 (FP.l2d S0) a157 (FP.i2d (p5 &&& (255 : Int32))) (FP.dadd (FP.dadd (FP.i2d (p5 &&& (255 : Int32))) 4607182418800017408) (FP.i2d (((p5.toUInt32 >>> ((8 : Int32) &&& 31).toUInt32).toInt32) &&& (255 : Int32)))) h170 n0 Z175 k157 (2 : Int32) [(.double (FP.l2d R0)), (.double (FP.l2d R1))] (.double (0 : UInt64)) A170 F173 F174 (by decide) ge172 ne171 F176 F178 F179 F177) e170 (a := a170) (argsL := [(.double (FP.l2d S0)), (.ref a157), (.double (FP.i2d (p5 &&& (255 : Int32)))), (.double (FP.dadd (FP.dadd (FP.i2d (p5 &&& (255 : Int32))) 4607182418800017408) (FP.i2d (((p5.toUInt32 >>> ((8 : Int32) &&& 31).toUInt32).toInt32) &&& (255 : Int32)))))]) (rest := [(.ref a170)]) rfl rfl 1 158 rfl (by rw [hml]; rfl) (lenOf own_pd0 rfl) (Nat.le_refl _) (by decide) (by decide) (by decide) (by decide) (hb hby at_155) ?_
        intro v180 T180 L180 X180 hQ180
        obtain ⟨rfl, N180, K180, Fs180, bb180, Fn180, Vn180⟩ := hQ180
        have N181 := Fr.app N168 N180
        have F182 := F173.keep K180
        have F183 := F174.keep K180 (ninS ne171 nin0)
        have F184 := A170.keep K180
        have Z189 : n0 ≤ T180.heap.size := Nat.le_trans Z175 K180.1
        show Go p e below _ T180 (mkF m 158 #[.val (.int p0), .val (.int p1), .val (.int p2), .val (.int p3), .val (.int p4), .val (.int p5), .val (.long S0), .second, .val (.long R0), .second, .val (.long R1), .second, .val (.long R2), .second, .val (.int k), .val (.ref a157), .val (.double (FP.i2d (p5 &&& (255 : Int32)))), .second, .val (.double (FP.dadd (FP.dadd (FP.i2d (p5 &&& (255 : Int32))) 4607182418800017408) (FP.i2d (((p5.toUInt32 >>> ((8 : Int32) &&& 31).toUInt32).toInt32) &&& (255 : Int32))))), .second, .unset, .unset, .unset] [(.ref a170)])
        refine g_astore (l' := #[.val (.int p0), .val (.int p1), .val (.int p2), .val (.int p3), .val (.int p4), .val (.int p5), .val (.long S0), .second, .val (.long R0), .second, .val (.long R1), .second, .val (.long R2), .second, .val (.int k), .val (.ref a157), .val (.double (FP.i2d (p5 &&& (255 : Int32)))), .second, .val (.double (FP.dadd (FP.dadd (FP.i2d (p5 &&& (255 : Int32))) 4607182418800017408) (FP.i2d (((p5.toUInt32 >>> ((8 : Int32) &&& 31).toUInt32).toInt32) &&& (255 : Int32))))), .second, .val (.ref a170), .unset, .unset]) X180 hx 160 (hb hby at_158) rfl rfl rfl ?_
        refine g_lload X180 hx 162 (hb hby at_160) rfl rfl ?_
        refine g_lstore (l' := #[.val (.int p0), .val (.int p1), .val (.int p2), .val (.int p3), .val (.int p4), .val (.int p5), .val (.long S0), .second, .val (.long R0), .second, .val (.long R1), .second, .val (.long R2), .second, .val (.int k), .val (.ref a157), .val (.double (FP.i2d (p5 &&& (255 : Int32)))), .second, .val (.double (FP.dadd (FP.dadd (FP.i2d (p5 &&& (255 : Int32))) 4607182418800017408) (FP.i2d (((p5.toUInt32 >>> ((8 : Int32) &&& 31).toUInt32).toInt32) &&& (255 : Int32))))), .second, .val (.ref a170), .val (.long S0), .second]) X180 hx 164 (hb hby at_162) rfl rfl ?_
        refine g_iload X180 hx 166 (hb hby at_164) rfl rfl ?_
        refine g_iconst X180 hx (1 : Int32) 167 (hb hby at_166) rfl (by decide) ?_
        have ll191 : ((1 : Int32) : Int32).toInt = 1 := by decide
        refine g_ic_lt X180 hx 181 170 (hb hby at_167) (by decide) (by decide) rfl (fun c190 => ?_) (fun c190 => ?_)
        · skip
          exfalso; omega
        · skip
          refine g_lload X180 hx 172 (hb hby at_170) rfl rfl ?_
          refine g_ldc2J X180 hx 175 hZ hown (hw _ (List.mem_of_getElem? (i := 33) rfl)) (hb hby at_172) rfl ?_
          refine g_lload X180 hx 177 (hb hby at_175) rfl rfl ?_
          refine g_lmul X180 hx 178 (hb hby at_177) rfl ?_
          refine g_ladd X180 hx 179 (hb hby at_178) rfl ?_
          refine g_lstore (l' := #[.val (.int p0), .val (.int p1), .val (.int p2), .val (.int p3), .val (.int p4), .val (.int p5), .val (.long S0), .second, .val (.long R0), .second, .val (.long R1), .second, .val (.long R2), .second, .val (.int k), .val (.ref a157), .val (.double (FP.i2d (p5 &&& (255 : Int32)))), .second, .val (.double (FP.dadd (FP.dadd (FP.i2d (p5 &&& (255 : Int32))) 4607182418800017408) (FP.i2d (((p5.toUInt32 >>> ((8 : Int32) &&& 31).toUInt32).toInt32) &&& (255 : Int32))))), .second, .val (.ref a170), .val (.long (S0 + ((2 : Int64) * R0))), .second]) X180 hx 181 (hb hby at_179) rfl rfl ?_
          refine g_iload X180 hx 183 (hb hby at_181) rfl rfl ?_
          refine g_iconst X180 hx (2 : Int32) 184 (hb hby at_183) rfl (by decide) ?_
          have ll193 : ((2 : Int32) : Int32).toInt = 2 := by decide
          refine g_ic_lt X180 hx 198 187 (hb hby at_184) (by decide) (by decide) rfl (fun c192 => ?_) (fun c192 => ?_)
          · skip
            exfalso; omega
          · skip
            refine g_lload X180 hx 189 (hb hby at_187) rfl rfl ?_
            refine g_ldc2J X180 hx 192 hZ hown (hw _ (List.mem_of_getElem? (i := 33) rfl)) (hb hby at_189) rfl ?_
            refine g_lload X180 hx 194 (hb hby at_192) rfl rfl ?_
            refine g_lmul X180 hx 195 (hb hby at_194) rfl ?_
            refine g_ladd X180 hx 196 (hb hby at_195) rfl ?_
            refine g_lstore (l' := #[.val (.int p0), .val (.int p1), .val (.int p2), .val (.int p3), .val (.int p4), .val (.int p5), .val (.long S0), .second, .val (.long R0), .second, .val (.long R1), .second, .val (.long R2), .second, .val (.int k), .val (.ref a157), .val (.double (FP.i2d (p5 &&& (255 : Int32)))), .second, .val (.double (FP.dadd (FP.dadd (FP.i2d (p5 &&& (255 : Int32))) 4607182418800017408) (FP.i2d (((p5.toUInt32 >>> ((8 : Int32) &&& 31).toUInt32).toInt32) &&& (255 : Int32))))), .second, .val (.ref a170), .val (.long ((S0 + ((2 : Int64) * R0)) + ((2 : Int64) * R1))), .second]) X180 hx 198 (hb hby at_196) rfl rfl ?_
            refine g_iload X180 hx 200 (hb hby at_198) rfl rfl ?_
            refine g_iconst X180 hx (3 : Int32) 201 (hb hby at_200) rfl (by decide) ?_
            have ll195 : ((3 : Int32) : Int32).toInt = 3 := by decide
            refine g_ic_lt X180 hx 215 204 (hb hby at_201) (by decide) (by decide) rfl (fun c194 => ?_) (fun c194 => ?_)
            · skip
              refine g_aload X180 hx 217 (hb hby at_215) rfl rfl rfl ?_
              refine g_virt X180 hx hZ (C := "com/example/neaplight/neaplight/Tide") hown (hw _ (List.mem_of_getElem? (i := 28) rfl)) (hw _ (List.mem_of_getElem? (i := 29) rfl)) (hw _ (List.mem_of_getElem? (i := 31) rfl)) (hw _ (List.mem_of_getElem? (i := 31) rfl)) (hw _ (List.mem_of_getElem? (i := 30) rfl)) (hw _ (List.mem_of_getElem? (i := 4) rfl)) (hw _ (List.mem_of_getElem? (i := 32) rfl)) (by decide) (rm3_2 l Z a0 hw a170 T180.heap n0 Z189 bb180 _ (FP.l2d S0) S0.toInt BS0.2 BS0.1 _ (FP.l2d R0) R0.toInt BR0.2 BR0.1 (FP.l2d R1) R1.toInt BR1.2 BR1.1 Fs180 Fn180 Vn180) rfl (b := a170) F184 (argsL := []) (rest := []) rfl rfl 0 220 rfl (by rw [hml]; rfl) (lenOf own_pd3 rfl) (Nat.le_refl _) (by decide) (by decide) (by decide) (by decide) (hb hby at_217) ?_
              intro v196 T196 L196 X196 hQ196
              obtain ⟨x196, rfl, dx196, N196, q196⟩ := hQ196
              have N197 := Fr.app N181 N196
              show Go p e below _ T196 (mkF m 220 #[.val (.int p0), .val (.int p1), .val (.int p2), .val (.int p3), .val (.int p4), .val (.int p5), .val (.long S0), .second, .val (.long R0), .second, .val (.long R1), .second, .val (.long R2), .second, .val (.int k), .val (.ref a157), .val (.double (FP.i2d (p5 &&& (255 : Int32)))), .second, .val (.double (FP.dadd (FP.dadd (FP.i2d (p5 &&& (255 : Int32))) 4607182418800017408) (FP.i2d (((p5.toUInt32 >>> ((8 : Int32) &&& 31).toUInt32).toInt32) &&& (255 : Int32))))), .second, .val (.ref a170), .val (.long ((S0 + ((2 : Int64) * R0)) + ((2 : Int64) * R1))), .second] [(.double x196)])
              refine g_lload X196 hx 222 (hb hby at_220) rfl rfl ?_
              refine g_l2d X196 hx 223 (hb hby at_222) rfl ?_
              have rr : (((S0 + ((2 : Int64) * R0)) + ((2 : Int64) * R1))).toInt = S0.toInt + 2 * R0.toInt + 2 * R1.toInt := by
                have l0 : (2 : Int64).toInt = 2 := by decide
                have mR0 := c_lmul 2 R0
                have mrR0 := rng64 ((2 : Int64) * R0)
                have aR0 := c_ladd S0 ((2 : Int64) * R0)
                have arR0 := rng64 (S0 + ((2 : Int64) * R0))
                rw [l0] at mR0
                have mR1 := c_lmul 2 R1
                have mrR1 := rng64 ((2 : Int64) * R1)
                have aR1 := c_ladd (S0 + ((2 : Int64) * R0)) ((2 : Int64) * R1)
                have arR1 := rng64 ((S0 + ((2 : Int64) * R0)) + ((2 : Int64) * R1))
                rw [l0] at mR1
                omega
              have dr := Jvm.FP.Core.l2d_int (a := ((S0 + ((2 : Int64) * R0)) + ((2 : Int64) * R1))) (by rw [rr]; omega)
              rw [rr] at dr
              refine g_dc_ne X196 hx 224 231 227 (hb hby at_223) rfl (hb hby at_224) (by decide) (by decide) rfl (Jvm.FP.Core.dcmp_int dx196 dr) (fun c198 => ?_) (fun c198 => ?_)
              · skip
                exact absurd rfl c198
              · skip
                refine g_iconst X196 hx (1 : Int32) 228 (hb hby at_227) rfl (by decide) ?_
                refine g_goto X196 hx 232 (hb hby at_228) (by decide) (by decide) ?_
                exact g_retZ X196 hx hlk hret (hb hby at_232) (by decide) (by decide) q196 ⟨rfl, N197⟩
            · skip
              exfalso; omega
    · skip
      refine g_iconst X0 hx (1 : Int32) 54 (hb hby at_53) rfl (by decide) ?_
      refine g_newP X0 hx hZ (aty := .double) (hw _ (List.mem_of_getElem? (i := 1) rfl)) e0 (by decide) (cap := 1) (by decide) (by decide) 56 (hb hby at_54) rfl (by decide) (by decide) (ad := "[D") (by decide) ?_
      intro T199 h199 k199 a199 g199 X199 e199 E199 V199 A199
      have ge200 : n0 ≤ a199 := by rw [g199]; exact Z0
      have Z201 : n0 ≤ h199.size := Nat.le_trans Z0 E199.1
      have V199' : Arv Z h199 a199 k199 .double (1 : Int32) [(.double (0 : UInt64))] (.double (0 : UInt64)) := V199.pad (pad_rep [] (.double (0 : UInt64)) 1)
      refine g_dup X199 hx 57 (hb hby at_56) rfl rfl ?_
      refine g_iconst X199 hx (0 : Int32) 58 (hb hby at_57) rfl (by decide) ?_
      refine g_lload X199 hx 60 (hb hby at_58) rfl rfl ?_
      refine g_l2d X199 hx 61 (hb hby at_60) rfl ?_
      refine g_dastore X199 hx hZ e199 V199' 0 (by decide) (by decide) (by show 0 < 1; decide) 62 (hb hby at_61) rfl ?_
      intro T202 h202 X202 e202 W202 V202
      have F203 := A199.wr W202
      have N205 := Fr.snoc X202 N0 ge200
      have Z206 : n0 ≤ h202.size := by rw [W202.size]; exact Z201
      have V202' : Arv Z h202 a199 k199 .double (1 : Int32) [(.double (FP.l2d R0))] (.double (0 : UInt64)) := V202
      refine g_astore (l' := #[.val (.int p0), .val (.int p1), .val (.int p2), .val (.int p3), .val (.int p4), .val (.int p5), .val (.long S0), .second, .val (.long R0), .second, .val (.long R1), .second, .val (.long R2), .second, .val (.int k), .val (.ref a199), .unset, .unset, .unset, .unset, .unset, .unset, .unset]) X202 hx 64 (hb hby at_62) rfl rfl rfl ?_
      refine g_goto X202 hx 116 (hb hby at_64) (by decide) (by decide) ?_
      refine g_iload X202 hx 118 (hb hby at_116) rfl rfl ?_
      refine g_sipush X202 hx (255 : Int32) 121 (hb hby at_118) rfl (by decide) ?_
      refine g_iand X202 hx 122 (hb hby at_121) rfl ?_
      obtain ⟨i1, E1, b1⟩ := own_st p5
      obtain ⟨i2, E2, b2⟩ := own_st ((p5.toUInt32 >>> ((8 : Int32) &&& 31).toUInt32).toInt32)
      have E3 := Jvm.FP.Core.dadd_int E1 own_done (by omega)
      have E4 := Jvm.FP.Core.dadd_int E3 E2 (by omega)
      refine g_i2d X202 hx 123 (hb hby at_122) rfl ?_
      refine g_dstore (l' := #[.val (.int p0), .val (.int p1), .val (.int p2), .val (.int p3), .val (.int p4), .val (.int p5), .val (.long S0), .second, .val (.long R0), .second, .val (.long R1), .second, .val (.long R2), .second, .val (.int k), .val (.ref a199), .val (.double (FP.i2d (p5 &&& (255 : Int32)))), .second, .unset, .unset, .unset, .unset, .unset]) X202 hx 125 (hb hby at_123) rfl rfl ?_
      refine g_dload X202 hx 127 (hb hby at_125) rfl rfl ?_
      refine g_dconst1 X202 hx 128 (hb hby at_127) rfl ?_
      refine g_dadd X202 hx 129 (hb hby at_128) rfl (own_dnn E3) ?_
      refine g_iload X202 hx 131 (hb hby at_129) rfl rfl ?_
      refine g_bipush X202 hx (8 : Int32) 133 (hb hby at_131) rfl (by decide) ?_
      refine g_iushr X202 hx 134 (hb hby at_133) rfl ?_
      refine g_sipush X202 hx (255 : Int32) 137 (hb hby at_134) rfl (by decide) ?_
      refine g_iand X202 hx 138 (hb hby at_137) rfl ?_
      refine g_i2d X202 hx 139 (hb hby at_138) rfl ?_
      refine g_dadd X202 hx 140 (hb hby at_139) rfl (own_dnn E4) ?_
      refine g_dstore (l' := #[.val (.int p0), .val (.int p1), .val (.int p2), .val (.int p3), .val (.int p4), .val (.int p5), .val (.long S0), .second, .val (.long R0), .second, .val (.long R1), .second, .val (.long R2), .second, .val (.int k), .val (.ref a199), .val (.double (FP.i2d (p5 &&& (255 : Int32)))), .second, .val (.double (FP.dadd (FP.dadd (FP.i2d (p5 &&& (255 : Int32))) 4607182418800017408) (FP.i2d (((p5.toUInt32 >>> ((8 : Int32) &&& 31).toUInt32).toInt32) &&& (255 : Int32))))), .second, .unset, .unset, .unset]) X202 hx 142 (hb hby at_140) rfl rfl ?_
      refine g_new X202 hx hZ hown (hw _ (List.mem_of_getElem? (i := 2) rfl)) (hw _ (List.mem_of_getElem? (i := 3) rfl)) (hw _ (List.mem_of_getElem? (i := 4) rfl)) e202 145 (hb hby at_142) rfl (by decide) (by decide) ?_
      intro T207 h207 a207 g207 X207 e207 E207 A207 D207
      have ne208 : a199 ≠ a207 := Nat.ne_of_lt (by rw [g207]; exact F203.lt)
      have ge209 : n0 ≤ a207 := by rw [g207]; exact Z206
      have F210 := F203.ext E207
      have F211 := V202'.ext E207
      have Z212 : n0 ≤ h207.size := Nat.le_trans Z206 E207.1
      have F213 : Fld Z h207 a207 "com/example/neaplight/neaplight/Tide" "stable" "D" (.double (0 : UInt64)) := D207 (Or.inr (hw _ (List.mem_of_getElem? (i := 12) rfl))) (ty := .double) (by decide)
      have F214 : Fld Z h207 a207 "com/example/neaplight/neaplight/Tide" "nominal" "[D" .null := D207 (Or.inr (hw _ (List.mem_of_getElem? (i := 23) rfl))) (ty := (.array .double)) (by decide)
      have F215 : Fld Z h207 a207 "com/example/neaplight/neaplight/Tide" "start" "D" (.double (0 : UInt64)) := D207 (Or.inr (hw _ (List.mem_of_getElem? (i := 25) rfl))) (ty := .double) (by decide)
      have F216 : Fld Z h207 a207 "com/example/neaplight/neaplight/Tide" "end" "D" (.double (0 : UInt64)) := D207 (Or.inr (hw _ (List.mem_of_getElem? (i := 27) rfl))) (ty := .double) (by decide)
      refine g_dup X207 hx 146 (hb hby at_145) rfl rfl ?_
      refine g_lload X207 hx 148 (hb hby at_146) rfl rfl ?_
      refine g_l2d X207 hx 149 (hb hby at_148) rfl ?_
      refine g_aload X207 hx 151 (hb hby at_149) rfl rfl rfl ?_
      refine g_dload X207 hx 153 (hb hby at_151) rfl rfl ?_
      refine g_dload X207 hx 155 (hb hby at_153) rfl rfl ?_
      refine g_init X207 hx hZ rfl hown (hw _ (List.mem_of_getElem? (i := 5) rfl)) (hw _ (List.mem_of_getElem? (i := 6) rfl)) (hw _ (List.mem_of_getElem? (i := 4) rfl)) (hw _ (List.mem_of_getElem? (i := 7) rfl)) (by decide) (rm1 l Z a0 hw a207 (FP.l2d S0) a199 (FP.i2d (p5 &&& (255 : Int32))) (FP.dadd (FP.dadd (FP.i2d (p5 &&& (255 : Int32))) 4607182418800017408) (FP.i2d (((p5.toUInt32 >>> ((8 : Int32) &&& 31).toUInt32).toInt32) &&& (255 : Int32)))) h207 n0 Z212 k199 (1 : Int32) [(.double (FP.l2d R0))] (.double (0 : UInt64)) A207 F210 F211 (by decide) ge209 ne208 F213 F215 F216 F214) e207 (a := a207) (argsL := [(.double (FP.l2d S0)), (.ref a199), (.double (FP.i2d (p5 &&& (255 : Int32)))), (.double (FP.dadd (FP.dadd (FP.i2d (p5 &&& (255 : Int32))) 4607182418800017408) (FP.i2d (((p5.toUInt32 >>> ((8 : Int32) &&& 31).toUInt32).toInt32) &&& (255 : Int32)))))]) (rest := [(.ref a207)]) rfl rfl 1 158 rfl (by rw [hml]; rfl) (lenOf own_pd0 rfl) (Nat.le_refl _) (by decide) (by decide) (by decide) (by decide) (hb hby at_155) ?_
      intro v217 T217 L217 X217 hQ217
      obtain ⟨rfl, N217, K217, Fs217, bb217, Fn217, Vn217⟩ := hQ217
      have N218 := Fr.app N205 N217
      have F219 := F210.keep K217
      have F220 := F211.keep K217 (ninS ne208 nin0)
      have F221 := A207.keep K217
      have Z226 : n0 ≤ T217.heap.size := Nat.le_trans Z212 K217.1
      show Go p e below _ T217 (mkF m 158 #[.val (.int p0), .val (.int p1), .val (.int p2), .val (.int p3), .val (.int p4), .val (.int p5), .val (.long S0), .second, .val (.long R0), .second, .val (.long R1), .second, .val (.long R2), .second, .val (.int k), .val (.ref a199), .val (.double (FP.i2d (p5 &&& (255 : Int32)))), .second, .val (.double (FP.dadd (FP.dadd (FP.i2d (p5 &&& (255 : Int32))) 4607182418800017408) (FP.i2d (((p5.toUInt32 >>> ((8 : Int32) &&& 31).toUInt32).toInt32) &&& (255 : Int32))))), .second, .unset, .unset, .unset] [(.ref a207)])
      refine g_astore (l' := #[.val (.int p0), .val (.int p1), .val (.int p2), .val (.int p3), .val (.int p4), .val (.int p5), .val (.long S0), .second, .val (.long R0), .second, .val (.long R1), .second, .val (.long R2), .second, .val (.int k), .val (.ref a199), .val (.double (FP.i2d (p5 &&& (255 : Int32)))), .second, .val (.double (FP.dadd (FP.dadd (FP.i2d (p5 &&& (255 : Int32))) 4607182418800017408) (FP.i2d (((p5.toUInt32 >>> ((8 : Int32) &&& 31).toUInt32).toInt32) &&& (255 : Int32))))), .second, .val (.ref a207), .unset, .unset]) X217 hx 160 (hb hby at_158) rfl rfl rfl ?_
      refine g_lload X217 hx 162 (hb hby at_160) rfl rfl ?_
      refine g_lstore (l' := #[.val (.int p0), .val (.int p1), .val (.int p2), .val (.int p3), .val (.int p4), .val (.int p5), .val (.long S0), .second, .val (.long R0), .second, .val (.long R1), .second, .val (.long R2), .second, .val (.int k), .val (.ref a199), .val (.double (FP.i2d (p5 &&& (255 : Int32)))), .second, .val (.double (FP.dadd (FP.dadd (FP.i2d (p5 &&& (255 : Int32))) 4607182418800017408) (FP.i2d (((p5.toUInt32 >>> ((8 : Int32) &&& 31).toUInt32).toInt32) &&& (255 : Int32))))), .second, .val (.ref a207), .val (.long S0), .second]) X217 hx 164 (hb hby at_162) rfl rfl ?_
      refine g_iload X217 hx 166 (hb hby at_164) rfl rfl ?_
      refine g_iconst X217 hx (1 : Int32) 167 (hb hby at_166) rfl (by decide) ?_
      have ll228 : ((1 : Int32) : Int32).toInt = 1 := by decide
      refine g_ic_lt X217 hx 181 170 (hb hby at_167) (by decide) (by decide) rfl (fun c227 => ?_) (fun c227 => ?_)
      · skip
        exfalso; omega
      · skip
        refine g_lload X217 hx 172 (hb hby at_170) rfl rfl ?_
        refine g_ldc2J X217 hx 175 hZ hown (hw _ (List.mem_of_getElem? (i := 33) rfl)) (hb hby at_172) rfl ?_
        refine g_lload X217 hx 177 (hb hby at_175) rfl rfl ?_
        refine g_lmul X217 hx 178 (hb hby at_177) rfl ?_
        refine g_ladd X217 hx 179 (hb hby at_178) rfl ?_
        refine g_lstore (l' := #[.val (.int p0), .val (.int p1), .val (.int p2), .val (.int p3), .val (.int p4), .val (.int p5), .val (.long S0), .second, .val (.long R0), .second, .val (.long R1), .second, .val (.long R2), .second, .val (.int k), .val (.ref a199), .val (.double (FP.i2d (p5 &&& (255 : Int32)))), .second, .val (.double (FP.dadd (FP.dadd (FP.i2d (p5 &&& (255 : Int32))) 4607182418800017408) (FP.i2d (((p5.toUInt32 >>> ((8 : Int32) &&& 31).toUInt32).toInt32) &&& (255 : Int32))))), .second, .val (.ref a207), .val (.long (S0 + ((2 : Int64) * R0))), .second]) X217 hx 181 (hb hby at_179) rfl rfl ?_
        refine g_iload X217 hx 183 (hb hby at_181) rfl rfl ?_
        refine g_iconst X217 hx (2 : Int32) 184 (hb hby at_183) rfl (by decide) ?_
        have ll230 : ((2 : Int32) : Int32).toInt = 2 := by decide
        refine g_ic_lt X217 hx 198 187 (hb hby at_184) (by decide) (by decide) rfl (fun c229 => ?_) (fun c229 => ?_)
        · skip
          refine g_iload X217 hx 200 (hb hby at_198) rfl rfl ?_
          refine g_iconst X217 hx (3 : Int32) 201 (hb hby at_200) rfl (by decide) ?_
          have ll232 : ((3 : Int32) : Int32).toInt = 3 := by decide
          refine g_ic_lt X217 hx 215 204 (hb hby at_201) (by decide) (by decide) rfl (fun c231 => ?_) (fun c231 => ?_)
          · skip
            refine g_aload X217 hx 217 (hb hby at_215) rfl rfl rfl ?_
            refine g_virt X217 hx hZ (C := "com/example/neaplight/neaplight/Tide") hown (hw _ (List.mem_of_getElem? (i := 28) rfl)) (hw _ (List.mem_of_getElem? (i := 29) rfl)) (hw _ (List.mem_of_getElem? (i := 31) rfl)) (hw _ (List.mem_of_getElem? (i := 31) rfl)) (hw _ (List.mem_of_getElem? (i := 30) rfl)) (hw _ (List.mem_of_getElem? (i := 4) rfl)) (hw _ (List.mem_of_getElem? (i := 32) rfl)) (by decide) (rm3_1 l Z a0 hw a207 T217.heap n0 Z226 bb217 _ (FP.l2d S0) S0.toInt BS0.2 BS0.1 _ (FP.l2d R0) R0.toInt BR0.2 BR0.1 Fs217 Fn217 Vn217) rfl (b := a207) F221 (argsL := []) (rest := []) rfl rfl 0 220 rfl (by rw [hml]; rfl) (lenOf own_pd3 rfl) (Nat.le_refl _) (by decide) (by decide) (by decide) (by decide) (hb hby at_217) ?_
            intro v233 T233 L233 X233 hQ233
            obtain ⟨x233, rfl, dx233, N233, q233⟩ := hQ233
            have N234 := Fr.app N218 N233
            show Go p e below _ T233 (mkF m 220 #[.val (.int p0), .val (.int p1), .val (.int p2), .val (.int p3), .val (.int p4), .val (.int p5), .val (.long S0), .second, .val (.long R0), .second, .val (.long R1), .second, .val (.long R2), .second, .val (.int k), .val (.ref a199), .val (.double (FP.i2d (p5 &&& (255 : Int32)))), .second, .val (.double (FP.dadd (FP.dadd (FP.i2d (p5 &&& (255 : Int32))) 4607182418800017408) (FP.i2d (((p5.toUInt32 >>> ((8 : Int32) &&& 31).toUInt32).toInt32) &&& (255 : Int32))))), .second, .val (.ref a207), .val (.long (S0 + ((2 : Int64) * R0))), .second] [(.double x233)])
            refine g_lload X233 hx 222 (hb hby at_220) rfl rfl ?_
            refine g_l2d X233 hx 223 (hb hby at_222) rfl ?_
            have rr : ((S0 + ((2 : Int64) * R0))).toInt = S0.toInt + 2 * R0.toInt := by
              have l0 : (2 : Int64).toInt = 2 := by decide
              have mR0 := c_lmul 2 R0
              have mrR0 := rng64 ((2 : Int64) * R0)
              have aR0 := c_ladd S0 ((2 : Int64) * R0)
              have arR0 := rng64 (S0 + ((2 : Int64) * R0))
              rw [l0] at mR0
              omega
            have dr := Jvm.FP.Core.l2d_int (a := (S0 + ((2 : Int64) * R0))) (by rw [rr]; omega)
            rw [rr] at dr
            refine g_dc_ne X233 hx 224 231 227 (hb hby at_223) rfl (hb hby at_224) (by decide) (by decide) rfl (Jvm.FP.Core.dcmp_int dx233 dr) (fun c235 => ?_) (fun c235 => ?_)
            · skip
              exact absurd rfl c235
            · skip
              refine g_iconst X233 hx (1 : Int32) 228 (hb hby at_227) rfl (by decide) ?_
              refine g_goto X233 hx 232 (hb hby at_228) (by decide) (by decide) ?_
              exact g_retZ X233 hx hlk hret (hb hby at_232) (by decide) (by decide) q233 ⟨rfl, N234⟩
          · skip
            exfalso; omega
        · skip
          exfalso; omega
  · skip
    refine g_iconst X0 hx (0 : Int32) 40 (hb hby at_39) rfl (by decide) ?_
    refine g_newP X0 hx hZ (aty := .double) (hw _ (List.mem_of_getElem? (i := 1) rfl)) e0 (by decide) (cap := 0) (by decide) (by decide) 42 (hb hby at_40) rfl (by decide) (by decide) (ad := "[D") (by decide) ?_
    intro T236 h236 k236 a236 g236 X236 e236 E236 V236 A236
    have ge237 : n0 ≤ a236 := by rw [g236]; exact Z0
    have Z238 : n0 ≤ h236.size := Nat.le_trans Z0 E236.1
    have V236' : Arv Z h236 a236 k236 .double (0 : Int32) [] (.double (0 : UInt64)) := V236.pad (pad_rep [] (.double (0 : UInt64)) 0)
    refine g_astore (l' := #[.val (.int p0), .val (.int p1), .val (.int p2), .val (.int p3), .val (.int p4), .val (.int p5), .val (.long S0), .second, .val (.long R0), .second, .val (.long R1), .second, .val (.long R2), .second, .val (.int k), .val (.ref a236), .unset, .unset, .unset, .unset, .unset, .unset, .unset]) X236 hx 44 (hb hby at_42) rfl rfl rfl ?_
    refine g_goto X236 hx 116 (hb hby at_44) (by decide) (by decide) ?_
    refine g_iload X236 hx 118 (hb hby at_116) rfl rfl ?_
    refine g_sipush X236 hx (255 : Int32) 121 (hb hby at_118) rfl (by decide) ?_
    refine g_iand X236 hx 122 (hb hby at_121) rfl ?_
    obtain ⟨i1, E1, b1⟩ := own_st p5
    obtain ⟨i2, E2, b2⟩ := own_st ((p5.toUInt32 >>> ((8 : Int32) &&& 31).toUInt32).toInt32)
    have E3 := Jvm.FP.Core.dadd_int E1 own_done (by omega)
    have E4 := Jvm.FP.Core.dadd_int E3 E2 (by omega)
    refine g_i2d X236 hx 123 (hb hby at_122) rfl ?_
    refine g_dstore (l' := #[.val (.int p0), .val (.int p1), .val (.int p2), .val (.int p3), .val (.int p4), .val (.int p5), .val (.long S0), .second, .val (.long R0), .second, .val (.long R1), .second, .val (.long R2), .second, .val (.int k), .val (.ref a236), .val (.double (FP.i2d (p5 &&& (255 : Int32)))), .second, .unset, .unset, .unset, .unset, .unset]) X236 hx 125 (hb hby at_123) rfl rfl ?_
    refine g_dload X236 hx 127 (hb hby at_125) rfl rfl ?_
    refine g_dconst1 X236 hx 128 (hb hby at_127) rfl ?_
    refine g_dadd X236 hx 129 (hb hby at_128) rfl (own_dnn E3) ?_
    refine g_iload X236 hx 131 (hb hby at_129) rfl rfl ?_
    refine g_bipush X236 hx (8 : Int32) 133 (hb hby at_131) rfl (by decide) ?_
    refine g_iushr X236 hx 134 (hb hby at_133) rfl ?_
    refine g_sipush X236 hx (255 : Int32) 137 (hb hby at_134) rfl (by decide) ?_
    refine g_iand X236 hx 138 (hb hby at_137) rfl ?_
    refine g_i2d X236 hx 139 (hb hby at_138) rfl ?_
    refine g_dadd X236 hx 140 (hb hby at_139) rfl (own_dnn E4) ?_
    refine g_dstore (l' := #[.val (.int p0), .val (.int p1), .val (.int p2), .val (.int p3), .val (.int p4), .val (.int p5), .val (.long S0), .second, .val (.long R0), .second, .val (.long R1), .second, .val (.long R2), .second, .val (.int k), .val (.ref a236), .val (.double (FP.i2d (p5 &&& (255 : Int32)))), .second, .val (.double (FP.dadd (FP.dadd (FP.i2d (p5 &&& (255 : Int32))) 4607182418800017408) (FP.i2d (((p5.toUInt32 >>> ((8 : Int32) &&& 31).toUInt32).toInt32) &&& (255 : Int32))))), .second, .unset, .unset, .unset]) X236 hx 142 (hb hby at_140) rfl rfl ?_
    refine g_new X236 hx hZ hown (hw _ (List.mem_of_getElem? (i := 2) rfl)) (hw _ (List.mem_of_getElem? (i := 3) rfl)) (hw _ (List.mem_of_getElem? (i := 4) rfl)) e236 145 (hb hby at_142) rfl (by decide) (by decide) ?_
    intro T239 h239 a239 g239 X239 e239 E239 A239 D239
    have ne240 : a236 ≠ a239 := Nat.ne_of_lt (by rw [g239]; exact A236.lt)
    have ge241 : n0 ≤ a239 := by rw [g239]; exact Z238
    have F242 := A236.ext E239
    have F243 := V236'.ext E239
    have Z244 : n0 ≤ h239.size := Nat.le_trans Z238 E239.1
    have F245 : Fld Z h239 a239 "com/example/neaplight/neaplight/Tide" "stable" "D" (.double (0 : UInt64)) := D239 (Or.inr (hw _ (List.mem_of_getElem? (i := 12) rfl))) (ty := .double) (by decide)
    have F246 : Fld Z h239 a239 "com/example/neaplight/neaplight/Tide" "nominal" "[D" .null := D239 (Or.inr (hw _ (List.mem_of_getElem? (i := 23) rfl))) (ty := (.array .double)) (by decide)
    have F247 : Fld Z h239 a239 "com/example/neaplight/neaplight/Tide" "start" "D" (.double (0 : UInt64)) := D239 (Or.inr (hw _ (List.mem_of_getElem? (i := 25) rfl))) (ty := .double) (by decide)
    have F248 : Fld Z h239 a239 "com/example/neaplight/neaplight/Tide" "end" "D" (.double (0 : UInt64)) := D239 (Or.inr (hw _ (List.mem_of_getElem? (i := 27) rfl))) (ty := .double) (by decide)
    refine g_dup X239 hx 146 (hb hby at_145) rfl rfl ?_
    refine g_lload X239 hx 148 (hb hby at_146) rfl rfl ?_
    refine g_l2d X239 hx 149 (hb hby at_148) rfl ?_
    refine g_aload X239 hx 151 (hb hby at_149) rfl rfl rfl ?_
    refine g_dload X239 hx 153 (hb hby at_151) rfl rfl ?_
    refine g_dload X239 hx 155 (hb hby at_153) rfl rfl ?_
    refine g_init X239 hx hZ rfl hown (hw _ (List.mem_of_getElem? (i := 5) rfl)) (hw _ (List.mem_of_getElem? (i := 6) rfl)) (hw _ (List.mem_of_getElem? (i := 4) rfl)) (hw _ (List.mem_of_getElem? (i := 7) rfl)) (by decide) (rm1 l Z a0 hw a239 (FP.l2d S0) a236 (FP.i2d (p5 &&& (255 : Int32))) (FP.dadd (FP.dadd (FP.i2d (p5 &&& (255 : Int32))) 4607182418800017408) (FP.i2d (((p5.toUInt32 >>> ((8 : Int32) &&& 31).toUInt32).toInt32) &&& (255 : Int32)))) h239 n0 Z244 k236 (0 : Int32) [] (.double (0 : UInt64)) A239 F242 F243 (by decide) ge241 ne240 F245 F247 F248 F246) e239 (a := a239) (argsL := [(.double (FP.l2d S0)), (.ref a236), (.double (FP.i2d (p5 &&& (255 : Int32)))), (.double (FP.dadd (FP.dadd (FP.i2d (p5 &&& (255 : Int32))) 4607182418800017408) (FP.i2d (((p5.toUInt32 >>> ((8 : Int32) &&& 31).toUInt32).toInt32) &&& (255 : Int32)))))]) (rest := [(.ref a239)]) rfl rfl 1 158 rfl (by rw [hml]; rfl) (lenOf own_pd0 rfl) (Nat.le_refl _) (by decide) (by decide) (by decide) (by decide) (hb hby at_155) ?_
    intro v249 T249 L249 X249 hQ249
    obtain ⟨rfl, N249, K249, Fs249, bb249, Fn249, Vn249⟩ := hQ249
    have N250 := Fr.app N0 N249
    have F251 := F242.keep K249
    have F252 := F243.keep K249 (ninS ne240 nin0)
    have F253 := A239.keep K249
    have Z258 : n0 ≤ T249.heap.size := Nat.le_trans Z244 K249.1
    show Go p e below _ T249 (mkF m 158 #[.val (.int p0), .val (.int p1), .val (.int p2), .val (.int p3), .val (.int p4), .val (.int p5), .val (.long S0), .second, .val (.long R0), .second, .val (.long R1), .second, .val (.long R2), .second, .val (.int k), .val (.ref a236), .val (.double (FP.i2d (p5 &&& (255 : Int32)))), .second, .val (.double (FP.dadd (FP.dadd (FP.i2d (p5 &&& (255 : Int32))) 4607182418800017408) (FP.i2d (((p5.toUInt32 >>> ((8 : Int32) &&& 31).toUInt32).toInt32) &&& (255 : Int32))))), .second, .unset, .unset, .unset] [(.ref a239)])
    refine g_astore (l' := #[.val (.int p0), .val (.int p1), .val (.int p2), .val (.int p3), .val (.int p4), .val (.int p5), .val (.long S0), .second, .val (.long R0), .second, .val (.long R1), .second, .val (.long R2), .second, .val (.int k), .val (.ref a236), .val (.double (FP.i2d (p5 &&& (255 : Int32)))), .second, .val (.double (FP.dadd (FP.dadd (FP.i2d (p5 &&& (255 : Int32))) 4607182418800017408) (FP.i2d (((p5.toUInt32 >>> ((8 : Int32) &&& 31).toUInt32).toInt32) &&& (255 : Int32))))), .second, .val (.ref a239), .unset, .unset]) X249 hx 160 (hb hby at_158) rfl rfl rfl ?_
    refine g_lload X249 hx 162 (hb hby at_160) rfl rfl ?_
    refine g_lstore (l' := #[.val (.int p0), .val (.int p1), .val (.int p2), .val (.int p3), .val (.int p4), .val (.int p5), .val (.long S0), .second, .val (.long R0), .second, .val (.long R1), .second, .val (.long R2), .second, .val (.int k), .val (.ref a236), .val (.double (FP.i2d (p5 &&& (255 : Int32)))), .second, .val (.double (FP.dadd (FP.dadd (FP.i2d (p5 &&& (255 : Int32))) 4607182418800017408) (FP.i2d (((p5.toUInt32 >>> ((8 : Int32) &&& 31).toUInt32).toInt32) &&& (255 : Int32))))), .second, .val (.ref a239), .val (.long S0), .second]) X249 hx 164 (hb hby at_162) rfl rfl ?_
    refine g_iload X249 hx 166 (hb hby at_164) rfl rfl ?_
    refine g_iconst X249 hx (1 : Int32) 167 (hb hby at_166) rfl (by decide) ?_
    have ll260 : ((1 : Int32) : Int32).toInt = 1 := by decide
    refine g_ic_lt X249 hx 181 170 (hb hby at_167) (by decide) (by decide) rfl (fun c259 => ?_) (fun c259 => ?_)
    · skip
      refine g_iload X249 hx 183 (hb hby at_181) rfl rfl ?_
      refine g_iconst X249 hx (2 : Int32) 184 (hb hby at_183) rfl (by decide) ?_
      have ll262 : ((2 : Int32) : Int32).toInt = 2 := by decide
      refine g_ic_lt X249 hx 198 187 (hb hby at_184) (by decide) (by decide) rfl (fun c261 => ?_) (fun c261 => ?_)
      · skip
        refine g_iload X249 hx 200 (hb hby at_198) rfl rfl ?_
        refine g_iconst X249 hx (3 : Int32) 201 (hb hby at_200) rfl (by decide) ?_
        have ll264 : ((3 : Int32) : Int32).toInt = 3 := by decide
        refine g_ic_lt X249 hx 215 204 (hb hby at_201) (by decide) (by decide) rfl (fun c263 => ?_) (fun c263 => ?_)
        · skip
          refine g_aload X249 hx 217 (hb hby at_215) rfl rfl rfl ?_
          refine g_virt X249 hx hZ (C := "com/example/neaplight/neaplight/Tide") hown (hw _ (List.mem_of_getElem? (i := 28) rfl)) (hw _ (List.mem_of_getElem? (i := 29) rfl)) (hw _ (List.mem_of_getElem? (i := 31) rfl)) (hw _ (List.mem_of_getElem? (i := 31) rfl)) (hw _ (List.mem_of_getElem? (i := 30) rfl)) (hw _ (List.mem_of_getElem? (i := 4) rfl)) (hw _ (List.mem_of_getElem? (i := 32) rfl)) (by decide) (rm3_0 l Z a0 hw a239 T249.heap n0 Z258 bb249 _ (FP.l2d S0) S0.toInt BS0.2 BS0.1 _  Fs249 Fn249 Vn249) rfl (b := a239) F253 (argsL := []) (rest := []) rfl rfl 0 220 rfl (by rw [hml]; rfl) (lenOf own_pd3 rfl) (Nat.le_refl _) (by decide) (by decide) (by decide) (by decide) (hb hby at_217) ?_
          intro v265 T265 L265 X265 hQ265
          obtain ⟨x265, rfl, dx265, N265, q265⟩ := hQ265
          have N266 := Fr.app N250 N265
          show Go p e below _ T265 (mkF m 220 #[.val (.int p0), .val (.int p1), .val (.int p2), .val (.int p3), .val (.int p4), .val (.int p5), .val (.long S0), .second, .val (.long R0), .second, .val (.long R1), .second, .val (.long R2), .second, .val (.int k), .val (.ref a236), .val (.double (FP.i2d (p5 &&& (255 : Int32)))), .second, .val (.double (FP.dadd (FP.dadd (FP.i2d (p5 &&& (255 : Int32))) 4607182418800017408) (FP.i2d (((p5.toUInt32 >>> ((8 : Int32) &&& 31).toUInt32).toInt32) &&& (255 : Int32))))), .second, .val (.ref a239), .val (.long S0), .second] [(.double x265)])
          refine g_lload X265 hx 222 (hb hby at_220) rfl rfl ?_
          refine g_l2d X265 hx 223 (hb hby at_222) rfl ?_
          have rr : (S0).toInt = S0.toInt := by
            have l0 : (2 : Int64).toInt = 2 := by decide
            omega
          have dr := Jvm.FP.Core.l2d_int (a := S0) (by rw [rr]; omega)
          rw [rr] at dr
          refine g_dc_ne X265 hx 224 231 227 (hb hby at_223) rfl (hb hby at_224) (by decide) (by decide) rfl (Jvm.FP.Core.dcmp_int dx265 dr) (fun c267 => ?_) (fun c267 => ?_)
          · skip
            exact absurd rfl c267
          · skip
            refine g_iconst X265 hx (1 : Int32) 228 (hb hby at_227) rfl (by decide) ?_
            refine g_goto X265 hx 232 (hb hby at_228) (by decide) (by decide) ?_
            exact g_retZ X265 hx hlk hret (hb hby at_232) (by decide) (by decide) q265 ⟨rfl, N266⟩
        · skip
          exfalso; omega
      · skip
        exfalso; omega
    · skip
      exfalso; omega
set_option maxRecDepth 65536 in
set_option maxHeartbeats 40000000 in
theorem comes_1 {Post : Tables → Env → Array Value → State → Outcome → State → Prop} (hpost : ∀ tb e args s v u, (limb_1_1.after args s (.returned v) u = true ∧ limb_1_2.after args s (.returned v) u = true ∧ True) → FrameEnd s (.returned v) u (Jvm.fieldLocs frame_1_writes args s ++ Jvm.arrayLocs frame_1_arrays args s ++ Jvm.staticLocs frame_1_statics s) 16 128 → Post tb e args s (.returned v) u) :
    ArmFor flags0 classFile x code maxLocals ret World_1 tables_1 room_1 Calls_1 rest_1 Pre_1 Post := by
  intro l hfl _ _ p e ha hc hk s m args below hf hA hF happ hP
  obtain ⟨hcalls, hrest, hpre⟩ := hP
  obtain ⟨-, -, -, hnamed, -, -, -, hat⟩ := (Spec.applies_iff hf).mp happ
  obtain ⟨hg, hn⟩ := and_e (Cond.before_iff.mp (show (Jvm.Cond.and given_1 narrow_1).before args s = true from hpre))
  obtain ⟨h1, g0⟩ := and_e hg
  obtain ⟨t0, g1⟩ := and_e g0
  obtain ⟨t1, g2⟩ := and_e g1
  obtain ⟨t2, g3⟩ := and_e g2
  obtain ⟨t3, g4⟩ := and_e g3
  obtain ⟨t4, g5⟩ := and_e g4
  have t5 := g5
  obtain ⟨w0, w1, w2, w3, w4, w5, rfl⟩ : ∃ w0 w1 w2 w3 w4 w5 : Value, args = #[w0, w1, w2, w3, w4, w5] := by
    have hs : args.size = 6 := by simpa [Cond.value, given_1] using h1
    obtain ⟨L⟩ := args
    match L, hs with
    | [w0, w1, w2, w3, w4, w5], _ => exact ⟨w0, w1, w2, w3, w4, w5, rfl⟩
  have hw := fun d (hd : d ∈ tables_1) => atoms_spec (ws := Jvm.Cond.code x code maxLocals ret :: tables_1) hat d (List.mem_cons_of_mem _ hd)
  obtain ⟨i0, e0⟩ := is_v t0
  obtain rfl : w0 = (.int i0) := Option.some.inj e0
  obtain ⟨i1, e1⟩ := is_v t1
  obtain rfl : w1 = (.int i1) := Option.some.inj e1
  obtain ⟨i2, e2⟩ := is_v t2
  obtain rfl : w2 = (.int i2) := Option.some.inj e2
  obtain ⟨i3, e3⟩ := is_v t3
  obtain rfl : w3 = (.int i3) := Option.some.inj e3
  obtain ⟨i4, e4⟩ := is_v t4
  obtain rfl : w4 = (.int i4) := Option.some.inj e4
  obtain ⟨i5, e5⟩ := is_v t5
  obtain rfl : w5 = (.int i5) := Option.some.inj e5
  obtain ⟨n, o, h1, h2, h3, _, L, rfl, ⟨rfl, N⟩, hq⟩ := rm0 l s _ hw tables_1 i0 i1 i2 i3 i4 i5 s.heap s.heap.size (Nat.le_refl _)  p e ha hc hk s m _ below hf ((Spec.applies_iff_loose hf).mp happ).1 ⟨rfl, State.Warmed39.refl s, rfl⟩ trivial
  refine ⟨n, _, h1, h2, h3, hpost _ _ _ _ _ _ ⟨Cond.after_iff.mpr rfl, Cond.after_iff.mpr (eq_i res_at (Term.int_eval (1)) rfl), trivial⟩ ⟨hq.1, hq.2.1, (hq.2.2.sift fun y hy => Or.inr (N y hy)).mono (by decide) (by decide)⟩⟩
theorem main_1_1 : Claimed_1_1 := comes_1 fun _ _ _ _ _ _ h hF => ⟨h.1, hF⟩
theorem main_1_2 : Claimed_1_2 := comes_1 fun _ _ _ _ _ _ h hF => ⟨h.2.1, hF⟩
end Jvm.Pilot.@@N@@
namespace Jvm.Pilot.@@N@@
open Jvm Jvm.ClassFile Sem Op Lib Jvm.Free Jvm.Stand Jvm.Pilot.@@N@@.Jvm.D
/-! MADE BY PROGRAM (witnessworld.py) out of the Statement's table words and the real class files: 11 classes; the members and pool entries that the words name. The judged class is class 1, her method 1. -/
namespace start1
open Jvm.ClassFile
def u (s : String) : CpInfo := .utf8 (stringToUtf16 s)
/-- a pool by its gaps: so many unusable entries, then the entry; so many at the end -/
def gap : Nat → List CpInfo → List CpInfo
  | 0, r => r
  | n + 1, r => .unusable :: gap n r
def poolList (es : List (Nat × CpInfo)) (last : Nat) : List CpInfo := es.foldr (fun e r => gap e.1 (e.2 :: r)) (gap last [])
def pool (es : List (Nat × CpInfo)) (last : Nat) : Array CpInfo := ⟨poolList es last⟩
def fileOf (pool : Array CpInfo) (this : Nat) (attrs : Array Attribute := #[]) (ms : Array MethodInfo := #[]) (fl : Nat := 33) (sup : Nat := 0) (ifs : Array Nat := #[]) (fds : Array FieldInfo := #[]) : ClassFile where
  minorVersion := 0
  majorVersion := 65
  constantPool := pool
  accessFlags := fl
  thisClass := this
  superClass := sup
  interfaces := ifs
  fields := fds
  methods := ms
  attributes := attrs
def plain (name : String) (sup : Option ClassId) : Class where
  name := name
  kind := .ordinary
  loader := none
  accessFlags := 33
  super := sup
  interfaces := #[]
  cf := none
  fields := #[]
  methods := #[]
  instanceTypes := #[]
  staticTypes := #[]
  resolved := #[]
  callSites := []
  init := .initialized
  statics := none
  mirror := none

def pool0 : Array CpInfo := pool [(5, u "<init>"), (0, u "()V"), (1, .class_ 10), (1, u "java/lang/Object"), (85, u "clone"), (0, u "()Ljava/lang/Object;")] 26

def k0c0 : Code := { maxStack := 0, maxLocals := 1, code := object_method_1_code, exceptionTable := #[], attributes := #[] }
def k0m0 : Method := { name := "<init>", desc := "()V", sig := { parameters := [], returnType := none }, accessFlags := 1, code := some k0c0 }
def k0m1 : Method := { name := "clone", desc := "()Ljava/lang/Object;", sig := { parameters := [], returnType := some (.object "java/lang/Object") }, accessFlags := 260, code := none }
/-- java/lang/Object -/
def k0 : Class := { plain "java/lang/Object" none with
  accessFlags := 33
  interfaces := #[]
  cf := some (fileOf pool0 8 #[] #[{ accessFlags := 1, nameIndex := 5, descriptorIndex := 6, attributes := #[] }, { accessFlags := 260, nameIndex := 96, descriptorIndex := 97, attributes := #[] }] 33 0 #[] #[])
  fields := #[]
  methods := #[k0m0, k0m1]
  instanceTypes := #[]
  staticTypes := #[]
  resolved := Array.replicate 124 none
  statics := none }

def pool1 : Array CpInfo := pool [(2, .class_ 4), (1, u "java/lang/Object"), (0, u "<init>"), (0, u "()V"), (0, .integer 1048575), (0, .class_ 9), (0, u "com/example/neaplight/neaplight/Tide"), (0, .methodref 8 11), (0, .nameAndType 5 12), (0, u "(D[DDD)V"), (0, .long 2), (1, .methodref 8 16), (0, .nameAndType 17 18), (0, u "peak"), (0, u "()D"), (0, .class_ 20), (0, u "com/example/neaplight/neaplight/TidePeakPinLaw"), (2, u "law"), (0, u "(IIIIII)Z")] 5

def k1m0 : Method := { name := "<init>", desc := "()V", sig := { parameters := [], returnType := none }, accessFlags := 1, code := none }
def k1c1 : Code := { maxStack := 9, maxLocals := 23, code := code, exceptionTable := #[], attributes := #[] }
def k1m1 : Method := { name := "law", desc := "(IIIIII)Z", sig := { parameters := [.int, .int, .int, .int, .int, .int], returnType := some .boolean }, accessFlags := 9, code := some k1c1 }
/-- com/example/neaplight/neaplight/TidePeakPinLaw -/
def k1 : Class := { plain "com/example/neaplight/neaplight/TidePeakPinLaw" (some 0) with
  accessFlags := 49
  interfaces := #[]
  cf := some (fileOf pool1 19 #[] #[{ accessFlags := 1, nameIndex := 5, descriptorIndex := 6, attributes := #[] }, { accessFlags := 9, nameIndex := 23, descriptorIndex := 24, attributes := #[] }] 49 2 #[] #[])
  fields := #[]
  methods := #[k1m0, k1m1]
  instanceTypes := #[]
  staticTypes := #[]
  resolved := Array.replicate 30 none
  statics := none }

def pool2 : Array CpInfo := pool [(1, .methodref 2 3), (0, .class_ 4), (0, .nameAndType 5 6), (0, u "java/lang/Object"), (0, u "<init>"), (0, u "()V"), (0, .fieldref 8 9), (0, .class_ 10), (0, .nameAndType 11 12), (0, u "com/example/neaplight/neaplight/Tide"), (0, u "stable"), (0, u "D"), (0, .methodref 14 15), (0, .class_ 16), (0, .nameAndType 17 18), (0, u "[D"), (0, u "clone"), (0, u "()Ljava/lang/Object;"), (0, .fieldref 8 20), (0, .nameAndType 21 16), (0, u "nominal"), (0, .fieldref 8 23), (0, .nameAndType 24 12), (0, u "start"), (0, .fieldref 8 26), (0, .nameAndType 27 12), (0, u "end"), (10, .double 4611686018427387904), (11, u "(D[DDD)V"), (2, u "()D"), (7, u "peak")] 3

def k2c0 : Code := { maxStack := 3, maxLocals := 8, code := prog_55_method_1_code, exceptionTable := #[], attributes := #[] }
def k2m0 : Method := { name := "<init>", desc := "(D[DDD)V", sig := { parameters := [.double, (.array .double), .double, .double], returnType := none }, accessFlags := 0, code := some k2c0 }
def k2c1 : Code := { maxStack := 6, maxLocals := 8, code := prog_55_method_9_code, exceptionTable := #[], attributes := #[] }
def k2m1 : Method := { name := "peak", desc := "()D", sig := { parameters := [], returnType := some .double }, accessFlags := 0, code := some k2c1 }
/-- com/example/neaplight/neaplight/Tide -/
def k2 : Class := { plain "com/example/neaplight/neaplight/Tide" (some 0) with
  accessFlags := 48
  interfaces := #[]
  cf := some (fileOf pool2 8 #[] #[{ accessFlags := 0, nameIndex := 5, descriptorIndex := 50, attributes := #[] }, { accessFlags := 0, nameIndex := 61, descriptorIndex := 53, attributes := #[] }] 48 2 #[] #[{ accessFlags := 18, nameIndex := 11, descriptorIndex := 12, attributes := #[] }, { accessFlags := 18, nameIndex := 21, descriptorIndex := 16, attributes := #[] }, { accessFlags := 18, nameIndex := 24, descriptorIndex := 12, attributes := #[] }, { accessFlags := 18, nameIndex := 27, descriptorIndex := 12, attributes := #[] }])
  fields := #[{ name := "stable", type := .double, accessFlags := 18, slot := 0, constantValue := 0 }, { name := "nominal", type := (.array .double), accessFlags := 18, slot := 1, constantValue := 0 }, { name := "start", type := .double, accessFlags := 18, slot := 2, constantValue := 0 }, { name := "end", type := .double, accessFlags := 18, slot := 3, constantValue := 0 }]
  methods := #[k2m0, k2m1]
  instanceTypes := #[.double, (.array .double), .double, .double]
  staticTypes := #[]
  resolved := Array.replicate 65 none
  statics := none }

def pool3 : Array CpInfo := pool [(1, .class_ 2), (0, u "java/lang/Cloneable"), (0, .class_ 4), (0, u "java/lang/Object")] 2

/-- java/lang/Cloneable -/
def k3 : Class := { plain "java/lang/Cloneable" (some 0) with
  accessFlags := 1537
  interfaces := #[]
  cf := some (fileOf pool3 1 #[] #[] 1537 3 #[] #[])
  fields := #[]
  methods := #[]
  instanceTypes := #[]
  staticTypes := #[]
  resolved := Array.replicate 7 none
  statics := none }

def pool4 : Array CpInfo := pool [(1, u "java/io/Serializable"), (0, .class_ 1), (0, u "java/lang/Object"), (0, .class_ 3)] 3

/-- java/io/Serializable -/
def k4 : Class := { plain "java/io/Serializable" (some 0) with
  accessFlags := 1537
  interfaces := #[]
  cf := some (fileOf pool4 2 #[] #[] 1537 4 #[] #[])
  fields := #[]
  methods := #[]
  instanceTypes := #[]
  staticTypes := #[]
  resolved := Array.replicate 8 none
  statics := none }

/-- the primitive byte -/
def k5 : Class := { plain "byte" none with kind := .primitive 'B', accessFlags := 0x411 }
/-- [B -/
def k6 : Class := { plain "[B" (some 0) with kind := .array 5 .byte, interfaces := #[3, 4], accessFlags := 1041 }

/-- the primitive double -/
def k7 : Class := { plain "double" none with kind := .primitive 'D', accessFlags := 0x411 }
/-- [D -/
def k8 : Class := { plain "[D" (some 0) with kind := .array 7 .double, interfaces := #[3, 4], accessFlags := 1041 }

/-- the primitive int -/
def k9 : Class := { plain "int" none with kind := .primitive 'I', accessFlags := 0x411 }
/-- [I -/
def k10 : Class := { plain "[I" (some 0) with kind := .array 9 .int, interfaces := #[3, 4], accessFlags := 1041 }

def heap : Heap := #[]
def classes : Array Class := #[k0, k1, k2, k3, k4, k5, k6, k7, k8, k9, k10]
def interned : List (Array UInt16 × Addr) := []
def slotsUsed : Nat := 0
def theMethod : MethodId := ⟨1, 1⟩
def args0 : Array Value := #[.int 5, .int 3, .int 4, .int 7, .int 2, .int 9]
def aboutOver (below : List Frame) : State where
  vm := { classes := classes, interned := interned.toArray }
  heap := heap
  slotsUsed := slotsUsed
  threads := #[{ frames := .invoking theMethod args0 :: below }]
def below0 : List Frame := [.native { method := ⟨0, 0⟩, args := #[] }]
def about1 : State := aboutOver below0
def p0 : Program := .bare "" "" ""
def e0 : Env := launch0.env 0 0 0
theorem w_frames : about1.frames = Frame.invoking theMethod args0 :: below0 := rfl
set_option maxRecDepth 65536 in
theorem w_args : argsFit about1.vm theMethod args0 = true := by decide +kernel
set_option maxRecDepth 65536 in
theorem w_heap : heapFits about1 = true := by decide +kernel
set_option maxRecDepth 65536 in
theorem w_runnable : about1.curStatus? = some .runnable := by decide +kernel
set_option maxRecDepth 65536 in
theorem w_alone : about1.alone = true := by decide +kernel
set_option maxRecDepth 65536 in
theorem w_named : about1.methodNamed? x = some theMethod := by decide +kernel
set_option maxRecDepth 65536 in
theorem w_hears : about1.hears theMethod below0 = true := by decide +kernel
set_option maxRecDepth 65536 in
theorem w_ripe : about1.ripe theMethod args0 below0 = true := by decide +kernel
theorem w_running : about1.status = .running := rfl
set_option maxRecDepth 65536 in
theorem w_room : about1.hasRoom e0.platform room_1 = true :=
  launch0.hasRoom_least _ room_1 (by decide +kernel) (by decide +kernel) (by decide +kernel) (by decide +kernel) (by decide +kernel) (by decide +kernel)
theorem allAtoms_all (ts : List Jvm.Cond) (a : Array Jvm.Value) (st : Jvm.State) : (allAtoms ts).before a st = ts.all (fun c => c.before a st) := by
  induction ts with
  | nil => rfl
  | cons c t ih =>
    show (Jvm.Cond.and c (allAtoms t)).before a st = _
    rw [Jvm.Cond.before_and, ih, List.all_cons]
def words1 : List Jvm.Cond := Jvm.Cond.code x code maxLocals ret :: tables_1
/-- a 'code' word, met by the world's own term for the bytes: nothing is compared byte by byte -/
theorem code_word {y : MethodName} {bytes : ByteArray} {mx : Nat} {rt : Option FieldType} {a : Array Value} {s : State} {m : MethodId} {meth : Method} {c : Code} (h1 : s.methodNamed? y = some m) (h2 : s.vm.method? m = some meth) (h3 : meth.code = some c) (h4 : c.code = bytes)
    (h5 : (c.maxLocals == mx && c.exceptionTable.isEmpty && decide (c.maxStack ≤ mostOperands) && decide (meth.sig.returnType = rt) && !meth.locks && decide (parseMethodDescriptor y.desc = some meth.sig)) = true) : (Jvm.Cond.code y bytes mx rt).before a s = true := by
  simp only [Bool.and_eq_true, beq_iff_eq, Bool.not_eq_true', decide_eq_true_eq] at h5
  obtain ⟨⟨⟨⟨⟨g1, g2⟩, g3⟩, g4⟩, g5⟩, g6⟩ := h5
  simp [Cond.before, Cond.holds, Cond.value, h1, h2, h3, h4, g1, g2, g3, g4, g5, g6]
def isCode : Jvm.Cond → Bool
  | .code _ _ _ _ => true
  | _ => false
theorem all_split {L : List Jvm.Cond} {P : Jvm.Cond → Bool} (h1 : L.all (fun c => isCode c || P c) = true) (h2 : ∀ c ∈ L.filter isCode, P c = true) : L.all P = true := by
  refine List.all_eq_true.mpr fun c hc => ?_
  have h := List.all_eq_true.mp h1 c hc
  rcases Bool.eq_false_or_eq_true (isCode c) with hi | hi
  · exact h2 c (List.mem_filter.mpr ⟨hc, hi⟩)
  · simpa [hi] using h
set_option maxRecDepth 65536 in
theorem w_c0 : (Jvm.Cond.code x code maxLocals ret).before args0 about1 = true := code_word (m := ⟨1, 1⟩) (meth := k1m1) (c := k1c1) (by decide +kernel) rfl rfl rfl (by decide +kernel)
set_option maxRecDepth 65536 in
theorem w_c1 : (Jvm.Cond.code ({ cls := "com/example/neaplight/neaplight/Tide", name := "<init>", desc := "(D[DDD)V" } : Jvm.MethodName) prog_55_method_1_code (8 : Nat) (Option.none : Option Jvm.ClassFile.FieldType)).before args0 about1 = true := code_word (m := ⟨2, 0⟩) (meth := k2m0) (c := k2c0) (by decide +kernel) rfl rfl rfl (by decide +kernel)
set_option maxRecDepth 65536 in
theorem w_c2 : (Jvm.Cond.code ({ cls := "java/lang/Object", name := "<init>", desc := "()V" } : Jvm.MethodName) object_method_1_code (1 : Nat) (Option.none : Option Jvm.ClassFile.FieldType)).before args0 about1 = true := code_word (m := ⟨0, 0⟩) (meth := k0m0) (c := k0c0) (by decide +kernel) rfl rfl rfl (by decide +kernel)
set_option maxRecDepth 65536 in
theorem w_c3 : (Jvm.Cond.code ({ cls := "com/example/neaplight/neaplight/Tide", name := "peak", desc := "()D" } : Jvm.MethodName) prog_55_method_9_code (8 : Nat) (Option.some Jvm.ClassFile.FieldType.double)).before args0 about1 = true := code_word (m := ⟨2, 1⟩) (meth := k2m1) (c := k2c1) (by decide +kernel) rfl rfl rfl (by decide +kernel)
def codes1 : List Jvm.Cond := [Jvm.Cond.code x code maxLocals ret, Jvm.Cond.code ({ cls := "com/example/neaplight/neaplight/Tide", name := "<init>", desc := "(D[DDD)V" } : Jvm.MethodName) prog_55_method_1_code (8 : Nat) (Option.none : Option Jvm.ClassFile.FieldType), Jvm.Cond.code ({ cls := "java/lang/Object", name := "<init>", desc := "()V" } : Jvm.MethodName) object_method_1_code (1 : Nat) (Option.none : Option Jvm.ClassFile.FieldType), Jvm.Cond.code ({ cls := "com/example/neaplight/neaplight/Tide", name := "peak", desc := "()D" } : Jvm.MethodName) prog_55_method_9_code (8 : Nat) (Option.some Jvm.ClassFile.FieldType.double)]
set_option maxRecDepth 65536 in
theorem codes_eq : words1.filter isCode = codes1 := rfl
theorem w_codes : ∀ c ∈ words1.filter isCode, c.before args0 about1 = true := by
  rw [codes_eq]
  intro c hc
  simp only [codes1, List.mem_cons, List.not_mem_nil, or_false] at hc
  rcases hc with rfl | rfl | rfl | rfl
  · exact w_c0
  · exact w_c1
  · exact w_c2
  · exact w_c3
set_option maxRecDepth 65536 in
theorem w_t1 : (words1.take 24).all (fun c => isCode c || c.before args0 about1) = true := by decide +kernel
set_option maxRecDepth 65536 in
theorem w_t2 : (words1.drop 24).all (fun c => isCode c || c.before args0 about1) = true := by decide +kernel
theorem w_tables : (allAtoms (Jvm.Cond.code x code maxLocals ret :: tables_1)).before args0 about1 = true := by
  rw [allAtoms_all]
  show words1.all (fun c => c.before args0 about1) = true
  refine all_split ?_ w_codes
  rw [← List.take_append_drop 24 words1, List.all_append, w_t1, w_t2]
  rfl
set_option maxRecDepth 65536 in
theorem w_case : (Jvm.Cond.and given_1 narrow_1).before args0 about1 = true := by decide +kernel
theorem w_applies : (headSpec (Jvm.Cond.code x code maxLocals ret :: tables_1) room_1).applies x e0.platform about1 = true :=
  (Spec.applies_iff w_frames).mpr ⟨w_running, w_runnable, w_alone, w_named, w_hears, w_ripe, w_room, w_tables⟩
theorem atStart : AtStart classFile x code maxLocals ret World_1 tables_1 room_1 Calls_1 rest_1 Pre_1 launch0 p0 e0 about1 theMethod args0 below0 :=
  ⟨lists_1, trivial, launch0.admits_env _ _ _, launch0.least_env, fairChoices_fair.cas, fairChoices_fair.clock, w_frames, w_args, w_heap, w_applies, trivial, trivial, w_case⟩
end start1
theorem witness_1 : WitnessClaimed_1 := ⟨start1.p0, start1.e0, start1.about1, start1.theMethod, start1.args0, start1.below0, start1.atStart⟩
end Jvm.Pilot.@@N@@
