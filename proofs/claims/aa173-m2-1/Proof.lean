import JvmDerived
import JvmDerived.Pilot.@@N@@Statement
import JvmDerived.Pilot.@@N@@Code
set_option linter.unusedVariables false
set_option linter.unusedSimpArgs false
namespace Jvm.Pilot.@@N@@
open Jvm Jvm.ClassFile Sem Op Lib Jvm.Free Jvm.Stand Jvm.LawKit Jvm.RoadKit Bundle Jvm.Pilot.@@N@@.Jvm.D
section OwnKit
variable {p : Program} {l : Launch} {e : Env} {R : Room} {s : State} {m : MethodId} {args : Array Value} {below : List Frame} {meth : Method} {c : Code} {T : State} {locs : List Loc} {cells slots : Nat} {Z : State} {a0 : Array Value} {h h' : Heap} {Ev : State → Outcome → Prop}
def Go (p : Program) (e : Env) (below : List Frame) (Ev : State → Outcome → Prop) (T : State) (g : JFrame) : Prop :=
  ∃ (U : State) (o : Outcome), Steps p.tables e below (T.setTop g) U ∧ U.status = .running ∧ Ended U below o ∧ Ev U o
theorem Go.on {T T' : State} {g g' : JFrame} (K : Go p e below Ev T' g') (st : ∀ t, Steps p.tables e below (T'.setTop g') t → Steps p.tables e below (T.setTop g) t) : Go p e below Ev T g := by
  obtain ⟨U, o, h1, h2⟩ := K
  exact ⟨U, o, st _ h1, h2⟩
/-- what a body leaves -/
abbrev EndQ (s : State) (Q : Option Value → Heap → List Loc → Prop) (K N : Nat) : State → Outcome → Prop := fun U o => ∃ (v : Option Value) (L : List Loc), o = .returned v ∧ Q v U.heap L ∧ FrameEnd s o U L K N
theorem own_met {x : MethodName} {code : ByteArray} {ml : Nat} {ret : Option FieldType} {ws : List Jvm.Cond} {rm : Room} {as : Array Value} {h0 : Heap} {Q : Option Value → Heap → List Loc → Prop} {K N : Nat} {Ls : Array Slot} (hpn : plainFor x = true) (hef : ∀ m, entryFrame m as ml = mkF m 0 Ls [])
    (body : ∀ (p : Program) (e : Env) (s : State) (m : MethodId) (below : List Frame) (meth : Method) (c : Code) (T : State), Stand p l e rm s m as below meth c T [] 0 0 → p.tables.exec = Jvm.exec → c.code = code → c.maxLocals = ml → meth.sig.returnType = ret → meth.locks = false → meth.name = x.name → s.vm.findClass x.cls = some m.cls → Z.Warmed39 s.vm → T.heap = h0 → Go p e below (EndQ s Q K N) T (mkF m 0 Ls [])) :
    MetFree l x (head1 (Jvm.Cond.code x code ml ret :: ws) rm) (fun a U => a = as ∧ Z.Warmed39 U.vm ∧ U.heap = h0) (fun _ _ _ _ _ => True) (fun _ U o U' => ∃ v L, o = .returned v ∧ Q v U'.heap L ∧ FrameEnd U o U' L K N) := by
  refine MetFree.of_bodySF hpn hisR ?_
  intro p e s m args below meth c s₁ Bd hml0 hP hK
  obtain ⟨rfl, hZ, hh⟩ := hP
  have e0 : s₁.heap = h0 := by rw [← hh, Bd.state]; rfl
  obtain ⟨U, o, h1, h2, h3, h4⟩ := body p e s m below meth c s₁ (Stand.of_body Bd) Bd.exec Bd.bytes hml0 Bd.returns (BodyLoose.notSynchronized Bd) (name_of_methodNamed Bd.named Bd.method).1 (findClass_of_methodNamed Bd.named) hZ e0
  rw [← hef m] at h1
  exact ⟨U, o, h1, h2, h3, h4⟩
theorem g_leave (X : Stand p l e R s m args below meth c T locs cells slots) (hlk : meth.locks = false) {Q : Option Value → Heap → List Loc → Prop} {K N : Nat} {g : JFrame} {v : Option Value} (hv : meth.sig.returnType = none → v = none) (hK : cells ≤ K) (hN : slots ≤ N) (eT : T.heap = h) (hQ : Q v h locs)
    (hst : ∀ fs, (∀ (f : JFrame) (acts : List Action), f.method = m → f.locked = none → f.entered = [] → (doReturn e (T.setTop f) acts v).1 = T.setFrames fs) → Steps p.tables e below (T.setTop g) (T.setFrames fs)) : Go p e below (EndQ s Q K N) T g := by
  obtain ⟨fs, hr, hrun, hended, hW, hsame⟩ := X.leave (v := v) hv hlk
  exact ⟨_, _, hst fs hr, hrun, hended, _, _, rfl, by rw [show (T.setFrames fs).heap = T.heap from rfl, eT]; exact hQ, ⟨_, rfl⟩, hW, hsame.mono hK hN⟩
theorem g_retI (X : Stand p l e R s m args below meth c T locs cells slots) (hx : p.tables.exec = Jvm.exec) (hlk : meth.locks = false) {Q : Option Value → Heap → List Loc → Prop} {K N : Nat} {pc : Nat} {Ls : Array Slot} {z : Int32} {rest : List Value} (hret : meth.sig.returnType = some .int) (hd : decode c.code pc = .ok (.ireturn, 1)) (hK : cells ≤ K) (hN : slots ≤ N) (eT : T.heap = h) (hQ : Q (some (.int z)) h locs) : Go p e below (EndQ s Q K N) T (mkF m pc Ls (.int z :: rest)) :=
  g_leave X hlk (fun q => by rw [hret] at q; cases q) hK hN eT hQ (fun fs hr => retOut X hx hret rfl (Or.inl ⟨rfl, Or.inl rfl, _, rfl⟩) hd hr)
theorem g_retZ (X : Stand p l e R s m args below meth c T locs cells slots) (hx : p.tables.exec = Jvm.exec) (hlk : meth.locks = false) {Q : Option Value → Heap → List Loc → Prop} {K N : Nat} {pc : Nat} {Ls : Array Slot} {z : Int32} {rest : List Value} (hret : meth.sig.returnType = some .boolean) (hd : decode c.code pc = .ok (.ireturn, 1)) (hK : cells ≤ K) (hN : slots ≤ N) (eT : T.heap = h) (hQ : Q (some (.int (nar .boolean z))) h locs) : Go p e below (EndQ s Q K N) T (mkF m pc Ls (.int z :: rest)) :=
  g_leave X hlk (fun q => by rw [hret] at q; cases q) hK hN eT hQ (fun fs hr => retN X hx (t := .boolean) hret (by simp) hd hr)
theorem g_retD (X : Stand p l e R s m args below meth c T locs cells slots) (hx : p.tables.exec = Jvm.exec) (hlk : meth.locks = false) {Q : Option Value → Heap → List Loc → Prop} {K N : Nat} {pc : Nat} {Ls : Array Slot} {z : UInt64} {rest : List Value} (hret : meth.sig.returnType = some .double) (hd : decode c.code pc = .ok (.dreturn, 1)) (hK : cells ≤ K) (hN : slots ≤ N) (eT : T.heap = h) (hQ : Q (some (.double z)) h locs) : Go p e below (EndQ s Q K N) T (mkF m pc Ls (.double z :: rest)) :=
  g_leave X hlk (fun q => by rw [hret] at q; cases q) hK hN eT hQ (fun fs hr => retOut X hx hret rfl (Or.inr (Or.inr (Or.inl ⟨rfl, rfl, _, rfl⟩))) hd hr)
theorem g_retJ (X : Stand p l e R s m args below meth c T locs cells slots) (hx : p.tables.exec = Jvm.exec) (hlk : meth.locks = false) {Q : Option Value → Heap → List Loc → Prop} {K N : Nat} {pc : Nat} {Ls : Array Slot} {z : Int64} {rest : List Value} (hret : meth.sig.returnType = some .long) (hd : decode c.code pc = .ok (.lreturn, 1)) (hK : cells ≤ K) (hN : slots ≤ N) (eT : T.heap = h) (hQ : Q (some (.long z)) h locs) : Go p e below (EndQ s Q K N) T (mkF m pc Ls (.long z :: rest)) :=
  g_leave X hlk (fun q => by rw [hret] at q; cases q) hK hN eT hQ (fun fs hr => retOut X hx hret rfl (Or.inr (Or.inl ⟨rfl, rfl, _, rfl⟩)) hd hr)
theorem g_retA (X : Stand p l e R s m args below meth c T locs cells slots) (hx : p.tables.exec = Jvm.exec) (hlk : meth.locks = false) {Q : Option Value → Heap → List Loc → Prop} {K N : Nat} {pc : Nat} {Ls : Array Slot} {w : Value} {rest : List Value} {t : FieldType} (hret : meth.sig.returnType = some t) (ht : t.isReference = true) (hw : w.isRef = true) (hn : narrow t w = w) (hd : decode c.code pc = .ok (.areturn, 1)) (hK : cells ≤ K) (hN : slots ≤ N) (eT : T.heap = h) (hQ : Q (some w) h locs) : Go p e below (EndQ s Q K N) T (mkF m pc Ls (w :: rest)) :=
  g_leave X hlk (fun q => by rw [hret] at q; cases q) hK hN eT hQ (fun fs hr => retOut X hx hret hn (Or.inr (Or.inr (Or.inr (Or.inr ⟨rfl, ht, hw⟩)))) hd hr)
theorem g_retV (X : Stand p l e R s m args below meth c T locs cells slots) (hx : p.tables.exec = Jvm.exec) (hlk : meth.locks = false) {Q : Option Value → Heap → List Loc → Prop} {K N : Nat} {pc : Nat} {Ls : Array Slot} (hret : meth.sig.returnType = none) (hd : decode c.code pc = .ok (.return_, 1)) (hK : cells ≤ K) (hN : slots ≤ N) (eT : T.heap = h) (hQ : Q none h locs) : Go p e below (EndQ s Q K N) T (mkF m pc Ls []) :=
  g_leave X hlk (fun _ => rfl) hK hN eT hQ (fun fs hr => X.returnOut hx hret hd hr)
theorem g_iloadN (X : Stand p l e R s m args below meth c T locs cells slots) (hx : p.tables.exec = Jvm.exec) {pc : Nat} {Ls : Array Slot} {st : List Value} {k : Fin 4} {v : Int32} (q : Nat) (hd : decode c.code pc = .ok (.iload_n k, 1)) (hq : pc + 1 = q) (hl : Ls[k.val]? = some (.val (.int v))) (K : Go p e below Ev T (mkF m q Ls (.int v :: st))) : Go p e below Ev T (mkF m pc Ls st) := by
  subst hq
  exact K.on fun _ k => XS.iloadN X.here hx rfl hd hl k
theorem g_iload (X : Stand p l e R s m args below meth c T locs cells slots) (hx : p.tables.exec = Jvm.exec) {pc : Nat} {Ls : Array Slot} {st : List Value} {k : Nat} {v : Int32} (q : Nat) (hd : decode c.code pc = .ok (.iload k, 2)) (hq : pc + 2 = q) (hl : Ls[k]? = some (.val (.int v))) (K : Go p e below Ev T (mkF m q Ls (.int v :: st))) : Go p e below Ev T (mkF m pc Ls st) := by
  subst hq
  exact K.on fun _ k => XS.iload X.here hx rfl hd hl k
theorem g_istoreN (X : Stand p l e R s m args below meth c T locs cells slots) (hx : p.tables.exec = Jvm.exec) {pc : Nat} {Ls : Array Slot} {st : List Value} {k : Fin 4} {v : Int32} {l' : Array Slot} (q : Nat) (hd : decode c.code pc = .ok (.istore_n k, 1)) (hq : pc + 1 = q) (hl : storeLocals Ls k.val (.int v) = some l') (K : Go p e below Ev T (mkF m q l' st)) : Go p e below Ev T (mkF m pc Ls (.int v :: st)) := by
  subst hq
  exact K.on fun _ k => XS.istoreN X.here hx rfl hd rfl hl k
theorem g_istore (X : Stand p l e R s m args below meth c T locs cells slots) (hx : p.tables.exec = Jvm.exec) {pc : Nat} {Ls : Array Slot} {st : List Value} {k : Nat} {v : Int32} {l' : Array Slot} (q : Nat) (hd : decode c.code pc = .ok (.istore k, 2)) (hq : pc + 2 = q) (hl : storeLocals Ls k (.int v) = some l') (K : Go p e below Ev T (mkF m q l' st)) : Go p e below Ev T (mkF m pc Ls (.int v :: st)) := by
  subst hq
  exact K.on fun _ k => XS.istore X.here hx rfl hd rfl hl k
theorem g_lloadN (X : Stand p l e R s m args below meth c T locs cells slots) (hx : p.tables.exec = Jvm.exec) {pc : Nat} {Ls : Array Slot} {st : List Value} {k : Fin 4} {v : Int64} (q : Nat) (hd : decode c.code pc = .ok (.lload_n k, 1)) (hq : pc + 1 = q) (hl : Ls[k.val]? = some (.val (.long v))) (K : Go p e below Ev T (mkF m q Ls (.long v :: st))) : Go p e below Ev T (mkF m pc Ls st) := by
  subst hq
  exact K.on fun _ k => XS.lloadN X.here hx rfl hd hl k
theorem g_lload (X : Stand p l e R s m args below meth c T locs cells slots) (hx : p.tables.exec = Jvm.exec) {pc : Nat} {Ls : Array Slot} {st : List Value} {k : Nat} {v : Int64} (q : Nat) (hd : decode c.code pc = .ok (.lload k, 2)) (hq : pc + 2 = q) (hl : Ls[k]? = some (.val (.long v))) (K : Go p e below Ev T (mkF m q Ls (.long v :: st))) : Go p e below Ev T (mkF m pc Ls st) := by
  subst hq
  exact K.on fun _ k => XS.lload X.here hx rfl hd hl k
theorem g_lstoreN (X : Stand p l e R s m args below meth c T locs cells slots) (hx : p.tables.exec = Jvm.exec) {pc : Nat} {Ls : Array Slot} {st : List Value} {k : Fin 4} {v : Int64} {l' : Array Slot} (q : Nat) (hd : decode c.code pc = .ok (.lstore_n k, 1)) (hq : pc + 1 = q) (hl : storeLocals Ls k.val (.long v) = some l') (K : Go p e below Ev T (mkF m q l' st)) : Go p e below Ev T (mkF m pc Ls (.long v :: st)) := by
  subst hq
  exact K.on fun _ k => XS.lstoreN X.here hx rfl hd rfl hl k
theorem g_lstore (X : Stand p l e R s m args below meth c T locs cells slots) (hx : p.tables.exec = Jvm.exec) {pc : Nat} {Ls : Array Slot} {st : List Value} {k : Nat} {v : Int64} {l' : Array Slot} (q : Nat) (hd : decode c.code pc = .ok (.lstore k, 2)) (hq : pc + 2 = q) (hl : storeLocals Ls k (.long v) = some l') (K : Go p e below Ev T (mkF m q l' st)) : Go p e below Ev T (mkF m pc Ls (.long v :: st)) := by
  subst hq
  exact K.on fun _ k => XS.lstore X.here hx rfl hd rfl hl k
theorem g_dloadN (X : Stand p l e R s m args below meth c T locs cells slots) (hx : p.tables.exec = Jvm.exec) {pc : Nat} {Ls : Array Slot} {st : List Value} {k : Fin 4} {v : UInt64} (q : Nat) (hd : decode c.code pc = .ok (.dload_n k, 1)) (hq : pc + 1 = q) (hl : Ls[k.val]? = some (.val (.double v))) (K : Go p e below Ev T (mkF m q Ls (.double v :: st))) : Go p e below Ev T (mkF m pc Ls st) := by
  subst hq
  exact K.on fun _ k => XS.dloadN X.here hx rfl hd hl k
theorem g_dload (X : Stand p l e R s m args below meth c T locs cells slots) (hx : p.tables.exec = Jvm.exec) {pc : Nat} {Ls : Array Slot} {st : List Value} {k : Nat} {v : UInt64} (q : Nat) (hd : decode c.code pc = .ok (.dload k, 2)) (hq : pc + 2 = q) (hl : Ls[k]? = some (.val (.double v))) (K : Go p e below Ev T (mkF m q Ls (.double v :: st))) : Go p e below Ev T (mkF m pc Ls st) := by
  subst hq
  exact K.on fun _ k => XS.dload X.here hx rfl hd hl k
theorem g_dstoreN (X : Stand p l e R s m args below meth c T locs cells slots) (hx : p.tables.exec = Jvm.exec) {pc : Nat} {Ls : Array Slot} {st : List Value} {k : Fin 4} {v : UInt64} {l' : Array Slot} (q : Nat) (hd : decode c.code pc = .ok (.dstore_n k, 1)) (hq : pc + 1 = q) (hl : storeLocals Ls k.val (.double v) = some l') (K : Go p e below Ev T (mkF m q l' st)) : Go p e below Ev T (mkF m pc Ls (.double v :: st)) := by
  subst hq
  exact K.on fun _ k => XS.dstoreN X.here hx rfl hd rfl hl k
theorem g_dstore (X : Stand p l e R s m args below meth c T locs cells slots) (hx : p.tables.exec = Jvm.exec) {pc : Nat} {Ls : Array Slot} {st : List Value} {k : Nat} {v : UInt64} {l' : Array Slot} (q : Nat) (hd : decode c.code pc = .ok (.dstore k, 2)) (hq : pc + 2 = q) (hl : storeLocals Ls k (.double v) = some l') (K : Go p e below Ev T (mkF m q l' st)) : Go p e below Ev T (mkF m pc Ls (.double v :: st)) := by
  subst hq
  exact K.on fun _ k => XS.dstore X.here hx rfl hd rfl hl k
theorem g_aloadN (X : Stand p l e R s m args below meth c T locs cells slots) (hx : p.tables.exec = Jvm.exec) {pc : Nat} {Ls : Array Slot} {st : List Value} {k : Fin 4} {v : Value} (q : Nat) (hd : decode c.code pc = .ok (.aload_n k, 1)) (hq : pc + 1 = q) (hl : Ls[k.val]? = some (.val v)) (hv : v.isRef = true) (K : Go p e below Ev T (mkF m q Ls (v :: st))) : Go p e below Ev T (mkF m pc Ls st) := by
  subst hq
  exact K.on fun _ k => XS.aloadN X.here hx rfl hd hl hv k
theorem g_aload (X : Stand p l e R s m args below meth c T locs cells slots) (hx : p.tables.exec = Jvm.exec) {pc : Nat} {Ls : Array Slot} {st : List Value} {k : Nat} {v : Value} (q : Nat) (hd : decode c.code pc = .ok (.aload k, 2)) (hq : pc + 2 = q) (hl : Ls[k]? = some (.val v)) (hv : v.isRef = true) (K : Go p e below Ev T (mkF m q Ls (v :: st))) : Go p e below Ev T (mkF m pc Ls st) := by
  subst hq
  exact K.on fun _ k => XS.aload X.here hx rfl hd hl hv k
theorem g_astoreN (X : Stand p l e R s m args below meth c T locs cells slots) (hx : p.tables.exec = Jvm.exec) {pc : Nat} {Ls : Array Slot} {st : List Value} {k : Fin 4} {v : Value} {l' : Array Slot} (q : Nat) (hd : decode c.code pc = .ok (.astore_n k, 1)) (hq : pc + 1 = q) (hv : v.isRef = true) (hl : storeLocals Ls k.val v = some l') (K : Go p e below Ev T (mkF m q l' st)) : Go p e below Ev T (mkF m pc Ls (v :: st)) := by
  subst hq
  exact K.on fun _ k => XS.astoreN X.here hx rfl hd rfl hv hl k
theorem g_astore (X : Stand p l e R s m args below meth c T locs cells slots) (hx : p.tables.exec = Jvm.exec) {pc : Nat} {Ls : Array Slot} {st : List Value} {k : Nat} {v : Value} {l' : Array Slot} (q : Nat) (hd : decode c.code pc = .ok (.astore k, 2)) (hq : pc + 2 = q) (hv : v.isRef = true) (hl : storeLocals Ls k v = some l') (K : Go p e below Ev T (mkF m q l' st)) : Go p e below Ev T (mkF m pc Ls (v :: st)) := by
  subst hq
  exact K.on fun _ k => XS.astore X.here hx rfl hd rfl hv hl k
theorem g_iconst (X : Stand p l e R s m args below meth c T locs cells slots) (hx : p.tables.exec = Jvm.exec) {pc : Nat} {Ls : Array Slot} {st : List Value} {i : Int} (v : Int32) (q : Nat) (hd : decode c.code pc = .ok (.iconst i, 1)) (hq : pc + 1 = q) (hv : Int32.ofInt i = v) (K : Go p e below Ev T (mkF m q Ls (.int v :: st))) : Go p e below Ev T (mkF m pc Ls st) := by
  subst hq
  exact K.on fun _ k => XT.iconstV X.here hx rfl v hd hv k
theorem g_bipush (X : Stand p l e R s m args below meth c T locs cells slots) (hx : p.tables.exec = Jvm.exec) {pc : Nat} {Ls : Array Slot} {st : List Value} {i : Int} (v : Int32) (q : Nat) (hd : decode c.code pc = .ok (.bipush i, 2)) (hq : pc + 2 = q) (hv : (Int8.ofInt i).toInt32 = v) (K : Go p e below Ev T (mkF m q Ls (.int v :: st))) : Go p e below Ev T (mkF m pc Ls st) := by
  subst hq
  exact K.on fun _ k => XT.bipushV X.here hx rfl v hd hv k
theorem g_sipush (X : Stand p l e R s m args below meth c T locs cells slots) (hx : p.tables.exec = Jvm.exec) {pc : Nat} {Ls : Array Slot} {st : List Value} {i : Int} (v : Int32) (q : Nat) (hd : decode c.code pc = .ok (.sipush i, 3)) (hq : pc + 3 = q) (hv : (Int16.ofInt i).toInt32 = v) (K : Go p e below Ev T (mkF m q Ls (.int v :: st))) : Go p e below Ev T (mkF m pc Ls st) := by
  subst hq
  exact K.on fun _ k => XT.sipushV X.here hx rfl v hd hv k
theorem g_lconst (X : Stand p l e R s m args below meth c T locs cells slots) (hx : p.tables.exec = Jvm.exec) {pc : Nat} {Ls : Array Slot} {st : List Value} {i : Fin 2} (v : Int64) (q : Nat) (hd : decode c.code pc = .ok (.lconst i, 1)) (hq : pc + 1 = q) (hv : Int64.ofNat i = v) (K : Go p e below Ev T (mkF m q Ls (.long v :: st))) : Go p e below Ev T (mkF m pc Ls st) := by
  subst hq
  exact K.on fun _ k => XT.lconstV X.here hx rfl v hd hv k
theorem g_dconst0 (X : Stand p l e R s m args below meth c T locs cells slots) (hx : p.tables.exec = Jvm.exec) {pc : Nat} {Ls : Array Slot} {st : List Value}  (q : Nat) (hd : decode c.code pc = .ok (.dconst 0, 1)) (hq : pc + 1 = q)  (K : Go p e below Ev T (mkF m q Ls (.double 0 :: st))) : Go p e below Ev T (mkF m pc Ls st) := by
  subst hq
  exact K.on fun _ k => XS.dconst0 X.here hx rfl hd rfl k
theorem g_dconst1 (X : Stand p l e R s m args below meth c T locs cells slots) (hx : p.tables.exec = Jvm.exec) {pc : Nat} {Ls : Array Slot} {st : List Value}  (q : Nat) (hd : decode c.code pc = .ok (.dconst 1, 1)) (hq : pc + 1 = q)  (K : Go p e below Ev T (mkF m q Ls (.double 4607182418800017408 :: st))) : Go p e below Ev T (mkF m pc Ls st) := by
  subst hq
  exact K.on fun _ k => XS.dconst1 X.here hx rfl hd rfl k
theorem g_null (X : Stand p l e R s m args below meth c T locs cells slots) (hx : p.tables.exec = Jvm.exec) {pc : Nat} {Ls : Array Slot} {st : List Value}  (q : Nat) (hd : decode c.code pc = .ok (.aconst_null, 1)) (hq : pc + 1 = q)  (K : Go p e below Ev T (mkF m q Ls (.null :: st))) : Go p e below Ev T (mkF m pc Ls st) := by
  subst hq
  exact K.on fun _ k => XS.aconstNull X.here hx rfl hd k
theorem g_iinc (X : Stand p l e R s m args below meth c T locs cells slots) (hx : p.tables.exec = Jvm.exec) {pc : Nat} {Ls : Array Slot} {st : List Value} {k : Nat} {i : Int} {v w : Int32} {l' : Array Slot} (q : Nat) (hd : decode c.code pc = .ok (.iinc k i, 3)) (hq : pc + 3 = q) (hl : Ls[k]? = some (.val (.int v))) (hv : Int32.ofInt i = w) (hl' : storeLocals Ls k (.int (v + w)) = some l') (K : Go p e below Ev T (mkF m q l' st)) : Go p e below Ev T (mkF m pc Ls st) := by
  subst hq
  exact K.on fun _ k => XT.iincV X.here hx rfl w hd hv hl hl' k
theorem g_iadd (X : Stand p l e R s m args below meth c T locs cells slots) (hx : p.tables.exec = Jvm.exec) {pc : Nat} {Ls : Array Slot} {st : List Value} {x y : Int32} (q : Nat) (hd : decode c.code pc = .ok (.iadd, 1)) (hq : pc + 1 = q)  (K : Go p e below Ev T (mkF m q Ls (.int (x + y) :: st))) : Go p e below Ev T (mkF m pc Ls (.int y :: .int x :: st)) := by
  subst hq
  exact K.on fun _ k => XS.iadd X.here hx rfl hd rfl k
theorem g_ladd (X : Stand p l e R s m args below meth c T locs cells slots) (hx : p.tables.exec = Jvm.exec) {pc : Nat} {Ls : Array Slot} {st : List Value} {x y : Int64} (q : Nat) (hd : decode c.code pc = .ok (.ladd, 1)) (hq : pc + 1 = q)  (K : Go p e below Ev T (mkF m q Ls (.long (x + y) :: st))) : Go p e below Ev T (mkF m pc Ls (.long y :: .long x :: st)) := by
  subst hq
  exact K.on fun _ k => XS.ladd X.here hx rfl hd rfl k
theorem g_isub (X : Stand p l e R s m args below meth c T locs cells slots) (hx : p.tables.exec = Jvm.exec) {pc : Nat} {Ls : Array Slot} {st : List Value} {x y : Int32} (q : Nat) (hd : decode c.code pc = .ok (.isub, 1)) (hq : pc + 1 = q)  (K : Go p e below Ev T (mkF m q Ls (.int (x - y) :: st))) : Go p e below Ev T (mkF m pc Ls (.int y :: .int x :: st)) := by
  subst hq
  exact K.on fun _ k => XS.isub X.here hx rfl hd rfl k
theorem g_lsub (X : Stand p l e R s m args below meth c T locs cells slots) (hx : p.tables.exec = Jvm.exec) {pc : Nat} {Ls : Array Slot} {st : List Value} {x y : Int64} (q : Nat) (hd : decode c.code pc = .ok (.lsub, 1)) (hq : pc + 1 = q)  (K : Go p e below Ev T (mkF m q Ls (.long (x - y) :: st))) : Go p e below Ev T (mkF m pc Ls (.long y :: .long x :: st)) := by
  subst hq
  exact K.on fun _ k => XS.lsub X.here hx rfl hd rfl k
theorem g_imul (X : Stand p l e R s m args below meth c T locs cells slots) (hx : p.tables.exec = Jvm.exec) {pc : Nat} {Ls : Array Slot} {st : List Value} {x y : Int32} (q : Nat) (hd : decode c.code pc = .ok (.imul, 1)) (hq : pc + 1 = q)  (K : Go p e below Ev T (mkF m q Ls (.int (x * y) :: st))) : Go p e below Ev T (mkF m pc Ls (.int y :: .int x :: st)) := by
  subst hq
  exact K.on fun _ k => XS.imul X.here hx rfl hd rfl k
theorem g_lmul (X : Stand p l e R s m args below meth c T locs cells slots) (hx : p.tables.exec = Jvm.exec) {pc : Nat} {Ls : Array Slot} {st : List Value} {x y : Int64} (q : Nat) (hd : decode c.code pc = .ok (.lmul, 1)) (hq : pc + 1 = q)  (K : Go p e below Ev T (mkF m q Ls (.long (x * y) :: st))) : Go p e below Ev T (mkF m pc Ls (.long y :: .long x :: st)) := by
  subst hq
  exact K.on fun _ k => XS.lmul X.here hx rfl hd rfl k
theorem g_iand (X : Stand p l e R s m args below meth c T locs cells slots) (hx : p.tables.exec = Jvm.exec) {pc : Nat} {Ls : Array Slot} {st : List Value} {x y : Int32} (q : Nat) (hd : decode c.code pc = .ok (.iand, 1)) (hq : pc + 1 = q)  (K : Go p e below Ev T (mkF m q Ls (.int (x &&& y) :: st))) : Go p e below Ev T (mkF m pc Ls (.int y :: .int x :: st)) := by
  subst hq
  exact K.on fun _ k => XS.iand X.here hx rfl hd rfl k
theorem g_land (X : Stand p l e R s m args below meth c T locs cells slots) (hx : p.tables.exec = Jvm.exec) {pc : Nat} {Ls : Array Slot} {st : List Value} {x y : Int64} (q : Nat) (hd : decode c.code pc = .ok (.land, 1)) (hq : pc + 1 = q)  (K : Go p e below Ev T (mkF m q Ls (.long (x &&& y) :: st))) : Go p e below Ev T (mkF m pc Ls (.long y :: .long x :: st)) := by
  subst hq
  exact K.on fun _ k => XS.land X.here hx rfl hd rfl k
theorem g_ior (X : Stand p l e R s m args below meth c T locs cells slots) (hx : p.tables.exec = Jvm.exec) {pc : Nat} {Ls : Array Slot} {st : List Value} {x y : Int32} (q : Nat) (hd : decode c.code pc = .ok (.ior, 1)) (hq : pc + 1 = q)  (K : Go p e below Ev T (mkF m q Ls (.int (x ||| y) :: st))) : Go p e below Ev T (mkF m pc Ls (.int y :: .int x :: st)) := by
  subst hq
  exact K.on fun _ k => XS.ior X.here hx rfl hd rfl k
theorem g_lor (X : Stand p l e R s m args below meth c T locs cells slots) (hx : p.tables.exec = Jvm.exec) {pc : Nat} {Ls : Array Slot} {st : List Value} {x y : Int64} (q : Nat) (hd : decode c.code pc = .ok (.lor, 1)) (hq : pc + 1 = q)  (K : Go p e below Ev T (mkF m q Ls (.long (x ||| y) :: st))) : Go p e below Ev T (mkF m pc Ls (.long y :: .long x :: st)) := by
  subst hq
  exact K.on fun _ k => XS.lor X.here hx rfl hd rfl k
theorem g_ixor (X : Stand p l e R s m args below meth c T locs cells slots) (hx : p.tables.exec = Jvm.exec) {pc : Nat} {Ls : Array Slot} {st : List Value} {x y : Int32} (q : Nat) (hd : decode c.code pc = .ok (.ixor, 1)) (hq : pc + 1 = q)  (K : Go p e below Ev T (mkF m q Ls (.int (x ^^^ y) :: st))) : Go p e below Ev T (mkF m pc Ls (.int y :: .int x :: st)) := by
  subst hq
  exact K.on fun _ k => XS.ixor X.here hx rfl hd rfl k
theorem g_lxor (X : Stand p l e R s m args below meth c T locs cells slots) (hx : p.tables.exec = Jvm.exec) {pc : Nat} {Ls : Array Slot} {st : List Value} {x y : Int64} (q : Nat) (hd : decode c.code pc = .ok (.lxor, 1)) (hq : pc + 1 = q)  (K : Go p e below Ev T (mkF m q Ls (.long (x ^^^ y) :: st))) : Go p e below Ev T (mkF m pc Ls (.long y :: .long x :: st)) := by
  subst hq
  exact K.on fun _ k => XS.lxor X.here hx rfl hd rfl k
theorem g_idiv (X : Stand p l e R s m args below meth c T locs cells slots) (hx : p.tables.exec = Jvm.exec) {pc : Nat} {Ls : Array Slot} {st : List Value} {x y : Int32} (q : Nat) (hd : decode c.code pc = .ok (.idiv, 1)) (hq : pc + 1 = q) (hy : y ≠ 0) (K : Go p e below Ev T (mkF m q Ls (.int (x / y) :: st))) : Go p e below Ev T (mkF m pc Ls (.int y :: .int x :: st)) := by
  subst hq
  exact K.on fun _ k => XS.idiv X.here hx rfl hd rfl hy k
theorem g_ineg (X : Stand p l e R s m args below meth c T locs cells slots) (hx : p.tables.exec = Jvm.exec) {pc : Nat} {Ls : Array Slot} {st : List Value} {x : Int32} (q : Nat) (hd : decode c.code pc = .ok (.ineg, 1)) (hq : pc + 1 = q)  (K : Go p e below Ev T (mkF m q Ls (.int (-x) :: st))) : Go p e below Ev T (mkF m pc Ls (.int x :: st)) := by
  subst hq
  exact K.on fun _ k => XS.ineg X.here hx rfl hd rfl k
theorem g_ldiv (X : Stand p l e R s m args below meth c T locs cells slots) (hx : p.tables.exec = Jvm.exec) {pc : Nat} {Ls : Array Slot} {st : List Value} {x y : Int64} (q : Nat) (hd : decode c.code pc = .ok (.ldiv, 1)) (hq : pc + 1 = q) (hy : y ≠ 0) (K : Go p e below Ev T (mkF m q Ls (.long (x / y) :: st))) : Go p e below Ev T (mkF m pc Ls (.long y :: .long x :: st)) := by
  subst hq
  exact K.on fun _ k => XS.ldiv X.here hx rfl hd rfl hy k
theorem g_lneg (X : Stand p l e R s m args below meth c T locs cells slots) (hx : p.tables.exec = Jvm.exec) {pc : Nat} {Ls : Array Slot} {st : List Value} {x : Int64} (q : Nat) (hd : decode c.code pc = .ok (.lneg, 1)) (hq : pc + 1 = q)  (K : Go p e below Ev T (mkF m q Ls (.long (-x) :: st))) : Go p e below Ev T (mkF m pc Ls (.long x :: st)) := by
  subst hq
  exact K.on fun _ k => XS.lneg X.here hx rfl hd rfl k
theorem g_irem (X : Stand p l e R s m args below meth c T locs cells slots) (hx : p.tables.exec = Jvm.exec) {pc : Nat} {Ls : Array Slot} {st : List Value} {x y : Int32} (q : Nat) (hd : decode c.code pc = .ok (.irem, 1)) (hq : pc + 1 = q) (hy : y ≠ 0) (K : Go p e below Ev T (mkF m q Ls (.int (x % y) :: st))) : Go p e below Ev T (mkF m pc Ls (.int y :: .int x :: st)) := by
  subst hq
  exact K.on fun _ k => iremM X hx rfl hd rfl hy k
theorem g_lrem (X : Stand p l e R s m args below meth c T locs cells slots) (hx : p.tables.exec = Jvm.exec) {pc : Nat} {Ls : Array Slot} {st : List Value} {x y : Int64} (q : Nat) (hd : decode c.code pc = .ok (.lrem, 1)) (hq : pc + 1 = q) (hy : y ≠ 0) (K : Go p e below Ev T (mkF m q Ls (.long (x - (x / y) * y) :: st))) : Go p e below Ev T (mkF m pc Ls (.long y :: .long x :: st)) := by
  subst hq
  exact K.on fun _ k => XS.lrem X.here hx rfl hd rfl hy k
theorem g_ishl (X : Stand p l e R s m args below meth c T locs cells slots) (hx : p.tables.exec = Jvm.exec) {pc : Nat} {Ls : Array Slot} {st : List Value} {x y : Int32} (q : Nat) (hd : decode c.code pc = .ok (.ishl, 1)) (hq : pc + 1 = q)  (K : Go p e below Ev T (mkF m q Ls (.int (x <<< (y &&& 31)) :: st))) : Go p e below Ev T (mkF m pc Ls (.int y :: .int x :: st)) := by
  subst hq
  exact K.on fun _ k => XS.ishl X.here hx rfl hd rfl k
theorem g_ishr (X : Stand p l e R s m args below meth c T locs cells slots) (hx : p.tables.exec = Jvm.exec) {pc : Nat} {Ls : Array Slot} {st : List Value} {x y : Int32} (q : Nat) (hd : decode c.code pc = .ok (.ishr, 1)) (hq : pc + 1 = q)  (K : Go p e below Ev T (mkF m q Ls (.int (x >>> (y &&& 31)) :: st))) : Go p e below Ev T (mkF m pc Ls (.int y :: .int x :: st)) := by
  subst hq
  exact K.on fun _ k => XS.ishr X.here hx rfl hd rfl k
theorem g_iushr (X : Stand p l e R s m args below meth c T locs cells slots) (hx : p.tables.exec = Jvm.exec) {pc : Nat} {Ls : Array Slot} {st : List Value} {x y : Int32} (q : Nat) (hd : decode c.code pc = .ok (.iushr, 1)) (hq : pc + 1 = q)  (K : Go p e below Ev T (mkF m q Ls (.int ((x.toUInt32 >>> (y &&& 31).toUInt32).toInt32) :: st))) : Go p e below Ev T (mkF m pc Ls (.int y :: .int x :: st)) := by
  subst hq
  exact K.on fun _ k => XS.iushr X.here hx rfl hd rfl k
theorem g_lshl (X : Stand p l e R s m args below meth c T locs cells slots) (hx : p.tables.exec = Jvm.exec) {pc : Nat} {Ls : Array Slot} {st : List Value} {x : Int64} {y : Int32} (q : Nat) (hd : decode c.code pc = .ok (.lshl, 1)) (hq : pc + 1 = q)  (K : Go p e below Ev T (mkF m q Ls (.long (x <<< (y &&& 0x3f).toInt64) :: st))) : Go p e below Ev T (mkF m pc Ls (.int y :: .long x :: st)) := by
  subst hq
  exact K.on fun _ k => XS.lshl X.here hx rfl hd rfl k
theorem g_lshr (X : Stand p l e R s m args below meth c T locs cells slots) (hx : p.tables.exec = Jvm.exec) {pc : Nat} {Ls : Array Slot} {st : List Value} {x : Int64} {y : Int32} (q : Nat) (hd : decode c.code pc = .ok (.lshr, 1)) (hq : pc + 1 = q)  (K : Go p e below Ev T (mkF m q Ls (.long (x >>> (y &&& 0x3f).toInt64) :: st))) : Go p e below Ev T (mkF m pc Ls (.int y :: .long x :: st)) := by
  subst hq
  exact K.on fun _ k => XS.lshr X.here hx rfl hd rfl k
theorem g_lushr (X : Stand p l e R s m args below meth c T locs cells slots) (hx : p.tables.exec = Jvm.exec) {pc : Nat} {Ls : Array Slot} {st : List Value} {x : Int64} {y : Int32} (q : Nat) (hd : decode c.code pc = .ok (.lushr, 1)) (hq : pc + 1 = q)  (K : Go p e below Ev T (mkF m q Ls (.long ((x.toUInt64 >>> (y &&& 0x3f).toInt64.toUInt64).toInt64) :: st))) : Go p e below Ev T (mkF m pc Ls (.int y :: .long x :: st)) := by
  subst hq
  exact K.on fun _ k => XS.lushr X.here hx rfl hd rfl k
theorem g_i2l (X : Stand p l e R s m args below meth c T locs cells slots) (hx : p.tables.exec = Jvm.exec) {pc : Nat} {Ls : Array Slot} {st : List Value} {x : Int32} (q : Nat) (hd : decode c.code pc = .ok (.i2l, 1)) (hq : pc + 1 = q)  (K : Go p e below Ev T (mkF m q Ls (.long (x.toInt64) :: st))) : Go p e below Ev T (mkF m pc Ls (.int x :: st)) := by
  subst hq
  exact K.on fun _ k => XS.i2l X.here hx rfl hd rfl k
theorem g_l2i (X : Stand p l e R s m args below meth c T locs cells slots) (hx : p.tables.exec = Jvm.exec) {pc : Nat} {Ls : Array Slot} {st : List Value} {x : Int64} (q : Nat) (hd : decode c.code pc = .ok (.l2i, 1)) (hq : pc + 1 = q)  (K : Go p e below Ev T (mkF m q Ls (.int (x.toInt32) :: st))) : Go p e below Ev T (mkF m pc Ls (.long x :: st)) := by
  subst hq
  exact K.on fun _ k => XS.l2i X.here hx rfl hd rfl k
theorem g_i2b (X : Stand p l e R s m args below meth c T locs cells slots) (hx : p.tables.exec = Jvm.exec) {pc : Nat} {Ls : Array Slot} {st : List Value} {x : Int32} (q : Nat) (hd : decode c.code pc = .ok (.i2b, 1)) (hq : pc + 1 = q)  (K : Go p e below Ev T (mkF m q Ls (.int (x.toInt8.toInt32) :: st))) : Go p e below Ev T (mkF m pc Ls (.int x :: st)) := by
  subst hq
  exact K.on fun _ k => XS.i2b X.here hx rfl hd rfl k
theorem g_i2s (X : Stand p l e R s m args below meth c T locs cells slots) (hx : p.tables.exec = Jvm.exec) {pc : Nat} {Ls : Array Slot} {st : List Value} {x : Int32} (q : Nat) (hd : decode c.code pc = .ok (.i2s, 1)) (hq : pc + 1 = q)  (K : Go p e below Ev T (mkF m q Ls (.int (x.toInt16.toInt32) :: st))) : Go p e below Ev T (mkF m pc Ls (.int x :: st)) := by
  subst hq
  exact K.on fun _ k => XS.i2s X.here hx rfl hd rfl k
theorem g_i2c (X : Stand p l e R s m args below meth c T locs cells slots) (hx : p.tables.exec = Jvm.exec) {pc : Nat} {Ls : Array Slot} {st : List Value} {x : Int32} (q : Nat) (hd : decode c.code pc = .ok (.i2c, 1)) (hq : pc + 1 = q)  (K : Go p e below Ev T (mkF m q Ls (.int (x.toUInt32.toUInt16.toUInt32.toInt32) :: st))) : Go p e below Ev T (mkF m pc Ls (.int x :: st)) := by
  subst hq
  exact K.on fun _ k => XS.i2c X.here hx rfl hd rfl k
theorem g_lcmp (X : Stand p l e R s m args below meth c T locs cells slots) (hx : p.tables.exec = Jvm.exec) {pc : Nat} {Ls : Array Slot} {st : List Value} {x y : Int64} (q : Nat) (hd : decode c.code pc = .ok (.lcmp, 1)) (hq : pc + 1 = q)  (K : Go p e below Ev T (mkF m q Ls (.int (lcmpW x y) :: st))) : Go p e below Ev T (mkF m pc Ls (.long y :: .long x :: st)) := by
  subst hq
  exact K.on fun _ k => XS.lcmp X.here hx rfl hd rfl k
theorem g_i2d (X : Stand p l e R s m args below meth c T locs cells slots) (hx : p.tables.exec = Jvm.exec) {pc : Nat} {Ls : Array Slot} {st : List Value} {x : Int32} (q : Nat) (hd : decode c.code pc = .ok (.i2d, 1)) (hq : pc + 1 = q)  (K : Go p e below Ev T (mkF m q Ls (.double (FP.i2d x) :: st))) : Go p e below Ev T (mkF m pc Ls (.int x :: st)) := by
  subst hq
  exact K.on fun _ k => XS.i2dS X.here hx rfl hd rfl rfl k
theorem g_l2d (X : Stand p l e R s m args below meth c T locs cells slots) (hx : p.tables.exec = Jvm.exec) {pc : Nat} {Ls : Array Slot} {st : List Value} {x : Int64} (q : Nat) (hd : decode c.code pc = .ok (.l2d, 1)) (hq : pc + 1 = q)  (K : Go p e below Ev T (mkF m q Ls (.double (FP.l2d x) :: st))) : Go p e below Ev T (mkF m pc Ls (.long x :: st)) := by
  subst hq
  exact K.on fun _ k => XS.l2dS X.here hx rfl hd rfl rfl k
theorem g_dneg (X : Stand p l e R s m args below meth c T locs cells slots) (hx : p.tables.exec = Jvm.exec) {pc : Nat} {Ls : Array Slot} {st : List Value} {x : UInt64} (q : Nat) (hd : decode c.code pc = .ok (.dneg, 1)) (hq : pc + 1 = q)  (K : Go p e below Ev T (mkF m q Ls (.double (FP.dneg x) :: st))) : Go p e below Ev T (mkF m pc Ls (.double x :: st)) := by
  subst hq
  exact K.on fun _ k => XS.dnegS X.here hx rfl hd rfl rfl k
theorem g_dadd (X : Stand p l e R s m args below meth c T locs cells slots) (hx : p.tables.exec = Jvm.exec) {pc : Nat} {Ls : Array Slot} {st : List Value} {x y : UInt64} (q : Nat) (hd : decode c.code pc = .ok (.dadd, 1)) (hq : pc + 1 = q) (hn : Jvm.Free.Fl.NoNaN64 (FP.dadd x y)) (K : Go p e below Ev T (mkF m q Ls (.double (FP.dadd x y) :: st))) : Go p e below Ev T (mkF m pc Ls (.double y :: .double x :: st)) := by
  subst hq
  exact K.on fun _ k => XS.daddS X.here hx rfl hd rfl hn rfl k
theorem g_dsub (X : Stand p l e R s m args below meth c T locs cells slots) (hx : p.tables.exec = Jvm.exec) {pc : Nat} {Ls : Array Slot} {st : List Value} {x y : UInt64} (q : Nat) (hd : decode c.code pc = .ok (.dsub, 1)) (hq : pc + 1 = q) (hn : Jvm.Free.Fl.NoNaN64 (FP.dsub x y)) (K : Go p e below Ev T (mkF m q Ls (.double (FP.dsub x y) :: st))) : Go p e below Ev T (mkF m pc Ls (.double y :: .double x :: st)) := by
  subst hq
  exact K.on fun _ k => XS.dsubS X.here hx rfl hd rfl hn rfl k
theorem g_dmul (X : Stand p l e R s m args below meth c T locs cells slots) (hx : p.tables.exec = Jvm.exec) {pc : Nat} {Ls : Array Slot} {st : List Value} {x y : UInt64} (q : Nat) (hd : decode c.code pc = .ok (.dmul, 1)) (hq : pc + 1 = q) (hn : Jvm.Free.Fl.NoNaN64 (FP.dmul x y)) (K : Go p e below Ev T (mkF m q Ls (.double (FP.dmul x y) :: st))) : Go p e below Ev T (mkF m pc Ls (.double y :: .double x :: st)) := by
  subst hq
  exact K.on fun _ k => XS.dmulS X.here hx rfl hd rfl hn rfl k
theorem g_ddiv (X : Stand p l e R s m args below meth c T locs cells slots) (hx : p.tables.exec = Jvm.exec) {pc : Nat} {Ls : Array Slot} {st : List Value} {x y : UInt64} (q : Nat) (hd : decode c.code pc = .ok (.ddiv, 1)) (hq : pc + 1 = q) (hn : Jvm.Free.Fl.NoNaN64 (FP.ddiv x y)) (K : Go p e below Ev T (mkF m q Ls (.double (FP.ddiv x y) :: st))) : Go p e below Ev T (mkF m pc Ls (.double y :: .double x :: st)) := by
  subst hq
  exact K.on fun _ k => XS.ddivS X.here hx rfl hd rfl hn rfl k
theorem g_dcmp (X : Stand p l e R s m args below meth c T locs cells slots) (hx : p.tables.exec = Jvm.exec) {pc : Nat} {Ls : Array Slot} {st : List Value} {x y : UInt64} {o : CmpOp} {r : Int32} (q : Nat) (hd : decode c.code pc = .ok (.dcmp o, 1)) (hq : pc + 1 = q) (hr : cmpValue (FP.dcmp x y) o = r) (K : Go p e below Ev T (mkF m q Ls (.int r :: st))) : Go p e below Ev T (mkF m pc Ls (.double y :: .double x :: st)) := by
  subst hq
  exact K.on fun _ k => XS.dcmpS X.here hx rfl hd rfl hr k
theorem g_dup (X : Stand p l e R s m args below meth c T locs cells slots) (hx : p.tables.exec = Jvm.exec) {pc : Nat} {Ls : Array Slot} {st : List Value} {x : Value} (q : Nat) (hd : decode c.code pc = .ok (.dup, 1)) (hq : pc + 1 = q) (hc : x.category = 1) (K : Go p e below Ev T (mkF m q Ls (x :: x :: st))) : Go p e below Ev T (mkF m pc Ls (x :: st)) := by
  subst hq
  exact K.on fun _ k => XS.dup X.here hx rfl hd rfl hc k
theorem g_pop (X : Stand p l e R s m args below meth c T locs cells slots) (hx : p.tables.exec = Jvm.exec) {pc : Nat} {Ls : Array Slot} {st : List Value} {x : Value} (q : Nat) (hd : decode c.code pc = .ok (.pop, 1)) (hq : pc + 1 = q) (hc : x.category = 1) (K : Go p e below Ev T (mkF m q Ls st)) : Go p e below Ev T (mkF m pc Ls (x :: st)) := by
  subst hq
  exact K.on fun _ k => XS.pop X.here hx rfl hd rfl hc k
theorem g_dupX1 (X : Stand p l e R s m args below meth c T locs cells slots) (hx : p.tables.exec = Jvm.exec) {pc : Nat} {Ls : Array Slot} {st : List Value} {x y : Value} (q : Nat) (hd : decode c.code pc = .ok (.dup_x1, 1)) (hq : pc + 1 = q) (hc : x.category = 1) (hc' : y.category = 1) (K : Go p e below Ev T (mkF m q Ls (x :: y :: x :: st))) : Go p e below Ev T (mkF m pc Ls (x :: y :: st)) := by
  subst hq
  exact K.on fun _ k => XS.dupX1 X.here hx rfl hd rfl hc hc' k
theorem g_dup2 (X : Stand p l e R s m args below meth c T locs cells slots) (hx : p.tables.exec = Jvm.exec) {pc : Nat} {Ls : Array Slot} {st : List Value} {x y : Value} (q : Nat) (hd : decode c.code pc = .ok (.dup2, 1)) (hq : pc + 1 = q) (hc : x.category = 1) (hc' : y.category = 1) (K : Go p e below Ev T (mkF m q Ls (x :: y :: x :: y :: st))) : Go p e below Ev T (mkF m pc Ls (x :: y :: st)) := by
  subst hq
  exact K.on fun _ k => XT.dup2 X.here hx rfl hd rfl hc hc' k
theorem g_ldcI (X : Stand p l e R s m args below meth c T locs cells slots) (hx : p.tables.exec = Jvm.exec) {pc : Nat} {Ls : Array Slot} {st : List Value} {own : String} {i : Nat} {v : Int32} (q : Nat) (hZ : Z.Warmed39 s.vm) (hown : s.vm.findClass own = some m.cls) (w : (Jvm.Cond.constant own i v).before a0 Z = true) (hd : decode c.code pc = .ok (.ldc i, 2)) (hq : pc + 2 = q) (K : Go p e below Ev T (mkF m q Ls (.int v :: st))) : Go p e below Ev T (mkF m pc Ls st) := by
  subst hq
  exact K.on fun _ k => X.ldcI hx hown (mvT hZ w) rfl hd k
theorem g_ldcWI (X : Stand p l e R s m args below meth c T locs cells slots) (hx : p.tables.exec = Jvm.exec) {pc : Nat} {Ls : Array Slot} {st : List Value} {own : String} {i : Nat} {v : Int32} (q : Nat) (hZ : Z.Warmed39 s.vm) (hown : s.vm.findClass own = some m.cls) (w : (Jvm.Cond.constant own i v).before a0 Z = true) (hd : decode c.code pc = .ok (.ldc_w i, 3)) (hq : pc + 3 = q) (K : Go p e below Ev T (mkF m q Ls (.int v :: st))) : Go p e below Ev T (mkF m pc Ls st) := by
  subst hq
  exact K.on fun _ k => X.ldcWI hx hown (mvT hZ w) rfl hd k
theorem g_ldc2J (X : Stand p l e R s m args below meth c T locs cells slots) (hx : p.tables.exec = Jvm.exec) {pc : Nat} {Ls : Array Slot} {st : List Value} {own : String} {i : Nat} {v : Int64} (q : Nat) (hZ : Z.Warmed39 s.vm) (hown : s.vm.findClass own = some m.cls) (w : (Jvm.Cond.constantLong own i v).before a0 Z = true) (hd : decode c.code pc = .ok (.ldc2_w i, 3)) (hq : pc + 3 = q) (K : Go p e below Ev T (mkF m q Ls (.long v :: st))) : Go p e below Ev T (mkF m pc Ls st) := by
  subst hq
  exact K.on fun _ k => X.ldc2J hx hown (mvT hZ w) rfl hd k
theorem g_ldc2D (X : Stand p l e R s m args below meth c T locs cells slots) (hx : p.tables.exec = Jvm.exec) {pc : Nat} {Ls : Array Slot} {st : List Value} {own : String} {i : Nat} {v : UInt64} (q : Nat) (hZ : Z.Warmed39 s.vm) (hown : s.vm.findClass own = some m.cls) (w : (Jvm.Cond.constantDouble own i v).before a0 Z = true) (hd : decode c.code pc = .ok (.ldc2_w i, 3)) (hq : pc + 3 = q) (K : Go p e below Ev T (mkF m q Ls (.double v :: st))) : Go p e below Ev T (mkF m pc Ls st) := by
  subst hq
  exact K.on (X.ldc2DoubleC hx hown (mvT hZ w) (g := mkF m pc Ls st) rfl hd)
theorem g_goto (X : Stand p l e R s m args below meth c T locs cells slots) (hx : p.tables.exec = Jvm.exec) {pc : Nat} {Ls : Array Slot} {st : List Value} {o : Int} (q : Nat) (hd : decode c.code pc = .ok (.goto o, 3)) (ho : 0 ≤ (pc : Int) + o) (hq : ((pc : Int) + o).toNat = q) (K : Go p e below Ev T (mkF m q Ls st)) : Go p e below Ev T (mkF m pc Ls st) :=
  K.on fun _ k => XS.goto X.here hx rfl rfl hd ho hq k
theorem own_i0 (x : Int32) : (x < 0 ↔ x.toInt < 0) ∧ (0 < x ↔ 0 < x.toInt) ∧ (x = 0 ↔ x.toInt = 0) := by
  refine ⟨by rw [Int32.lt_iff_toInt_lt]; simp, by rw [Int32.lt_iff_toInt_lt]; simp, ?_⟩
  rw [← Int32.toInt_inj]; simp
theorem g_if_eq (X : Stand p l e R s m args below meth c T locs cells slots) (hx : p.tables.exec = Jvm.exec) {pc : Nat} {Ls : Array Slot} {st : List Value} {x : Int32} {o : Int} (q1 q2 : Nat) (hd : decode c.code pc = .ok (.ifCond .eq o, 3)) (ho : 0 ≤ (pc : Int) + o) (h1 : ((pc : Int) + o).toNat = q1) (h2 : pc + 3 = q2) (Kt : x.toInt = 0 → Go p e below Ev T (mkF m q1 Ls st)) (Kf : x.toInt ≠ 0 → Go p e below Ev T (mkF m q2 Ls st)) : Go p e below Ev T (mkF m pc Ls (.int x :: st)) := by
  have Q := own_i0 x
  by_cases hc : x = 0
  · exact (Kt (by first | omega | (simp only [Q] at hc; omega))).on fun _ k => XS.ifYes X.here hx rfl rfl hd rfl (XT.i0_eq_t (by simpa using hc)) ho h1 k
  · subst h2
    exact (Kf (by first | omega | (simp only [Q] at hc; omega))).on fun _ k => XS.ifNo X.here hx rfl hd rfl (XT.i0_eq_f (by simpa using hc)) k
theorem g_if_ne (X : Stand p l e R s m args below meth c T locs cells slots) (hx : p.tables.exec = Jvm.exec) {pc : Nat} {Ls : Array Slot} {st : List Value} {x : Int32} {o : Int} (q1 q2 : Nat) (hd : decode c.code pc = .ok (.ifCond .ne o, 3)) (ho : 0 ≤ (pc : Int) + o) (h1 : ((pc : Int) + o).toNat = q1) (h2 : pc + 3 = q2) (Kt : x.toInt ≠ 0 → Go p e below Ev T (mkF m q1 Ls st)) (Kf : x.toInt = 0 → Go p e below Ev T (mkF m q2 Ls st)) : Go p e below Ev T (mkF m pc Ls (.int x :: st)) := by
  have Q := own_i0 x
  by_cases hc : ¬ x = 0
  · exact (Kt (by first | omega | (simp only [Q] at hc; omega))).on fun _ k => XS.ifYes X.here hx rfl rfl hd rfl (XT.i0_ne_t (by simpa using hc)) ho h1 k
  · subst h2
    exact (Kf (by first | omega | (simp only [Q] at hc; omega))).on fun _ k => XS.ifNo X.here hx rfl hd rfl (XT.i0_ne_f (by simpa using hc)) k
theorem g_if_lt (X : Stand p l e R s m args below meth c T locs cells slots) (hx : p.tables.exec = Jvm.exec) {pc : Nat} {Ls : Array Slot} {st : List Value} {x : Int32} {o : Int} (q1 q2 : Nat) (hd : decode c.code pc = .ok (.ifCond .lt o, 3)) (ho : 0 ≤ (pc : Int) + o) (h1 : ((pc : Int) + o).toNat = q1) (h2 : pc + 3 = q2) (Kt : x.toInt < 0 → Go p e below Ev T (mkF m q1 Ls st)) (Kf : 0 ≤ x.toInt → Go p e below Ev T (mkF m q2 Ls st)) : Go p e below Ev T (mkF m pc Ls (.int x :: st)) := by
  have Q := own_i0 x
  by_cases hc : x < 0
  · exact (Kt (by first | omega | (simp only [Q] at hc; omega))).on fun _ k => XS.ifYes X.here hx rfl rfl hd rfl (XT.i0_lt_t (by simpa using hc)) ho h1 k
  · subst h2
    exact (Kf (by first | omega | (simp only [Q] at hc; omega))).on fun _ k => XS.ifNo X.here hx rfl hd rfl (XT.i0_lt_f (by simpa using hc)) k
theorem g_if_ge (X : Stand p l e R s m args below meth c T locs cells slots) (hx : p.tables.exec = Jvm.exec) {pc : Nat} {Ls : Array Slot} {st : List Value} {x : Int32} {o : Int} (q1 q2 : Nat) (hd : decode c.code pc = .ok (.ifCond .ge o, 3)) (ho : 0 ≤ (pc : Int) + o) (h1 : ((pc : Int) + o).toNat = q1) (h2 : pc + 3 = q2) (Kt : 0 ≤ x.toInt → Go p e below Ev T (mkF m q1 Ls st)) (Kf : x.toInt < 0 → Go p e below Ev T (mkF m q2 Ls st)) : Go p e below Ev T (mkF m pc Ls (.int x :: st)) := by
  have Q := own_i0 x
  by_cases hc : ¬ x < 0
  · exact (Kt (by first | omega | (simp only [Q] at hc; omega))).on fun _ k => XS.ifYes X.here hx rfl rfl hd rfl (XT.i0_ge_t (by simpa using hc)) ho h1 k
  · subst h2
    exact (Kf (by first | omega | (simp only [Q] at hc; omega))).on fun _ k => XS.ifNo X.here hx rfl hd rfl (XT.i0_ge_f (by simpa using hc)) k
theorem g_if_gt (X : Stand p l e R s m args below meth c T locs cells slots) (hx : p.tables.exec = Jvm.exec) {pc : Nat} {Ls : Array Slot} {st : List Value} {x : Int32} {o : Int} (q1 q2 : Nat) (hd : decode c.code pc = .ok (.ifCond .gt o, 3)) (ho : 0 ≤ (pc : Int) + o) (h1 : ((pc : Int) + o).toNat = q1) (h2 : pc + 3 = q2) (Kt : 0 < x.toInt → Go p e below Ev T (mkF m q1 Ls st)) (Kf : x.toInt ≤ 0 → Go p e below Ev T (mkF m q2 Ls st)) : Go p e below Ev T (mkF m pc Ls (.int x :: st)) := by
  have Q := own_i0 x
  by_cases hc : 0 < x
  · exact (Kt (by first | omega | (simp only [Q] at hc; omega))).on fun _ k => XS.ifYes X.here hx rfl rfl hd rfl (XT.i0_gt_t (by simpa using hc)) ho h1 k
  · subst h2
    exact (Kf (by first | omega | (simp only [Q] at hc; omega))).on fun _ k => XS.ifNo X.here hx rfl hd rfl (XT.i0_gt_f (by simpa using hc)) k
theorem g_if_le (X : Stand p l e R s m args below meth c T locs cells slots) (hx : p.tables.exec = Jvm.exec) {pc : Nat} {Ls : Array Slot} {st : List Value} {x : Int32} {o : Int} (q1 q2 : Nat) (hd : decode c.code pc = .ok (.ifCond .le o, 3)) (ho : 0 ≤ (pc : Int) + o) (h1 : ((pc : Int) + o).toNat = q1) (h2 : pc + 3 = q2) (Kt : x.toInt ≤ 0 → Go p e below Ev T (mkF m q1 Ls st)) (Kf : 0 < x.toInt → Go p e below Ev T (mkF m q2 Ls st)) : Go p e below Ev T (mkF m pc Ls (.int x :: st)) := by
  have Q := own_i0 x
  by_cases hc : ¬ 0 < x
  · exact (Kt (by first | omega | (simp only [Q] at hc; omega))).on fun _ k => XS.ifYes X.here hx rfl rfl hd rfl (XT.i0_le_t (by simpa using hc)) ho h1 k
  · subst h2
    exact (Kf (by first | omega | (simp only [Q] at hc; omega))).on fun _ k => XS.ifNo X.here hx rfl hd rfl (XT.i0_le_f (by simpa using hc)) k
theorem own_ii (x y : Int32) : (x < y ↔ x.toInt < y.toInt) ∧ (y < x ↔ y.toInt < x.toInt) ∧ (x = y ↔ x.toInt = y.toInt) := by
  exact ⟨Int32.lt_iff_toInt_lt, Int32.lt_iff_toInt_lt, Int32.toInt_inj.symm⟩
theorem g_ic_eq (X : Stand p l e R s m args below meth c T locs cells slots) (hx : p.tables.exec = Jvm.exec) {pc : Nat} {Ls : Array Slot} {st : List Value} {x y : Int32} {o : Int} (q1 q2 : Nat) (hd : decode c.code pc = .ok (.if_icmp .eq o, 3)) (ho : 0 ≤ (pc : Int) + o) (h1 : ((pc : Int) + o).toNat = q1) (h2 : pc + 3 = q2) (Kt : x.toInt = y.toInt → Go p e below Ev T (mkF m q1 Ls st)) (Kf : x.toInt ≠ y.toInt → Go p e below Ev T (mkF m q2 Ls st)) : Go p e below Ev T (mkF m pc Ls (.int y :: .int x :: st)) := by
  have Q := own_ii x y
  by_cases hc : x = y
  · exact (Kt (by first | omega | (simp only [Q] at hc; omega))).on fun _ k => XS.icmpYes X.here hx rfl rfl hd rfl (XT.ii_eq_t (by simpa using hc)) ho h1 k
  · subst h2
    exact (Kf (by first | omega | (simp only [Q] at hc; omega))).on fun _ k => XS.icmpNo X.here hx rfl hd rfl (XT.ii_eq_f (by simpa using hc)) k
theorem g_ic_ne (X : Stand p l e R s m args below meth c T locs cells slots) (hx : p.tables.exec = Jvm.exec) {pc : Nat} {Ls : Array Slot} {st : List Value} {x y : Int32} {o : Int} (q1 q2 : Nat) (hd : decode c.code pc = .ok (.if_icmp .ne o, 3)) (ho : 0 ≤ (pc : Int) + o) (h1 : ((pc : Int) + o).toNat = q1) (h2 : pc + 3 = q2) (Kt : x.toInt ≠ y.toInt → Go p e below Ev T (mkF m q1 Ls st)) (Kf : x.toInt = y.toInt → Go p e below Ev T (mkF m q2 Ls st)) : Go p e below Ev T (mkF m pc Ls (.int y :: .int x :: st)) := by
  have Q := own_ii x y
  by_cases hc : ¬ x = y
  · exact (Kt (by first | omega | (simp only [Q] at hc; omega))).on fun _ k => XS.icmpYes X.here hx rfl rfl hd rfl (XT.ii_ne_t (by simpa using hc)) ho h1 k
  · subst h2
    exact (Kf (by first | omega | (simp only [Q] at hc; omega))).on fun _ k => XS.icmpNo X.here hx rfl hd rfl (XT.ii_ne_f (by simpa using hc)) k
theorem g_ic_lt (X : Stand p l e R s m args below meth c T locs cells slots) (hx : p.tables.exec = Jvm.exec) {pc : Nat} {Ls : Array Slot} {st : List Value} {x y : Int32} {o : Int} (q1 q2 : Nat) (hd : decode c.code pc = .ok (.if_icmp .lt o, 3)) (ho : 0 ≤ (pc : Int) + o) (h1 : ((pc : Int) + o).toNat = q1) (h2 : pc + 3 = q2) (Kt : x.toInt < y.toInt → Go p e below Ev T (mkF m q1 Ls st)) (Kf : y.toInt ≤ x.toInt → Go p e below Ev T (mkF m q2 Ls st)) : Go p e below Ev T (mkF m pc Ls (.int y :: .int x :: st)) := by
  have Q := own_ii x y
  by_cases hc : x < y
  · exact (Kt (by first | omega | (simp only [Q] at hc; omega))).on fun _ k => XS.icmpYes X.here hx rfl rfl hd rfl (XT.ii_lt_t (by simpa using hc)) ho h1 k
  · subst h2
    exact (Kf (by first | omega | (simp only [Q] at hc; omega))).on fun _ k => XS.icmpNo X.here hx rfl hd rfl (XT.ii_lt_f (by simpa using hc)) k
theorem g_ic_ge (X : Stand p l e R s m args below meth c T locs cells slots) (hx : p.tables.exec = Jvm.exec) {pc : Nat} {Ls : Array Slot} {st : List Value} {x y : Int32} {o : Int} (q1 q2 : Nat) (hd : decode c.code pc = .ok (.if_icmp .ge o, 3)) (ho : 0 ≤ (pc : Int) + o) (h1 : ((pc : Int) + o).toNat = q1) (h2 : pc + 3 = q2) (Kt : y.toInt ≤ x.toInt → Go p e below Ev T (mkF m q1 Ls st)) (Kf : x.toInt < y.toInt → Go p e below Ev T (mkF m q2 Ls st)) : Go p e below Ev T (mkF m pc Ls (.int y :: .int x :: st)) := by
  have Q := own_ii x y
  by_cases hc : ¬ x < y
  · exact (Kt (by first | omega | (simp only [Q] at hc; omega))).on fun _ k => XS.icmpYes X.here hx rfl rfl hd rfl (XT.ii_ge_t (by simpa using hc)) ho h1 k
  · subst h2
    exact (Kf (by first | omega | (simp only [Q] at hc; omega))).on fun _ k => XS.icmpNo X.here hx rfl hd rfl (XT.ii_ge_f (by simpa using hc)) k
theorem g_ic_gt (X : Stand p l e R s m args below meth c T locs cells slots) (hx : p.tables.exec = Jvm.exec) {pc : Nat} {Ls : Array Slot} {st : List Value} {x y : Int32} {o : Int} (q1 q2 : Nat) (hd : decode c.code pc = .ok (.if_icmp .gt o, 3)) (ho : 0 ≤ (pc : Int) + o) (h1 : ((pc : Int) + o).toNat = q1) (h2 : pc + 3 = q2) (Kt : y.toInt < x.toInt → Go p e below Ev T (mkF m q1 Ls st)) (Kf : x.toInt ≤ y.toInt → Go p e below Ev T (mkF m q2 Ls st)) : Go p e below Ev T (mkF m pc Ls (.int y :: .int x :: st)) := by
  have Q := own_ii x y
  by_cases hc : y < x
  · exact (Kt (by first | omega | (simp only [Q] at hc; omega))).on fun _ k => XS.icmpYes X.here hx rfl rfl hd rfl (XT.ii_gt_t (by simpa using hc)) ho h1 k
  · subst h2
    exact (Kf (by first | omega | (simp only [Q] at hc; omega))).on fun _ k => XS.icmpNo X.here hx rfl hd rfl (XT.ii_gt_f (by simpa using hc)) k
theorem g_ic_le (X : Stand p l e R s m args below meth c T locs cells slots) (hx : p.tables.exec = Jvm.exec) {pc : Nat} {Ls : Array Slot} {st : List Value} {x y : Int32} {o : Int} (q1 q2 : Nat) (hd : decode c.code pc = .ok (.if_icmp .le o, 3)) (ho : 0 ≤ (pc : Int) + o) (h1 : ((pc : Int) + o).toNat = q1) (h2 : pc + 3 = q2) (Kt : x.toInt ≤ y.toInt → Go p e below Ev T (mkF m q1 Ls st)) (Kf : y.toInt < x.toInt → Go p e below Ev T (mkF m q2 Ls st)) : Go p e below Ev T (mkF m pc Ls (.int y :: .int x :: st)) := by
  have Q := own_ii x y
  by_cases hc : ¬ y < x
  · exact (Kt (by first | omega | (simp only [Q] at hc; omega))).on fun _ k => XS.icmpYes X.here hx rfl rfl hd rfl (XT.ii_le_t (by simpa using hc)) ho h1 k
  · subst h2
    exact (Kf (by first | omega | (simp only [Q] at hc; omega))).on fun _ k => XS.icmpNo X.here hx rfl hd rfl (XT.ii_le_f (by simpa using hc)) k
theorem g_lc_eq (X : Stand p l e R s m args below meth c T locs cells slots) (hx : p.tables.exec = Jvm.exec) {pc : Nat} {Ls : Array Slot} {st : List Value} {x y : Int64} {o : Int} (q0 q1 q2 : Nat) (hd0 : decode c.code pc = .ok (.lcmp, 1)) (h0 : pc + 1 = q0) (hd : decode c.code q0 = .ok (.ifCond .eq o, 3)) (ho : 0 ≤ (q0 : Int) + o) (h1 : ((q0 : Int) + o).toNat = q1) (h2 : q0 + 3 = q2) (Kt : x.toInt = y.toInt → Go p e below Ev T (mkF m q1 Ls st)) (Kf : x.toInt ≠ y.toInt → Go p e below Ev T (mkF m q2 Ls st)) : Go p e below Ev T (mkF m pc Ls (.long y :: .long x :: st)) := by
  have Q := c_lcmp x y
  have C : x.toInt < y.toInt ∨ x.toInt = y.toInt ∨ y.toInt < x.toInt := by omega
  refine g_lcmp X hx q0 hd0 h0 (g_if_eq X hx q1 q2 hd ho h1 h2 (fun hc => Kt ?_) (fun hc => Kf ?_)) <;> (rcases C with C | C | C <;> first | (have := Q.1 C; omega) | (have := Q.2.1 C; omega) | (have := Q.2.2 C; omega))
theorem g_lc_ne (X : Stand p l e R s m args below meth c T locs cells slots) (hx : p.tables.exec = Jvm.exec) {pc : Nat} {Ls : Array Slot} {st : List Value} {x y : Int64} {o : Int} (q0 q1 q2 : Nat) (hd0 : decode c.code pc = .ok (.lcmp, 1)) (h0 : pc + 1 = q0) (hd : decode c.code q0 = .ok (.ifCond .ne o, 3)) (ho : 0 ≤ (q0 : Int) + o) (h1 : ((q0 : Int) + o).toNat = q1) (h2 : q0 + 3 = q2) (Kt : x.toInt ≠ y.toInt → Go p e below Ev T (mkF m q1 Ls st)) (Kf : x.toInt = y.toInt → Go p e below Ev T (mkF m q2 Ls st)) : Go p e below Ev T (mkF m pc Ls (.long y :: .long x :: st)) := by
  have Q := c_lcmp x y
  have C : x.toInt < y.toInt ∨ x.toInt = y.toInt ∨ y.toInt < x.toInt := by omega
  refine g_lcmp X hx q0 hd0 h0 (g_if_ne X hx q1 q2 hd ho h1 h2 (fun hc => Kt ?_) (fun hc => Kf ?_)) <;> (rcases C with C | C | C <;> first | (have := Q.1 C; omega) | (have := Q.2.1 C; omega) | (have := Q.2.2 C; omega))
theorem g_lc_lt (X : Stand p l e R s m args below meth c T locs cells slots) (hx : p.tables.exec = Jvm.exec) {pc : Nat} {Ls : Array Slot} {st : List Value} {x y : Int64} {o : Int} (q0 q1 q2 : Nat) (hd0 : decode c.code pc = .ok (.lcmp, 1)) (h0 : pc + 1 = q0) (hd : decode c.code q0 = .ok (.ifCond .lt o, 3)) (ho : 0 ≤ (q0 : Int) + o) (h1 : ((q0 : Int) + o).toNat = q1) (h2 : q0 + 3 = q2) (Kt : x.toInt < y.toInt → Go p e below Ev T (mkF m q1 Ls st)) (Kf : y.toInt ≤ x.toInt → Go p e below Ev T (mkF m q2 Ls st)) : Go p e below Ev T (mkF m pc Ls (.long y :: .long x :: st)) := by
  have Q := c_lcmp x y
  have C : x.toInt < y.toInt ∨ x.toInt = y.toInt ∨ y.toInt < x.toInt := by omega
  refine g_lcmp X hx q0 hd0 h0 (g_if_lt X hx q1 q2 hd ho h1 h2 (fun hc => Kt ?_) (fun hc => Kf ?_)) <;> (rcases C with C | C | C <;> first | (have := Q.1 C; omega) | (have := Q.2.1 C; omega) | (have := Q.2.2 C; omega))
theorem g_lc_ge (X : Stand p l e R s m args below meth c T locs cells slots) (hx : p.tables.exec = Jvm.exec) {pc : Nat} {Ls : Array Slot} {st : List Value} {x y : Int64} {o : Int} (q0 q1 q2 : Nat) (hd0 : decode c.code pc = .ok (.lcmp, 1)) (h0 : pc + 1 = q0) (hd : decode c.code q0 = .ok (.ifCond .ge o, 3)) (ho : 0 ≤ (q0 : Int) + o) (h1 : ((q0 : Int) + o).toNat = q1) (h2 : q0 + 3 = q2) (Kt : y.toInt ≤ x.toInt → Go p e below Ev T (mkF m q1 Ls st)) (Kf : x.toInt < y.toInt → Go p e below Ev T (mkF m q2 Ls st)) : Go p e below Ev T (mkF m pc Ls (.long y :: .long x :: st)) := by
  have Q := c_lcmp x y
  have C : x.toInt < y.toInt ∨ x.toInt = y.toInt ∨ y.toInt < x.toInt := by omega
  refine g_lcmp X hx q0 hd0 h0 (g_if_ge X hx q1 q2 hd ho h1 h2 (fun hc => Kt ?_) (fun hc => Kf ?_)) <;> (rcases C with C | C | C <;> first | (have := Q.1 C; omega) | (have := Q.2.1 C; omega) | (have := Q.2.2 C; omega))
theorem g_lc_gt (X : Stand p l e R s m args below meth c T locs cells slots) (hx : p.tables.exec = Jvm.exec) {pc : Nat} {Ls : Array Slot} {st : List Value} {x y : Int64} {o : Int} (q0 q1 q2 : Nat) (hd0 : decode c.code pc = .ok (.lcmp, 1)) (h0 : pc + 1 = q0) (hd : decode c.code q0 = .ok (.ifCond .gt o, 3)) (ho : 0 ≤ (q0 : Int) + o) (h1 : ((q0 : Int) + o).toNat = q1) (h2 : q0 + 3 = q2) (Kt : y.toInt < x.toInt → Go p e below Ev T (mkF m q1 Ls st)) (Kf : x.toInt ≤ y.toInt → Go p e below Ev T (mkF m q2 Ls st)) : Go p e below Ev T (mkF m pc Ls (.long y :: .long x :: st)) := by
  have Q := c_lcmp x y
  have C : x.toInt < y.toInt ∨ x.toInt = y.toInt ∨ y.toInt < x.toInt := by omega
  refine g_lcmp X hx q0 hd0 h0 (g_if_gt X hx q1 q2 hd ho h1 h2 (fun hc => Kt ?_) (fun hc => Kf ?_)) <;> (rcases C with C | C | C <;> first | (have := Q.1 C; omega) | (have := Q.2.1 C; omega) | (have := Q.2.2 C; omega))
theorem g_lc_le (X : Stand p l e R s m args below meth c T locs cells slots) (hx : p.tables.exec = Jvm.exec) {pc : Nat} {Ls : Array Slot} {st : List Value} {x y : Int64} {o : Int} (q0 q1 q2 : Nat) (hd0 : decode c.code pc = .ok (.lcmp, 1)) (h0 : pc + 1 = q0) (hd : decode c.code q0 = .ok (.ifCond .le o, 3)) (ho : 0 ≤ (q0 : Int) + o) (h1 : ((q0 : Int) + o).toNat = q1) (h2 : q0 + 3 = q2) (Kt : x.toInt ≤ y.toInt → Go p e below Ev T (mkF m q1 Ls st)) (Kf : y.toInt < x.toInt → Go p e below Ev T (mkF m q2 Ls st)) : Go p e below Ev T (mkF m pc Ls (.long y :: .long x :: st)) := by
  have Q := c_lcmp x y
  have C : x.toInt < y.toInt ∨ x.toInt = y.toInt ∨ y.toInt < x.toInt := by omega
  refine g_lcmp X hx q0 hd0 h0 (g_if_le X hx q1 q2 hd ho h1 h2 (fun hc => Kt ?_) (fun hc => Kf ?_)) <;> (rcases C with C | C | C <;> first | (have := Q.1 C; omega) | (have := Q.2.1 C; omega) | (have := Q.2.2 C; omega))
theorem own_cmpv (i j : Int) (o : CmpOp) : (i < j → (cmpValue (some (compare i j)) o).toInt = -1) ∧ (i = j → (cmpValue (some (compare i j)) o).toInt = 0) ∧ (j < i → (cmpValue (some (compare i j)) o).toInt = 1) := by
  refine ⟨fun q => ?_, fun q => ?_, fun q => ?_⟩
  · rw [show compare i j = .lt from by rw [Jvm.FP.Core.compare_ite]; simp [q]]; cases o <;> rfl
  · rw [show compare i j = .eq from by rw [Jvm.FP.Core.compare_ite]; simp [q]]; cases o <;> rfl
  · rw [show compare i j = .gt from by rw [Jvm.FP.Core.compare_ite]; simp [show ¬ i < j by omega, show ¬ i = j by omega]]; cases o <;> rfl
theorem g_dc_eq (X : Stand p l e R s m args below meth c T locs cells slots) (hx : p.tables.exec = Jvm.exec) {pc : Nat} {Ls : Array Slot} {st : List Value} {x y : UInt64} {oo : CmpOp} {i j : Int} {o : Int} (q0 q1 q2 : Nat) (hd0 : decode c.code pc = .ok (.dcmp oo, 1)) (h0 : pc + 1 = q0) (hd : decode c.code q0 = .ok (.ifCond .eq o, 3)) (ho : 0 ≤ (q0 : Int) + o) (h1 : ((q0 : Int) + o).toNat = q1) (h2 : q0 + 3 = q2) (hv : FP.dcmp x y = some (compare i j)) (Kt : i = j → Go p e below Ev T (mkF m q1 Ls st)) (Kf : i ≠ j → Go p e below Ev T (mkF m q2 Ls st)) : Go p e below Ev T (mkF m pc Ls (.double y :: .double x :: st)) := by
  have Q := own_cmpv i j oo
  have C : i < j ∨ i = j ∨ j < i := by omega
  refine g_dcmp X hx q0 hd0 h0 (by rw [hv]) (g_if_eq X hx q1 q2 hd ho h1 h2 (fun hc => Kt ?_) (fun hc => Kf ?_)) <;> (rcases C with C | C | C <;> first | (have := Q.1 C; omega) | (have := Q.2.1 C; omega) | (have := Q.2.2 C; omega))
theorem g_dc_ne (X : Stand p l e R s m args below meth c T locs cells slots) (hx : p.tables.exec = Jvm.exec) {pc : Nat} {Ls : Array Slot} {st : List Value} {x y : UInt64} {oo : CmpOp} {i j : Int} {o : Int} (q0 q1 q2 : Nat) (hd0 : decode c.code pc = .ok (.dcmp oo, 1)) (h0 : pc + 1 = q0) (hd : decode c.code q0 = .ok (.ifCond .ne o, 3)) (ho : 0 ≤ (q0 : Int) + o) (h1 : ((q0 : Int) + o).toNat = q1) (h2 : q0 + 3 = q2) (hv : FP.dcmp x y = some (compare i j)) (Kt : i ≠ j → Go p e below Ev T (mkF m q1 Ls st)) (Kf : i = j → Go p e below Ev T (mkF m q2 Ls st)) : Go p e below Ev T (mkF m pc Ls (.double y :: .double x :: st)) := by
  have Q := own_cmpv i j oo
  have C : i < j ∨ i = j ∨ j < i := by omega
  refine g_dcmp X hx q0 hd0 h0 (by rw [hv]) (g_if_ne X hx q1 q2 hd ho h1 h2 (fun hc => Kt ?_) (fun hc => Kf ?_)) <;> (rcases C with C | C | C <;> first | (have := Q.1 C; omega) | (have := Q.2.1 C; omega) | (have := Q.2.2 C; omega))
theorem g_dc_lt (X : Stand p l e R s m args below meth c T locs cells slots) (hx : p.tables.exec = Jvm.exec) {pc : Nat} {Ls : Array Slot} {st : List Value} {x y : UInt64} {oo : CmpOp} {i j : Int} {o : Int} (q0 q1 q2 : Nat) (hd0 : decode c.code pc = .ok (.dcmp oo, 1)) (h0 : pc + 1 = q0) (hd : decode c.code q0 = .ok (.ifCond .lt o, 3)) (ho : 0 ≤ (q0 : Int) + o) (h1 : ((q0 : Int) + o).toNat = q1) (h2 : q0 + 3 = q2) (hv : FP.dcmp x y = some (compare i j)) (Kt : i < j → Go p e below Ev T (mkF m q1 Ls st)) (Kf : j ≤ i → Go p e below Ev T (mkF m q2 Ls st)) : Go p e below Ev T (mkF m pc Ls (.double y :: .double x :: st)) := by
  have Q := own_cmpv i j oo
  have C : i < j ∨ i = j ∨ j < i := by omega
  refine g_dcmp X hx q0 hd0 h0 (by rw [hv]) (g_if_lt X hx q1 q2 hd ho h1 h2 (fun hc => Kt ?_) (fun hc => Kf ?_)) <;> (rcases C with C | C | C <;> first | (have := Q.1 C; omega) | (have := Q.2.1 C; omega) | (have := Q.2.2 C; omega))
theorem g_dc_ge (X : Stand p l e R s m args below meth c T locs cells slots) (hx : p.tables.exec = Jvm.exec) {pc : Nat} {Ls : Array Slot} {st : List Value} {x y : UInt64} {oo : CmpOp} {i j : Int} {o : Int} (q0 q1 q2 : Nat) (hd0 : decode c.code pc = .ok (.dcmp oo, 1)) (h0 : pc + 1 = q0) (hd : decode c.code q0 = .ok (.ifCond .ge o, 3)) (ho : 0 ≤ (q0 : Int) + o) (h1 : ((q0 : Int) + o).toNat = q1) (h2 : q0 + 3 = q2) (hv : FP.dcmp x y = some (compare i j)) (Kt : j ≤ i → Go p e below Ev T (mkF m q1 Ls st)) (Kf : i < j → Go p e below Ev T (mkF m q2 Ls st)) : Go p e below Ev T (mkF m pc Ls (.double y :: .double x :: st)) := by
  have Q := own_cmpv i j oo
  have C : i < j ∨ i = j ∨ j < i := by omega
  refine g_dcmp X hx q0 hd0 h0 (by rw [hv]) (g_if_ge X hx q1 q2 hd ho h1 h2 (fun hc => Kt ?_) (fun hc => Kf ?_)) <;> (rcases C with C | C | C <;> first | (have := Q.1 C; omega) | (have := Q.2.1 C; omega) | (have := Q.2.2 C; omega))
theorem g_dc_gt (X : Stand p l e R s m args below meth c T locs cells slots) (hx : p.tables.exec = Jvm.exec) {pc : Nat} {Ls : Array Slot} {st : List Value} {x y : UInt64} {oo : CmpOp} {i j : Int} {o : Int} (q0 q1 q2 : Nat) (hd0 : decode c.code pc = .ok (.dcmp oo, 1)) (h0 : pc + 1 = q0) (hd : decode c.code q0 = .ok (.ifCond .gt o, 3)) (ho : 0 ≤ (q0 : Int) + o) (h1 : ((q0 : Int) + o).toNat = q1) (h2 : q0 + 3 = q2) (hv : FP.dcmp x y = some (compare i j)) (Kt : j < i → Go p e below Ev T (mkF m q1 Ls st)) (Kf : i ≤ j → Go p e below Ev T (mkF m q2 Ls st)) : Go p e below Ev T (mkF m pc Ls (.double y :: .double x :: st)) := by
  have Q := own_cmpv i j oo
  have C : i < j ∨ i = j ∨ j < i := by omega
  refine g_dcmp X hx q0 hd0 h0 (by rw [hv]) (g_if_gt X hx q1 q2 hd ho h1 h2 (fun hc => Kt ?_) (fun hc => Kf ?_)) <;> (rcases C with C | C | C <;> first | (have := Q.1 C; omega) | (have := Q.2.1 C; omega) | (have := Q.2.2 C; omega))
theorem g_dc_le (X : Stand p l e R s m args below meth c T locs cells slots) (hx : p.tables.exec = Jvm.exec) {pc : Nat} {Ls : Array Slot} {st : List Value} {x y : UInt64} {oo : CmpOp} {i j : Int} {o : Int} (q0 q1 q2 : Nat) (hd0 : decode c.code pc = .ok (.dcmp oo, 1)) (h0 : pc + 1 = q0) (hd : decode c.code q0 = .ok (.ifCond .le o, 3)) (ho : 0 ≤ (q0 : Int) + o) (h1 : ((q0 : Int) + o).toNat = q1) (h2 : q0 + 3 = q2) (hv : FP.dcmp x y = some (compare i j)) (Kt : i ≤ j → Go p e below Ev T (mkF m q1 Ls st)) (Kf : j < i → Go p e below Ev T (mkF m q2 Ls st)) : Go p e below Ev T (mkF m pc Ls (.double y :: .double x :: st)) := by
  have Q := own_cmpv i j oo
  have C : i < j ∨ i = j ∨ j < i := by omega
  refine g_dcmp X hx q0 hd0 h0 (by rw [hv]) (g_if_le X hx q1 q2 hd ho h1 h2 (fun hc => Kt ?_) (fun hc => Kf ?_)) <;> (rcases C with C | C | C <;> first | (have := Q.1 C; omega) | (have := Q.2.1 C; omega) | (have := Q.2.2 C; omega))
theorem g_ifnull_t (X : Stand p l e R s m args below meth c T locs cells slots) (hx : p.tables.exec = Jvm.exec) {pc : Nat} {Ls : Array Slot} {st : List Value} {o : Int} (q : Nat) (hd : decode c.code pc = .ok (.ifnull o, 3)) (ho : 0 ≤ (pc : Int) + o) (h1 : ((pc : Int) + o).toNat = q) (K : Go p e below Ev T (mkF m q Ls st)) : Go p e below Ev T (mkF m pc Ls (.null :: st)) :=
  K.on fun _ k => XS.ifnullYes X.here hx rfl rfl hd rfl ho h1 k
theorem g_ifnull_f (X : Stand p l e R s m args below meth c T locs cells slots) (hx : p.tables.exec = Jvm.exec) {pc : Nat} {Ls : Array Slot} {st : List Value} {o : Int} {b : Addr} (q : Nat) (hd : decode c.code pc = .ok (.ifnull o, 3)) (h1 : pc + 3 = q) (K : Go p e below Ev T (mkF m q Ls st)) : Go p e below Ev T (mkF m pc Ls (.ref b :: st)) := by
  subst h1
  exact K.on fun _ k => XS.ifnullNo X.here hx rfl hd rfl k
theorem g_ifnonnull_t (X : Stand p l e R s m args below meth c T locs cells slots) (hx : p.tables.exec = Jvm.exec) {pc : Nat} {Ls : Array Slot} {st : List Value} {o : Int} {b : Addr} (q : Nat) (hd : decode c.code pc = .ok (.ifnonnull o, 3)) (ho : 0 ≤ (pc : Int) + o) (h1 : ((pc : Int) + o).toNat = q) (K : Go p e below Ev T (mkF m q Ls st)) : Go p e below Ev T (mkF m pc Ls (.ref b :: st)) :=
  K.on fun _ k => XS.ifnonnullYes X.here hx rfl rfl hd rfl ho h1 k
theorem g_ifnonnull_f (X : Stand p l e R s m args below meth c T locs cells slots) (hx : p.tables.exec = Jvm.exec) {pc : Nat} {Ls : Array Slot} {st : List Value} {o : Int} (q : Nat) (hd : decode c.code pc = .ok (.ifnonnull o, 3)) (h1 : pc + 3 = q) (K : Go p e below Ev T (mkF m q Ls st)) : Go p e below Ev T (mkF m pc Ls (.null :: st)) := by
  subst h1
  exact K.on fun _ k => XS.ifnonnullNo X.here hx rfl hd rfl k
theorem g_new (X : Stand p l e R s m args below meth c T locs cells slots) (hx : p.tables.exec = Jvm.exec) {pc : Nat} {Ls : Array Slot} {st : List Value} (hZ : Z.Warmed39 s.vm) {own C : String} {i n : Nat} (hown : s.vm.findClass own = some m.cls) (w : (Jvm.Cond.classLink own i C).before a0 Z = true) (wi : (Jvm.Cond.instantiable C n).before a0 Z = true) (wz : (Jvm.Cond.initialized C).before a0 Z = true) (eT : T.heap = h) (q : Nat) (hd : decode c.code pc = .ok (.new i, 3)) (hq : pc + 3 = q) (hc : cells + 1 ≤ R.cells) (hl : slots + n ≤ R.slots)
    (K : ∀ (T' : State) (h' : Heap) (a : Addr), a = h.size → Stand p l e R s m args below meth c T' locs (cells + 1) (slots + n) → T'.heap = h' → Ext h h' → Exa Z h' a C → (∀ {O nm d : String} {ty : FieldType}, Laid Z a0 C O nm d → parseFieldDescriptor d = some ty → Fld Z h' a O nm d (defaultValue ty)) → Go p e below Ev T' (mkF m q Ls (.ref a :: st))) : Go p e below Ev T (mkF m pc Ls st) := by
  subst hq
  obtain ⟨T', h', X', e', E', A', D', -, st'⟩ := newO X hx hZ hown w wi wz eT (g := mkF m pc Ls st) rfl hd hc hl
  exact (K T' h' _ rfl X' e' E' A' D').on st'
theorem g_getF (X : Stand p l e R s m args below meth c T locs cells slots) (hx : p.tables.exec = Jvm.exec) {pc : Nat} {Ls : Array Slot} {st : List Value} (hZ : Z.Warmed39 s.vm) {own R0 O n d : String} {i : Nat} (hown : s.vm.findClass own = some m.cls) (w : (Jvm.Cond.fieldLink own i R0 n d).before a0 Z = true) (via : Via Z R0 O n d) (eT : T.heap = h) {a : Addr} {v : Value} (F : Fld Z h a O n d v) (q : Nat) (hd : decode c.code pc = .ok (.getfield i, 3)) (hq : pc + 3 = q) (K : ∀ T', Stand p l e R s m args below meth c T' locs cells slots → T'.heap = h → Go p e below Ev T' (mkF m q Ls (v :: st))) : Go p e below Ev T (mkF m pc Ls (.ref a :: st)) := by
  subst hq
  obtain ⟨T', X', e', st'⟩ := getF X hx hZ hown (host := "") (Or.inl w) via eT F (g := mkF m pc Ls (.ref a :: st)) rfl rfl hd
  exact (K T' X' e').on st'
theorem g_putF (X : Stand p l e R s m args below meth c T locs cells slots) (hx : p.tables.exec = Jvm.exec) {pc : Nat} {Ls : Array Slot} {st : List Value} (hZ : Z.Warmed39 s.vm) {own R0 O n d C : String} {i kk : Nat} {ty : FieldType} (hown : s.vm.findClass own = some m.cls) (w : (Jvm.Cond.fieldLink own i R0 n d).before a0 Z = true) (via : Via Z R0 O n d) (eT : T.heap = h) {a : Addr} {v old : Value} (F : Fld Z h a O n d old) (E : Exa Z h a C) (L : (Jvm.Cond.lays C O n d).before a0 Z = true ∨ ((Jvm.Cond.laysFinal C O n d).before a0 Z = true ∧ own = O ∧ meth.name = "<init>")) (wi : (Jvm.Cond.instantiable C kk).before a0 Z = true) (hty : parseFieldDescriptor d = some ty) (hn : narrow ty v = v) (hf : fits ty v = true) (q : Nat) (hd : decode c.code pc = .ok (.putfield i, 3)) (hq : pc + 3 = q)
    (K : ∀ T' h', Stand p l e R s m args below meth c T' (locs ++ [⟨a, Jvm.RoadKit.slotOf Z O n d⟩]) cells slots → T'.heap = h' → Wr h h' a (Jvm.RoadKit.slotOf Z O n d) v → Go p e below Ev T' (mkF m q Ls st)) : Go p e below Ev T (mkF m pc Ls (v :: .ref a :: st)) := by
  subst hq
  obtain ⟨T', h', X', e', W', st'⟩ := putF X hx hZ hown (host := "") (Or.inl w) via eT F E L wi hty hn hf (g := mkF m pc Ls (v :: .ref a :: st)) rfl rfl hd
  exact (K T' h' X' e' W').on st'
theorem g_objinit (X : Stand p l e R s m args below meth c T locs cells slots) (hx : p.tables.exec = Jvm.exec) {pc : Nat} {Ls : Array Slot} {st : List Value} (hZ : Z.Warmed39 s.vm) {own : String} {i : Nat} (hown : s.vm.findClass own = some m.cls) (w1 : (Jvm.Cond.methodLink own i ⟨"java/lang/Object", "<init>", "()V"⟩).before a0 Z = true) (w2 : (Jvm.Cond.instanceMethod ⟨"java/lang/Object", "<init>", "()V"⟩).before a0 Z = true) (w3 : (Jvm.Cond.code ⟨"java/lang/Object", "<init>", "()V"⟩ object_method_1_code 1 none).before a0 Z = true) (eT : T.heap = h) {a : Addr} (W : Nat) (q : Nat) (hd : decode c.code pc = .ok (.invokespecial i, 3)) (hq : pc + 3 = q) (hsz : Ls.size = c.maxLocals) (hf : 1 ≤ R.frames) (hW : (st.map fun v => v.category).sum ≤ W) (hl : W + 12 ≤ R.locals) (K : ∀ T', Stand p l e R s m args below meth c T' locs cells slots → T'.heap = h → Go p e below Ev T' (mkF m q Ls st)) : Go p e below Ev T (mkF m pc Ls (.ref a :: st)) := by
  subst hq
  obtain ⟨T', X', e', st'⟩ := initO X hx hZ hown w1 w2 w3 eT (g := mkF m pc Ls (.ref a :: st)) rfl hsz rfl hd hf (W := W) (by show 2 * 0 + _ ≤ _; omega) hl
  exact (K T' X' e').on st'
theorem g_static (X : Stand p l e R s m args below meth c T locs cells slots) (hx : p.tables.exec = Jvm.exec) {pc : Nat} {Ls : Array Slot} {st : List Value} (hZ : Z.Warmed39 s.vm) {own : String} {i : Nat} {y : MethodName} {bytes : ByteArray} {maxL : Nat} {ret : Option FieldType} {rm : Room} {as' : Array Value} {Q : Option Value → Heap → List Loc → Prop} {argsL rest : List Value} (hown : s.vm.findClass own = some m.cls) (w1 : (Jvm.Cond.methodLink own i y).before a0 Z = true) (w2 : (Jvm.Cond.static y).before a0 Z = true) (w3 : (Jvm.Cond.initialized y.cls).before a0 Z = true) (w4 : (Jvm.Cond.code y bytes maxL ret).before a0 Z = true) (hy : y.cls ≠ "java/lang/invoke/MethodHandle" ∧ y.cls ≠ "java/lang/invoke/VarHandle") (hM : MetFree l y (head1 [Jvm.Cond.code y bytes maxL ret] rm) (fun a U => a = as' ∧ Z.Warmed39 U.vm ∧ U.heap = h) (fun _ _ _ _ _ => True) (fun _ U o U' => ∃ v L, o = .returned v ∧ Q v U'.heap L ∧ FrameEnd U o U' L rm.cells rm.slots)) (eT : T.heap = h) (hst : st = argsL.reverse ++ rest) (has : argsL.toArray = as') (W : Nat) (q : Nat) (hq : pc + 3 = q) (hsz : Ls.size = c.maxLocals) (hlen : ∀ sig, parseMethodDescriptor y.desc = some sig → argsL.length = sig.parameters.length) (hW : (rest.map fun v => v.category).sum ≤ W) (hf : rm.frames + 1 ≤ R.frames) (hl : W + (maxL + 11) + rm.locals ≤ R.locals) (hc : cells + rm.cells ≤ R.cells) (hs : slots + rm.slots ≤ R.slots) (hd : decode c.code pc = .ok (.invokestatic i, 3))
    (K : ∀ (v : Option Value) (T' : State) (L : List Loc), Stand p l e R s m args below meth c T' (locs ++ L) (cells + rm.cells) (slots + rm.slots) → Q v T'.heap L → Go p e below Ev T' (mkF m q Ls (v.toList ++ rest))) : Go p e below Ev T (mkF m pc Ls st) := by
  subst hq hst
  obtain ⟨v, vm1, ⟨T', L', k', n'⟩, -, X', ⟨L, hQ, l', y', z'⟩, st'⟩ := Jvm.LawKit.callS X hx hown (mvT hZ w1) (mvT hZ w2) (mvT hZ w3) (mvT hZ w4) hy (backOf (W := W) hM hZ w4 w3 hf hl) (g := mkF m pc Ls (argsL.reverse ++ rest)) rfl hsz (argsL := argsL) (rest := rest) hlen rfl (by show 2 * 0 + _ ≤ _; omega) hd (fun _ _ => ⟨has, eT, hc, hs⟩)
  dsimp only [Pt.U, Pt.locs, Pt.cells, Pt.slots] at X' l' y' z' st' hQ
  subst l' y' z'
  exact (K v T' L X' hQ).on fun t k => st' t k
theorem g_init (X : Stand p l e R s m args below meth c T locs cells slots) (hx : p.tables.exec = Jvm.exec) {pc : Nat} {Ls : Array Slot} {st : List Value} (hZ : Z.Warmed39 s.vm) {own : String} {i : Nat} {y : MethodName} {bytes : ByteArray} {maxL : Nat} {rm : Room} {as' : Array Value} {Q : Option Value → Heap → List Loc → Prop} {argsL rest : List Value} (hy1 : y.name = "<init>") (hown : s.vm.findClass own = some m.cls) (w1 : (Jvm.Cond.methodLink own i y).before a0 Z = true) (w2 : (Jvm.Cond.instanceMethod y).before a0 Z = true) (w3 : (Jvm.Cond.initialized y.cls).before a0 Z = true) (w4 : (Jvm.Cond.code y bytes maxL none).before a0 Z = true) (hy : y.cls ≠ "java/lang/invoke/MethodHandle" ∧ y.cls ≠ "java/lang/invoke/VarHandle") (hM : MetFree l y (head1 [Jvm.Cond.code y bytes maxL none] rm) (fun a U => a = as' ∧ Z.Warmed39 U.vm ∧ U.heap = h) (fun _ _ _ _ _ => True) (fun _ U o U' => ∃ v L, o = .returned v ∧ Q v U'.heap L ∧ FrameEnd U o U' L rm.cells rm.slots)) (eT : T.heap = h) {a : Addr} (hst : st = argsL.reverse ++ .ref a :: rest) (has : (.ref a :: argsL).toArray = as') (W : Nat) (q : Nat) (hq : pc + 3 = q) (hsz : Ls.size = c.maxLocals) (hlen : ∀ sig, parseMethodDescriptor y.desc = some sig → argsL.length = sig.parameters.length) (hW : (rest.map fun v => v.category).sum ≤ W) (hf : rm.frames + 1 ≤ R.frames) (hl : W + (maxL + 11) + rm.locals ≤ R.locals) (hc : cells + rm.cells ≤ R.cells) (hs : slots + rm.slots ≤ R.slots) (hd : decode c.code pc = .ok (.invokespecial i, 3))
    (K : ∀ (v : Option Value) (T' : State) (L : List Loc), Stand p l e R s m args below meth c T' (locs ++ L) (cells + rm.cells) (slots + rm.slots) → Q v T'.heap L → Go p e below Ev T' (mkF m q Ls (v.toList ++ rest))) : Go p e below Ev T (mkF m pc Ls st) := by
  subst hq hst
  obtain ⟨v, vm1, ⟨T', L', k', n'⟩, -, X', ⟨L, hQ, l', y', z'⟩, st'⟩ := X.specialBack hx hy1 hown (mvT hZ w1) (mvT hZ w2) (mvT hZ w4) hy (backOf (W := W) hM hZ w4 w3 hf hl) (g := mkF m pc Ls (argsL.reverse ++ .ref a :: rest)) rfl hsz (Steps.refl _) (a := a) (argsL := argsL) (rest := rest) hlen rfl (by show 2 * 0 + _ ≤ _; omega) hd (fun _ _ => ⟨has, eT, hc, hs⟩)
  dsimp only [Pt.U, Pt.locs, Pt.cells, Pt.slots] at X' l' y' z' st' hQ
  subst l' y' z'
  exact (K v T' L X' hQ).on fun t k => st'.trans k
theorem g_virt (X : Stand p l e R s m args below meth c T locs cells slots) (hx : p.tables.exec = Jvm.exec) {pc : Nat} {Ls : Array Slot} {st : List Value} (hZ : Z.Warmed39 s.vm) {own : String} {i : Nat} {y z : MethodName} {C : String} {bytes : ByteArray} {maxL : Nat} {ret : Option FieldType} {rm : Room} {as' : Array Value} {Q : Option Value → Heap → List Loc → Prop} {argsL rest : List Value} (hown : s.vm.findClass own = some m.cls) (w1 : (Jvm.Cond.methodLink own i y).before a0 Z = true) (w2 : (Jvm.Cond.declares y).before a0 Z = true) (w5 : (Jvm.Cond.selects y.cls y y).before a0 Z = true) (w6 : (Jvm.Cond.selects C y z).before a0 Z = true) (w7 : (Jvm.Cond.instanceMethod z).before a0 Z = true) (w3 : (Jvm.Cond.initialized z.cls).before a0 Z = true) (w4 : (Jvm.Cond.code z bytes maxL ret).before a0 Z = true) (hy : y.cls ≠ "java/lang/invoke/MethodHandle" ∧ y.cls ≠ "java/lang/invoke/VarHandle") (hM : MetFree l z (head1 [Jvm.Cond.code z bytes maxL ret] rm) (fun a U => a = as' ∧ Z.Warmed39 U.vm ∧ U.heap = h) (fun _ _ _ _ _ => True) (fun _ U o U' => ∃ v L, o = .returned v ∧ Q v U'.heap L ∧ FrameEnd U o U' L rm.cells rm.slots)) (eT : T.heap = h) {b : Addr} (E : Exa Z h b C) (hst : st = argsL.reverse ++ .ref b :: rest) (has : (.ref b :: argsL).toArray = as') (W : Nat) (q : Nat) (hq : pc + 3 = q) (hsz : Ls.size = c.maxLocals) (hlen : ∀ sig, parseMethodDescriptor y.desc = some sig → argsL.length = sig.parameters.length) (hW : (rest.map fun v => v.category).sum ≤ W) (hf : rm.frames + 1 ≤ R.frames) (hl : W + (maxL + 11) + rm.locals ≤ R.locals) (hc : cells + rm.cells ≤ R.cells) (hs : slots + rm.slots ≤ R.slots) (hd : decode c.code pc = .ok (.invokevirtual i, 3))
    (K : ∀ (v : Option Value) (T' : State) (L : List Loc), Stand p l e R s m args below meth c T' (locs ++ L) (cells + rm.cells) (slots + rm.slots) → Q v T'.heap L → Go p e below Ev T' (mkF m q Ls (v.toList ++ rest))) : Go p e below Ev T (mkF m pc Ls st) := by
  subst hq hst
  obtain ⟨cq, kq, qa, qb, qc⟩ := isOf hZ eT E
  obtain ⟨v, vm1, ⟨T', L', k', n'⟩, -, X', ⟨L, hQ, l', y', z'⟩, st'⟩ := X.virtualBack hx hown (mvT hZ w1) (mvT hZ w2) (notFace_of_selects (args := #[]) (mvT hZ w5)) (mvT hZ w6) (mvT hZ w7) hy (backOf (W := W) hM hZ w4 w3 hf hl) qa qc (g := mkF m pc Ls (argsL.reverse ++ .ref b :: rest)) rfl hsz (Steps.refl _) (argsL := argsL) (rest := rest) hlen rfl (by show 2 * 0 + _ ≤ _; omega) hd (fun _ _ => ⟨has, eT, hc, hs⟩)
  dsimp only [Pt.U, Pt.locs, Pt.cells, Pt.slots] at X' l' y' z' st' hQ
  subst l' y' z'
  exact (K v T' L X' hQ).on fun t k => st'.trans k
theorem own_at {n : Nat} (j : Int32) (h0 : 0 ≤ j.toInt) (z : Int32) (h1 : j.toInt < z.toInt) (S : n = z.toNatClampNeg) : ¬ (j < 0 ∨ n ≤ j.toNatClampNeg) := by
  subst S
  intro q
  rcases q with q | q
  · have := (own_i0 j).1.mp q; omega
  · simp only [Int32.toNatClampNeg] at q; omega
theorem own_ncl {j : Int32} {k : Nat} (h : j.toInt = (k : Int)) : j.toNatClampNeg = k := by simp only [Int32.toNatClampNeg]; omega
theorem g_newP (X : Stand p l e R s m args below meth c T locs cells slots) (hx : p.tables.exec = Jvm.exec) {pc : Nat} {Ls : Array Slot} {st : List Value} (hZ : Z.Warmed39 s.vm) {aty : ArrayType} (w : (Jvm.Cond.arrayClass (newarray.typeOf aty)).before a0 Z = true) (eT : T.heap = h) {n : Int32} (hn : 0 ≤ n.toInt) {cap : Nat} (hcap : n.toInt ≤ cap) (hb : cap * 8 ≤ 536870912) (q : Nat) (hd : decode c.code pc = .ok (.newarray aty, 2)) (hq : pc + 2 = q) (hc : cells + 1 ≤ R.cells) (hl : slots + cap ≤ R.slots) {ad : String} (had : "[" ++ (newarray.typeOf aty).toString = ad)
    (K : ∀ (T' : State) (h' : Heap) (k : ClassId) (a : Addr), a = h.size → Stand p l e R s m args below meth c T' locs (cells + 1) (slots + cap) → T'.heap = h' → Ext h h' → Arv Z h' a k (newarray.typeOf aty) n [] (defaultValue (newarray.typeOf aty)) → Exa Z h' a ad → Go p e below Ev T' (mkF m q Ls (.ref a :: st))) : Go p e below Ev T (mkF m pc Ls (.int n :: st)) := by
  subst hq
  have hn' : ¬ n < 0 := fun q => by have := (own_i0 n).1.mp q; omega
  obtain ⟨T', h', k, X', e', E', A', B', st'⟩ := newPE X hx hZ w eT (g := mkF m pc Ls (.int n :: st)) rfl hd rfl hn' (cap := cap) (by simp only [Int32.toNatClampNeg]; omega) hb hc hl had
  exact (K T' h' k _ rfl X' e' E' (Arv.new A' hn') B').on st'
theorem g_len (X : Stand p l e R s m args below meth c T locs cells slots) (hx : p.tables.exec = Jvm.exec) {pc : Nat} {Ls : Array Slot} {st : List Value} (hZ : Z.Warmed39 s.vm) (eT : T.heap = h) {a : Addr} {k : ClassId} {ty : FieldType} {z : Int32} {vs : List Value} {dv : Value} (V : Arv Z h a k ty z vs dv) (q : Nat) (hd : decode c.code pc = .ok (.arraylength, 1)) (hq : pc + 1 = q) (K : Go p e below Ev T (mkF m q Ls (.int z :: st))) : Go p e below Ev T (mkF m pc Ls (.ref a :: st)) := by
  subst hq
  obtain ⟨cl, A, q1, S, q3, H, G⟩ := V
  refine K.on fun t k => X.arraylength hx (by rw [eT]; exact A.1) (State.isArrayOf_alike hZ.alike A.2.1) (g := mkF m pc Ls (.ref a :: st)) rfl rfl hd t ?_
  rw [len_of S q3]
  exact k
theorem g_dastore (X : Stand p l e R s m args below meth c T locs cells slots) (hx : p.tables.exec = Jvm.exec) {pc : Nat} {Ls : Array Slot} {st : List Value} (hZ : Z.Warmed39 s.vm) (eT : T.heap = h) {a : Addr} {k : ClassId} {z j : Int32} {x : UInt64} {vs : List Value} {dv : Value} (V : Arv Z h a k .double z vs dv) (i : Nat) (hi : j.toInt = (i : Int)) (hz : j.toInt < z.toInt) (hv : i < vs.length) (q : Nat) (hd : decode c.code pc = .ok (.dastore, 1)) (hq : pc + 1 = q)
    (K : ∀ T' h', Stand p l e R s m args below meth c T' (locs ++ [⟨a, j.toNatClampNeg⟩]) cells slots → T'.heap = h' → Wr h h' a j.toNatClampNeg (.double x) → Arv Z h' a k .double z (vs.set i (.double x)) dv → Go p e below Ev T' (mkF m q Ls st)) : Go p e below Ev T (mkF m pc Ls (.double x :: .int j :: .ref a :: st)) := by
  subst hq
  obtain ⟨cl, A, q1, S, q3, H, G⟩ := V
  have hj := own_at j (by omega) z hz S
  obtain ⟨T', h', X', e', W', st'⟩ := stD X hx hZ eT A hj (g := mkF m pc Ls (.double x :: .int j :: .ref a :: st)) rfl rfl hd
  exact (K T' h' X' e' W' (Arv.set A q1 S q3 H G rfl W' i (own_ncl hi) hv)).on st'
theorem g_iastore (X : Stand p l e R s m args below meth c T locs cells slots) (hx : p.tables.exec = Jvm.exec) {pc : Nat} {Ls : Array Slot} {st : List Value} (hZ : Z.Warmed39 s.vm) (eT : T.heap = h) {a : Addr} {k : ClassId} {z j : Int32} {x : Int32} {vs : List Value} {dv : Value} (V : Arv Z h a k .int z vs dv) (i : Nat) (hi : j.toInt = (i : Int)) (hz : j.toInt < z.toInt) (hv : i < vs.length) (q : Nat) (hd : decode c.code pc = .ok (.iastore, 1)) (hq : pc + 1 = q)
    (K : ∀ T' h', Stand p l e R s m args below meth c T' (locs ++ [⟨a, j.toNatClampNeg⟩]) cells slots → T'.heap = h' → Wr h h' a j.toNatClampNeg (.int x) → Arv Z h' a k .int z (vs.set i (.int x)) dv → Go p e below Ev T' (mkF m q Ls st)) : Go p e below Ev T (mkF m pc Ls (.int x :: .int j :: .ref a :: st)) := by
  subst hq
  obtain ⟨cl, A, q1, S, q3, H, G⟩ := V
  have hj := own_at j (by omega) z hz S
  obtain ⟨T', h', X', e', W', st'⟩ := stI X hx hZ eT A hj (g := mkF m pc Ls (.int x :: .int j :: .ref a :: st)) rfl rfl hd
  exact (K T' h' X' e' W' (Arv.set A q1 S q3 H G rfl W' i (own_ncl hi) hv)).on st'
theorem g_lastore (X : Stand p l e R s m args below meth c T locs cells slots) (hx : p.tables.exec = Jvm.exec) {pc : Nat} {Ls : Array Slot} {st : List Value} (hZ : Z.Warmed39 s.vm) (eT : T.heap = h) {a : Addr} {k : ClassId} {z j : Int32} {x : Int64} {vs : List Value} {dv : Value} (V : Arv Z h a k .long z vs dv) (i : Nat) (hi : j.toInt = (i : Int)) (hz : j.toInt < z.toInt) (hv : i < vs.length) (q : Nat) (hd : decode c.code pc = .ok (.lastore, 1)) (hq : pc + 1 = q)
    (K : ∀ T' h', Stand p l e R s m args below meth c T' (locs ++ [⟨a, j.toNatClampNeg⟩]) cells slots → T'.heap = h' → Wr h h' a j.toNatClampNeg (.long x) → Arv Z h' a k .long z (vs.set i (.long x)) dv → Go p e below Ev T' (mkF m q Ls st)) : Go p e below Ev T (mkF m pc Ls (.long x :: .int j :: .ref a :: st)) := by
  subst hq
  obtain ⟨cl, A, q1, S, q3, H, G⟩ := V
  have hj := own_at j (by omega) z hz S
  obtain ⟨T', h', X', e', W', st'⟩ := stJ X hx hZ eT A hj (g := mkF m pc Ls (.long x :: .int j :: .ref a :: st)) rfl rfl hd
  exact (K T' h' X' e' W' (Arv.set A q1 S q3 H G rfl W' i (own_ncl hi) hv)).on st'
theorem g_daload (X : Stand p l e R s m args below meth c T locs cells slots) (hx : p.tables.exec = Jvm.exec) {pc : Nat} {Ls : Array Slot} {st : List Value} (hZ : Z.Warmed39 s.vm) (eT : T.heap = h) {a : Addr} {k : ClassId} {z j : Int32} {v : Value} {vs : List Value} {dv : Value} (V : Arv Z h a k .double z vs dv) (hi : 0 ≤ j.toInt) (hz : j.toInt < z.toInt) (hv : vs.getD j.toNatClampNeg dv = v) (q : Nat) (hd : decode c.code pc = .ok (.daload, 1)) (hq : pc + 1 = q) (K : Go p e below Ev T (mkF m q Ls (v :: st))) : Go p e below Ev T (mkF m pc Ls (.int j :: .ref a :: st)) := by
  subst hq
  obtain ⟨cl, A, q1, S, q3, H, G⟩ := V
  have hj := own_at j hi z hz S
  exact K.on fun t k => X.daload hx (by rw [eT]; exact A.1) (State.isArrayOf_alike hZ.alike A.2.1) A.2.2 hj (H.at hj hv) (g := mkF m pc Ls (.int j :: .ref a :: st)) rfl rfl hd t k
theorem g_iaload (X : Stand p l e R s m args below meth c T locs cells slots) (hx : p.tables.exec = Jvm.exec) {pc : Nat} {Ls : Array Slot} {st : List Value} (hZ : Z.Warmed39 s.vm) (eT : T.heap = h) {a : Addr} {k : ClassId} {z j : Int32} {v : Value} {vs : List Value} {dv : Value} (V : Arv Z h a k .int z vs dv) (hi : 0 ≤ j.toInt) (hz : j.toInt < z.toInt) (hv : vs.getD j.toNatClampNeg dv = v) (q : Nat) (hd : decode c.code pc = .ok (.iaload, 1)) (hq : pc + 1 = q) (K : Go p e below Ev T (mkF m q Ls (v :: st))) : Go p e below Ev T (mkF m pc Ls (.int j :: .ref a :: st)) := by
  subst hq
  obtain ⟨cl, A, q1, S, q3, H, G⟩ := V
  have hj := own_at j hi z hz S
  exact K.on fun t k => X.iaload hx (by rw [eT]; exact A.1) (State.isArrayOf_alike hZ.alike A.2.1) A.2.2 hj (H.at hj hv) (g := mkF m pc Ls (.int j :: .ref a :: st)) rfl rfl hd t k
theorem g_laload (X : Stand p l e R s m args below meth c T locs cells slots) (hx : p.tables.exec = Jvm.exec) {pc : Nat} {Ls : Array Slot} {st : List Value} (hZ : Z.Warmed39 s.vm) (eT : T.heap = h) {a : Addr} {k : ClassId} {z j : Int32} {v : Value} {vs : List Value} {dv : Value} (V : Arv Z h a k .long z vs dv) (hi : 0 ≤ j.toInt) (hz : j.toInt < z.toInt) (hv : vs.getD j.toNatClampNeg dv = v) (q : Nat) (hd : decode c.code pc = .ok (.laload, 1)) (hq : pc + 1 = q) (K : Go p e below Ev T (mkF m q Ls (v :: st))) : Go p e below Ev T (mkF m pc Ls (.int j :: .ref a :: st)) := by
  subst hq
  obtain ⟨cl, A, q1, S, q3, H, G⟩ := V
  have hj := own_at j hi z hz S
  exact K.on fun t k => X.laload hx (by rw [eT]; exact A.1) (State.isArrayOf_alike hZ.alike A.2.1) A.2.2 hj (H.at hj hv) (g := mkF m pc Ls (.int j :: .ref a :: st)) rfl rfl hd t k
theorem g_clone (X : Stand p l e R s m args below meth c T locs cells slots) (hx : p.tables.exec = Jvm.exec) {pc : Nat} {Ls : Array Slot} {st : List Value} (hZ : Z.Warmed39 s.vm) {own ad : String} {i : Nat} (hown : s.vm.findClass own = some m.cls) (w1 : (Jvm.Cond.methodLink own i ⟨ad, "clone", "()Ljava/lang/Object;"⟩).before a0 Z = true) (w2 : (Jvm.Cond.sameMethod ad "java/lang/Object" "clone" "()Ljava/lang/Object;").before a0 Z = true) (w3 : (Jvm.Cond.native ⟨"java/lang/Object", "clone", "()Ljava/lang/Object;"⟩).before a0 Z = true) (w4 : (Jvm.Cond.instanceMethod ⟨"java/lang/Object", "clone", "()Ljava/lang/Object;"⟩).before a0 Z = true) (w5 : (Jvm.Cond.selects ad ⟨ad, "clone", "()Ljava/lang/Object;"⟩ ⟨"java/lang/Object", "clone", "()Ljava/lang/Object;"⟩).before a0 Z = true) (w6 : (Jvm.Cond.castable ad "java/lang/Cloneable").before a0 Z = true) (eT : T.heap = h) {a : Addr} {k : ClassId} {ty : FieldType} {z : Int32} {vs : List Value} {dv : Value} (V : Arv Z h a k ty z vs dv) (E : Exa Z h a ad) (W cap : Nat) (q : Nat) (hd : decode c.code pc = .ok (.invokevirtual i, 3)) (hq : pc + 3 = q) (hsz : Ls.size = c.maxLocals) (hf : 1 ≤ R.frames) (hW : (st.map fun v => v.category).sum ≤ W) (hl : W + 14 ≤ R.locals) (hcap : z.toInt ≤ cap) (hc : cells + 1 ≤ R.cells) (hs : slots + cap ≤ R.slots)
    (K : ∀ (T' : State) (h' : Heap) (b : Addr), b = h.size → Stand p l e R s m args below meth c T' locs (cells + 1) (slots + cap) → T'.heap = h' → Ext h h' → Arv Z h' b k ty z vs dv → Exa Z h' b ad → Go p e below Ev T' (mkF m q Ls (.ref b :: st))) : Go p e below Ev T (mkF m pc Ls (.ref a :: st)) := by
  subst hq
  obtain ⟨T', h', X', e', E', V', B', st'⟩ := cloneH X hx hZ hown w1 w2 w3 w4 w5 w6 eT V.arh E (g := mkF m pc Ls (.ref a :: st)) rfl hsz rfl hd hf (W := W) (cap := cap) (by show 2 * 0 + _ ≤ _; omega) hl (by simp only [Int32.toNatClampNeg]; omega) hc hs
  exact (K T' h' _ rfl X' e' E' V' B').on st'
theorem g_cast (X : Stand p l e R s m args below meth c T locs cells slots) (hx : p.tables.exec = Jvm.exec) {pc : Nat} {Ls : Array Slot} {st : List Value} (hZ : Z.Warmed39 s.vm) {own C : String} {i : Nat} (hown : s.vm.findClass own = some m.cls) (w : (Jvm.Cond.classLink own i C).before a0 Z = true) (eT : T.heap = h) {a : Addr} (F : Ins Z h a C true) (q : Nat) (hd : decode c.code pc = .ok (.checkcast i, 3)) (hq : pc + 3 = q) (K : ∀ T', Stand p l e R s m args below meth c T' locs cells slots → T'.heap = h → Go p e below Ev T' (mkF m q Ls (.ref a :: st))) : Go p e below Ev T (mkF m pc Ls (.ref a :: st)) := by
  subst hq
  obtain ⟨T', X', e', st'⟩ := castY X hx hZ hown w eT F (g := mkF m pc Ls (.ref a :: st)) rfl rfl hd
  exact (K T' X' e').on st'
end OwnKit
theorem own_pd0 : parseMethodDescriptor "([I[I)V" = some ⟨[(.array .int), (.array .int)], none⟩ := by decide +kernel
theorem own_pd1 : parseMethodDescriptor "()V" = some ⟨[], none⟩ := by decide +kernel
theorem own_pd2 : parseMethodDescriptor "(Lcom/example/neaplight/neaplight/Route;IIJD)V" = some ⟨[(.object "com/example/neaplight/neaplight/Route"), .int, .int, .long, .double], none⟩ := by decide +kernel
theorem own_pd3 : parseMethodDescriptor "(DD)V" = some ⟨[.double, .double], none⟩ := by decide +kernel
theorem own_pd4 : parseMethodDescriptor "(DD)D" = some ⟨[.double, .double], some .double⟩ := by decide +kernel
theorem own_pd5 : parseMethodDescriptor "(D)Z" = some ⟨[.double], some .boolean⟩ := by decide +kernel
theorem own_pd6 : parseMethodDescriptor "()D" = some ⟨[], some .double⟩ := by decide +kernel
def Q_rm0 (n0 : Nat) (v : Option Value) (h : Heap) (L : List Loc) : Prop := v = some (.int 1) ∧ Fr n0 L
theorem own_dlit {i : Int} {a : UInt64} (s : Bool) (c : Nat) (q : Int) (h : Jvm.FP.Core.val64 a = .fin s c q) (h2 : Jvm.FP.Core.signed s (c * 2 ^ q.toNat) = i * ((2 ^ (-q).toNat : Nat) : Int)) : Jvm.FP.Core.DInt i a := by
  show Jvm.FP.Core.Whole i _
  rw [h]
  exact h2
theorem own_dnn {i : Int} {a : UInt64} (h : Jvm.FP.Core.DInt i a) : Jvm.Free.Fl.NoNaN64 a := Jvm.Free.Fl.noNaN64_no.mpr ((Jvm.FP.Core.notNaN_iff a).mpr (Jvm.FP.Core.Whole.ne_nan h))
theorem own_dzero : Jvm.FP.Core.DInt 0 (0 : UInt64) := own_dlit false 0 (-1074) (by decide +kernel) (by decide +kernel)
theorem own_done : Jvm.FP.Core.DInt 1 (4607182418800017408 : UInt64) := own_dlit false (2 ^ 52) (-52) (by decide +kernel) (by decide +kernel)
section OwnMath
variable {p : Program} {l : Launch} {e : Env} {R : Room} {s : State} {m : MethodId} {args : Array Value} {below : List Frame} {meth : Method} {c : Code} {T : State} {locs : List Loc} {cells slots : Nat} {Z : State} {a0 : Array Value} {h h' : Heap} {Ev : State → Outcome → Prop}
theorem g_maxD (X : Stand p l e R s m args below meth c T locs cells slots) (hx : p.tables.exec = Jvm.exec) {pc : Nat} {Ls : Array Slot} {st : List Value} (hZ : Z.Warmed39 s.vm) {own : String} {i : Nat} {by0 : ByteArray} (hown : s.vm.findClass own = some m.cls) (w1 : (Jvm.Cond.methodLink own i ⟨"java/lang/Math", "max", "(DD)D"⟩).before a0 Z = true) (w2 : (Jvm.Cond.static ⟨"java/lang/Math", "max", "(DD)D"⟩).before a0 Z = true) (w3 : (Jvm.Cond.initialized "java/lang/Math").before a0 Z = true) (w4 : (Jvm.Cond.code ⟨"java/lang/Math", "max", "(DD)D"⟩ by0 4 (some .double)).before a0 Z = true) (hby0 : by0 = Jvm.Free.Fl.Abs.maxDCode) (eT : T.heap = h) {a b : UInt64} (ha : Jvm.Free.Fl.NoNaN64 a) (hb : Jvm.Free.Fl.NoNaN64 b) {r : UInt64} (hr : Jvm.Native.java_lang_Math.nans.pick64 true a b = r) (W : Nat) (q : Nat) (hd : decode c.code pc = .ok (.invokestatic i, 3)) (hq : pc + 3 = q) (hsz : Ls.size = c.maxLocals) (hW : (st.map fun v => v.category).sum ≤ W) (hf : 1 ≤ R.frames) (hl : W + 15 ≤ R.locals) (hc : cells ≤ R.cells) (hs : slots ≤ R.slots) (hpd : parseMethodDescriptor "(DD)D" = some ⟨[.double, .double], some .double⟩)
    (K : ∀ T', Stand p l e R s m args below meth c T' locs cells slots → T'.heap = h → Go p e below Ev T' (mkF m q Ls (.double r :: st))) : Go p e below Ev T (mkF m pc Ls (.double b :: .double a :: st)) := by
  subst hq hby0
  obtain ⟨T', X', e', st'⟩ := natS X hx hZ (y := ⟨"java/lang/Math", "max", "(DD)D"⟩) hown w1 w2 w3 w4 (by decide) eT (W := W) (F := fun a' => a' = #[.double a, .double b] ∧ Jvm.Free.Fl.NoNaN64 a ∧ Jvm.Free.Fl.NoNaN64 b) (val := .double (Jvm.Native.java_lang_Math.nans.pick64 true a b)) (val' := .double r) (fun hcd => Jvm.Free.Fl.Abs.maxD_pays a b hcd hf hl) (g := mkF m pc Ls (.double b :: .double a :: st)) rfl hsz (argsL := [.double a, .double b]) (rest := st) (lenOf hpd rfl) rfl (by show 2 * 0 + _ ≤ _; omega) hd hc hs ⟨rfl, ha, hb⟩ (by rw [hr])
  exact (K T' X' e').on st'
theorem g_minD (X : Stand p l e R s m args below meth c T locs cells slots) (hx : p.tables.exec = Jvm.exec) {pc : Nat} {Ls : Array Slot} {st : List Value} (hZ : Z.Warmed39 s.vm) {own : String} {i : Nat} {by0 : ByteArray} (hown : s.vm.findClass own = some m.cls) (w1 : (Jvm.Cond.methodLink own i ⟨"java/lang/Math", "min", "(DD)D"⟩).before a0 Z = true) (w2 : (Jvm.Cond.static ⟨"java/lang/Math", "min", "(DD)D"⟩).before a0 Z = true) (w3 : (Jvm.Cond.initialized "java/lang/Math").before a0 Z = true) (w4 : (Jvm.Cond.code ⟨"java/lang/Math", "min", "(DD)D"⟩ by0 4 (some .double)).before a0 Z = true) (hby0 : by0 = Jvm.Free.Fl.Abs.minDCode) (eT : T.heap = h) {a b : UInt64} (ha : Jvm.Free.Fl.NoNaN64 a) (hb : Jvm.Free.Fl.NoNaN64 b) {r : UInt64} (hr : Jvm.Native.java_lang_Math.nans.pick64 false a b = r) (W : Nat) (q : Nat) (hd : decode c.code pc = .ok (.invokestatic i, 3)) (hq : pc + 3 = q) (hsz : Ls.size = c.maxLocals) (hW : (st.map fun v => v.category).sum ≤ W) (hf : 1 ≤ R.frames) (hl : W + 15 ≤ R.locals) (hc : cells ≤ R.cells) (hs : slots ≤ R.slots) (hpd : parseMethodDescriptor "(DD)D" = some ⟨[.double, .double], some .double⟩)
    (K : ∀ T', Stand p l e R s m args below meth c T' locs cells slots → T'.heap = h → Go p e below Ev T' (mkF m q Ls (.double r :: st))) : Go p e below Ev T (mkF m pc Ls (.double b :: .double a :: st)) := by
  subst hq hby0
  obtain ⟨T', X', e', st'⟩ := natS X hx hZ (y := ⟨"java/lang/Math", "min", "(DD)D"⟩) hown w1 w2 w3 w4 (by decide) eT (W := W) (F := fun a' => a' = #[.double a, .double b] ∧ Jvm.Free.Fl.NoNaN64 a ∧ Jvm.Free.Fl.NoNaN64 b) (val := .double (Jvm.Native.java_lang_Math.nans.pick64 false a b)) (val' := .double r) (fun hcd => Jvm.Free.Fl.Abs.minD_pays a b hcd hf hl) (g := mkF m pc Ls (.double b :: .double a :: st)) rfl hsz (argsL := [.double a, .double b]) (rest := st) (lenOf hpd rfl) rfl (by show 2 * 0 + _ ≤ _; omega) hd hc hs ⟨rfl, ha, hb⟩ (by rw [hr])
  exact (K T' X' e').on st'
theorem g_absD (X : Stand p l e R s m args below meth c T locs cells slots) (hx : p.tables.exec = Jvm.exec) {pc : Nat} {Ls : Array Slot} {st : List Value} (hZ : Z.Warmed39 s.vm) {own : String} {i : Nat} {by0 : ByteArray} (hown : s.vm.findClass own = some m.cls) (w1 : (Jvm.Cond.methodLink own i ⟨"java/lang/Math", "abs", "(D)D"⟩).before a0 Z = true) (w2 : (Jvm.Cond.static ⟨"java/lang/Math", "abs", "(D)D"⟩).before a0 Z = true) (w3 : (Jvm.Cond.initialized "java/lang/Math").before a0 Z = true) (w4 : (Jvm.Cond.code ⟨"java/lang/Math", "abs", "(D)D"⟩ by0 2 (some .double)).before a0 Z = true) (hby0 : by0 = Jvm.Free.Fl.Abs.absDCode) (eT : T.heap = h) {a : UInt64} (ha : Jvm.Free.Fl.NoNaN64 a) (W : Nat) (q : Nat) (hd : decode c.code pc = .ok (.invokestatic i, 3)) (hq : pc + 3 = q) (hsz : Ls.size = c.maxLocals) (hW : (st.map fun v => v.category).sum ≤ W) (hf : 1 ≤ R.frames) (hl : W + 13 ≤ R.locals) (hc : cells ≤ R.cells) (hs : slots ≤ R.slots) (hpd : parseMethodDescriptor "(D)D" = some ⟨[.double], some .double⟩)
    (K : ∀ T', Stand p l e R s m args below meth c T' locs cells slots → T'.heap = h → Go p e below Ev T' (mkF m q Ls (.double (a &&& 0x7fffffffffffffff) :: st))) : Go p e below Ev T (mkF m pc Ls (.double a :: st)) := by
  subst hq hby0
  obtain ⟨T', X', e', st'⟩ := natS X hx hZ (y := ⟨"java/lang/Math", "abs", "(D)D"⟩) hown w1 w2 w3 w4 (by decide) eT (W := W) (F := fun a' => a' = #[.double a] ∧ Jvm.Free.Fl.NoNaN64 a) (val := .double (a &&& 0x7fffffffffffffff)) (val' := .double (a &&& 0x7fffffffffffffff)) (fun hcd => Jvm.Free.Fl.Abs.absD_pays a hcd hf hl) (g := mkF m pc Ls (.double a :: st)) rfl hsz (argsL := [.double a]) (rest := st) (lenOf hpd rfl) rfl (by show 2 * 0 + _ ≤ _; omega) hd hc hs ⟨rfl, ha⟩ rfl
  exact (K T' X' e').on st'
open Jvm.FP.Core in
theorem own_pick {i j : Int} {a b : UInt64} (g : Bool) (ha : DInt i a) (hb : DInt j b) : DInt (if g then max i j else min i j) (Jvm.Native.java_lang_Math.nans.pick64 g a b) := by
  have hc : FP.dcmp a b = some (compare i j) := dcmp_int ha hb
  unfold Jvm.Native.java_lang_Math.nans.pick64
  rw [hc]
  have C : i < j ∨ i = j ∨ j < i := by omega
  rcases C with C | C | C
  · rw [show compare i j = .lt from by rw [compare_ite]; simp [C]]
    cases g
    · show DInt (min i j) a; rw [show min i j = i by omega]; exact ha
    · show DInt (max i j) b; rw [show max i j = j by omega]; exact hb
  · subst C
    rw [show compare i i = .eq from by rw [compare_ite]; simp]
    have e1 : (if g then max i i else min i i) = i := by cases g <;> simp
    rw [e1]
    dsimp only
    split <;> assumption
  · rw [show compare i j = .gt from by rw [compare_ite]; simp [show ¬ i < j by omega, show ¬ i = j by omega]]
    cases g
    · show DInt (min i j) b; rw [show min i j = j by omega]; exact hb
    · show DInt (max i j) a; rw [show max i j = i by omega]; exact ha
theorem own_minD {i j : Int} {a b : UInt64} (ha : Jvm.FP.Core.DInt i a) (hb : Jvm.FP.Core.DInt j b) : Jvm.FP.Core.DInt (min i j) (Jvm.Native.java_lang_Math.nans.pick64 false a b) := own_pick false ha hb
theorem own_maxD {i j : Int} {a b : UInt64} (ha : Jvm.FP.Core.DInt i a) (hb : Jvm.FP.Core.DInt j b) : Jvm.FP.Core.DInt (max i j) (Jvm.Native.java_lang_Math.nans.pick64 true a b) := own_pick true ha hb
end OwnMath
theorem own_n3 {k n : Int32} (h : (1 : Int32) + ((k &&& (2147483647 : Int32)) % (3 : Int32)) = n) : n = 1 ∨ n = 2 ∨ n = 3 := by
  have e1 := c_mask k 2147483647 31 (by decide) (by decide)
  have e2 := (c_irem (k &&& 2147483647) 3 3 (by decide)).1 (by omega)
  have e3 := c_iadd 1 ((k &&& 2147483647) % 3)
  have r3 := rng32 n
  rw [h] at e3
  have l1 : (1 : Int32).toInt = 1 := by decide
  rw [l1] at e3
  have C : n.toInt = 1 ∨ n.toInt = 2 ∨ n.toInt = 3 := by omega
  rcases C with C | C | C
  · exact Or.inl (Int32.toInt_inj.mp (by rw [C]; decide))
  · exact Or.inr (Or.inl (Int32.toInt_inj.mp (by rw [C]; decide)))
  · exact Or.inr (Or.inr (Int32.toInt_inj.mp (by rw [C]; decide)))
theorem d2_0 : decode jdk_30_method_1_code 0 = .ok (.aload_n 0, 1) := by decide +kernel
theorem d2_1 : decode jdk_30_method_1_code 1 = .ok (.invokespecial 1, 3) := by decide +kernel
theorem d2_4 : decode jdk_30_method_1_code 4 = .ok (.return_, 1) := by decide +kernel
theorem own_pf0 : plainFor (⟨"java/lang/Record", "<init>", "()V"⟩ : MethodName) = true := plainFor_of_name (by first | (simp [plainName, overriddenIn]; done) | decide +kernel)
def Q_rm2 (n0 : Nat) (h0 : Heap) (v : Option Value) (h : Heap) (L : List Loc) : Prop := v = none ∧ Fr n0 L ∧ h = h0
theorem ef_rm2 (a : Addr) (m : MethodId) : entryFrame m #[(.ref a)] 1 = mkF m 0 #[.val (.ref a)] [] := by first | (simp [entryFrame, mkF, argsToLocals, Value.category]; done) | rfl
set_option maxRecDepth 65536 in
set_option maxHeartbeats 40000000 in
theorem rm2 (l : Launch) (Z : State) (a0 : Array Value) (hw : ∀ d ∈ tables_1, d.before a0 Z = true) (a : Addr) (h0 : Heap) (n0 : Nat) (Z0 : n0 ≤ h0.size)  :
    MetFree l (⟨"java/lang/Record", "<init>", "()V"⟩ : MethodName) (head1 [Jvm.Cond.code (⟨"java/lang/Record", "<init>", "()V"⟩ : MethodName) jdk_30_method_1_code 1 none] ({ frames := 1, cells := 0, slots := 0, locals := 12 } : Room)) (fun as_ U => as_ = #[(.ref a)] ∧ Z.Warmed39 U.vm ∧ U.heap = h0) (fun _ _ _ _ _ => True) (fun _ U o U' => ∃ v L, o = .returned v ∧ Q_rm2 n0 h0 v U'.heap L ∧ FrameEnd U o U' L ({ frames := 1, cells := 0, slots := 0, locals := 12 } : Room).cells ({ frames := 1, cells := 0, slots := 0, locals := 12 } : Room).slots) := by
  refine own_met own_pf0 (ef_rm2 a) ?_
  intro p e s m below meth c T0 X0 hx hby hml hret hlk hnm hown hZ e0
  have N0 := Fr.nil n0
  refine g_aloadN X0 hx 1 (hb hby d2_0) rfl rfl rfl ?_
  refine g_objinit X0 hx hZ hown (hw _ (List.mem_of_getElem? (i := 13) rfl)) (hw _ (List.mem_of_getElem? (i := 14) rfl)) (hw _ (List.mem_of_getElem? (i := 15) rfl)) e0 0 4 (hb hby d2_1) rfl (by rw [hml]; rfl) (by decide) (Nat.le_refl _) (by decide) ?_
  intro T1 X1 e1
  exact g_retV X1 hx hlk hret (hb hby d2_4) (by decide) (by decide) e1 ⟨rfl, N0, rfl⟩
theorem d1_0 : decode prog_42_method_1_code 0 = .ok (.aload_n 0, 1) := by decide +kernel
theorem d1_1 : decode prog_42_method_1_code 1 = .ok (.invokespecial 1, 3) := by decide +kernel
theorem d1_4 : decode prog_42_method_1_code 4 = .ok (.aload_n 0, 1) := by decide +kernel
theorem d1_5 : decode prog_42_method_1_code 5 = .ok (.aload_n 1, 1) := by decide +kernel
theorem d1_6 : decode prog_42_method_1_code 6 = .ok (.putfield 7, 3) := by decide +kernel
theorem d1_9 : decode prog_42_method_1_code 9 = .ok (.aload_n 0, 1) := by decide +kernel
theorem d1_10 : decode prog_42_method_1_code 10 = .ok (.aload_n 2, 1) := by decide +kernel
theorem d1_11 : decode prog_42_method_1_code 11 = .ok (.putfield 13, 3) := by decide +kernel
theorem d1_14 : decode prog_42_method_1_code 14 = .ok (.return_, 1) := by decide +kernel
theorem own_pf1 : plainFor (⟨"com/example/neaplight/neaplight/Route", "<init>", "([I[I)V"⟩ : MethodName) = true := plainFor_of_name (by first | (simp [plainName, overriddenIn]; done) | decide +kernel)
def Q_rm1 (a : Addr) (n0 : Nat) (h0 : Heap) (v : Option Value) (h : Heap) (L : List Loc) : Prop := v = none ∧ Fr n0 L ∧ Keep h0 h [a]
theorem ef_rm1 (a b d : Addr) (m : MethodId) : entryFrame m #[(.ref a), (.ref b), (.ref d)] 3 = mkF m 0 #[.val (.ref a), .val (.ref b), .val (.ref d)] [] := by first | (simp [entryFrame, mkF, argsToLocals, Value.category]; done) | rfl
set_option maxRecDepth 65536 in
set_option maxHeartbeats 40000000 in
theorem rm1 (l : Launch) (Z : State) (a0 : Array Value) (hw : ∀ d ∈ tables_1, d.before a0 Z = true) (a b d : Addr) (h0 : Heap) (n0 : Nat) (Z0 : n0 ≤ h0.size) (Ea : Exa Z h0 a "com/example/neaplight/neaplight/Route") (ga : n0 ≤ a) (F1 : Fld Z h0 a "com/example/neaplight/neaplight/Route" "nodes" "[I" .null) (F2 : Fld Z h0 a "com/example/neaplight/neaplight/Route" "links" "[I" .null) :
    MetFree l (⟨"com/example/neaplight/neaplight/Route", "<init>", "([I[I)V"⟩ : MethodName) (head1 [Jvm.Cond.code (⟨"com/example/neaplight/neaplight/Route", "<init>", "([I[I)V"⟩ : MethodName) prog_42_method_1_code 3 none] ({ frames := 2, cells := 0, slots := 0, locals := 24 } : Room)) (fun as_ U => as_ = #[(.ref a), (.ref b), (.ref d)] ∧ Z.Warmed39 U.vm ∧ U.heap = h0) (fun _ _ _ _ _ => True) (fun _ U o U' => ∃ v L, o = .returned v ∧ Q_rm1 a n0 h0 v U'.heap L ∧ FrameEnd U o U' L ({ frames := 2, cells := 0, slots := 0, locals := 24 } : Room).cells ({ frames := 2, cells := 0, slots := 0, locals := 24 } : Room).slots) := by
  refine own_met own_pf1 (ef_rm1 a b d) ?_
  intro p e s m below meth c T0 X0 hx hby hml hret hlk hnm hown hZ e0
  have N0 := Fr.nil n0
  refine g_aloadN X0 hx 1 (hb hby d1_0) rfl rfl rfl ?_
  refine g_init X0 hx hZ rfl hown (hw _ (List.mem_of_getElem? (i := 8) rfl)) (hw _ (List.mem_of_getElem? (i := 9) rfl)) (hw _ (List.mem_of_getElem? (i := 11) rfl)) (hw _ (List.mem_of_getElem? (i := 12) rfl)) (by decide) (rm2 l Z a0 hw a h0 n0 Z0) e0 (a := a) (argsL := []) (rest := []) rfl rfl 0 4 rfl (by rw [hml]; rfl) (lenOf own_pd1 rfl) (Nat.le_refl _) (by decide) (by decide) (by decide) (by decide) (hb hby d1_1) ?_
  intro v2 T2 L2 X2 hQ2
  obtain ⟨rfl, N2, q2⟩ := hQ2
  have N3 := Fr.app N0 N2
  show Go p e below _ T2 (mkF m 4 #[.val (.ref a), .val (.ref b), .val (.ref d)] [])
  refine g_aloadN X2 hx 5 (hb hby d1_4) rfl rfl rfl ?_
  refine g_aloadN X2 hx 6 (hb hby d1_5) rfl rfl rfl ?_
  refine g_putF X2 hx hZ hown (hw _ (List.mem_of_getElem? (i := 16) rfl)) Via.refl q2 F1 Ea (Or.inr ⟨(hw _ (List.mem_of_getElem? (i := 17) rfl)), rfl, hnm⟩) (hw _ (List.mem_of_getElem? (i := 2) rfl)) (ty := (.array .int)) (by decide) rfl rfl 9 (hb hby d1_6) rfl ?_
  intro T4 h4 X4 e4 W4
  have F5 : Fld Z h4 a "com/example/neaplight/neaplight/Route" "nodes" "[I" (.ref b) := F1.same W4
  have F6 := Ea.wr W4
  have F7 := F2.other W4 (Or.inr (slot_ne (Or.inr (hw _ (List.mem_of_getElem? (i := 19) rfl))) (Or.inr (hw _ (List.mem_of_getElem? (i := 17) rfl))) (by decide) (t := (.array .int)) (t' := (.array .int)) (by decide) (by decide)))
  have K8 := (Keep.refl h0 [a]).wr W4 (Or.inl (List.mem_of_getElem? (i := 0) rfl))
  have N9 := Fr.snoc X4 N3 ga
  have Z10 : n0 ≤ h4.size := by rw [W4.size]; exact Z0
  refine g_aloadN X4 hx 10 (hb hby d1_9) rfl rfl rfl ?_
  refine g_aloadN X4 hx 11 (hb hby d1_10) rfl rfl rfl ?_
  refine g_putF X4 hx hZ hown (hw _ (List.mem_of_getElem? (i := 18) rfl)) Via.refl e4 F7 F6 (Or.inr ⟨(hw _ (List.mem_of_getElem? (i := 19) rfl)), rfl, hnm⟩) (hw _ (List.mem_of_getElem? (i := 2) rfl)) (ty := (.array .int)) (by decide) rfl rfl 14 (hb hby d1_11) rfl ?_
  intro T11 h11 X11 e11 W11
  have F12 : Fld Z h11 a "com/example/neaplight/neaplight/Route" "links" "[I" (.ref d) := F7.same W11
  have F13 := F6.wr W11
  have F14 := F5.other W11 (Or.inr (slot_ne (Or.inr (hw _ (List.mem_of_getElem? (i := 17) rfl))) (Or.inr (hw _ (List.mem_of_getElem? (i := 19) rfl))) (by decide) (t := (.array .int)) (t' := (.array .int)) (by decide) (by decide)))
  have K15 := K8.wr W11 (Or.inl (List.mem_of_getElem? (i := 0) rfl))
  have N16 := Fr.snoc X11 N9 ga
  have Z17 : n0 ≤ h11.size := by rw [W11.size]; exact Z10
  exact g_retV X11 hx hlk hret (hb hby d1_14) (by decide) (by decide) e11 ⟨rfl, N16, K15⟩
theorem d4_0 : decode prog_24_method_1_code 0 = .ok (.aload_n 0, 1) := by decide +kernel
theorem d4_1 : decode prog_24_method_1_code 1 = .ok (.invokespecial 1, 3) := by decide +kernel
theorem d4_4 : decode prog_24_method_1_code 4 = .ok (.aload_n 0, 1) := by decide +kernel
theorem d4_5 : decode prog_24_method_1_code 5 = .ok (.aload_n 1, 1) := by decide +kernel
theorem d4_6 : decode prog_24_method_1_code 6 = .ok (.putfield 7, 3) := by decide +kernel
theorem d4_9 : decode prog_24_method_1_code 9 = .ok (.aload_n 0, 1) := by decide +kernel
theorem d4_10 : decode prog_24_method_1_code 10 = .ok (.iload_n 2, 1) := by decide +kernel
theorem d4_11 : decode prog_24_method_1_code 11 = .ok (.putfield 13, 3) := by decide +kernel
theorem d4_14 : decode prog_24_method_1_code 14 = .ok (.aload_n 0, 1) := by decide +kernel
theorem d4_15 : decode prog_24_method_1_code 15 = .ok (.iload_n 3, 1) := by decide +kernel
theorem d4_16 : decode prog_24_method_1_code 16 = .ok (.putfield 17, 3) := by decide +kernel
theorem d4_19 : decode prog_24_method_1_code 19 = .ok (.aload_n 0, 1) := by decide +kernel
theorem d4_20 : decode prog_24_method_1_code 20 = .ok (.lload 4, 2) := by decide +kernel
theorem d4_22 : decode prog_24_method_1_code 22 = .ok (.putfield 20, 3) := by decide +kernel
theorem d4_25 : decode prog_24_method_1_code 25 = .ok (.aload_n 0, 1) := by decide +kernel
theorem d4_26 : decode prog_24_method_1_code 26 = .ok (.dload 6, 2) := by decide +kernel
theorem d4_28 : decode prog_24_method_1_code 28 = .ok (.putfield 24, 3) := by decide +kernel
theorem d4_31 : decode prog_24_method_1_code 31 = .ok (.aload_n 0, 1) := by decide +kernel
theorem d4_32 : decode prog_24_method_1_code 32 = .ok (.dload 6, 2) := by decide +kernel
theorem d4_34 : decode prog_24_method_1_code 34 = .ok (.putfield 28, 3) := by decide +kernel
theorem d4_37 : decode prog_24_method_1_code 37 = .ok (.return_, 1) := by decide +kernel
theorem own_pf2 : plainFor (⟨"com/example/neaplight/neaplight/Lightpath", "<init>", "(Lcom/example/neaplight/neaplight/Route;IIJD)V"⟩ : MethodName) = true := plainFor_of_name (by first | (simp [plainName, overriddenIn]; done) | decide +kernel)
def Q_rm4 (Z : State) (a : Addr) (su : UInt64) (n0 : Nat) (h0 : Heap) (v : Option Value) (h : Heap) (L : List Loc) : Prop := v = none ∧ Fr n0 L ∧ Keep h0 h [a] ∧ Fld Z h a "com/example/neaplight/neaplight/Lightpath" "lastDeparture" "D" (.double su) ∧ Fld Z h a "com/example/neaplight/neaplight/Lightpath" "load" "D" (.double 0) ∧ Fld Z h a "com/example/neaplight/neaplight/Lightpath" "carried" "I" (.int 0)
theorem ef_rm4 (a b : Addr) (ch wi : Int32) (od : Int64) (su : UInt64) (m : MethodId) : entryFrame m #[(.ref a), (.ref b), (.int ch), (.int wi), (.long od), (.double su)] 8 = mkF m 0 #[.val (.ref a), .val (.ref b), .val (.int ch), .val (.int wi), .val (.long od), .second, .val (.double su), .second] [] := by first | (simp [entryFrame, mkF, argsToLocals, Value.category]; done) | rfl
set_option maxRecDepth 65536 in
set_option maxHeartbeats 40000000 in
theorem rm4 (l : Launch) (Z : State) (a0 : Array Value) (hw : ∀ d ∈ tables_1, d.before a0 Z = true) (a b : Addr) (ch wi : Int32) (od : Int64) (su : UInt64) (h0 : Heap) (n0 : Nat) (Z0 : n0 ≤ h0.size) (Ea : Exa Z h0 a "com/example/neaplight/neaplight/Lightpath") (ga : n0 ≤ a) (F_route : Fld Z h0 a "com/example/neaplight/neaplight/Lightpath" "route" "Lcom/example/neaplight/neaplight/Route;" .null) (F_channel : Fld Z h0 a "com/example/neaplight/neaplight/Lightpath" "channel" "I" (.int (0 : Int32))) (F_width : Fld Z h0 a "com/example/neaplight/neaplight/Lightpath" "width" "I" (.int (0 : Int32))) (F_order : Fld Z h0 a "com/example/neaplight/neaplight/Lightpath" "order" "J" (.long (0 : Int64))) (F_setUp : Fld Z h0 a "com/example/neaplight/neaplight/Lightpath" "setUp" "D" (.double (0 : UInt64))) (F_lastDeparture : Fld Z h0 a "com/example/neaplight/neaplight/Lightpath" "lastDeparture" "D" (.double (0 : UInt64))) (F_load : Fld Z h0 a "com/example/neaplight/neaplight/Lightpath" "load" "D" (.double (0 : UInt64))) (F_carried : Fld Z h0 a "com/example/neaplight/neaplight/Lightpath" "carried" "I" (.int (0 : Int32))) :
    MetFree l (⟨"com/example/neaplight/neaplight/Lightpath", "<init>", "(Lcom/example/neaplight/neaplight/Route;IIJD)V"⟩ : MethodName) (head1 [Jvm.Cond.code (⟨"com/example/neaplight/neaplight/Lightpath", "<init>", "(Lcom/example/neaplight/neaplight/Route;IIJD)V"⟩ : MethodName) prog_24_method_1_code 8 none] ({ frames := 1, cells := 0, slots := 0, locals := 12 } : Room)) (fun as_ U => as_ = #[(.ref a), (.ref b), (.int ch), (.int wi), (.long od), (.double su)] ∧ Z.Warmed39 U.vm ∧ U.heap = h0) (fun _ _ _ _ _ => True) (fun _ U o U' => ∃ v L, o = .returned v ∧ Q_rm4 Z a su n0 h0 v U'.heap L ∧ FrameEnd U o U' L ({ frames := 1, cells := 0, slots := 0, locals := 12 } : Room).cells ({ frames := 1, cells := 0, slots := 0, locals := 12 } : Room).slots) := by
  refine own_met own_pf2 (ef_rm4 a b ch wi od su) ?_
  intro p e s m below meth c T0 X0 hx hby hml hret hlk hnm hown hZ e0
  have N0 := Fr.nil n0
  refine g_aloadN X0 hx 1 (hb hby d4_0) rfl rfl rfl ?_
  refine g_objinit X0 hx hZ hown (hw _ (List.mem_of_getElem? (i := 26) rfl)) (hw _ (List.mem_of_getElem? (i := 14) rfl)) (hw _ (List.mem_of_getElem? (i := 15) rfl)) e0 0 4 (hb hby d4_1) rfl (by rw [hml]; rfl) (by decide) (Nat.le_refl _) (by decide) ?_
  intro T18 X18 e18
  refine g_aloadN X18 hx 5 (hb hby d4_4) rfl rfl rfl ?_
  refine g_aloadN X18 hx 6 (hb hby d4_5) rfl rfl rfl ?_
  refine g_putF X18 hx hZ hown (hw _ (List.mem_of_getElem? (i := 27) rfl)) Via.refl e18 F_route Ea (Or.inr ⟨(hw _ (List.mem_of_getElem? (i := 28) rfl)), rfl, hnm⟩) (hw _ (List.mem_of_getElem? (i := 21) rfl)) (ty := (.object "com/example/neaplight/neaplight/Route")) (by decide) rfl rfl 9 (hb hby d4_6) rfl ?_
  intro T19 h19 X19 e19 W19
  have F20 : Fld Z h19 a "com/example/neaplight/neaplight/Lightpath" "route" "Lcom/example/neaplight/neaplight/Route;" (.ref b) := F_route.same W19
  have F21 := Ea.wr W19
  have F22 := F_channel.other W19 (Or.inr (slot_ne (Or.inr (hw _ (List.mem_of_getElem? (i := 30) rfl))) (Or.inr (hw _ (List.mem_of_getElem? (i := 28) rfl))) (by decide) (t := .int) (t' := (.object "com/example/neaplight/neaplight/Route")) (by decide) (by decide)))
  have F23 := F_width.other W19 (Or.inr (slot_ne (Or.inr (hw _ (List.mem_of_getElem? (i := 32) rfl))) (Or.inr (hw _ (List.mem_of_getElem? (i := 28) rfl))) (by decide) (t := .int) (t' := (.object "com/example/neaplight/neaplight/Route")) (by decide) (by decide)))
  have F24 := F_order.other W19 (Or.inr (slot_ne (Or.inr (hw _ (List.mem_of_getElem? (i := 34) rfl))) (Or.inr (hw _ (List.mem_of_getElem? (i := 28) rfl))) (by decide) (t := .long) (t' := (.object "com/example/neaplight/neaplight/Route")) (by decide) (by decide)))
  have F25 := F_setUp.other W19 (Or.inr (slot_ne (Or.inr (hw _ (List.mem_of_getElem? (i := 36) rfl))) (Or.inr (hw _ (List.mem_of_getElem? (i := 28) rfl))) (by decide) (t := .double) (t' := (.object "com/example/neaplight/neaplight/Route")) (by decide) (by decide)))
  have F26 := F_lastDeparture.other W19 (Or.inr (slot_ne (Or.inl (hw _ (List.mem_of_getElem? (i := 38) rfl))) (Or.inr (hw _ (List.mem_of_getElem? (i := 28) rfl))) (by decide) (t := .double) (t' := (.object "com/example/neaplight/neaplight/Route")) (by decide) (by decide)))
  have F27 := F_load.other W19 (Or.inr (slot_ne (Or.inl (hw _ (List.mem_of_getElem? (i := 45) rfl))) (Or.inr (hw _ (List.mem_of_getElem? (i := 28) rfl))) (by decide) (t := .double) (t' := (.object "com/example/neaplight/neaplight/Route")) (by decide) (by decide)))
  have F28 := F_carried.other W19 (Or.inr (slot_ne (Or.inl (hw _ (List.mem_of_getElem? (i := 47) rfl))) (Or.inr (hw _ (List.mem_of_getElem? (i := 28) rfl))) (by decide) (t := .int) (t' := (.object "com/example/neaplight/neaplight/Route")) (by decide) (by decide)))
  have K29 := (Keep.refl h0 [a]).wr W19 (Or.inl (List.mem_of_getElem? (i := 0) rfl))
  have N30 := Fr.snoc X19 N0 ga
  have Z31 : n0 ≤ h19.size := by rw [W19.size]; exact Z0
  refine g_aloadN X19 hx 10 (hb hby d4_9) rfl rfl rfl ?_
  refine g_iloadN X19 hx 11 (hb hby d4_10) rfl rfl ?_
  refine g_putF X19 hx hZ hown (hw _ (List.mem_of_getElem? (i := 29) rfl)) Via.refl e19 F22 F21 (Or.inr ⟨(hw _ (List.mem_of_getElem? (i := 30) rfl)), rfl, hnm⟩) (hw _ (List.mem_of_getElem? (i := 21) rfl)) (ty := .int) (by decide) rfl rfl 14 (hb hby d4_11) rfl ?_
  intro T32 h32 X32 e32 W32
  have F33 : Fld Z h32 a "com/example/neaplight/neaplight/Lightpath" "channel" "I" (.int ch) := F22.same W32
  have F34 := F21.wr W32
  have F35 := F23.other W32 (Or.inr (slot_ne (Or.inr (hw _ (List.mem_of_getElem? (i := 32) rfl))) (Or.inr (hw _ (List.mem_of_getElem? (i := 30) rfl))) (by decide) (t := .int) (t' := .int) (by decide) (by decide)))
  have F36 := F24.other W32 (Or.inr (slot_ne (Or.inr (hw _ (List.mem_of_getElem? (i := 34) rfl))) (Or.inr (hw _ (List.mem_of_getElem? (i := 30) rfl))) (by decide) (t := .long) (t' := .int) (by decide) (by decide)))
  have F37 := F25.other W32 (Or.inr (slot_ne (Or.inr (hw _ (List.mem_of_getElem? (i := 36) rfl))) (Or.inr (hw _ (List.mem_of_getElem? (i := 30) rfl))) (by decide) (t := .double) (t' := .int) (by decide) (by decide)))
  have F38 := F26.other W32 (Or.inr (slot_ne (Or.inl (hw _ (List.mem_of_getElem? (i := 38) rfl))) (Or.inr (hw _ (List.mem_of_getElem? (i := 30) rfl))) (by decide) (t := .double) (t' := .int) (by decide) (by decide)))
  have F39 := F27.other W32 (Or.inr (slot_ne (Or.inl (hw _ (List.mem_of_getElem? (i := 45) rfl))) (Or.inr (hw _ (List.mem_of_getElem? (i := 30) rfl))) (by decide) (t := .double) (t' := .int) (by decide) (by decide)))
  have F40 := F28.other W32 (Or.inr (slot_ne (Or.inl (hw _ (List.mem_of_getElem? (i := 47) rfl))) (Or.inr (hw _ (List.mem_of_getElem? (i := 30) rfl))) (by decide) (t := .int) (t' := .int) (by decide) (by decide)))
  have F41 := F20.other W32 (Or.inr (slot_ne (Or.inr (hw _ (List.mem_of_getElem? (i := 28) rfl))) (Or.inr (hw _ (List.mem_of_getElem? (i := 30) rfl))) (by decide) (t := (.object "com/example/neaplight/neaplight/Route")) (t' := .int) (by decide) (by decide)))
  have K42 := K29.wr W32 (Or.inl (List.mem_of_getElem? (i := 0) rfl))
  have N43 := Fr.snoc X32 N30 ga
  have Z44 : n0 ≤ h32.size := by rw [W32.size]; exact Z31
  refine g_aloadN X32 hx 15 (hb hby d4_14) rfl rfl rfl ?_
  refine g_iloadN X32 hx 16 (hb hby d4_15) rfl rfl ?_
  refine g_putF X32 hx hZ hown (hw _ (List.mem_of_getElem? (i := 31) rfl)) Via.refl e32 F35 F34 (Or.inr ⟨(hw _ (List.mem_of_getElem? (i := 32) rfl)), rfl, hnm⟩) (hw _ (List.mem_of_getElem? (i := 21) rfl)) (ty := .int) (by decide) rfl rfl 19 (hb hby d4_16) rfl ?_
  intro T45 h45 X45 e45 W45
  have F46 : Fld Z h45 a "com/example/neaplight/neaplight/Lightpath" "width" "I" (.int wi) := F35.same W45
  have F47 := F34.wr W45
  have F48 := F36.other W45 (Or.inr (slot_ne (Or.inr (hw _ (List.mem_of_getElem? (i := 34) rfl))) (Or.inr (hw _ (List.mem_of_getElem? (i := 32) rfl))) (by decide) (t := .long) (t' := .int) (by decide) (by decide)))
  have F49 := F37.other W45 (Or.inr (slot_ne (Or.inr (hw _ (List.mem_of_getElem? (i := 36) rfl))) (Or.inr (hw _ (List.mem_of_getElem? (i := 32) rfl))) (by decide) (t := .double) (t' := .int) (by decide) (by decide)))
  have F50 := F38.other W45 (Or.inr (slot_ne (Or.inl (hw _ (List.mem_of_getElem? (i := 38) rfl))) (Or.inr (hw _ (List.mem_of_getElem? (i := 32) rfl))) (by decide) (t := .double) (t' := .int) (by decide) (by decide)))
  have F51 := F39.other W45 (Or.inr (slot_ne (Or.inl (hw _ (List.mem_of_getElem? (i := 45) rfl))) (Or.inr (hw _ (List.mem_of_getElem? (i := 32) rfl))) (by decide) (t := .double) (t' := .int) (by decide) (by decide)))
  have F52 := F40.other W45 (Or.inr (slot_ne (Or.inl (hw _ (List.mem_of_getElem? (i := 47) rfl))) (Or.inr (hw _ (List.mem_of_getElem? (i := 32) rfl))) (by decide) (t := .int) (t' := .int) (by decide) (by decide)))
  have F53 := F41.other W45 (Or.inr (slot_ne (Or.inr (hw _ (List.mem_of_getElem? (i := 28) rfl))) (Or.inr (hw _ (List.mem_of_getElem? (i := 32) rfl))) (by decide) (t := (.object "com/example/neaplight/neaplight/Route")) (t' := .int) (by decide) (by decide)))
  have F54 := F33.other W45 (Or.inr (slot_ne (Or.inr (hw _ (List.mem_of_getElem? (i := 30) rfl))) (Or.inr (hw _ (List.mem_of_getElem? (i := 32) rfl))) (by decide) (t := .int) (t' := .int) (by decide) (by decide)))
  have K55 := K42.wr W45 (Or.inl (List.mem_of_getElem? (i := 0) rfl))
  have N56 := Fr.snoc X45 N43 ga
  have Z57 : n0 ≤ h45.size := by rw [W45.size]; exact Z44
  refine g_aloadN X45 hx 20 (hb hby d4_19) rfl rfl rfl ?_
  refine g_lload X45 hx 22 (hb hby d4_20) rfl rfl ?_
  refine g_putF X45 hx hZ hown (hw _ (List.mem_of_getElem? (i := 33) rfl)) Via.refl e45 F48 F47 (Or.inr ⟨(hw _ (List.mem_of_getElem? (i := 34) rfl)), rfl, hnm⟩) (hw _ (List.mem_of_getElem? (i := 21) rfl)) (ty := .long) (by decide) rfl rfl 25 (hb hby d4_22) rfl ?_
  intro T58 h58 X58 e58 W58
  have F59 : Fld Z h58 a "com/example/neaplight/neaplight/Lightpath" "order" "J" (.long od) := F48.same W58
  have F60 := F47.wr W58
  have F61 := F49.other W58 (Or.inr (slot_ne (Or.inr (hw _ (List.mem_of_getElem? (i := 36) rfl))) (Or.inr (hw _ (List.mem_of_getElem? (i := 34) rfl))) (by decide) (t := .double) (t' := .long) (by decide) (by decide)))
  have F62 := F50.other W58 (Or.inr (slot_ne (Or.inl (hw _ (List.mem_of_getElem? (i := 38) rfl))) (Or.inr (hw _ (List.mem_of_getElem? (i := 34) rfl))) (by decide) (t := .double) (t' := .long) (by decide) (by decide)))
  have F63 := F51.other W58 (Or.inr (slot_ne (Or.inl (hw _ (List.mem_of_getElem? (i := 45) rfl))) (Or.inr (hw _ (List.mem_of_getElem? (i := 34) rfl))) (by decide) (t := .double) (t' := .long) (by decide) (by decide)))
  have F64 := F52.other W58 (Or.inr (slot_ne (Or.inl (hw _ (List.mem_of_getElem? (i := 47) rfl))) (Or.inr (hw _ (List.mem_of_getElem? (i := 34) rfl))) (by decide) (t := .int) (t' := .long) (by decide) (by decide)))
  have F65 := F53.other W58 (Or.inr (slot_ne (Or.inr (hw _ (List.mem_of_getElem? (i := 28) rfl))) (Or.inr (hw _ (List.mem_of_getElem? (i := 34) rfl))) (by decide) (t := (.object "com/example/neaplight/neaplight/Route")) (t' := .long) (by decide) (by decide)))
  have F66 := F54.other W58 (Or.inr (slot_ne (Or.inr (hw _ (List.mem_of_getElem? (i := 30) rfl))) (Or.inr (hw _ (List.mem_of_getElem? (i := 34) rfl))) (by decide) (t := .int) (t' := .long) (by decide) (by decide)))
  have F67 := F46.other W58 (Or.inr (slot_ne (Or.inr (hw _ (List.mem_of_getElem? (i := 32) rfl))) (Or.inr (hw _ (List.mem_of_getElem? (i := 34) rfl))) (by decide) (t := .int) (t' := .long) (by decide) (by decide)))
  have K68 := K55.wr W58 (Or.inl (List.mem_of_getElem? (i := 0) rfl))
  have N69 := Fr.snoc X58 N56 ga
  have Z70 : n0 ≤ h58.size := by rw [W58.size]; exact Z57
  refine g_aloadN X58 hx 26 (hb hby d4_25) rfl rfl rfl ?_
  refine g_dload X58 hx 28 (hb hby d4_26) rfl rfl ?_
  refine g_putF X58 hx hZ hown (hw _ (List.mem_of_getElem? (i := 35) rfl)) Via.refl e58 F61 F60 (Or.inr ⟨(hw _ (List.mem_of_getElem? (i := 36) rfl)), rfl, hnm⟩) (hw _ (List.mem_of_getElem? (i := 21) rfl)) (ty := .double) (by decide) rfl rfl 31 (hb hby d4_28) rfl ?_
  intro T71 h71 X71 e71 W71
  have F72 : Fld Z h71 a "com/example/neaplight/neaplight/Lightpath" "setUp" "D" (.double su) := F61.same W71
  have F73 := F60.wr W71
  have F74 := F62.other W71 (Or.inr (slot_ne (Or.inl (hw _ (List.mem_of_getElem? (i := 38) rfl))) (Or.inr (hw _ (List.mem_of_getElem? (i := 36) rfl))) (by decide) (t := .double) (t' := .double) (by decide) (by decide)))
  have F75 := F63.other W71 (Or.inr (slot_ne (Or.inl (hw _ (List.mem_of_getElem? (i := 45) rfl))) (Or.inr (hw _ (List.mem_of_getElem? (i := 36) rfl))) (by decide) (t := .double) (t' := .double) (by decide) (by decide)))
  have F76 := F64.other W71 (Or.inr (slot_ne (Or.inl (hw _ (List.mem_of_getElem? (i := 47) rfl))) (Or.inr (hw _ (List.mem_of_getElem? (i := 36) rfl))) (by decide) (t := .int) (t' := .double) (by decide) (by decide)))
  have F77 := F65.other W71 (Or.inr (slot_ne (Or.inr (hw _ (List.mem_of_getElem? (i := 28) rfl))) (Or.inr (hw _ (List.mem_of_getElem? (i := 36) rfl))) (by decide) (t := (.object "com/example/neaplight/neaplight/Route")) (t' := .double) (by decide) (by decide)))
  have F78 := F66.other W71 (Or.inr (slot_ne (Or.inr (hw _ (List.mem_of_getElem? (i := 30) rfl))) (Or.inr (hw _ (List.mem_of_getElem? (i := 36) rfl))) (by decide) (t := .int) (t' := .double) (by decide) (by decide)))
  have F79 := F67.other W71 (Or.inr (slot_ne (Or.inr (hw _ (List.mem_of_getElem? (i := 32) rfl))) (Or.inr (hw _ (List.mem_of_getElem? (i := 36) rfl))) (by decide) (t := .int) (t' := .double) (by decide) (by decide)))
  have F80 := F59.other W71 (Or.inr (slot_ne (Or.inr (hw _ (List.mem_of_getElem? (i := 34) rfl))) (Or.inr (hw _ (List.mem_of_getElem? (i := 36) rfl))) (by decide) (t := .long) (t' := .double) (by decide) (by decide)))
  have K81 := K68.wr W71 (Or.inl (List.mem_of_getElem? (i := 0) rfl))
  have N82 := Fr.snoc X71 N69 ga
  have Z83 : n0 ≤ h71.size := by rw [W71.size]; exact Z70
  refine g_aloadN X71 hx 32 (hb hby d4_31) rfl rfl rfl ?_
  refine g_dload X71 hx 34 (hb hby d4_32) rfl rfl ?_
  refine g_putF X71 hx hZ hown (hw _ (List.mem_of_getElem? (i := 37) rfl)) Via.refl e71 F74 F73 (Or.inl (hw _ (List.mem_of_getElem? (i := 38) rfl))) (hw _ (List.mem_of_getElem? (i := 21) rfl)) (ty := .double) (by decide) rfl rfl 37 (hb hby d4_34) rfl ?_
  intro T84 h84 X84 e84 W84
  have F85 : Fld Z h84 a "com/example/neaplight/neaplight/Lightpath" "lastDeparture" "D" (.double su) := F74.same W84
  have F86 := F73.wr W84
  have F87 := F75.other W84 (Or.inr (slot_ne (Or.inl (hw _ (List.mem_of_getElem? (i := 45) rfl))) (Or.inl (hw _ (List.mem_of_getElem? (i := 38) rfl))) (by decide) (t := .double) (t' := .double) (by decide) (by decide)))
  have F88 := F76.other W84 (Or.inr (slot_ne (Or.inl (hw _ (List.mem_of_getElem? (i := 47) rfl))) (Or.inl (hw _ (List.mem_of_getElem? (i := 38) rfl))) (by decide) (t := .int) (t' := .double) (by decide) (by decide)))
  have F89 := F77.other W84 (Or.inr (slot_ne (Or.inr (hw _ (List.mem_of_getElem? (i := 28) rfl))) (Or.inl (hw _ (List.mem_of_getElem? (i := 38) rfl))) (by decide) (t := (.object "com/example/neaplight/neaplight/Route")) (t' := .double) (by decide) (by decide)))
  have F90 := F78.other W84 (Or.inr (slot_ne (Or.inr (hw _ (List.mem_of_getElem? (i := 30) rfl))) (Or.inl (hw _ (List.mem_of_getElem? (i := 38) rfl))) (by decide) (t := .int) (t' := .double) (by decide) (by decide)))
  have F91 := F79.other W84 (Or.inr (slot_ne (Or.inr (hw _ (List.mem_of_getElem? (i := 32) rfl))) (Or.inl (hw _ (List.mem_of_getElem? (i := 38) rfl))) (by decide) (t := .int) (t' := .double) (by decide) (by decide)))
  have F92 := F80.other W84 (Or.inr (slot_ne (Or.inr (hw _ (List.mem_of_getElem? (i := 34) rfl))) (Or.inl (hw _ (List.mem_of_getElem? (i := 38) rfl))) (by decide) (t := .long) (t' := .double) (by decide) (by decide)))
  have F93 := F72.other W84 (Or.inr (slot_ne (Or.inr (hw _ (List.mem_of_getElem? (i := 36) rfl))) (Or.inl (hw _ (List.mem_of_getElem? (i := 38) rfl))) (by decide) (t := .double) (t' := .double) (by decide) (by decide)))
  have K94 := K81.wr W84 (Or.inl (List.mem_of_getElem? (i := 0) rfl))
  have N95 := Fr.snoc X84 N82 ga
  have Z96 : n0 ≤ h84.size := by rw [W84.size]; exact Z83
  exact g_retV X84 hx hlk hret (hb hby d4_37) (by decide) (by decide) e84 ⟨rfl, N95, K94, F85, F87, F88⟩
theorem d5_0 : decode prog_24_method_11_code 0 = .ok (.aload_n 0, 1) := by decide +kernel
theorem d5_1 : decode prog_24_method_11_code 1 = .ok (.dup, 1) := by decide +kernel
theorem d5_2 : decode prog_24_method_11_code 2 = .ok (.getfield 31, 3) := by decide +kernel
theorem d5_5 : decode prog_24_method_11_code 5 = .ok (.dload_n 1, 1) := by decide +kernel
theorem d5_6 : decode prog_24_method_11_code 6 = .ok (.dadd, 1) := by decide +kernel
theorem d5_7 : decode prog_24_method_11_code 7 = .ok (.putfield 31, 3) := by decide +kernel
theorem d5_10 : decode prog_24_method_11_code 10 = .ok (.aload_n 0, 1) := by decide +kernel
theorem d5_11 : decode prog_24_method_11_code 11 = .ok (.dup, 1) := by decide +kernel
theorem d5_12 : decode prog_24_method_11_code 12 = .ok (.getfield 40, 3) := by decide +kernel
theorem d5_15 : decode prog_24_method_11_code 15 = .ok (.iconst 1, 1) := by decide +kernel
theorem d5_16 : decode prog_24_method_11_code 16 = .ok (.iadd, 1) := by decide +kernel
theorem d5_17 : decode prog_24_method_11_code 17 = .ok (.putfield 40, 3) := by decide +kernel
theorem d5_20 : decode prog_24_method_11_code 20 = .ok (.aload_n 0, 1) := by decide +kernel
theorem d5_21 : decode prog_24_method_11_code 21 = .ok (.aload_n 0, 1) := by decide +kernel
theorem d5_22 : decode prog_24_method_11_code 22 = .ok (.getfield 28, 3) := by decide +kernel
theorem d5_25 : decode prog_24_method_11_code 25 = .ok (.dload_n 3, 1) := by decide +kernel
theorem d5_26 : decode prog_24_method_11_code 26 = .ok (.invokestatic 43, 3) := by decide +kernel
theorem d5_29 : decode prog_24_method_11_code 29 = .ok (.putfield 28, 3) := by decide +kernel
theorem d5_32 : decode prog_24_method_11_code 32 = .ok (.return_, 1) := by decide +kernel
theorem own_pf3 : plainFor (⟨"com/example/neaplight/neaplight/Lightpath", "carry", "(DD)V"⟩ : MethodName) = true := plainFor_of_name (by first | (simp [plainName, overriddenIn]; done) | decide +kernel)
def Q_rm5 (Z : State) (a : Addr) (bw l0 : UInt64) (c0 : Int32) (n0 : Nat) (h0 : Heap) (v : Option Value) (h : Heap) (L : List Loc) : Prop := v = none ∧ Fr n0 L ∧ Keep h0 h [a] ∧ Fld Z h a "com/example/neaplight/neaplight/Lightpath" "load" "D" (.double (FP.dadd l0 bw)) ∧ Fld Z h a "com/example/neaplight/neaplight/Lightpath" "carried" "I" (.int (c0 + 1)) ∧ ∃ d1, Fld Z h a "com/example/neaplight/neaplight/Lightpath" "lastDeparture" "D" (.double d1) ∧ ∃ i, Jvm.FP.Core.DInt i d1
theorem ef_rm5 (a : Addr) (bw dp : UInt64) (m : MethodId) : entryFrame m #[(.ref a), (.double bw), (.double dp)] 5 = mkF m 0 #[.val (.ref a), .val (.double bw), .second, .val (.double dp), .second] [] := by first | (simp [entryFrame, mkF, argsToLocals, Value.category]; done) | rfl
set_option maxRecDepth 65536 in
set_option maxHeartbeats 40000000 in
theorem rm5 (l : Launch) (Z : State) (a0 : Array Value) (hw : ∀ d ∈ tables_1, d.before a0 Z = true) (a : Addr) (bw dp : UInt64) (h0 : Heap) (n0 : Nat) (Z0 : n0 ≤ h0.size) (l0 : UInt64) (c0 : Int32) (d0 : UInt64) (Ea : Exa Z h0 a "com/example/neaplight/neaplight/Lightpath") (ga : n0 ≤ a) (F_load : Fld Z h0 a "com/example/neaplight/neaplight/Lightpath" "load" "D" (.double l0)) (F_carried : Fld Z h0 a "com/example/neaplight/neaplight/Lightpath" "carried" "I" (.int c0)) (F_lastDeparture : Fld Z h0 a "com/example/neaplight/neaplight/Lightpath" "lastDeparture" "D" (.double d0)) (nl : Jvm.Free.Fl.NoNaN64 (FP.dadd l0 bw)) (id ip : Int) (hd0 : Jvm.FP.Core.DInt id d0) (hdp : Jvm.FP.Core.DInt ip dp) :
    MetFree l (⟨"com/example/neaplight/neaplight/Lightpath", "carry", "(DD)V"⟩ : MethodName) (head1 [Jvm.Cond.code (⟨"com/example/neaplight/neaplight/Lightpath", "carry", "(DD)V"⟩ : MethodName) prog_24_method_11_code 5 none] ({ frames := 1, cells := 0, slots := 0, locals := 18 } : Room)) (fun as_ U => as_ = #[(.ref a), (.double bw), (.double dp)] ∧ Z.Warmed39 U.vm ∧ U.heap = h0) (fun _ _ _ _ _ => True) (fun _ U o U' => ∃ v L, o = .returned v ∧ Q_rm5 Z a bw l0 c0 n0 h0 v U'.heap L ∧ FrameEnd U o U' L ({ frames := 1, cells := 0, slots := 0, locals := 18 } : Room).cells ({ frames := 1, cells := 0, slots := 0, locals := 18 } : Room).slots) := by
  refine own_met own_pf3 (ef_rm5 a bw dp) ?_
  intro p e s m below meth c T0 X0 hx hby hml hret hlk hnm hown hZ e0
  have N0 := Fr.nil n0
  refine g_aloadN X0 hx 1 (hb hby d5_0) rfl rfl rfl ?_
  refine g_dup X0 hx 2 (hb hby d5_1) rfl rfl ?_
  refine g_getF X0 hx hZ hown (hw _ (List.mem_of_getElem? (i := 44) rfl)) Via.refl e0 F_load 5 (hb hby d5_2) rfl ?_
  intro T97 X97 e97
  refine g_dloadN X97 hx 6 (hb hby d5_5) rfl rfl ?_
  refine g_dadd X97 hx 7 (hb hby d5_6) rfl nl ?_
  refine g_putF X97 hx hZ hown (hw _ (List.mem_of_getElem? (i := 44) rfl)) Via.refl e97 F_load Ea (Or.inl (hw _ (List.mem_of_getElem? (i := 45) rfl))) (hw _ (List.mem_of_getElem? (i := 21) rfl)) (ty := .double) (by decide) rfl rfl 10 (hb hby d5_7) rfl ?_
  intro T98 h98 X98 e98 W98
  have F99 : Fld Z h98 a "com/example/neaplight/neaplight/Lightpath" "load" "D" (.double (FP.dadd l0 bw)) := F_load.same W98
  have F100 := Ea.wr W98
  have F101 := F_carried.other W98 (Or.inr (slot_ne (Or.inl (hw _ (List.mem_of_getElem? (i := 47) rfl))) (Or.inl (hw _ (List.mem_of_getElem? (i := 45) rfl))) (by decide) (t := .int) (t' := .double) (by decide) (by decide)))
  have F102 := F_lastDeparture.other W98 (Or.inr (slot_ne (Or.inl (hw _ (List.mem_of_getElem? (i := 38) rfl))) (Or.inl (hw _ (List.mem_of_getElem? (i := 45) rfl))) (by decide) (t := .double) (t' := .double) (by decide) (by decide)))
  have K103 := (Keep.refl h0 [a]).wr W98 (Or.inl (List.mem_of_getElem? (i := 0) rfl))
  have N104 := Fr.snoc X98 N0 ga
  have Z105 : n0 ≤ h98.size := by rw [W98.size]; exact Z0
  refine g_aloadN X98 hx 11 (hb hby d5_10) rfl rfl rfl ?_
  refine g_dup X98 hx 12 (hb hby d5_11) rfl rfl ?_
  refine g_getF X98 hx hZ hown (hw _ (List.mem_of_getElem? (i := 46) rfl)) Via.refl e98 F101 15 (hb hby d5_12) rfl ?_
  intro T106 X106 e106
  refine g_iconst X106 hx (1 : Int32) 16 (hb hby d5_15) rfl (by decide) ?_
  refine g_iadd X106 hx 17 (hb hby d5_16) rfl ?_
  refine g_putF X106 hx hZ hown (hw _ (List.mem_of_getElem? (i := 46) rfl)) Via.refl e106 F101 F100 (Or.inl (hw _ (List.mem_of_getElem? (i := 47) rfl))) (hw _ (List.mem_of_getElem? (i := 21) rfl)) (ty := .int) (by decide) rfl rfl 20 (hb hby d5_17) rfl ?_
  intro T107 h107 X107 e107 W107
  have F108 : Fld Z h107 a "com/example/neaplight/neaplight/Lightpath" "carried" "I" (.int (c0 + (1 : Int32))) := F101.same W107
  have F109 := F100.wr W107
  have F110 := F102.other W107 (Or.inr (slot_ne (Or.inl (hw _ (List.mem_of_getElem? (i := 38) rfl))) (Or.inl (hw _ (List.mem_of_getElem? (i := 47) rfl))) (by decide) (t := .double) (t' := .int) (by decide) (by decide)))
  have F111 := F99.other W107 (Or.inr (slot_ne (Or.inl (hw _ (List.mem_of_getElem? (i := 45) rfl))) (Or.inl (hw _ (List.mem_of_getElem? (i := 47) rfl))) (by decide) (t := .double) (t' := .int) (by decide) (by decide)))
  have K112 := K103.wr W107 (Or.inl (List.mem_of_getElem? (i := 0) rfl))
  have N113 := Fr.snoc X107 N104 ga
  have Z114 : n0 ≤ h107.size := by rw [W107.size]; exact Z105
  refine g_aloadN X107 hx 21 (hb hby d5_20) rfl rfl rfl ?_
  refine g_aloadN X107 hx 22 (hb hby d5_21) rfl rfl rfl ?_
  refine g_getF X107 hx hZ hown (hw _ (List.mem_of_getElem? (i := 37) rfl)) Via.refl e107 F110 25 (hb hby d5_22) rfl ?_
  intro T115 X115 e115
  refine g_dloadN X115 hx 26 (hb hby d5_25) rfl rfl ?_
  refine g_maxD X115 hx hZ hown (hw _ (List.mem_of_getElem? (i := 48) rfl)) (hw _ (List.mem_of_getElem? (i := 49) rfl)) (hw _ (List.mem_of_getElem? (i := 50) rfl)) (hw _ (List.mem_of_getElem? (i := 51) rfl)) rfl e115 (own_dnn hd0) (own_dnn hdp) (r := (Jvm.Native.java_lang_Math.nans.pick64 true d0 dp)) rfl 1 29 (hb hby d5_26) rfl (by rw [hml]; rfl) (Nat.le_refl _) (by decide) (by decide) (by decide) (by decide) own_pd4 ?_
  intro T116 X116 e116
  refine g_putF X116 hx hZ hown (hw _ (List.mem_of_getElem? (i := 37) rfl)) Via.refl e116 F110 F109 (Or.inl (hw _ (List.mem_of_getElem? (i := 38) rfl))) (hw _ (List.mem_of_getElem? (i := 21) rfl)) (ty := .double) (by decide) rfl rfl 32 (hb hby d5_29) rfl ?_
  intro T117 h117 X117 e117 W117
  have F118 : Fld Z h117 a "com/example/neaplight/neaplight/Lightpath" "lastDeparture" "D" (.double (Jvm.Native.java_lang_Math.nans.pick64 true d0 dp)) := F110.same W117
  have F119 := F109.wr W117
  have F120 := F111.other W117 (Or.inr (slot_ne (Or.inl (hw _ (List.mem_of_getElem? (i := 45) rfl))) (Or.inl (hw _ (List.mem_of_getElem? (i := 38) rfl))) (by decide) (t := .double) (t' := .double) (by decide) (by decide)))
  have F121 := F108.other W117 (Or.inr (slot_ne (Or.inl (hw _ (List.mem_of_getElem? (i := 47) rfl))) (Or.inl (hw _ (List.mem_of_getElem? (i := 38) rfl))) (by decide) (t := .int) (t' := .double) (by decide) (by decide)))
  have K122 := K112.wr W117 (Or.inl (List.mem_of_getElem? (i := 0) rfl))
  have N123 := Fr.snoc X117 N113 ga
  have Z124 : n0 ≤ h117.size := by rw [W117.size]; exact Z114
  exact g_retV X117 hx hlk hret (hb hby d5_32) (by decide) (by decide) e117 ⟨rfl, N123, K122, F120, F121, _, F118, _, own_pick true hd0 hdp⟩
theorem d7_0 : decode prog_24_method_12_code 0 = .ok (.aload_n 0, 1) := by decide +kernel
theorem d7_1 : decode prog_24_method_12_code 1 = .ok (.dup, 1) := by decide +kernel
theorem d7_2 : decode prog_24_method_12_code 2 = .ok (.getfield 31, 3) := by decide +kernel
theorem d7_5 : decode prog_24_method_12_code 5 = .ok (.dload_n 1, 1) := by decide +kernel
theorem d7_6 : decode prog_24_method_12_code 6 = .ok (.dsub, 1) := by decide +kernel
theorem d7_7 : decode prog_24_method_12_code 7 = .ok (.putfield 31, 3) := by decide +kernel
theorem d7_10 : decode prog_24_method_12_code 10 = .ok (.aload_n 0, 1) := by decide +kernel
theorem d7_11 : decode prog_24_method_12_code 11 = .ok (.dup, 1) := by decide +kernel
theorem d7_12 : decode prog_24_method_12_code 12 = .ok (.getfield 40, 3) := by decide +kernel
theorem d7_15 : decode prog_24_method_12_code 15 = .ok (.iconst 1, 1) := by decide +kernel
theorem d7_16 : decode prog_24_method_12_code 16 = .ok (.isub, 1) := by decide +kernel
theorem d7_17 : decode prog_24_method_12_code 17 = .ok (.dup_x1, 1) := by decide +kernel
theorem d7_18 : decode prog_24_method_12_code 18 = .ok (.putfield 40, 3) := by decide +kernel
theorem d7_21 : decode prog_24_method_12_code 21 = .ok (.ifCond .ne 7, 3) := by decide +kernel
theorem d7_24 : decode prog_24_method_12_code 24 = .ok (.iconst 1, 1) := by decide +kernel
theorem d7_25 : decode prog_24_method_12_code 25 = .ok (.goto 4, 3) := by decide +kernel
theorem d7_28 : decode prog_24_method_12_code 28 = .ok (.iconst 0, 1) := by decide +kernel
theorem d7_29 : decode prog_24_method_12_code 29 = .ok (.ireturn, 1) := by decide +kernel
theorem own_pf4 : plainFor (⟨"com/example/neaplight/neaplight/Lightpath", "release", "(D)Z"⟩ : MethodName) = true := plainFor_of_name (by first | (simp [plainName, overriddenIn]; done) | decide +kernel)
def Q_rm7 (Z : State) (a : Addr) (bw l0 : UInt64) (c0 : Int32) (d0 : UInt64) (n0 : Nat) (h0 : Heap) (v : Option Value) (h : Heap) (L : List Loc) : Prop := ∃ r : Int32, v = some (.int r) ∧ (((c0 - 1).toInt = 0 → r = 1) ∧ ((c0 - 1).toInt ≠ 0 → r = 0)) ∧ Fr n0 L ∧ Keep h0 h [a] ∧ Fld Z h a "com/example/neaplight/neaplight/Lightpath" "load" "D" (.double (FP.dsub l0 bw)) ∧ Fld Z h a "com/example/neaplight/neaplight/Lightpath" "carried" "I" (.int (c0 - 1)) ∧ Fld Z h a "com/example/neaplight/neaplight/Lightpath" "lastDeparture" "D" (.double d0)
theorem ef_rm7 (a : Addr) (bw : UInt64) (m : MethodId) : entryFrame m #[(.ref a), (.double bw)] 3 = mkF m 0 #[.val (.ref a), .val (.double bw), .second] [] := by first | (simp [entryFrame, mkF, argsToLocals, Value.category]; done) | rfl
set_option maxRecDepth 65536 in
set_option maxHeartbeats 40000000 in
theorem rm7 (l : Launch) (Z : State) (a0 : Array Value) (hw : ∀ d ∈ tables_1, d.before a0 Z = true) (a : Addr) (bw : UInt64) (h0 : Heap) (n0 : Nat) (Z0 : n0 ≤ h0.size) (l0 : UInt64) (c0 : Int32) (d0 : UInt64) (Ea : Exa Z h0 a "com/example/neaplight/neaplight/Lightpath") (ga : n0 ≤ a) (F_load : Fld Z h0 a "com/example/neaplight/neaplight/Lightpath" "load" "D" (.double l0)) (F_carried : Fld Z h0 a "com/example/neaplight/neaplight/Lightpath" "carried" "I" (.int c0)) (F_lastDeparture : Fld Z h0 a "com/example/neaplight/neaplight/Lightpath" "lastDeparture" "D" (.double d0)) (nl : Jvm.Free.Fl.NoNaN64 (FP.dsub l0 bw)) :
    MetFree l (⟨"com/example/neaplight/neaplight/Lightpath", "release", "(D)Z"⟩ : MethodName) (head1 [Jvm.Cond.code (⟨"com/example/neaplight/neaplight/Lightpath", "release", "(D)Z"⟩ : MethodName) prog_24_method_12_code 3 (some .boolean)] ({ frames := 0, cells := 0, slots := 0, locals := 0 } : Room)) (fun as_ U => as_ = #[(.ref a), (.double bw)] ∧ Z.Warmed39 U.vm ∧ U.heap = h0) (fun _ _ _ _ _ => True) (fun _ U o U' => ∃ v L, o = .returned v ∧ Q_rm7 Z a bw l0 c0 d0 n0 h0 v U'.heap L ∧ FrameEnd U o U' L ({ frames := 0, cells := 0, slots := 0, locals := 0 } : Room).cells ({ frames := 0, cells := 0, slots := 0, locals := 0 } : Room).slots) := by
  refine own_met own_pf4 (ef_rm7 a bw) ?_
  intro p e s m below meth c T0 X0 hx hby hml hret hlk hnm hown hZ e0
  have N0 := Fr.nil n0
  refine g_aloadN X0 hx 1 (hb hby d7_0) rfl rfl rfl ?_
  refine g_dup X0 hx 2 (hb hby d7_1) rfl rfl ?_
  refine g_getF X0 hx hZ hown (hw _ (List.mem_of_getElem? (i := 44) rfl)) Via.refl e0 F_load 5 (hb hby d7_2) rfl ?_
  intro T125 X125 e125
  refine g_dloadN X125 hx 6 (hb hby d7_5) rfl rfl ?_
  refine g_dsub X125 hx 7 (hb hby d7_6) rfl nl ?_
  refine g_putF X125 hx hZ hown (hw _ (List.mem_of_getElem? (i := 44) rfl)) Via.refl e125 F_load Ea (Or.inl (hw _ (List.mem_of_getElem? (i := 45) rfl))) (hw _ (List.mem_of_getElem? (i := 21) rfl)) (ty := .double) (by decide) rfl rfl 10 (hb hby d7_7) rfl ?_
  intro T126 h126 X126 e126 W126
  have F127 : Fld Z h126 a "com/example/neaplight/neaplight/Lightpath" "load" "D" (.double (FP.dsub l0 bw)) := F_load.same W126
  have F128 := Ea.wr W126
  have F129 := F_carried.other W126 (Or.inr (slot_ne (Or.inl (hw _ (List.mem_of_getElem? (i := 47) rfl))) (Or.inl (hw _ (List.mem_of_getElem? (i := 45) rfl))) (by decide) (t := .int) (t' := .double) (by decide) (by decide)))
  have F130 := F_lastDeparture.other W126 (Or.inr (slot_ne (Or.inl (hw _ (List.mem_of_getElem? (i := 38) rfl))) (Or.inl (hw _ (List.mem_of_getElem? (i := 45) rfl))) (by decide) (t := .double) (t' := .double) (by decide) (by decide)))
  have K131 := (Keep.refl h0 [a]).wr W126 (Or.inl (List.mem_of_getElem? (i := 0) rfl))
  have N132 := Fr.snoc X126 N0 ga
  have Z133 : n0 ≤ h126.size := by rw [W126.size]; exact Z0
  refine g_aloadN X126 hx 11 (hb hby d7_10) rfl rfl rfl ?_
  refine g_dup X126 hx 12 (hb hby d7_11) rfl rfl ?_
  refine g_getF X126 hx hZ hown (hw _ (List.mem_of_getElem? (i := 46) rfl)) Via.refl e126 F129 15 (hb hby d7_12) rfl ?_
  intro T134 X134 e134
  refine g_iconst X134 hx (1 : Int32) 16 (hb hby d7_15) rfl (by decide) ?_
  refine g_isub X134 hx 17 (hb hby d7_16) rfl ?_
  refine g_dupX1 X134 hx 18 (hb hby d7_17) rfl rfl rfl ?_
  refine g_putF X134 hx hZ hown (hw _ (List.mem_of_getElem? (i := 46) rfl)) Via.refl e134 F129 F128 (Or.inl (hw _ (List.mem_of_getElem? (i := 47) rfl))) (hw _ (List.mem_of_getElem? (i := 21) rfl)) (ty := .int) (by decide) rfl rfl 21 (hb hby d7_18) rfl ?_
  intro T135 h135 X135 e135 W135
  have F136 : Fld Z h135 a "com/example/neaplight/neaplight/Lightpath" "carried" "I" (.int (c0 - (1 : Int32))) := F129.same W135
  have F137 := F128.wr W135
  have F138 := F130.other W135 (Or.inr (slot_ne (Or.inl (hw _ (List.mem_of_getElem? (i := 38) rfl))) (Or.inl (hw _ (List.mem_of_getElem? (i := 47) rfl))) (by decide) (t := .double) (t' := .int) (by decide) (by decide)))
  have F139 := F127.other W135 (Or.inr (slot_ne (Or.inl (hw _ (List.mem_of_getElem? (i := 45) rfl))) (Or.inl (hw _ (List.mem_of_getElem? (i := 47) rfl))) (by decide) (t := .double) (t' := .int) (by decide) (by decide)))
  have K140 := K131.wr W135 (Or.inl (List.mem_of_getElem? (i := 0) rfl))
  have N141 := Fr.snoc X135 N132 ga
  have Z142 : n0 ≤ h135.size := by rw [W135.size]; exact Z133
  refine g_if_ne X135 hx 28 24 (hb hby d7_21) (by decide) (by decide) rfl (fun c143 => ?_) (fun c143 => ?_)
  · skip
    refine g_iconst X135 hx (0 : Int32) 29 (hb hby d7_28) rfl (by decide) ?_
    exact g_retZ X135 hx hlk hret (hb hby d7_29) (by decide) (by decide) e135 ⟨_, rfl, ⟨fun q => absurd q c143, fun _ => rfl⟩, N141, K140, F139, F136, F138⟩
  · skip
    refine g_iconst X135 hx (1 : Int32) 25 (hb hby d7_24) rfl (by decide) ?_
    refine g_goto X135 hx 29 (hb hby d7_25) (by decide) (by decide) ?_
    exact g_retZ X135 hx hlk hret (hb hby d7_29) (by decide) (by decide) e135 ⟨_, rfl, ⟨fun _ => rfl, fun q => absurd c143 q⟩, N141, K140, F139, F136, F138⟩
theorem d8_0 : decode prog_24_method_7_code 0 = .ok (.aload_n 0, 1) := by decide +kernel
theorem d8_1 : decode prog_24_method_7_code 1 = .ok (.getfield 31, 3) := by decide +kernel
theorem d8_4 : decode prog_24_method_7_code 4 = .ok (.dreturn, 1) := by decide +kernel
theorem own_pf5 : plainFor (⟨"com/example/neaplight/neaplight/Lightpath", "load", "()D"⟩ : MethodName) = true := plainFor_of_name (by first | (simp [plainName, overriddenIn]; done) | decide +kernel)
def Q_rm8 (l0 : UInt64) (n0 : Nat) (h0 : Heap) (v : Option Value) (h : Heap) (L : List Loc) : Prop := v = some (.double l0) ∧ Fr n0 L ∧ h = h0
theorem ef_rm8 (a : Addr) (m : MethodId) : entryFrame m #[(.ref a)] 1 = mkF m 0 #[.val (.ref a)] [] := by first | (simp [entryFrame, mkF, argsToLocals, Value.category]; done) | rfl
set_option maxRecDepth 65536 in
set_option maxHeartbeats 40000000 in
theorem rm8 (l : Launch) (Z : State) (a0 : Array Value) (hw : ∀ d ∈ tables_1, d.before a0 Z = true) (a : Addr) (h0 : Heap) (n0 : Nat) (Z0 : n0 ≤ h0.size) (l0 : UInt64) (F_load : Fld Z h0 a "com/example/neaplight/neaplight/Lightpath" "load" "D" (.double l0)) :
    MetFree l (⟨"com/example/neaplight/neaplight/Lightpath", "load", "()D"⟩ : MethodName) (head1 [Jvm.Cond.code (⟨"com/example/neaplight/neaplight/Lightpath", "load", "()D"⟩ : MethodName) prog_24_method_7_code 1 (some .double)] ({ frames := 0, cells := 0, slots := 0, locals := 0 } : Room)) (fun as_ U => as_ = #[(.ref a)] ∧ Z.Warmed39 U.vm ∧ U.heap = h0) (fun _ _ _ _ _ => True) (fun _ U o U' => ∃ v L, o = .returned v ∧ Q_rm8 l0 n0 h0 v U'.heap L ∧ FrameEnd U o U' L ({ frames := 0, cells := 0, slots := 0, locals := 0 } : Room).cells ({ frames := 0, cells := 0, slots := 0, locals := 0 } : Room).slots) := by
  refine own_met own_pf5 (ef_rm8 a) ?_
  intro p e s m below meth c T0 X0 hx hby hml hret hlk hnm hown hZ e0
  have N0 := Fr.nil n0
  refine g_aloadN X0 hx 1 (hb hby d8_0) rfl rfl rfl ?_
  refine g_getF X0 hx hZ hown (hw _ (List.mem_of_getElem? (i := 44) rfl)) Via.refl e0 F_load 4 (hb hby d8_1) rfl ?_
  intro T144 X144 e144
  exact g_retD X144 hx hlk hret (hb hby d8_4) (by decide) (by decide) e144 ⟨rfl, N0, rfl⟩
theorem own_pfx : plainFor x = true := plainFor_of_name (show plainName "com/example/neaplight/neaplight/LightpathReleasePinLaw" = true by first | (simp [plainName, overriddenIn]; done) | decide +kernel)
theorem ef_rm0 (p0 : Int32) (p1 : Int32) (p2 : Int32) (p3 : Int32) (m : MethodId) : entryFrame m #[(.int p0), (.int p1), (.int p2), (.int p3)] maxLocals = mkF m 0 #[.val (.int p0), .val (.int p1), .val (.int p2), .val (.int p3), .unset, .unset, .unset, .unset, .unset, .unset, .unset, .unset, .unset, .unset, .unset, .unset, .unset, .unset] [] := by first | (simp [entryFrame, mkF, argsToLocals, Value.category, maxLocals]; done) | rfl
set_option maxRecDepth 65536 in
set_option maxHeartbeats 40000000 in
theorem rm0 (l : Launch) (Z : State) (a0 : Array Value) (hw : ∀ d ∈ tables_1, d.before a0 Z = true) (ws : List Jvm.Cond) (p0 : Int32) (p1 : Int32) (p2 : Int32) (p3 : Int32) (h0 : Heap) (n0 : Nat) (Z0 : n0 ≤ h0.size)  :
    MetFree l x (head1 (Jvm.Cond.code x code maxLocals ret :: ws) room_1) (fun as_ U => as_ = #[(.int p0), (.int p1), (.int p2), (.int p3)] ∧ Z.Warmed39 U.vm ∧ U.heap = h0) (fun _ _ _ _ _ => True) (fun _ U o U' => ∃ v L, o = .returned v ∧ Q_rm0 n0 v U'.heap L ∧ FrameEnd U o U' L 16 128) := by
  refine own_met own_pfx (ef_rm0 p0 p1 p2 p3) ?_
  intro p e s m below meth c T0 X0 hx hby hml hret hlk hnm hown hZ e0
  have N0 := Fr.nil n0
  refine g_iconst X0 hx (1 : Int32) 1 (hb hby at_0) rfl (by decide) ?_
  refine g_iloadN X0 hx 2 (hb hby at_1) rfl rfl ?_
  refine g_ldcI X0 hx 4 hZ hown (hw _ (List.mem_of_getElem? (i := 0) rfl)) (hb hby at_2) rfl ?_
  refine g_iand X0 hx 5 (hb hby at_4) rfl ?_
  refine g_iconst X0 hx (3 : Int32) 6 (hb hby at_5) rfl (by decide) ?_
  refine g_irem X0 hx 7 (hb hby at_6) rfl (by decide) ?_
  refine g_iadd X0 hx 8 (hb hby at_7) rfl ?_
  refine g_istore (l' := #[.val (.int p0), .val (.int p1), .val (.int p2), .val (.int p3), .val (.int ((1 : Int32) + ((p0 &&& (2147483647 : Int32)) % (3 : Int32)))), .unset, .unset, .unset, .unset, .unset, .unset, .unset, .unset, .unset, .unset, .unset, .unset, .unset]) X0 hx 10 (hb hby at_8) rfl rfl ?_
  generalize hn : ((1 : Int32) + ((p0 &&& (2147483647 : Int32)) % (3 : Int32))) = n
  have W1 := Jvm.FP.Core.i2d_int p1
  have W2 := Jvm.FP.Core.i2d_int p2
  have W3 := Jvm.FP.Core.i2d_int p3
  have R1 := rng32 p1
  have R2 := rng32 p2
  have R3 := rng32 p3
  have E1 := c_i2l p1
  have E2 := c_i2l p2
  have E3 := c_i2l p3
  have l0 : (0 : Int64).toInt = 0 := by decide
  rcases own_n3 hn with rfl | rfl | rfl
  · skip
    refine g_new X0 hx hZ hown (hw _ (List.mem_of_getElem? (i := 1) rfl)) (hw _ (List.mem_of_getElem? (i := 2) rfl)) (hw _ (List.mem_of_getElem? (i := 3) rfl)) e0 13 (hb hby at_10) rfl (by decide) (by decide) ?_
    intro T145 h145 a145 g145 X145 e145 E145 A145 D145
    have ge146 : n0 ≤ a145 := by rw [g145]; exact Z0
    have Z147 : n0 ≤ h145.size := Nat.le_trans Z0 E145.1
    have F148 : Fld Z h145 a145 "com/example/neaplight/neaplight/Route" "nodes" "[I" .null := D145 (Or.inr (hw _ (List.mem_of_getElem? (i := 17) rfl))) (ty := (.array .int)) (by decide)
    have F149 : Fld Z h145 a145 "com/example/neaplight/neaplight/Route" "links" "[I" .null := D145 (Or.inr (hw _ (List.mem_of_getElem? (i := 19) rfl))) (ty := (.array .int)) (by decide)
    refine g_dup X145 hx 14 (hb hby at_13) rfl rfl ?_
    refine g_iconst X145 hx (2 : Int32) 15 (hb hby at_14) rfl (by decide) ?_
    refine g_newP X145 hx hZ (aty := .int) (hw _ (List.mem_of_getElem? (i := 4) rfl)) e145 (by decide) (cap := 2) (by decide) (by decide) 17 (hb hby at_15) rfl (by decide) (by decide) (ad := "[I") (by decide) ?_
    intro T150 h150 k150 a150 g150 X150 e150 E150 V150 A150
    have ne151 : a145 ≠ a150 := Nat.ne_of_lt (by rw [g150]; exact A145.lt)
    have ge152 : n0 ≤ a150 := by rw [g150]; exact Z147
    have F153 := A145.ext E150
    have F154 := F148.ext E150
    have F155 := F149.ext E150
    have Z156 : n0 ≤ h150.size := Nat.le_trans Z147 E150.1
    have V150' : Arv Z h150 a150 k150 .int (2 : Int32) [(.int (0 : Int32)), (.int (0 : Int32))] (.int (0 : Int32)) := V150.pad (pad_rep [] (.int (0 : Int32)) 2)
    refine g_dup X150 hx 18 (hb hby at_17) rfl rfl ?_
    refine g_iconst X150 hx (0 : Int32) 19 (hb hby at_18) rfl (by decide) ?_
    refine g_iconst X150 hx (0 : Int32) 20 (hb hby at_19) rfl (by decide) ?_
    refine g_iastore X150 hx hZ e150 V150' 0 (by decide) (by decide) (by show 0 < 2; decide) 21 (hb hby at_20) rfl ?_
    intro T157 h157 X157 e157 W157 V157
    have F158 := F153.wr W157
    have F159 := F154.other W157 (Or.inl ne151)
    have F160 := F155.other W157 (Or.inl ne151)
    have F161 := A150.wr W157
    have N163 := Fr.snoc X157 N0 ge152
    have Z164 : n0 ≤ h157.size := by rw [W157.size]; exact Z156
    have V157' : Arv Z h157 a150 k150 .int (2 : Int32) [(.int (0 : Int32)), (.int (0 : Int32))] (.int (0 : Int32)) := V157
    refine g_dup X157 hx 22 (hb hby at_21) rfl rfl ?_
    refine g_iconst X157 hx (1 : Int32) 23 (hb hby at_22) rfl (by decide) ?_
    refine g_iconst X157 hx (1 : Int32) 24 (hb hby at_23) rfl (by decide) ?_
    refine g_iastore X157 hx hZ e157 V157' 1 (by decide) (by decide) (by show 1 < 2; decide) 25 (hb hby at_24) rfl ?_
    intro T165 h165 X165 e165 W165 V165
    have F166 := F158.wr W165
    have F167 := F159.other W165 (Or.inl ne151)
    have F168 := F160.other W165 (Or.inl ne151)
    have F169 := F161.wr W165
    have N171 := Fr.snoc X165 N163 ge152
    have Z172 : n0 ≤ h165.size := by rw [W165.size]; exact Z164
    have V165' : Arv Z h165 a150 k150 .int (2 : Int32) [(.int (0 : Int32)), (.int (1 : Int32))] (.int (0 : Int32)) := V165
    refine g_iconst X165 hx (1 : Int32) 26 (hb hby at_25) rfl (by decide) ?_
    refine g_newP X165 hx hZ (aty := .int) (hw _ (List.mem_of_getElem? (i := 4) rfl)) e165 (by decide) (cap := 1) (by decide) (by decide) 28 (hb hby at_26) rfl (by decide) (by decide) (ad := "[I") (by decide) ?_
    intro T173 h173 k173 a173 g173 X173 e173 E173 V173 A173
    have ne174 : a145 ≠ a173 := Nat.ne_of_lt (by rw [g173]; exact F166.lt)
    have ne175 : a150 ≠ a173 := Nat.ne_of_lt (by rw [g173]; exact F169.lt)
    have ge176 : n0 ≤ a173 := by rw [g173]; exact Z172
    have F177 := F166.ext E173
    have F178 := F167.ext E173
    have F179 := F168.ext E173
    have F180 := F169.ext E173
    have F181 := V165'.ext E173
    have Z182 : n0 ≤ h173.size := Nat.le_trans Z172 E173.1
    have V173' : Arv Z h173 a173 k173 .int (1 : Int32) [(.int (0 : Int32))] (.int (0 : Int32)) := V173.pad (pad_rep [] (.int (0 : Int32)) 1)
    refine g_dup X173 hx 29 (hb hby at_28) rfl rfl ?_
    refine g_iconst X173 hx (0 : Int32) 30 (hb hby at_29) rfl (by decide) ?_
    refine g_iconst X173 hx (0 : Int32) 31 (hb hby at_30) rfl (by decide) ?_
    refine g_iastore X173 hx hZ e173 V173' 0 (by decide) (by decide) (by show 0 < 1; decide) 32 (hb hby at_31) rfl ?_
    intro T183 h183 X183 e183 W183 V183
    have F184 := F177.wr W183
    have F185 := F178.other W183 (Or.inl ne174)
    have F186 := F179.other W183 (Or.inl ne174)
    have F187 := F180.wr W183
    have F188 := F181.other W183 ne175
    have F189 := A173.wr W183
    have N191 := Fr.snoc X183 N171 ge176
    have Z192 : n0 ≤ h183.size := by rw [W183.size]; exact Z182
    have V183' : Arv Z h183 a173 k173 .int (1 : Int32) [(.int (0 : Int32))] (.int (0 : Int32)) := V183
    refine g_init X183 hx hZ rfl hown (hw _ (List.mem_of_getElem? (i := 5) rfl)) (hw _ (List.mem_of_getElem? (i := 6) rfl)) (hw _ (List.mem_of_getElem? (i := 3) rfl)) (hw _ (List.mem_of_getElem? (i := 7) rfl)) (by decide) (rm1 l Z a0 hw a145 a150 a173 h183 n0 Z192 F184 ge146 F185 F186) e183 (a := a145) (argsL := [(.ref a150), (.ref a173)]) (rest := [(.ref a145)]) rfl rfl 1 35 rfl (by rw [hml]; rfl) (lenOf own_pd0 rfl) (Nat.le_refl _) (by decide) (by decide) (by decide) (by decide) (hb hby at_32) ?_
    intro v193 T193 L193 X193 hQ193
    obtain ⟨rfl, N193, K193⟩ := hQ193
    have N194 := Fr.app N191 N193
    have F195 := F184.keep K193
    have F198 := F187.keep K193
    have F199 := F188.keep K193 (ninS (Ne.symm ne151) nin0)
    have F200 := F189.keep K193
    have F201 := V183'.keep K193 (ninS (Ne.symm ne174) nin0)
    have Z202 : n0 ≤ T193.heap.size := Nat.le_trans Z192 K193.1
    show Go p e below _ T193 (mkF m 35 #[.val (.int p0), .val (.int p1), .val (.int p2), .val (.int p3), .val (.int (1 : Int32)), .unset, .unset, .unset, .unset, .unset, .unset, .unset, .unset, .unset, .unset, .unset, .unset, .unset] [(.ref a145)])
    refine g_astore (l' := #[.val (.int p0), .val (.int p1), .val (.int p2), .val (.int p3), .val (.int (1 : Int32)), .val (.ref a145), .unset, .unset, .unset, .unset, .unset, .unset, .unset, .unset, .unset, .unset, .unset, .unset]) X193 hx 37 (hb hby at_35) rfl rfl rfl ?_
    refine g_new X193 hx hZ hown (hw _ (List.mem_of_getElem? (i := 20) rfl)) (hw _ (List.mem_of_getElem? (i := 21) rfl)) (hw _ (List.mem_of_getElem? (i := 22) rfl)) rfl 40 (hb hby at_37) rfl (by decide) (by decide) ?_
    intro T203 h203 a203 g203 X203 e203 E203 A203 D203
    have ne204 : a145 ≠ a203 := Nat.ne_of_lt (by rw [g203]; exact F195.lt)
    have ne205 : a150 ≠ a203 := Nat.ne_of_lt (by rw [g203]; exact F198.lt)
    have ne206 : a173 ≠ a203 := Nat.ne_of_lt (by rw [g203]; exact F200.lt)
    have ge207 : n0 ≤ a203 := by rw [g203]; exact Z202
    have F208 := F195.ext E203
    have F209 := F198.ext E203
    have F210 := F199.ext E203
    have F211 := F200.ext E203
    have F212 := F201.ext E203
    have Z213 : n0 ≤ h203.size := Nat.le_trans Z202 E203.1
    have F214 : Fld Z h203 a203 "com/example/neaplight/neaplight/Lightpath" "route" "Lcom/example/neaplight/neaplight/Route;" .null := D203 (Or.inr (hw _ (List.mem_of_getElem? (i := 28) rfl))) (ty := (.object "com/example/neaplight/neaplight/Route")) (by decide)
    have F215 : Fld Z h203 a203 "com/example/neaplight/neaplight/Lightpath" "channel" "I" (.int (0 : Int32)) := D203 (Or.inr (hw _ (List.mem_of_getElem? (i := 30) rfl))) (ty := .int) (by decide)
    have F216 : Fld Z h203 a203 "com/example/neaplight/neaplight/Lightpath" "width" "I" (.int (0 : Int32)) := D203 (Or.inr (hw _ (List.mem_of_getElem? (i := 32) rfl))) (ty := .int) (by decide)
    have F217 : Fld Z h203 a203 "com/example/neaplight/neaplight/Lightpath" "order" "J" (.long (0 : Int64)) := D203 (Or.inr (hw _ (List.mem_of_getElem? (i := 34) rfl))) (ty := .long) (by decide)
    have F218 : Fld Z h203 a203 "com/example/neaplight/neaplight/Lightpath" "setUp" "D" (.double (0 : UInt64)) := D203 (Or.inr (hw _ (List.mem_of_getElem? (i := 36) rfl))) (ty := .double) (by decide)
    have F219 : Fld Z h203 a203 "com/example/neaplight/neaplight/Lightpath" "lastDeparture" "D" (.double (0 : UInt64)) := D203 (Or.inl (hw _ (List.mem_of_getElem? (i := 38) rfl))) (ty := .double) (by decide)
    have F220 : Fld Z h203 a203 "com/example/neaplight/neaplight/Lightpath" "load" "D" (.double (0 : UInt64)) := D203 (Or.inl (hw _ (List.mem_of_getElem? (i := 45) rfl))) (ty := .double) (by decide)
    have F221 : Fld Z h203 a203 "com/example/neaplight/neaplight/Lightpath" "carried" "I" (.int (0 : Int32)) := D203 (Or.inl (hw _ (List.mem_of_getElem? (i := 47) rfl))) (ty := .int) (by decide)
    refine g_dup X203 hx 41 (hb hby at_40) rfl rfl ?_
    refine g_aload X203 hx 43 (hb hby at_41) rfl rfl rfl ?_
    refine g_iconst X203 hx (0 : Int32) 44 (hb hby at_43) rfl (by decide) ?_
    refine g_iconst X203 hx (1 : Int32) 45 (hb hby at_44) rfl (by decide) ?_
    refine g_lconst X203 hx (0 : Int64) 46 (hb hby at_45) rfl (by decide) ?_
    refine g_dconst0 X203 hx 47 (hb hby at_46) rfl ?_
    refine g_init X203 hx hZ rfl hown (hw _ (List.mem_of_getElem? (i := 23) rfl)) (hw _ (List.mem_of_getElem? (i := 24) rfl)) (hw _ (List.mem_of_getElem? (i := 22) rfl)) (hw _ (List.mem_of_getElem? (i := 25) rfl)) (by decide) (rm4 l Z a0 hw a203 a145 0 1 0 0 h203 n0 Z213 A203 ge207 F214 F215 F216 F217 F218 F219 F220 F221) e203 (a := a203) (argsL := [(.ref a145), (.int (0 : Int32)), (.int (1 : Int32)), (.long (0 : Int64)), (.double 0)]) (rest := [(.ref a203)]) rfl rfl 1 50 rfl (by rw [hml]; rfl) (lenOf own_pd2 rfl) (Nat.le_refl _) (by decide) (by decide) (by decide) (by decide) (hb hby at_47) ?_
    intro v222 T222 L222 X222 hQ222
    obtain ⟨rfl, N222, K222, Fd222, Fl222, Fc222⟩ := hQ222
    have N223 := Fr.app N194 N222
    have F224 := F208.keep K222
    have F225 := F209.keep K222
    have F226 := F210.keep K222 (ninS ne205 nin0)
    have F227 := F211.keep K222
    have F228 := F212.keep K222 (ninS ne206 nin0)
    have F229 := A203.keep K222
    have Z238 : n0 ≤ T222.heap.size := Nat.le_trans Z213 K222.1
    show Go p e below _ T222 (mkF m 50 #[.val (.int p0), .val (.int p1), .val (.int p2), .val (.int p3), .val (.int (1 : Int32)), .val (.ref a145), .unset, .unset, .unset, .unset, .unset, .unset, .unset, .unset, .unset, .unset, .unset, .unset] [(.ref a203)])
    refine g_astore (l' := #[.val (.int p0), .val (.int p1), .val (.int p2), .val (.int p3), .val (.int (1 : Int32)), .val (.ref a145), .val (.ref a203), .unset, .unset, .unset, .unset, .unset, .unset, .unset, .unset, .unset, .unset, .unset]) X222 hx 52 (hb hby at_50) rfl rfl rfl ?_
    refine g_iloadN X222 hx 53 (hb hby at_52) rfl rfl ?_
    refine g_i2d X222 hx 54 (hb hby at_53) rfl ?_
    refine g_dstore (l' := #[.val (.int p0), .val (.int p1), .val (.int p2), .val (.int p3), .val (.int (1 : Int32)), .val (.ref a145), .val (.ref a203), .val (.double (FP.i2d p1)), .second, .unset, .unset, .unset, .unset, .unset, .unset, .unset, .unset, .unset]) X222 hx 56 (hb hby at_54) rfl rfl ?_
    refine g_iloadN X222 hx 57 (hb hby at_56) rfl rfl ?_
    refine g_i2d X222 hx 58 (hb hby at_57) rfl ?_
    refine g_dstore (l' := #[.val (.int p0), .val (.int p1), .val (.int p2), .val (.int p3), .val (.int (1 : Int32)), .val (.ref a145), .val (.ref a203), .val (.double (FP.i2d p1)), .second, .val (.double (FP.i2d p2)), .second, .unset, .unset, .unset, .unset, .unset, .unset, .unset]) X222 hx 60 (hb hby at_58) rfl rfl ?_
    refine g_iloadN X222 hx 61 (hb hby at_60) rfl rfl ?_
    refine g_i2d X222 hx 62 (hb hby at_61) rfl ?_
    refine g_dstore (l' := #[.val (.int p0), .val (.int p1), .val (.int p2), .val (.int p3), .val (.int (1 : Int32)), .val (.ref a145), .val (.ref a203), .val (.double (FP.i2d p1)), .second, .val (.double (FP.i2d p2)), .second, .val (.double (FP.i2d p3)), .second, .unset, .unset, .unset, .unset, .unset]) X222 hx 64 (hb hby at_62) rfl rfl ?_
    refine g_aload X222 hx 66 (hb hby at_64) rfl rfl rfl ?_
    refine g_dload X222 hx 68 (hb hby at_66) rfl rfl ?_
    refine g_dconst1 X222 hx 69 (hb hby at_68) rfl ?_
    have A239 := Jvm.FP.Core.dadd_int own_dzero W1 (by omega)
    refine g_virt X222 hx hZ (C := "com/example/neaplight/neaplight/Lightpath") hown (hw _ (List.mem_of_getElem? (i := 39) rfl)) (hw _ (List.mem_of_getElem? (i := 40) rfl)) (hw _ (List.mem_of_getElem? (i := 42) rfl)) (hw _ (List.mem_of_getElem? (i := 42) rfl)) (hw _ (List.mem_of_getElem? (i := 41) rfl)) (hw _ (List.mem_of_getElem? (i := 22) rfl)) (hw _ (List.mem_of_getElem? (i := 43) rfl)) (by decide) (rm5 l Z a0 hw a203 (FP.i2d p1) 4607182418800017408 T222.heap n0 Z238 (0 : UInt64) (0 : Int32) (0 : UInt64) F229 ge207 Fl222 Fc222 Fd222 (own_dnn A239) _ 1 own_dzero own_done) rfl (b := a203) F229 (argsL := [(.double (FP.i2d p1)), (.double 4607182418800017408)]) (rest := []) rfl rfl 0 72 rfl (by rw [hml]; rfl) (lenOf own_pd3 rfl) (Nat.le_refl _) (by decide) (by decide) (by decide) (by decide) (hb hby at_69) ?_
    intro v240 T240 L240 X240 hQ240
    obtain ⟨rfl, N240, K240, Fl240, Fc240, d240, Fd240, i240, hd240⟩ := hQ240
    have N241 := Fr.app N223 N240
    have F242 := F224.keep K240
    have F243 := F225.keep K240
    have F244 := F226.keep K240 (ninS ne205 nin0)
    have F245 := F227.keep K240
    have F246 := F228.keep K240 (ninS ne206 nin0)
    have F247 := F229.keep K240
    have Z251 : n0 ≤ T240.heap.size := Nat.le_trans Z238 K240.1
    show Go p e below _ T240 (mkF m 72 #[.val (.int p0), .val (.int p1), .val (.int p2), .val (.int p3), .val (.int (1 : Int32)), .val (.ref a145), .val (.ref a203), .val (.double (FP.i2d p1)), .second, .val (.double (FP.i2d p2)), .second, .val (.double (FP.i2d p3)), .second, .unset, .unset, .unset, .unset, .unset] [])
    refine g_iload X240 hx 74 (hb hby at_72) rfl rfl ?_
    refine g_iconst X240 hx (2 : Int32) 75 (hb hby at_74) rfl (by decide) ?_
    have ll253 : ((2 : Int32) : Int32).toInt = 2 := by decide
    have ll254 : ((1 : Int32) : Int32).toInt = 1 := by decide
    refine g_ic_lt X240 hx 86 78 (hb hby at_75) (by decide) (by decide) rfl (fun c252 => ?_) (fun c252 => ?_)
    · skip
      refine g_iload X240 hx 88 (hb hby at_86) rfl rfl ?_
      refine g_iconst X240 hx (3 : Int32) 89 (hb hby at_88) rfl (by decide) ?_
      have ll256 : ((3 : Int32) : Int32).toInt = 3 := by decide
      have ll257 : ((1 : Int32) : Int32).toInt = 1 := by decide
      refine g_ic_lt X240 hx 100 92 (hb hby at_89) (by decide) (by decide) rfl (fun c255 => ?_) (fun c255 => ?_)
      · skip
        refine g_iloadN X240 hx 101 (hb hby at_100) rfl rfl ?_
        refine g_i2l X240 hx 102 (hb hby at_101) rfl ?_
        refine g_iload X240 hx 104 (hb hby at_102) rfl rfl ?_
        refine g_iconst X240 hx (2 : Int32) 105 (hb hby at_104) rfl (by decide) ?_
        have ll259 : ((2 : Int32) : Int32).toInt = 2 := by decide
        have ll260 : ((1 : Int32) : Int32).toInt = 1 := by decide
        refine g_ic_lt X240 hx 113 108 (hb hby at_105) (by decide) (by decide) rfl (fun c258 => ?_) (fun c258 => ?_)
        · skip
          refine g_lconst X240 hx (0 : Int64) 114 (hb hby at_113) rfl (by decide) ?_
          refine g_ladd X240 hx 115 (hb hby at_114) rfl ?_
          refine g_iload X240 hx 117 (hb hby at_115) rfl rfl ?_
          refine g_iconst X240 hx (3 : Int32) 118 (hb hby at_117) rfl (by decide) ?_
          have ll262 : ((3 : Int32) : Int32).toInt = 3 := by decide
          have ll263 : ((1 : Int32) : Int32).toInt = 1 := by decide
          refine g_ic_lt X240 hx 126 121 (hb hby at_118) (by decide) (by decide) rfl (fun c261 => ?_) (fun c261 => ?_)
          · skip
            refine g_lconst X240 hx (0 : Int64) 127 (hb hby at_126) rfl (by decide) ?_
            refine g_ladd X240 hx 128 (hb hby at_127) rfl ?_
            refine g_lstore (l' := #[.val (.int p0), .val (.int p1), .val (.int p2), .val (.int p3), .val (.int (1 : Int32)), .val (.ref a145), .val (.ref a203), .val (.double (FP.i2d p1)), .second, .val (.double (FP.i2d p2)), .second, .val (.double (FP.i2d p3)), .second, .val (.long (((p1.toInt64) + (0 : Int64)) + (0 : Int64))), .second, .unset, .unset, .unset]) X240 hx 130 (hb hby at_128) rfl rfl ?_
            refine g_iconst X240 hx (1 : Int32) 131 (hb hby at_130) rfl (by decide) ?_
            refine g_istore (l' := #[.val (.int p0), .val (.int p1), .val (.int p2), .val (.int p3), .val (.int (1 : Int32)), .val (.ref a145), .val (.ref a203), .val (.double (FP.i2d p1)), .second, .val (.double (FP.i2d p2)), .second, .val (.double (FP.i2d p3)), .second, .val (.long (((p1.toInt64) + (0 : Int64)) + (0 : Int64))), .second, .val (.int (1 : Int32)), .unset, .unset]) X240 hx 133 (hb hby at_131) rfl rfl ?_
            refine g_aload X240 hx 135 (hb hby at_133) rfl rfl rfl ?_
            refine g_dload X240 hx 137 (hb hby at_135) rfl rfl ?_
            have A264 := Jvm.FP.Core.dsub_int A239 W1 (by omega)
            refine g_virt X240 hx hZ (C := "com/example/neaplight/neaplight/Lightpath") hown (hw _ (List.mem_of_getElem? (i := 52) rfl)) (hw _ (List.mem_of_getElem? (i := 53) rfl)) (hw _ (List.mem_of_getElem? (i := 55) rfl)) (hw _ (List.mem_of_getElem? (i := 55) rfl)) (hw _ (List.mem_of_getElem? (i := 54) rfl)) (hw _ (List.mem_of_getElem? (i := 22) rfl)) (hw _ (List.mem_of_getElem? (i := 56) rfl)) (by decide) (rm7 l Z a0 hw a203 (FP.i2d p1) T240.heap n0 Z251 (FP.dadd (0 : UInt64) (FP.i2d p1)) ((0 : Int32) + (1 : Int32)) d240 F247 ge207 Fl240 Fc240 Fd240 (own_dnn A264)) rfl (b := a203) F247 (argsL := [(.double (FP.i2d p1))]) (rest := []) rfl rfl 0 140 rfl (by rw [hml]; rfl) (lenOf own_pd5 rfl) (Nat.le_refl _) (by decide) (by decide) (by decide) (by decide) (hb hby at_137) ?_
            intro v265 T265 L265 X265 hQ265
            obtain ⟨r265, rfl, z265, N265, K265, Fl265, Fc265, Fd265⟩ := hQ265
            obtain rfl : r265 = 1 := z265.1 (by decide)
            have N266 := Fr.app N241 N265
            have F267 := F242.keep K265
            have F268 := F243.keep K265
            have F269 := F244.keep K265 (ninS ne205 nin0)
            have F270 := F245.keep K265
            have F271 := F246.keep K265 (ninS ne206 nin0)
            have F272 := F247.keep K265
            have Z276 : n0 ≤ T265.heap.size := Nat.le_trans Z251 K265.1
            show Go p e below _ T265 (mkF m 140 #[.val (.int p0), .val (.int p1), .val (.int p2), .val (.int p3), .val (.int (1 : Int32)), .val (.ref a145), .val (.ref a203), .val (.double (FP.i2d p1)), .second, .val (.double (FP.i2d p2)), .second, .val (.double (FP.i2d p3)), .second, .val (.long (((p1.toInt64) + (0 : Int64)) + (0 : Int64))), .second, .val (.int (1 : Int32)), .unset, .unset] [(.int (1 : Int32))])
            refine g_istore (l' := #[.val (.int p0), .val (.int p1), .val (.int p2), .val (.int p3), .val (.int (1 : Int32)), .val (.ref a145), .val (.ref a203), .val (.double (FP.i2d p1)), .second, .val (.double (FP.i2d p2)), .second, .val (.double (FP.i2d p3)), .second, .val (.long (((p1.toInt64) + (0 : Int64)) + (0 : Int64))), .second, .val (.int (1 : Int32)), .val (.int (1 : Int32)), .unset]) X265 hx 142 (hb hby at_140) rfl rfl ?_
            refine g_iload X265 hx 144 (hb hby at_142) rfl rfl ?_
            have ll278 : ((1 : Int32) : Int32).toInt = 1 := by decide
            refine g_if_eq X265 hx 167 147 (hb hby at_144) (by decide) (by decide) rfl (fun c277 => ?_) (fun c277 => ?_)
            · skip
              exfalso; revert c277; decide
            · skip
              refine g_iload X265 hx 149 (hb hby at_147) rfl rfl ?_
              refine g_iload X265 hx 151 (hb hby at_149) rfl rfl ?_
              refine g_iconst X265 hx (1 : Int32) 152 (hb hby at_151) rfl (by decide) ?_
              have ll280 : ((1 : Int32) : Int32).toInt = 1 := by decide
              have ll281 : ((1 : Int32) : Int32).toInt = 1 := by decide
              refine g_ic_ne X265 hx 159 155 (hb hby at_152) (by decide) (by decide) rfl (fun c279 => ?_) (fun c279 => ?_)
              · skip
                exfalso; revert c279; decide
              · skip
                refine g_iconst X265 hx (1 : Int32) 156 (hb hby at_155) rfl (by decide) ?_
                refine g_goto X265 hx 160 (hb hby at_156) (by decide) (by decide) ?_
                have ll283 : ((1 : Int32) : Int32).toInt = 1 := by decide
                have ll284 : ((1 : Int32) : Int32).toInt = 1 := by decide
                refine g_ic_ne X265 hx 167 163 (hb hby at_160) (by decide) (by decide) rfl (fun c282 => ?_) (fun c282 => ?_)
                · skip
                  exfalso; revert c282; decide
                · skip
                  refine g_iconst X265 hx (1 : Int32) 164 (hb hby at_163) rfl (by decide) ?_
                  refine g_goto X265 hx 168 (hb hby at_164) (by decide) (by decide) ?_
                  refine g_istore (l' := #[.val (.int p0), .val (.int p1), .val (.int p2), .val (.int p3), .val (.int (1 : Int32)), .val (.ref a145), .val (.ref a203), .val (.double (FP.i2d p1)), .second, .val (.double (FP.i2d p2)), .second, .val (.double (FP.i2d p3)), .second, .val (.long (((p1.toInt64) + (0 : Int64)) + (0 : Int64))), .second, .val (.int (1 : Int32)), .val (.int (1 : Int32)), .unset]) X265 hx 170 (hb hby at_168) rfl rfl ?_
                  refine g_iload X265 hx 172 (hb hby at_170) rfl rfl ?_
                  have ll286 : ((1 : Int32) : Int32).toInt = 1 := by decide
                  refine g_if_eq X265 hx 194 175 (hb hby at_172) (by decide) (by decide) rfl (fun c285 => ?_) (fun c285 => ?_)
                  · skip
                    exfalso; revert c285; decide
                  · skip
                    refine g_aload X265 hx 177 (hb hby at_175) rfl rfl rfl ?_
                    refine g_virt X265 hx hZ (C := "com/example/neaplight/neaplight/Lightpath") hown (hw _ (List.mem_of_getElem? (i := 57) rfl)) (hw _ (List.mem_of_getElem? (i := 58) rfl)) (hw _ (List.mem_of_getElem? (i := 60) rfl)) (hw _ (List.mem_of_getElem? (i := 60) rfl)) (hw _ (List.mem_of_getElem? (i := 59) rfl)) (hw _ (List.mem_of_getElem? (i := 22) rfl)) (hw _ (List.mem_of_getElem? (i := 61) rfl)) (by decide) (rm8 l Z a0 hw a203 T265.heap n0 Z276 (FP.dsub (FP.dadd (0 : UInt64) (FP.i2d p1)) (FP.i2d p1)) Fl265) rfl (b := a203) F272 (argsL := []) (rest := []) rfl rfl 0 180 rfl (by rw [hml]; rfl) (lenOf own_pd6 rfl) (Nat.le_refl _) (by decide) (by decide) (by decide) (by decide) (hb hby at_177) ?_
                    intro v287 T287 L287 X287 hQ287
                    obtain ⟨rfl, N287, q287⟩ := hQ287
                    have N288 := Fr.app N266 N287
                    show Go p e below _ T287 (mkF m 180 #[.val (.int p0), .val (.int p1), .val (.int p2), .val (.int p3), .val (.int (1 : Int32)), .val (.ref a145), .val (.ref a203), .val (.double (FP.i2d p1)), .second, .val (.double (FP.i2d p2)), .second, .val (.double (FP.i2d p3)), .second, .val (.long (((p1.toInt64) + (0 : Int64)) + (0 : Int64))), .second, .val (.int (1 : Int32)), .val (.int (1 : Int32)), .unset] [(.double (FP.dsub (FP.dadd (0 : UInt64) (FP.i2d p1)) (FP.i2d p1)))])
                    refine g_lload X287 hx 182 (hb hby at_180) rfl rfl ?_
                    refine g_iloadN X287 hx 183 (hb hby at_182) rfl rfl ?_
                    refine g_i2l X287 hx 184 (hb hby at_183) rfl ?_
                    refine g_lsub X287 hx 185 (hb hby at_184) rfl ?_
                    refine g_l2d X287 hx 186 (hb hby at_185) rfl ?_
                    have rr : (((((p1.toInt64) + (0 : Int64)) + (0 : Int64)) - (p1.toInt64))).toInt = (((p1.toInt + 0) + 0) - p1.toInt) := by
                      have := c_ladd (p1.toInt64) (0 : Int64)
                      have := rng64 (((p1.toInt64) + (0 : Int64)))
                      have := c_ladd ((p1.toInt64) + (0 : Int64)) (0 : Int64)
                      have := rng64 ((((p1.toInt64) + (0 : Int64)) + (0 : Int64)))
                      have := c_lsub (((p1.toInt64) + (0 : Int64)) + (0 : Int64)) (p1.toInt64)
                      have := rng64 (((((p1.toInt64) + (0 : Int64)) + (0 : Int64)) - (p1.toInt64)))
                      omega
                    have D289 := Jvm.FP.Core.l2d_int (a := ((((p1.toInt64) + (0 : Int64)) + (0 : Int64)) - (p1.toInt64))) (by rw [rr]; omega)
                    rw [rr] at D289
                    refine g_dc_ne X287 hx 187 194 190 (hb hby at_186) rfl (hb hby at_187) (by decide) (by decide) rfl (Jvm.FP.Core.dcmp_int A264 D289) (fun c290 => ?_) (fun c290 => ?_)
                    · skip
                      exfalso; omega
                    · skip
                      refine g_iconst X287 hx (1 : Int32) 191 (hb hby at_190) rfl (by decide) ?_
                      refine g_goto X287 hx 195 (hb hby at_191) (by decide) (by decide) ?_
                      refine g_istore (l' := #[.val (.int p0), .val (.int p1), .val (.int p2), .val (.int p3), .val (.int (1 : Int32)), .val (.ref a145), .val (.ref a203), .val (.double (FP.i2d p1)), .second, .val (.double (FP.i2d p2)), .second, .val (.double (FP.i2d p3)), .second, .val (.long (((p1.toInt64) + (0 : Int64)) + (0 : Int64))), .second, .val (.int (1 : Int32)), .val (.int (1 : Int32)), .unset]) X287 hx 197 (hb hby at_195) rfl rfl ?_
                      refine g_iload X287 hx 199 (hb hby at_197) rfl rfl ?_
                      refine g_iconst X287 hx (2 : Int32) 200 (hb hby at_199) rfl (by decide) ?_
                      have ll292 : ((2 : Int32) : Int32).toInt = 2 := by decide
                      have ll293 : ((1 : Int32) : Int32).toInt = 1 := by decide
                      refine g_ic_lt X287 hx 270 203 (hb hby at_200) (by decide) (by decide) rfl (fun c291 => ?_) (fun c291 => ?_)
                      · skip
                        refine g_iload X287 hx 272 (hb hby at_270) rfl rfl ?_
                        refine g_iconst X287 hx (3 : Int32) 273 (hb hby at_272) rfl (by decide) ?_
                        have ll295 : ((3 : Int32) : Int32).toInt = 3 := by decide
                        have ll296 : ((1 : Int32) : Int32).toInt = 1 := by decide
                        refine g_ic_lt X287 hx 335 276 (hb hby at_273) (by decide) (by decide) rfl (fun c294 => ?_) (fun c294 => ?_)
                        · skip
                          refine g_iload X287 hx 337 (hb hby at_335) rfl rfl ?_
                          exact g_retZ X287 hx hlk hret (hb hby at_337) (by decide) (by decide) q287 ⟨rfl, N288⟩
                        · skip
                          exfalso; revert c294; decide
                      · skip
                        exfalso; revert c291; decide
          · skip
            exfalso; revert c261; decide
        · skip
          exfalso; revert c258; decide
      · skip
        exfalso; revert c255; decide
    · skip
      exfalso; revert c252; decide
  · skip
    refine g_new X0 hx hZ hown (hw _ (List.mem_of_getElem? (i := 1) rfl)) (hw _ (List.mem_of_getElem? (i := 2) rfl)) (hw _ (List.mem_of_getElem? (i := 3) rfl)) e0 13 (hb hby at_10) rfl (by decide) (by decide) ?_
    intro T297 h297 a297 g297 X297 e297 E297 A297 D297
    have ge298 : n0 ≤ a297 := by rw [g297]; exact Z0
    have Z299 : n0 ≤ h297.size := Nat.le_trans Z0 E297.1
    have F300 : Fld Z h297 a297 "com/example/neaplight/neaplight/Route" "nodes" "[I" .null := D297 (Or.inr (hw _ (List.mem_of_getElem? (i := 17) rfl))) (ty := (.array .int)) (by decide)
    have F301 : Fld Z h297 a297 "com/example/neaplight/neaplight/Route" "links" "[I" .null := D297 (Or.inr (hw _ (List.mem_of_getElem? (i := 19) rfl))) (ty := (.array .int)) (by decide)
    refine g_dup X297 hx 14 (hb hby at_13) rfl rfl ?_
    refine g_iconst X297 hx (2 : Int32) 15 (hb hby at_14) rfl (by decide) ?_
    refine g_newP X297 hx hZ (aty := .int) (hw _ (List.mem_of_getElem? (i := 4) rfl)) e297 (by decide) (cap := 2) (by decide) (by decide) 17 (hb hby at_15) rfl (by decide) (by decide) (ad := "[I") (by decide) ?_
    intro T302 h302 k302 a302 g302 X302 e302 E302 V302 A302
    have ne303 : a297 ≠ a302 := Nat.ne_of_lt (by rw [g302]; exact A297.lt)
    have ge304 : n0 ≤ a302 := by rw [g302]; exact Z299
    have F305 := A297.ext E302
    have F306 := F300.ext E302
    have F307 := F301.ext E302
    have Z308 : n0 ≤ h302.size := Nat.le_trans Z299 E302.1
    have V302' : Arv Z h302 a302 k302 .int (2 : Int32) [(.int (0 : Int32)), (.int (0 : Int32))] (.int (0 : Int32)) := V302.pad (pad_rep [] (.int (0 : Int32)) 2)
    refine g_dup X302 hx 18 (hb hby at_17) rfl rfl ?_
    refine g_iconst X302 hx (0 : Int32) 19 (hb hby at_18) rfl (by decide) ?_
    refine g_iconst X302 hx (0 : Int32) 20 (hb hby at_19) rfl (by decide) ?_
    refine g_iastore X302 hx hZ e302 V302' 0 (by decide) (by decide) (by show 0 < 2; decide) 21 (hb hby at_20) rfl ?_
    intro T309 h309 X309 e309 W309 V309
    have F310 := F305.wr W309
    have F311 := F306.other W309 (Or.inl ne303)
    have F312 := F307.other W309 (Or.inl ne303)
    have F313 := A302.wr W309
    have N315 := Fr.snoc X309 N0 ge304
    have Z316 : n0 ≤ h309.size := by rw [W309.size]; exact Z308
    have V309' : Arv Z h309 a302 k302 .int (2 : Int32) [(.int (0 : Int32)), (.int (0 : Int32))] (.int (0 : Int32)) := V309
    refine g_dup X309 hx 22 (hb hby at_21) rfl rfl ?_
    refine g_iconst X309 hx (1 : Int32) 23 (hb hby at_22) rfl (by decide) ?_
    refine g_iconst X309 hx (1 : Int32) 24 (hb hby at_23) rfl (by decide) ?_
    refine g_iastore X309 hx hZ e309 V309' 1 (by decide) (by decide) (by show 1 < 2; decide) 25 (hb hby at_24) rfl ?_
    intro T317 h317 X317 e317 W317 V317
    have F318 := F310.wr W317
    have F319 := F311.other W317 (Or.inl ne303)
    have F320 := F312.other W317 (Or.inl ne303)
    have F321 := F313.wr W317
    have N323 := Fr.snoc X317 N315 ge304
    have Z324 : n0 ≤ h317.size := by rw [W317.size]; exact Z316
    have V317' : Arv Z h317 a302 k302 .int (2 : Int32) [(.int (0 : Int32)), (.int (1 : Int32))] (.int (0 : Int32)) := V317
    refine g_iconst X317 hx (1 : Int32) 26 (hb hby at_25) rfl (by decide) ?_
    refine g_newP X317 hx hZ (aty := .int) (hw _ (List.mem_of_getElem? (i := 4) rfl)) e317 (by decide) (cap := 1) (by decide) (by decide) 28 (hb hby at_26) rfl (by decide) (by decide) (ad := "[I") (by decide) ?_
    intro T325 h325 k325 a325 g325 X325 e325 E325 V325 A325
    have ne326 : a297 ≠ a325 := Nat.ne_of_lt (by rw [g325]; exact F318.lt)
    have ne327 : a302 ≠ a325 := Nat.ne_of_lt (by rw [g325]; exact F321.lt)
    have ge328 : n0 ≤ a325 := by rw [g325]; exact Z324
    have F329 := F318.ext E325
    have F330 := F319.ext E325
    have F331 := F320.ext E325
    have F332 := F321.ext E325
    have F333 := V317'.ext E325
    have Z334 : n0 ≤ h325.size := Nat.le_trans Z324 E325.1
    have V325' : Arv Z h325 a325 k325 .int (1 : Int32) [(.int (0 : Int32))] (.int (0 : Int32)) := V325.pad (pad_rep [] (.int (0 : Int32)) 1)
    refine g_dup X325 hx 29 (hb hby at_28) rfl rfl ?_
    refine g_iconst X325 hx (0 : Int32) 30 (hb hby at_29) rfl (by decide) ?_
    refine g_iconst X325 hx (0 : Int32) 31 (hb hby at_30) rfl (by decide) ?_
    refine g_iastore X325 hx hZ e325 V325' 0 (by decide) (by decide) (by show 0 < 1; decide) 32 (hb hby at_31) rfl ?_
    intro T335 h335 X335 e335 W335 V335
    have F336 := F329.wr W335
    have F337 := F330.other W335 (Or.inl ne326)
    have F338 := F331.other W335 (Or.inl ne326)
    have F339 := F332.wr W335
    have F340 := F333.other W335 ne327
    have F341 := A325.wr W335
    have N343 := Fr.snoc X335 N323 ge328
    have Z344 : n0 ≤ h335.size := by rw [W335.size]; exact Z334
    have V335' : Arv Z h335 a325 k325 .int (1 : Int32) [(.int (0 : Int32))] (.int (0 : Int32)) := V335
    refine g_init X335 hx hZ rfl hown (hw _ (List.mem_of_getElem? (i := 5) rfl)) (hw _ (List.mem_of_getElem? (i := 6) rfl)) (hw _ (List.mem_of_getElem? (i := 3) rfl)) (hw _ (List.mem_of_getElem? (i := 7) rfl)) (by decide) (rm1 l Z a0 hw a297 a302 a325 h335 n0 Z344 F336 ge298 F337 F338) e335 (a := a297) (argsL := [(.ref a302), (.ref a325)]) (rest := [(.ref a297)]) rfl rfl 1 35 rfl (by rw [hml]; rfl) (lenOf own_pd0 rfl) (Nat.le_refl _) (by decide) (by decide) (by decide) (by decide) (hb hby at_32) ?_
    intro v345 T345 L345 X345 hQ345
    obtain ⟨rfl, N345, K345⟩ := hQ345
    have N346 := Fr.app N343 N345
    have F347 := F336.keep K345
    have F350 := F339.keep K345
    have F351 := F340.keep K345 (ninS (Ne.symm ne303) nin0)
    have F352 := F341.keep K345
    have F353 := V335'.keep K345 (ninS (Ne.symm ne326) nin0)
    have Z354 : n0 ≤ T345.heap.size := Nat.le_trans Z344 K345.1
    show Go p e below _ T345 (mkF m 35 #[.val (.int p0), .val (.int p1), .val (.int p2), .val (.int p3), .val (.int (2 : Int32)), .unset, .unset, .unset, .unset, .unset, .unset, .unset, .unset, .unset, .unset, .unset, .unset, .unset] [(.ref a297)])
    refine g_astore (l' := #[.val (.int p0), .val (.int p1), .val (.int p2), .val (.int p3), .val (.int (2 : Int32)), .val (.ref a297), .unset, .unset, .unset, .unset, .unset, .unset, .unset, .unset, .unset, .unset, .unset, .unset]) X345 hx 37 (hb hby at_35) rfl rfl rfl ?_
    refine g_new X345 hx hZ hown (hw _ (List.mem_of_getElem? (i := 20) rfl)) (hw _ (List.mem_of_getElem? (i := 21) rfl)) (hw _ (List.mem_of_getElem? (i := 22) rfl)) rfl 40 (hb hby at_37) rfl (by decide) (by decide) ?_
    intro T355 h355 a355 g355 X355 e355 E355 A355 D355
    have ne356 : a297 ≠ a355 := Nat.ne_of_lt (by rw [g355]; exact F347.lt)
    have ne357 : a302 ≠ a355 := Nat.ne_of_lt (by rw [g355]; exact F350.lt)
    have ne358 : a325 ≠ a355 := Nat.ne_of_lt (by rw [g355]; exact F352.lt)
    have ge359 : n0 ≤ a355 := by rw [g355]; exact Z354
    have F360 := F347.ext E355
    have F361 := F350.ext E355
    have F362 := F351.ext E355
    have F363 := F352.ext E355
    have F364 := F353.ext E355
    have Z365 : n0 ≤ h355.size := Nat.le_trans Z354 E355.1
    have F366 : Fld Z h355 a355 "com/example/neaplight/neaplight/Lightpath" "route" "Lcom/example/neaplight/neaplight/Route;" .null := D355 (Or.inr (hw _ (List.mem_of_getElem? (i := 28) rfl))) (ty := (.object "com/example/neaplight/neaplight/Route")) (by decide)
    have F367 : Fld Z h355 a355 "com/example/neaplight/neaplight/Lightpath" "channel" "I" (.int (0 : Int32)) := D355 (Or.inr (hw _ (List.mem_of_getElem? (i := 30) rfl))) (ty := .int) (by decide)
    have F368 : Fld Z h355 a355 "com/example/neaplight/neaplight/Lightpath" "width" "I" (.int (0 : Int32)) := D355 (Or.inr (hw _ (List.mem_of_getElem? (i := 32) rfl))) (ty := .int) (by decide)
    have F369 : Fld Z h355 a355 "com/example/neaplight/neaplight/Lightpath" "order" "J" (.long (0 : Int64)) := D355 (Or.inr (hw _ (List.mem_of_getElem? (i := 34) rfl))) (ty := .long) (by decide)
    have F370 : Fld Z h355 a355 "com/example/neaplight/neaplight/Lightpath" "setUp" "D" (.double (0 : UInt64)) := D355 (Or.inr (hw _ (List.mem_of_getElem? (i := 36) rfl))) (ty := .double) (by decide)
    have F371 : Fld Z h355 a355 "com/example/neaplight/neaplight/Lightpath" "lastDeparture" "D" (.double (0 : UInt64)) := D355 (Or.inl (hw _ (List.mem_of_getElem? (i := 38) rfl))) (ty := .double) (by decide)
    have F372 : Fld Z h355 a355 "com/example/neaplight/neaplight/Lightpath" "load" "D" (.double (0 : UInt64)) := D355 (Or.inl (hw _ (List.mem_of_getElem? (i := 45) rfl))) (ty := .double) (by decide)
    have F373 : Fld Z h355 a355 "com/example/neaplight/neaplight/Lightpath" "carried" "I" (.int (0 : Int32)) := D355 (Or.inl (hw _ (List.mem_of_getElem? (i := 47) rfl))) (ty := .int) (by decide)
    refine g_dup X355 hx 41 (hb hby at_40) rfl rfl ?_
    refine g_aload X355 hx 43 (hb hby at_41) rfl rfl rfl ?_
    refine g_iconst X355 hx (0 : Int32) 44 (hb hby at_43) rfl (by decide) ?_
    refine g_iconst X355 hx (1 : Int32) 45 (hb hby at_44) rfl (by decide) ?_
    refine g_lconst X355 hx (0 : Int64) 46 (hb hby at_45) rfl (by decide) ?_
    refine g_dconst0 X355 hx 47 (hb hby at_46) rfl ?_
    refine g_init X355 hx hZ rfl hown (hw _ (List.mem_of_getElem? (i := 23) rfl)) (hw _ (List.mem_of_getElem? (i := 24) rfl)) (hw _ (List.mem_of_getElem? (i := 22) rfl)) (hw _ (List.mem_of_getElem? (i := 25) rfl)) (by decide) (rm4 l Z a0 hw a355 a297 0 1 0 0 h355 n0 Z365 A355 ge359 F366 F367 F368 F369 F370 F371 F372 F373) e355 (a := a355) (argsL := [(.ref a297), (.int (0 : Int32)), (.int (1 : Int32)), (.long (0 : Int64)), (.double 0)]) (rest := [(.ref a355)]) rfl rfl 1 50 rfl (by rw [hml]; rfl) (lenOf own_pd2 rfl) (Nat.le_refl _) (by decide) (by decide) (by decide) (by decide) (hb hby at_47) ?_
    intro v374 T374 L374 X374 hQ374
    obtain ⟨rfl, N374, K374, Fd374, Fl374, Fc374⟩ := hQ374
    have N375 := Fr.app N346 N374
    have F376 := F360.keep K374
    have F377 := F361.keep K374
    have F378 := F362.keep K374 (ninS ne357 nin0)
    have F379 := F363.keep K374
    have F380 := F364.keep K374 (ninS ne358 nin0)
    have F381 := A355.keep K374
    have Z390 : n0 ≤ T374.heap.size := Nat.le_trans Z365 K374.1
    show Go p e below _ T374 (mkF m 50 #[.val (.int p0), .val (.int p1), .val (.int p2), .val (.int p3), .val (.int (2 : Int32)), .val (.ref a297), .unset, .unset, .unset, .unset, .unset, .unset, .unset, .unset, .unset, .unset, .unset, .unset] [(.ref a355)])
    refine g_astore (l' := #[.val (.int p0), .val (.int p1), .val (.int p2), .val (.int p3), .val (.int (2 : Int32)), .val (.ref a297), .val (.ref a355), .unset, .unset, .unset, .unset, .unset, .unset, .unset, .unset, .unset, .unset, .unset]) X374 hx 52 (hb hby at_50) rfl rfl rfl ?_
    refine g_iloadN X374 hx 53 (hb hby at_52) rfl rfl ?_
    refine g_i2d X374 hx 54 (hb hby at_53) rfl ?_
    refine g_dstore (l' := #[.val (.int p0), .val (.int p1), .val (.int p2), .val (.int p3), .val (.int (2 : Int32)), .val (.ref a297), .val (.ref a355), .val (.double (FP.i2d p1)), .second, .unset, .unset, .unset, .unset, .unset, .unset, .unset, .unset, .unset]) X374 hx 56 (hb hby at_54) rfl rfl ?_
    refine g_iloadN X374 hx 57 (hb hby at_56) rfl rfl ?_
    refine g_i2d X374 hx 58 (hb hby at_57) rfl ?_
    refine g_dstore (l' := #[.val (.int p0), .val (.int p1), .val (.int p2), .val (.int p3), .val (.int (2 : Int32)), .val (.ref a297), .val (.ref a355), .val (.double (FP.i2d p1)), .second, .val (.double (FP.i2d p2)), .second, .unset, .unset, .unset, .unset, .unset, .unset, .unset]) X374 hx 60 (hb hby at_58) rfl rfl ?_
    refine g_iloadN X374 hx 61 (hb hby at_60) rfl rfl ?_
    refine g_i2d X374 hx 62 (hb hby at_61) rfl ?_
    refine g_dstore (l' := #[.val (.int p0), .val (.int p1), .val (.int p2), .val (.int p3), .val (.int (2 : Int32)), .val (.ref a297), .val (.ref a355), .val (.double (FP.i2d p1)), .second, .val (.double (FP.i2d p2)), .second, .val (.double (FP.i2d p3)), .second, .unset, .unset, .unset, .unset, .unset]) X374 hx 64 (hb hby at_62) rfl rfl ?_
    refine g_aload X374 hx 66 (hb hby at_64) rfl rfl rfl ?_
    refine g_dload X374 hx 68 (hb hby at_66) rfl rfl ?_
    refine g_dconst1 X374 hx 69 (hb hby at_68) rfl ?_
    have A391 := Jvm.FP.Core.dadd_int own_dzero W1 (by omega)
    refine g_virt X374 hx hZ (C := "com/example/neaplight/neaplight/Lightpath") hown (hw _ (List.mem_of_getElem? (i := 39) rfl)) (hw _ (List.mem_of_getElem? (i := 40) rfl)) (hw _ (List.mem_of_getElem? (i := 42) rfl)) (hw _ (List.mem_of_getElem? (i := 42) rfl)) (hw _ (List.mem_of_getElem? (i := 41) rfl)) (hw _ (List.mem_of_getElem? (i := 22) rfl)) (hw _ (List.mem_of_getElem? (i := 43) rfl)) (by decide) (rm5 l Z a0 hw a355 (FP.i2d p1) 4607182418800017408 T374.heap n0 Z390 (0 : UInt64) (0 : Int32) (0 : UInt64) F381 ge359 Fl374 Fc374 Fd374 (own_dnn A391) _ 1 own_dzero own_done) rfl (b := a355) F381 (argsL := [(.double (FP.i2d p1)), (.double 4607182418800017408)]) (rest := []) rfl rfl 0 72 rfl (by rw [hml]; rfl) (lenOf own_pd3 rfl) (Nat.le_refl _) (by decide) (by decide) (by decide) (by decide) (hb hby at_69) ?_
    intro v392 T392 L392 X392 hQ392
    obtain ⟨rfl, N392, K392, Fl392, Fc392, d392, Fd392, i392, hd392⟩ := hQ392
    have N393 := Fr.app N375 N392
    have F394 := F376.keep K392
    have F395 := F377.keep K392
    have F396 := F378.keep K392 (ninS ne357 nin0)
    have F397 := F379.keep K392
    have F398 := F380.keep K392 (ninS ne358 nin0)
    have F399 := F381.keep K392
    have Z403 : n0 ≤ T392.heap.size := Nat.le_trans Z390 K392.1
    show Go p e below _ T392 (mkF m 72 #[.val (.int p0), .val (.int p1), .val (.int p2), .val (.int p3), .val (.int (2 : Int32)), .val (.ref a297), .val (.ref a355), .val (.double (FP.i2d p1)), .second, .val (.double (FP.i2d p2)), .second, .val (.double (FP.i2d p3)), .second, .unset, .unset, .unset, .unset, .unset] [])
    refine g_iload X392 hx 74 (hb hby at_72) rfl rfl ?_
    refine g_iconst X392 hx (2 : Int32) 75 (hb hby at_74) rfl (by decide) ?_
    have ll405 : ((2 : Int32) : Int32).toInt = 2 := by decide
    have ll406 : ((2 : Int32) : Int32).toInt = 2 := by decide
    refine g_ic_lt X392 hx 86 78 (hb hby at_75) (by decide) (by decide) rfl (fun c404 => ?_) (fun c404 => ?_)
    · skip
      exfalso; revert c404; decide
    · skip
      refine g_aload X392 hx 80 (hb hby at_78) rfl rfl rfl ?_
      refine g_dload X392 hx 82 (hb hby at_80) rfl rfl ?_
      refine g_dconst1 X392 hx 83 (hb hby at_82) rfl ?_
      have A407 := Jvm.FP.Core.dadd_int A391 W2 (by omega)
      refine g_virt X392 hx hZ (C := "com/example/neaplight/neaplight/Lightpath") hown (hw _ (List.mem_of_getElem? (i := 39) rfl)) (hw _ (List.mem_of_getElem? (i := 40) rfl)) (hw _ (List.mem_of_getElem? (i := 42) rfl)) (hw _ (List.mem_of_getElem? (i := 42) rfl)) (hw _ (List.mem_of_getElem? (i := 41) rfl)) (hw _ (List.mem_of_getElem? (i := 22) rfl)) (hw _ (List.mem_of_getElem? (i := 43) rfl)) (by decide) (rm5 l Z a0 hw a355 (FP.i2d p2) 4607182418800017408 T392.heap n0 Z403 (FP.dadd (0 : UInt64) (FP.i2d p1)) ((0 : Int32) + (1 : Int32)) d392 F399 ge359 Fl392 Fc392 Fd392 (own_dnn A407) _ 1 hd392 own_done) rfl (b := a355) F399 (argsL := [(.double (FP.i2d p2)), (.double 4607182418800017408)]) (rest := []) rfl rfl 0 86 rfl (by rw [hml]; rfl) (lenOf own_pd3 rfl) (Nat.le_refl _) (by decide) (by decide) (by decide) (by decide) (hb hby at_83) ?_
      intro v408 T408 L408 X408 hQ408
      obtain ⟨rfl, N408, K408, Fl408, Fc408, d408, Fd408, i408, hd408⟩ := hQ408
      have N409 := Fr.app N393 N408
      have F410 := F394.keep K408
      have F411 := F395.keep K408
      have F412 := F396.keep K408 (ninS ne357 nin0)
      have F413 := F397.keep K408
      have F414 := F398.keep K408 (ninS ne358 nin0)
      have F415 := F399.keep K408
      have Z419 : n0 ≤ T408.heap.size := Nat.le_trans Z403 K408.1
      show Go p e below _ T408 (mkF m 86 #[.val (.int p0), .val (.int p1), .val (.int p2), .val (.int p3), .val (.int (2 : Int32)), .val (.ref a297), .val (.ref a355), .val (.double (FP.i2d p1)), .second, .val (.double (FP.i2d p2)), .second, .val (.double (FP.i2d p3)), .second, .unset, .unset, .unset, .unset, .unset] [])
      refine g_iload X408 hx 88 (hb hby at_86) rfl rfl ?_
      refine g_iconst X408 hx (3 : Int32) 89 (hb hby at_88) rfl (by decide) ?_
      have ll421 : ((3 : Int32) : Int32).toInt = 3 := by decide
      have ll422 : ((2 : Int32) : Int32).toInt = 2 := by decide
      refine g_ic_lt X408 hx 100 92 (hb hby at_89) (by decide) (by decide) rfl (fun c420 => ?_) (fun c420 => ?_)
      · skip
        refine g_iloadN X408 hx 101 (hb hby at_100) rfl rfl ?_
        refine g_i2l X408 hx 102 (hb hby at_101) rfl ?_
        refine g_iload X408 hx 104 (hb hby at_102) rfl rfl ?_
        refine g_iconst X408 hx (2 : Int32) 105 (hb hby at_104) rfl (by decide) ?_
        have ll424 : ((2 : Int32) : Int32).toInt = 2 := by decide
        have ll425 : ((2 : Int32) : Int32).toInt = 2 := by decide
        refine g_ic_lt X408 hx 113 108 (hb hby at_105) (by decide) (by decide) rfl (fun c423 => ?_) (fun c423 => ?_)
        · skip
          exfalso; revert c423; decide
        · skip
          refine g_iloadN X408 hx 109 (hb hby at_108) rfl rfl ?_
          refine g_i2l X408 hx 110 (hb hby at_109) rfl ?_
          refine g_goto X408 hx 114 (hb hby at_110) (by decide) (by decide) ?_
          refine g_ladd X408 hx 115 (hb hby at_114) rfl ?_
          refine g_iload X408 hx 117 (hb hby at_115) rfl rfl ?_
          refine g_iconst X408 hx (3 : Int32) 118 (hb hby at_117) rfl (by decide) ?_
          have ll427 : ((3 : Int32) : Int32).toInt = 3 := by decide
          have ll428 : ((2 : Int32) : Int32).toInt = 2 := by decide
          refine g_ic_lt X408 hx 126 121 (hb hby at_118) (by decide) (by decide) rfl (fun c426 => ?_) (fun c426 => ?_)
          · skip
            refine g_lconst X408 hx (0 : Int64) 127 (hb hby at_126) rfl (by decide) ?_
            refine g_ladd X408 hx 128 (hb hby at_127) rfl ?_
            refine g_lstore (l' := #[.val (.int p0), .val (.int p1), .val (.int p2), .val (.int p3), .val (.int (2 : Int32)), .val (.ref a297), .val (.ref a355), .val (.double (FP.i2d p1)), .second, .val (.double (FP.i2d p2)), .second, .val (.double (FP.i2d p3)), .second, .val (.long (((p1.toInt64) + (p2.toInt64)) + (0 : Int64))), .second, .unset, .unset, .unset]) X408 hx 130 (hb hby at_128) rfl rfl ?_
            refine g_iconst X408 hx (1 : Int32) 131 (hb hby at_130) rfl (by decide) ?_
            refine g_istore (l' := #[.val (.int p0), .val (.int p1), .val (.int p2), .val (.int p3), .val (.int (2 : Int32)), .val (.ref a297), .val (.ref a355), .val (.double (FP.i2d p1)), .second, .val (.double (FP.i2d p2)), .second, .val (.double (FP.i2d p3)), .second, .val (.long (((p1.toInt64) + (p2.toInt64)) + (0 : Int64))), .second, .val (.int (1 : Int32)), .unset, .unset]) X408 hx 133 (hb hby at_131) rfl rfl ?_
            refine g_aload X408 hx 135 (hb hby at_133) rfl rfl rfl ?_
            refine g_dload X408 hx 137 (hb hby at_135) rfl rfl ?_
            have A429 := Jvm.FP.Core.dsub_int A407 W1 (by omega)
            refine g_virt X408 hx hZ (C := "com/example/neaplight/neaplight/Lightpath") hown (hw _ (List.mem_of_getElem? (i := 52) rfl)) (hw _ (List.mem_of_getElem? (i := 53) rfl)) (hw _ (List.mem_of_getElem? (i := 55) rfl)) (hw _ (List.mem_of_getElem? (i := 55) rfl)) (hw _ (List.mem_of_getElem? (i := 54) rfl)) (hw _ (List.mem_of_getElem? (i := 22) rfl)) (hw _ (List.mem_of_getElem? (i := 56) rfl)) (by decide) (rm7 l Z a0 hw a355 (FP.i2d p1) T408.heap n0 Z419 (FP.dadd (FP.dadd (0 : UInt64) (FP.i2d p1)) (FP.i2d p2)) (((0 : Int32) + (1 : Int32)) + (1 : Int32)) d408 F415 ge359 Fl408 Fc408 Fd408 (own_dnn A429)) rfl (b := a355) F415 (argsL := [(.double (FP.i2d p1))]) (rest := []) rfl rfl 0 140 rfl (by rw [hml]; rfl) (lenOf own_pd5 rfl) (Nat.le_refl _) (by decide) (by decide) (by decide) (by decide) (hb hby at_137) ?_
            intro v430 T430 L430 X430 hQ430
            obtain ⟨r430, rfl, z430, N430, K430, Fl430, Fc430, Fd430⟩ := hQ430
            obtain rfl : r430 = 0 := z430.2 (by decide)
            have N431 := Fr.app N409 N430
            have F432 := F410.keep K430
            have F433 := F411.keep K430
            have F434 := F412.keep K430 (ninS ne357 nin0)
            have F435 := F413.keep K430
            have F436 := F414.keep K430 (ninS ne358 nin0)
            have F437 := F415.keep K430
            have Z441 : n0 ≤ T430.heap.size := Nat.le_trans Z419 K430.1
            show Go p e below _ T430 (mkF m 140 #[.val (.int p0), .val (.int p1), .val (.int p2), .val (.int p3), .val (.int (2 : Int32)), .val (.ref a297), .val (.ref a355), .val (.double (FP.i2d p1)), .second, .val (.double (FP.i2d p2)), .second, .val (.double (FP.i2d p3)), .second, .val (.long (((p1.toInt64) + (p2.toInt64)) + (0 : Int64))), .second, .val (.int (1 : Int32)), .unset, .unset] [(.int (0 : Int32))])
            refine g_istore (l' := #[.val (.int p0), .val (.int p1), .val (.int p2), .val (.int p3), .val (.int (2 : Int32)), .val (.ref a297), .val (.ref a355), .val (.double (FP.i2d p1)), .second, .val (.double (FP.i2d p2)), .second, .val (.double (FP.i2d p3)), .second, .val (.long (((p1.toInt64) + (p2.toInt64)) + (0 : Int64))), .second, .val (.int (1 : Int32)), .val (.int (0 : Int32)), .unset]) X430 hx 142 (hb hby at_140) rfl rfl ?_
            refine g_iload X430 hx 144 (hb hby at_142) rfl rfl ?_
            have ll443 : ((1 : Int32) : Int32).toInt = 1 := by decide
            refine g_if_eq X430 hx 167 147 (hb hby at_144) (by decide) (by decide) rfl (fun c442 => ?_) (fun c442 => ?_)
            · skip
              exfalso; revert c442; decide
            · skip
              refine g_iload X430 hx 149 (hb hby at_147) rfl rfl ?_
              refine g_iload X430 hx 151 (hb hby at_149) rfl rfl ?_
              refine g_iconst X430 hx (1 : Int32) 152 (hb hby at_151) rfl (by decide) ?_
              have ll445 : ((1 : Int32) : Int32).toInt = 1 := by decide
              have ll446 : ((2 : Int32) : Int32).toInt = 2 := by decide
              refine g_ic_ne X430 hx 159 155 (hb hby at_152) (by decide) (by decide) rfl (fun c444 => ?_) (fun c444 => ?_)
              · skip
                refine g_iconst X430 hx (0 : Int32) 160 (hb hby at_159) rfl (by decide) ?_
                have ll448 : ((0 : Int32) : Int32).toInt = 0 := by decide
                have ll449 : ((0 : Int32) : Int32).toInt = 0 := by decide
                refine g_ic_ne X430 hx 167 163 (hb hby at_160) (by decide) (by decide) rfl (fun c447 => ?_) (fun c447 => ?_)
                · skip
                  exfalso; revert c447; decide
                · skip
                  refine g_iconst X430 hx (1 : Int32) 164 (hb hby at_163) rfl (by decide) ?_
                  refine g_goto X430 hx 168 (hb hby at_164) (by decide) (by decide) ?_
                  refine g_istore (l' := #[.val (.int p0), .val (.int p1), .val (.int p2), .val (.int p3), .val (.int (2 : Int32)), .val (.ref a297), .val (.ref a355), .val (.double (FP.i2d p1)), .second, .val (.double (FP.i2d p2)), .second, .val (.double (FP.i2d p3)), .second, .val (.long (((p1.toInt64) + (p2.toInt64)) + (0 : Int64))), .second, .val (.int (1 : Int32)), .val (.int (0 : Int32)), .unset]) X430 hx 170 (hb hby at_168) rfl rfl ?_
                  refine g_iload X430 hx 172 (hb hby at_170) rfl rfl ?_
                  have ll451 : ((1 : Int32) : Int32).toInt = 1 := by decide
                  refine g_if_eq X430 hx 194 175 (hb hby at_172) (by decide) (by decide) rfl (fun c450 => ?_) (fun c450 => ?_)
                  · skip
                    exfalso; revert c450; decide
                  · skip
                    refine g_aload X430 hx 177 (hb hby at_175) rfl rfl rfl ?_
                    refine g_virt X430 hx hZ (C := "com/example/neaplight/neaplight/Lightpath") hown (hw _ (List.mem_of_getElem? (i := 57) rfl)) (hw _ (List.mem_of_getElem? (i := 58) rfl)) (hw _ (List.mem_of_getElem? (i := 60) rfl)) (hw _ (List.mem_of_getElem? (i := 60) rfl)) (hw _ (List.mem_of_getElem? (i := 59) rfl)) (hw _ (List.mem_of_getElem? (i := 22) rfl)) (hw _ (List.mem_of_getElem? (i := 61) rfl)) (by decide) (rm8 l Z a0 hw a355 T430.heap n0 Z441 (FP.dsub (FP.dadd (FP.dadd (0 : UInt64) (FP.i2d p1)) (FP.i2d p2)) (FP.i2d p1)) Fl430) rfl (b := a355) F437 (argsL := []) (rest := []) rfl rfl 0 180 rfl (by rw [hml]; rfl) (lenOf own_pd6 rfl) (Nat.le_refl _) (by decide) (by decide) (by decide) (by decide) (hb hby at_177) ?_
                    intro v452 T452 L452 X452 hQ452
                    obtain ⟨rfl, N452, q452⟩ := hQ452
                    have N453 := Fr.app N431 N452
                    show Go p e below _ T452 (mkF m 180 #[.val (.int p0), .val (.int p1), .val (.int p2), .val (.int p3), .val (.int (2 : Int32)), .val (.ref a297), .val (.ref a355), .val (.double (FP.i2d p1)), .second, .val (.double (FP.i2d p2)), .second, .val (.double (FP.i2d p3)), .second, .val (.long (((p1.toInt64) + (p2.toInt64)) + (0 : Int64))), .second, .val (.int (1 : Int32)), .val (.int (0 : Int32)), .unset] [(.double (FP.dsub (FP.dadd (FP.dadd (0 : UInt64) (FP.i2d p1)) (FP.i2d p2)) (FP.i2d p1)))])
                    refine g_lload X452 hx 182 (hb hby at_180) rfl rfl ?_
                    refine g_iloadN X452 hx 183 (hb hby at_182) rfl rfl ?_
                    refine g_i2l X452 hx 184 (hb hby at_183) rfl ?_
                    refine g_lsub X452 hx 185 (hb hby at_184) rfl ?_
                    refine g_l2d X452 hx 186 (hb hby at_185) rfl ?_
                    have rr : (((((p1.toInt64) + (p2.toInt64)) + (0 : Int64)) - (p1.toInt64))).toInt = (((p1.toInt + p2.toInt) + 0) - p1.toInt) := by
                      have := c_ladd (p1.toInt64) (p2.toInt64)
                      have := rng64 (((p1.toInt64) + (p2.toInt64)))
                      have := c_ladd ((p1.toInt64) + (p2.toInt64)) (0 : Int64)
                      have := rng64 ((((p1.toInt64) + (p2.toInt64)) + (0 : Int64)))
                      have := c_lsub (((p1.toInt64) + (p2.toInt64)) + (0 : Int64)) (p1.toInt64)
                      have := rng64 (((((p1.toInt64) + (p2.toInt64)) + (0 : Int64)) - (p1.toInt64)))
                      omega
                    have D454 := Jvm.FP.Core.l2d_int (a := ((((p1.toInt64) + (p2.toInt64)) + (0 : Int64)) - (p1.toInt64))) (by rw [rr]; omega)
                    rw [rr] at D454
                    refine g_dc_ne X452 hx 187 194 190 (hb hby at_186) rfl (hb hby at_187) (by decide) (by decide) rfl (Jvm.FP.Core.dcmp_int A429 D454) (fun c455 => ?_) (fun c455 => ?_)
                    · skip
                      exfalso; omega
                    · skip
                      refine g_iconst X452 hx (1 : Int32) 191 (hb hby at_190) rfl (by decide) ?_
                      refine g_goto X452 hx 195 (hb hby at_191) (by decide) (by decide) ?_
                      refine g_istore (l' := #[.val (.int p0), .val (.int p1), .val (.int p2), .val (.int p3), .val (.int (2 : Int32)), .val (.ref a297), .val (.ref a355), .val (.double (FP.i2d p1)), .second, .val (.double (FP.i2d p2)), .second, .val (.double (FP.i2d p3)), .second, .val (.long (((p1.toInt64) + (p2.toInt64)) + (0 : Int64))), .second, .val (.int (1 : Int32)), .val (.int (0 : Int32)), .unset]) X452 hx 197 (hb hby at_195) rfl rfl ?_
                      refine g_iload X452 hx 199 (hb hby at_197) rfl rfl ?_
                      refine g_iconst X452 hx (2 : Int32) 200 (hb hby at_199) rfl (by decide) ?_
                      have ll457 : ((2 : Int32) : Int32).toInt = 2 := by decide
                      have ll458 : ((2 : Int32) : Int32).toInt = 2 := by decide
                      refine g_ic_lt X452 hx 270 203 (hb hby at_200) (by decide) (by decide) rfl (fun c456 => ?_) (fun c456 => ?_)
                      · skip
                        exfalso; revert c456; decide
                      · skip
                        refine g_aload X452 hx 205 (hb hby at_203) rfl rfl rfl ?_
                        refine g_dload X452 hx 207 (hb hby at_205) rfl rfl ?_
                        have A459 := Jvm.FP.Core.dsub_int A429 W2 (by omega)
                        refine g_virt X452 hx hZ (C := "com/example/neaplight/neaplight/Lightpath") hown (hw _ (List.mem_of_getElem? (i := 52) rfl)) (hw _ (List.mem_of_getElem? (i := 53) rfl)) (hw _ (List.mem_of_getElem? (i := 55) rfl)) (hw _ (List.mem_of_getElem? (i := 55) rfl)) (hw _ (List.mem_of_getElem? (i := 54) rfl)) (hw _ (List.mem_of_getElem? (i := 22) rfl)) (hw _ (List.mem_of_getElem? (i := 56) rfl)) (by decide) (rm7 l Z a0 hw a355 (FP.i2d p2) T430.heap n0 Z441 (FP.dsub (FP.dadd (FP.dadd (0 : UInt64) (FP.i2d p1)) (FP.i2d p2)) (FP.i2d p1)) ((((0 : Int32) + (1 : Int32)) + (1 : Int32)) - (1 : Int32)) d408 F437 ge359 Fl430 Fc430 Fd430 (own_dnn A459)) q452 (b := a355) F437 (argsL := [(.double (FP.i2d p2))]) (rest := []) rfl rfl 0 210 rfl (by rw [hml]; rfl) (lenOf own_pd5 rfl) (Nat.le_refl _) (by decide) (by decide) (by decide) (by decide) (hb hby at_207) ?_
                        intro v460 T460 L460 X460 hQ460
                        obtain ⟨r460, rfl, z460, N460, K460, Fl460, Fc460, Fd460⟩ := hQ460
                        obtain rfl : r460 = 1 := z460.1 (by decide)
                        have N461 := Fr.app N453 N460
                        have F462 := F432.keep K460
                        have F463 := F433.keep K460
                        have F464 := F434.keep K460 (ninS ne357 nin0)
                        have F465 := F435.keep K460
                        have F466 := F436.keep K460 (ninS ne358 nin0)
                        have F467 := F437.keep K460
                        have Z471 : n0 ≤ T460.heap.size := Nat.le_trans Z441 K460.1
                        show Go p e below _ T460 (mkF m 210 #[.val (.int p0), .val (.int p1), .val (.int p2), .val (.int p3), .val (.int (2 : Int32)), .val (.ref a297), .val (.ref a355), .val (.double (FP.i2d p1)), .second, .val (.double (FP.i2d p2)), .second, .val (.double (FP.i2d p3)), .second, .val (.long (((p1.toInt64) + (p2.toInt64)) + (0 : Int64))), .second, .val (.int (1 : Int32)), .val (.int (0 : Int32)), .unset] [(.int (1 : Int32))])
                        refine g_istore (l' := #[.val (.int p0), .val (.int p1), .val (.int p2), .val (.int p3), .val (.int (2 : Int32)), .val (.ref a297), .val (.ref a355), .val (.double (FP.i2d p1)), .second, .val (.double (FP.i2d p2)), .second, .val (.double (FP.i2d p3)), .second, .val (.long (((p1.toInt64) + (p2.toInt64)) + (0 : Int64))), .second, .val (.int (1 : Int32)), .val (.int (0 : Int32)), .val (.int (1 : Int32))]) X460 hx 212 (hb hby at_210) rfl rfl ?_
                        refine g_iload X460 hx 214 (hb hby at_212) rfl rfl ?_
                        have ll473 : ((1 : Int32) : Int32).toInt = 1 := by decide
                        refine g_if_eq X460 hx 237 217 (hb hby at_214) (by decide) (by decide) rfl (fun c472 => ?_) (fun c472 => ?_)
                        · skip
                          exfalso; revert c472; decide
                        · skip
                          refine g_iload X460 hx 219 (hb hby at_217) rfl rfl ?_
                          refine g_iload X460 hx 221 (hb hby at_219) rfl rfl ?_
                          refine g_iconst X460 hx (2 : Int32) 222 (hb hby at_221) rfl (by decide) ?_
                          have ll475 : ((2 : Int32) : Int32).toInt = 2 := by decide
                          have ll476 : ((2 : Int32) : Int32).toInt = 2 := by decide
                          refine g_ic_ne X460 hx 229 225 (hb hby at_222) (by decide) (by decide) rfl (fun c474 => ?_) (fun c474 => ?_)
                          · skip
                            exfalso; revert c474; decide
                          · skip
                            refine g_iconst X460 hx (1 : Int32) 226 (hb hby at_225) rfl (by decide) ?_
                            refine g_goto X460 hx 230 (hb hby at_226) (by decide) (by decide) ?_
                            have ll478 : ((1 : Int32) : Int32).toInt = 1 := by decide
                            have ll479 : ((1 : Int32) : Int32).toInt = 1 := by decide
                            refine g_ic_ne X460 hx 237 233 (hb hby at_230) (by decide) (by decide) rfl (fun c477 => ?_) (fun c477 => ?_)
                            · skip
                              exfalso; revert c477; decide
                            · skip
                              refine g_iconst X460 hx (1 : Int32) 234 (hb hby at_233) rfl (by decide) ?_
                              refine g_goto X460 hx 238 (hb hby at_234) (by decide) (by decide) ?_
                              refine g_istore (l' := #[.val (.int p0), .val (.int p1), .val (.int p2), .val (.int p3), .val (.int (2 : Int32)), .val (.ref a297), .val (.ref a355), .val (.double (FP.i2d p1)), .second, .val (.double (FP.i2d p2)), .second, .val (.double (FP.i2d p3)), .second, .val (.long (((p1.toInt64) + (p2.toInt64)) + (0 : Int64))), .second, .val (.int (1 : Int32)), .val (.int (0 : Int32)), .val (.int (1 : Int32))]) X460 hx 240 (hb hby at_238) rfl rfl ?_
                              refine g_iload X460 hx 242 (hb hby at_240) rfl rfl ?_
                              have ll481 : ((1 : Int32) : Int32).toInt = 1 := by decide
                              refine g_if_eq X460 hx 267 245 (hb hby at_242) (by decide) (by decide) rfl (fun c480 => ?_) (fun c480 => ?_)
                              · skip
                                exfalso; revert c480; decide
                              · skip
                                refine g_aload X460 hx 247 (hb hby at_245) rfl rfl rfl ?_
                                refine g_virt X460 hx hZ (C := "com/example/neaplight/neaplight/Lightpath") hown (hw _ (List.mem_of_getElem? (i := 57) rfl)) (hw _ (List.mem_of_getElem? (i := 58) rfl)) (hw _ (List.mem_of_getElem? (i := 60) rfl)) (hw _ (List.mem_of_getElem? (i := 60) rfl)) (hw _ (List.mem_of_getElem? (i := 59) rfl)) (hw _ (List.mem_of_getElem? (i := 22) rfl)) (hw _ (List.mem_of_getElem? (i := 61) rfl)) (by decide) (rm8 l Z a0 hw a355 T460.heap n0 Z471 (FP.dsub (FP.dsub (FP.dadd (FP.dadd (0 : UInt64) (FP.i2d p1)) (FP.i2d p2)) (FP.i2d p1)) (FP.i2d p2)) Fl460) rfl (b := a355) F467 (argsL := []) (rest := []) rfl rfl 0 250 rfl (by rw [hml]; rfl) (lenOf own_pd6 rfl) (Nat.le_refl _) (by decide) (by decide) (by decide) (by decide) (hb hby at_247) ?_
                                intro v482 T482 L482 X482 hQ482
                                obtain ⟨rfl, N482, q482⟩ := hQ482
                                have N483 := Fr.app N461 N482
                                show Go p e below _ T482 (mkF m 250 #[.val (.int p0), .val (.int p1), .val (.int p2), .val (.int p3), .val (.int (2 : Int32)), .val (.ref a297), .val (.ref a355), .val (.double (FP.i2d p1)), .second, .val (.double (FP.i2d p2)), .second, .val (.double (FP.i2d p3)), .second, .val (.long (((p1.toInt64) + (p2.toInt64)) + (0 : Int64))), .second, .val (.int (1 : Int32)), .val (.int (0 : Int32)), .val (.int (1 : Int32))] [(.double (FP.dsub (FP.dsub (FP.dadd (FP.dadd (0 : UInt64) (FP.i2d p1)) (FP.i2d p2)) (FP.i2d p1)) (FP.i2d p2)))])
                                refine g_lload X482 hx 252 (hb hby at_250) rfl rfl ?_
                                refine g_iloadN X482 hx 253 (hb hby at_252) rfl rfl ?_
                                refine g_i2l X482 hx 254 (hb hby at_253) rfl ?_
                                refine g_lsub X482 hx 255 (hb hby at_254) rfl ?_
                                refine g_iloadN X482 hx 256 (hb hby at_255) rfl rfl ?_
                                refine g_i2l X482 hx 257 (hb hby at_256) rfl ?_
                                refine g_lsub X482 hx 258 (hb hby at_257) rfl ?_
                                refine g_l2d X482 hx 259 (hb hby at_258) rfl ?_
                                have rr : ((((((p1.toInt64) + (p2.toInt64)) + (0 : Int64)) - (p1.toInt64)) - (p2.toInt64))).toInt = ((((p1.toInt + p2.toInt) + 0) - p1.toInt) - p2.toInt) := by
                                  have := c_ladd (p1.toInt64) (p2.toInt64)
                                  have := rng64 (((p1.toInt64) + (p2.toInt64)))
                                  have := c_ladd ((p1.toInt64) + (p2.toInt64)) (0 : Int64)
                                  have := rng64 ((((p1.toInt64) + (p2.toInt64)) + (0 : Int64)))
                                  have := c_lsub (((p1.toInt64) + (p2.toInt64)) + (0 : Int64)) (p1.toInt64)
                                  have := rng64 (((((p1.toInt64) + (p2.toInt64)) + (0 : Int64)) - (p1.toInt64)))
                                  have := c_lsub ((((p1.toInt64) + (p2.toInt64)) + (0 : Int64)) - (p1.toInt64)) (p2.toInt64)
                                  have := rng64 ((((((p1.toInt64) + (p2.toInt64)) + (0 : Int64)) - (p1.toInt64)) - (p2.toInt64)))
                                  omega
                                have D484 := Jvm.FP.Core.l2d_int (a := (((((p1.toInt64) + (p2.toInt64)) + (0 : Int64)) - (p1.toInt64)) - (p2.toInt64))) (by rw [rr]; omega)
                                rw [rr] at D484
                                refine g_dc_ne X482 hx 260 267 263 (hb hby at_259) rfl (hb hby at_260) (by decide) (by decide) rfl (Jvm.FP.Core.dcmp_int A459 D484) (fun c485 => ?_) (fun c485 => ?_)
                                · skip
                                  exfalso; omega
                                · skip
                                  refine g_iconst X482 hx (1 : Int32) 264 (hb hby at_263) rfl (by decide) ?_
                                  refine g_goto X482 hx 268 (hb hby at_264) (by decide) (by decide) ?_
                                  refine g_istore (l' := #[.val (.int p0), .val (.int p1), .val (.int p2), .val (.int p3), .val (.int (2 : Int32)), .val (.ref a297), .val (.ref a355), .val (.double (FP.i2d p1)), .second, .val (.double (FP.i2d p2)), .second, .val (.double (FP.i2d p3)), .second, .val (.long (((p1.toInt64) + (p2.toInt64)) + (0 : Int64))), .second, .val (.int (1 : Int32)), .val (.int (0 : Int32)), .val (.int (1 : Int32))]) X482 hx 270 (hb hby at_268) rfl rfl ?_
                                  refine g_iload X482 hx 272 (hb hby at_270) rfl rfl ?_
                                  refine g_iconst X482 hx (3 : Int32) 273 (hb hby at_272) rfl (by decide) ?_
                                  have ll487 : ((3 : Int32) : Int32).toInt = 3 := by decide
                                  have ll488 : ((2 : Int32) : Int32).toInt = 2 := by decide
                                  refine g_ic_lt X482 hx 335 276 (hb hby at_273) (by decide) (by decide) rfl (fun c486 => ?_) (fun c486 => ?_)
                                  · skip
                                    refine g_iload X482 hx 337 (hb hby at_335) rfl rfl ?_
                                    exact g_retZ X482 hx hlk hret (hb hby at_337) (by decide) (by decide) q482 ⟨rfl, N483⟩
                                  · skip
                                    exfalso; revert c486; decide
              · skip
                exfalso; revert c444; decide
          · skip
            exfalso; revert c426; decide
      · skip
        exfalso; revert c420; decide
  · skip
    refine g_new X0 hx hZ hown (hw _ (List.mem_of_getElem? (i := 1) rfl)) (hw _ (List.mem_of_getElem? (i := 2) rfl)) (hw _ (List.mem_of_getElem? (i := 3) rfl)) e0 13 (hb hby at_10) rfl (by decide) (by decide) ?_
    intro T489 h489 a489 g489 X489 e489 E489 A489 D489
    have ge490 : n0 ≤ a489 := by rw [g489]; exact Z0
    have Z491 : n0 ≤ h489.size := Nat.le_trans Z0 E489.1
    have F492 : Fld Z h489 a489 "com/example/neaplight/neaplight/Route" "nodes" "[I" .null := D489 (Or.inr (hw _ (List.mem_of_getElem? (i := 17) rfl))) (ty := (.array .int)) (by decide)
    have F493 : Fld Z h489 a489 "com/example/neaplight/neaplight/Route" "links" "[I" .null := D489 (Or.inr (hw _ (List.mem_of_getElem? (i := 19) rfl))) (ty := (.array .int)) (by decide)
    refine g_dup X489 hx 14 (hb hby at_13) rfl rfl ?_
    refine g_iconst X489 hx (2 : Int32) 15 (hb hby at_14) rfl (by decide) ?_
    refine g_newP X489 hx hZ (aty := .int) (hw _ (List.mem_of_getElem? (i := 4) rfl)) e489 (by decide) (cap := 2) (by decide) (by decide) 17 (hb hby at_15) rfl (by decide) (by decide) (ad := "[I") (by decide) ?_
    intro T494 h494 k494 a494 g494 X494 e494 E494 V494 A494
    have ne495 : a489 ≠ a494 := Nat.ne_of_lt (by rw [g494]; exact A489.lt)
    have ge496 : n0 ≤ a494 := by rw [g494]; exact Z491
    have F497 := A489.ext E494
    have F498 := F492.ext E494
    have F499 := F493.ext E494
    have Z500 : n0 ≤ h494.size := Nat.le_trans Z491 E494.1
    have V494' : Arv Z h494 a494 k494 .int (2 : Int32) [(.int (0 : Int32)), (.int (0 : Int32))] (.int (0 : Int32)) := V494.pad (pad_rep [] (.int (0 : Int32)) 2)
    refine g_dup X494 hx 18 (hb hby at_17) rfl rfl ?_
    refine g_iconst X494 hx (0 : Int32) 19 (hb hby at_18) rfl (by decide) ?_
    refine g_iconst X494 hx (0 : Int32) 20 (hb hby at_19) rfl (by decide) ?_
    refine g_iastore X494 hx hZ e494 V494' 0 (by decide) (by decide) (by show 0 < 2; decide) 21 (hb hby at_20) rfl ?_
    intro T501 h501 X501 e501 W501 V501
    have F502 := F497.wr W501
    have F503 := F498.other W501 (Or.inl ne495)
    have F504 := F499.other W501 (Or.inl ne495)
    have F505 := A494.wr W501
    have N507 := Fr.snoc X501 N0 ge496
    have Z508 : n0 ≤ h501.size := by rw [W501.size]; exact Z500
    have V501' : Arv Z h501 a494 k494 .int (2 : Int32) [(.int (0 : Int32)), (.int (0 : Int32))] (.int (0 : Int32)) := V501
    refine g_dup X501 hx 22 (hb hby at_21) rfl rfl ?_
    refine g_iconst X501 hx (1 : Int32) 23 (hb hby at_22) rfl (by decide) ?_
    refine g_iconst X501 hx (1 : Int32) 24 (hb hby at_23) rfl (by decide) ?_
    refine g_iastore X501 hx hZ e501 V501' 1 (by decide) (by decide) (by show 1 < 2; decide) 25 (hb hby at_24) rfl ?_
    intro T509 h509 X509 e509 W509 V509
    have F510 := F502.wr W509
    have F511 := F503.other W509 (Or.inl ne495)
    have F512 := F504.other W509 (Or.inl ne495)
    have F513 := F505.wr W509
    have N515 := Fr.snoc X509 N507 ge496
    have Z516 : n0 ≤ h509.size := by rw [W509.size]; exact Z508
    have V509' : Arv Z h509 a494 k494 .int (2 : Int32) [(.int (0 : Int32)), (.int (1 : Int32))] (.int (0 : Int32)) := V509
    refine g_iconst X509 hx (1 : Int32) 26 (hb hby at_25) rfl (by decide) ?_
    refine g_newP X509 hx hZ (aty := .int) (hw _ (List.mem_of_getElem? (i := 4) rfl)) e509 (by decide) (cap := 1) (by decide) (by decide) 28 (hb hby at_26) rfl (by decide) (by decide) (ad := "[I") (by decide) ?_
    intro T517 h517 k517 a517 g517 X517 e517 E517 V517 A517
    have ne518 : a489 ≠ a517 := Nat.ne_of_lt (by rw [g517]; exact F510.lt)
    have ne519 : a494 ≠ a517 := Nat.ne_of_lt (by rw [g517]; exact F513.lt)
    have ge520 : n0 ≤ a517 := by rw [g517]; exact Z516
    have F521 := F510.ext E517
    have F522 := F511.ext E517
    have F523 := F512.ext E517
    have F524 := F513.ext E517
    have F525 := V509'.ext E517
    have Z526 : n0 ≤ h517.size := Nat.le_trans Z516 E517.1
    have V517' : Arv Z h517 a517 k517 .int (1 : Int32) [(.int (0 : Int32))] (.int (0 : Int32)) := V517.pad (pad_rep [] (.int (0 : Int32)) 1)
    refine g_dup X517 hx 29 (hb hby at_28) rfl rfl ?_
    refine g_iconst X517 hx (0 : Int32) 30 (hb hby at_29) rfl (by decide) ?_
    refine g_iconst X517 hx (0 : Int32) 31 (hb hby at_30) rfl (by decide) ?_
    refine g_iastore X517 hx hZ e517 V517' 0 (by decide) (by decide) (by show 0 < 1; decide) 32 (hb hby at_31) rfl ?_
    intro T527 h527 X527 e527 W527 V527
    have F528 := F521.wr W527
    have F529 := F522.other W527 (Or.inl ne518)
    have F530 := F523.other W527 (Or.inl ne518)
    have F531 := F524.wr W527
    have F532 := F525.other W527 ne519
    have F533 := A517.wr W527
    have N535 := Fr.snoc X527 N515 ge520
    have Z536 : n0 ≤ h527.size := by rw [W527.size]; exact Z526
    have V527' : Arv Z h527 a517 k517 .int (1 : Int32) [(.int (0 : Int32))] (.int (0 : Int32)) := V527
    refine g_init X527 hx hZ rfl hown (hw _ (List.mem_of_getElem? (i := 5) rfl)) (hw _ (List.mem_of_getElem? (i := 6) rfl)) (hw _ (List.mem_of_getElem? (i := 3) rfl)) (hw _ (List.mem_of_getElem? (i := 7) rfl)) (by decide) (rm1 l Z a0 hw a489 a494 a517 h527 n0 Z536 F528 ge490 F529 F530) e527 (a := a489) (argsL := [(.ref a494), (.ref a517)]) (rest := [(.ref a489)]) rfl rfl 1 35 rfl (by rw [hml]; rfl) (lenOf own_pd0 rfl) (Nat.le_refl _) (by decide) (by decide) (by decide) (by decide) (hb hby at_32) ?_
    intro v537 T537 L537 X537 hQ537
    obtain ⟨rfl, N537, K537⟩ := hQ537
    have N538 := Fr.app N535 N537
    have F539 := F528.keep K537
    have F542 := F531.keep K537
    have F543 := F532.keep K537 (ninS (Ne.symm ne495) nin0)
    have F544 := F533.keep K537
    have F545 := V527'.keep K537 (ninS (Ne.symm ne518) nin0)
    have Z546 : n0 ≤ T537.heap.size := Nat.le_trans Z536 K537.1
    show Go p e below _ T537 (mkF m 35 #[.val (.int p0), .val (.int p1), .val (.int p2), .val (.int p3), .val (.int (3 : Int32)), .unset, .unset, .unset, .unset, .unset, .unset, .unset, .unset, .unset, .unset, .unset, .unset, .unset] [(.ref a489)])
    refine g_astore (l' := #[.val (.int p0), .val (.int p1), .val (.int p2), .val (.int p3), .val (.int (3 : Int32)), .val (.ref a489), .unset, .unset, .unset, .unset, .unset, .unset, .unset, .unset, .unset, .unset, .unset, .unset]) X537 hx 37 (hb hby at_35) rfl rfl rfl ?_
    refine g_new X537 hx hZ hown (hw _ (List.mem_of_getElem? (i := 20) rfl)) (hw _ (List.mem_of_getElem? (i := 21) rfl)) (hw _ (List.mem_of_getElem? (i := 22) rfl)) rfl 40 (hb hby at_37) rfl (by decide) (by decide) ?_
    intro T547 h547 a547 g547 X547 e547 E547 A547 D547
    have ne548 : a489 ≠ a547 := Nat.ne_of_lt (by rw [g547]; exact F539.lt)
    have ne549 : a494 ≠ a547 := Nat.ne_of_lt (by rw [g547]; exact F542.lt)
    have ne550 : a517 ≠ a547 := Nat.ne_of_lt (by rw [g547]; exact F544.lt)
    have ge551 : n0 ≤ a547 := by rw [g547]; exact Z546
    have F552 := F539.ext E547
    have F553 := F542.ext E547
    have F554 := F543.ext E547
    have F555 := F544.ext E547
    have F556 := F545.ext E547
    have Z557 : n0 ≤ h547.size := Nat.le_trans Z546 E547.1
    have F558 : Fld Z h547 a547 "com/example/neaplight/neaplight/Lightpath" "route" "Lcom/example/neaplight/neaplight/Route;" .null := D547 (Or.inr (hw _ (List.mem_of_getElem? (i := 28) rfl))) (ty := (.object "com/example/neaplight/neaplight/Route")) (by decide)
    have F559 : Fld Z h547 a547 "com/example/neaplight/neaplight/Lightpath" "channel" "I" (.int (0 : Int32)) := D547 (Or.inr (hw _ (List.mem_of_getElem? (i := 30) rfl))) (ty := .int) (by decide)
    have F560 : Fld Z h547 a547 "com/example/neaplight/neaplight/Lightpath" "width" "I" (.int (0 : Int32)) := D547 (Or.inr (hw _ (List.mem_of_getElem? (i := 32) rfl))) (ty := .int) (by decide)
    have F561 : Fld Z h547 a547 "com/example/neaplight/neaplight/Lightpath" "order" "J" (.long (0 : Int64)) := D547 (Or.inr (hw _ (List.mem_of_getElem? (i := 34) rfl))) (ty := .long) (by decide)
    have F562 : Fld Z h547 a547 "com/example/neaplight/neaplight/Lightpath" "setUp" "D" (.double (0 : UInt64)) := D547 (Or.inr (hw _ (List.mem_of_getElem? (i := 36) rfl))) (ty := .double) (by decide)
    have F563 : Fld Z h547 a547 "com/example/neaplight/neaplight/Lightpath" "lastDeparture" "D" (.double (0 : UInt64)) := D547 (Or.inl (hw _ (List.mem_of_getElem? (i := 38) rfl))) (ty := .double) (by decide)
    have F564 : Fld Z h547 a547 "com/example/neaplight/neaplight/Lightpath" "load" "D" (.double (0 : UInt64)) := D547 (Or.inl (hw _ (List.mem_of_getElem? (i := 45) rfl))) (ty := .double) (by decide)
    have F565 : Fld Z h547 a547 "com/example/neaplight/neaplight/Lightpath" "carried" "I" (.int (0 : Int32)) := D547 (Or.inl (hw _ (List.mem_of_getElem? (i := 47) rfl))) (ty := .int) (by decide)
    refine g_dup X547 hx 41 (hb hby at_40) rfl rfl ?_
    refine g_aload X547 hx 43 (hb hby at_41) rfl rfl rfl ?_
    refine g_iconst X547 hx (0 : Int32) 44 (hb hby at_43) rfl (by decide) ?_
    refine g_iconst X547 hx (1 : Int32) 45 (hb hby at_44) rfl (by decide) ?_
    refine g_lconst X547 hx (0 : Int64) 46 (hb hby at_45) rfl (by decide) ?_
    refine g_dconst0 X547 hx 47 (hb hby at_46) rfl ?_
    refine g_init X547 hx hZ rfl hown (hw _ (List.mem_of_getElem? (i := 23) rfl)) (hw _ (List.mem_of_getElem? (i := 24) rfl)) (hw _ (List.mem_of_getElem? (i := 22) rfl)) (hw _ (List.mem_of_getElem? (i := 25) rfl)) (by decide) (rm4 l Z a0 hw a547 a489 0 1 0 0 h547 n0 Z557 A547 ge551 F558 F559 F560 F561 F562 F563 F564 F565) e547 (a := a547) (argsL := [(.ref a489), (.int (0 : Int32)), (.int (1 : Int32)), (.long (0 : Int64)), (.double 0)]) (rest := [(.ref a547)]) rfl rfl 1 50 rfl (by rw [hml]; rfl) (lenOf own_pd2 rfl) (Nat.le_refl _) (by decide) (by decide) (by decide) (by decide) (hb hby at_47) ?_
    intro v566 T566 L566 X566 hQ566
    obtain ⟨rfl, N566, K566, Fd566, Fl566, Fc566⟩ := hQ566
    have N567 := Fr.app N538 N566
    have F568 := F552.keep K566
    have F569 := F553.keep K566
    have F570 := F554.keep K566 (ninS ne549 nin0)
    have F571 := F555.keep K566
    have F572 := F556.keep K566 (ninS ne550 nin0)
    have F573 := A547.keep K566
    have Z582 : n0 ≤ T566.heap.size := Nat.le_trans Z557 K566.1
    show Go p e below _ T566 (mkF m 50 #[.val (.int p0), .val (.int p1), .val (.int p2), .val (.int p3), .val (.int (3 : Int32)), .val (.ref a489), .unset, .unset, .unset, .unset, .unset, .unset, .unset, .unset, .unset, .unset, .unset, .unset] [(.ref a547)])
    refine g_astore (l' := #[.val (.int p0), .val (.int p1), .val (.int p2), .val (.int p3), .val (.int (3 : Int32)), .val (.ref a489), .val (.ref a547), .unset, .unset, .unset, .unset, .unset, .unset, .unset, .unset, .unset, .unset, .unset]) X566 hx 52 (hb hby at_50) rfl rfl rfl ?_
    refine g_iloadN X566 hx 53 (hb hby at_52) rfl rfl ?_
    refine g_i2d X566 hx 54 (hb hby at_53) rfl ?_
    refine g_dstore (l' := #[.val (.int p0), .val (.int p1), .val (.int p2), .val (.int p3), .val (.int (3 : Int32)), .val (.ref a489), .val (.ref a547), .val (.double (FP.i2d p1)), .second, .unset, .unset, .unset, .unset, .unset, .unset, .unset, .unset, .unset]) X566 hx 56 (hb hby at_54) rfl rfl ?_
    refine g_iloadN X566 hx 57 (hb hby at_56) rfl rfl ?_
    refine g_i2d X566 hx 58 (hb hby at_57) rfl ?_
    refine g_dstore (l' := #[.val (.int p0), .val (.int p1), .val (.int p2), .val (.int p3), .val (.int (3 : Int32)), .val (.ref a489), .val (.ref a547), .val (.double (FP.i2d p1)), .second, .val (.double (FP.i2d p2)), .second, .unset, .unset, .unset, .unset, .unset, .unset, .unset]) X566 hx 60 (hb hby at_58) rfl rfl ?_
    refine g_iloadN X566 hx 61 (hb hby at_60) rfl rfl ?_
    refine g_i2d X566 hx 62 (hb hby at_61) rfl ?_
    refine g_dstore (l' := #[.val (.int p0), .val (.int p1), .val (.int p2), .val (.int p3), .val (.int (3 : Int32)), .val (.ref a489), .val (.ref a547), .val (.double (FP.i2d p1)), .second, .val (.double (FP.i2d p2)), .second, .val (.double (FP.i2d p3)), .second, .unset, .unset, .unset, .unset, .unset]) X566 hx 64 (hb hby at_62) rfl rfl ?_
    refine g_aload X566 hx 66 (hb hby at_64) rfl rfl rfl ?_
    refine g_dload X566 hx 68 (hb hby at_66) rfl rfl ?_
    refine g_dconst1 X566 hx 69 (hb hby at_68) rfl ?_
    have A583 := Jvm.FP.Core.dadd_int own_dzero W1 (by omega)
    refine g_virt X566 hx hZ (C := "com/example/neaplight/neaplight/Lightpath") hown (hw _ (List.mem_of_getElem? (i := 39) rfl)) (hw _ (List.mem_of_getElem? (i := 40) rfl)) (hw _ (List.mem_of_getElem? (i := 42) rfl)) (hw _ (List.mem_of_getElem? (i := 42) rfl)) (hw _ (List.mem_of_getElem? (i := 41) rfl)) (hw _ (List.mem_of_getElem? (i := 22) rfl)) (hw _ (List.mem_of_getElem? (i := 43) rfl)) (by decide) (rm5 l Z a0 hw a547 (FP.i2d p1) 4607182418800017408 T566.heap n0 Z582 (0 : UInt64) (0 : Int32) (0 : UInt64) F573 ge551 Fl566 Fc566 Fd566 (own_dnn A583) _ 1 own_dzero own_done) rfl (b := a547) F573 (argsL := [(.double (FP.i2d p1)), (.double 4607182418800017408)]) (rest := []) rfl rfl 0 72 rfl (by rw [hml]; rfl) (lenOf own_pd3 rfl) (Nat.le_refl _) (by decide) (by decide) (by decide) (by decide) (hb hby at_69) ?_
    intro v584 T584 L584 X584 hQ584
    obtain ⟨rfl, N584, K584, Fl584, Fc584, d584, Fd584, i584, hd584⟩ := hQ584
    have N585 := Fr.app N567 N584
    have F586 := F568.keep K584
    have F587 := F569.keep K584
    have F588 := F570.keep K584 (ninS ne549 nin0)
    have F589 := F571.keep K584
    have F590 := F572.keep K584 (ninS ne550 nin0)
    have F591 := F573.keep K584
    have Z595 : n0 ≤ T584.heap.size := Nat.le_trans Z582 K584.1
    show Go p e below _ T584 (mkF m 72 #[.val (.int p0), .val (.int p1), .val (.int p2), .val (.int p3), .val (.int (3 : Int32)), .val (.ref a489), .val (.ref a547), .val (.double (FP.i2d p1)), .second, .val (.double (FP.i2d p2)), .second, .val (.double (FP.i2d p3)), .second, .unset, .unset, .unset, .unset, .unset] [])
    refine g_iload X584 hx 74 (hb hby at_72) rfl rfl ?_
    refine g_iconst X584 hx (2 : Int32) 75 (hb hby at_74) rfl (by decide) ?_
    have ll597 : ((2 : Int32) : Int32).toInt = 2 := by decide
    have ll598 : ((3 : Int32) : Int32).toInt = 3 := by decide
    refine g_ic_lt X584 hx 86 78 (hb hby at_75) (by decide) (by decide) rfl (fun c596 => ?_) (fun c596 => ?_)
    · skip
      exfalso; revert c596; decide
    · skip
      refine g_aload X584 hx 80 (hb hby at_78) rfl rfl rfl ?_
      refine g_dload X584 hx 82 (hb hby at_80) rfl rfl ?_
      refine g_dconst1 X584 hx 83 (hb hby at_82) rfl ?_
      have A599 := Jvm.FP.Core.dadd_int A583 W2 (by omega)
      refine g_virt X584 hx hZ (C := "com/example/neaplight/neaplight/Lightpath") hown (hw _ (List.mem_of_getElem? (i := 39) rfl)) (hw _ (List.mem_of_getElem? (i := 40) rfl)) (hw _ (List.mem_of_getElem? (i := 42) rfl)) (hw _ (List.mem_of_getElem? (i := 42) rfl)) (hw _ (List.mem_of_getElem? (i := 41) rfl)) (hw _ (List.mem_of_getElem? (i := 22) rfl)) (hw _ (List.mem_of_getElem? (i := 43) rfl)) (by decide) (rm5 l Z a0 hw a547 (FP.i2d p2) 4607182418800017408 T584.heap n0 Z595 (FP.dadd (0 : UInt64) (FP.i2d p1)) ((0 : Int32) + (1 : Int32)) d584 F591 ge551 Fl584 Fc584 Fd584 (own_dnn A599) _ 1 hd584 own_done) rfl (b := a547) F591 (argsL := [(.double (FP.i2d p2)), (.double 4607182418800017408)]) (rest := []) rfl rfl 0 86 rfl (by rw [hml]; rfl) (lenOf own_pd3 rfl) (Nat.le_refl _) (by decide) (by decide) (by decide) (by decide) (hb hby at_83) ?_
      intro v600 T600 L600 X600 hQ600
      obtain ⟨rfl, N600, K600, Fl600, Fc600, d600, Fd600, i600, hd600⟩ := hQ600
      have N601 := Fr.app N585 N600
      have F602 := F586.keep K600
      have F603 := F587.keep K600
      have F604 := F588.keep K600 (ninS ne549 nin0)
      have F605 := F589.keep K600
      have F606 := F590.keep K600 (ninS ne550 nin0)
      have F607 := F591.keep K600
      have Z611 : n0 ≤ T600.heap.size := Nat.le_trans Z595 K600.1
      show Go p e below _ T600 (mkF m 86 #[.val (.int p0), .val (.int p1), .val (.int p2), .val (.int p3), .val (.int (3 : Int32)), .val (.ref a489), .val (.ref a547), .val (.double (FP.i2d p1)), .second, .val (.double (FP.i2d p2)), .second, .val (.double (FP.i2d p3)), .second, .unset, .unset, .unset, .unset, .unset] [])
      refine g_iload X600 hx 88 (hb hby at_86) rfl rfl ?_
      refine g_iconst X600 hx (3 : Int32) 89 (hb hby at_88) rfl (by decide) ?_
      have ll613 : ((3 : Int32) : Int32).toInt = 3 := by decide
      have ll614 : ((3 : Int32) : Int32).toInt = 3 := by decide
      refine g_ic_lt X600 hx 100 92 (hb hby at_89) (by decide) (by decide) rfl (fun c612 => ?_) (fun c612 => ?_)
      · skip
        exfalso; revert c612; decide
      · skip
        refine g_aload X600 hx 94 (hb hby at_92) rfl rfl rfl ?_
        refine g_dload X600 hx 96 (hb hby at_94) rfl rfl ?_
        refine g_dconst1 X600 hx 97 (hb hby at_96) rfl ?_
        have A615 := Jvm.FP.Core.dadd_int A599 W3 (by omega)
        refine g_virt X600 hx hZ (C := "com/example/neaplight/neaplight/Lightpath") hown (hw _ (List.mem_of_getElem? (i := 39) rfl)) (hw _ (List.mem_of_getElem? (i := 40) rfl)) (hw _ (List.mem_of_getElem? (i := 42) rfl)) (hw _ (List.mem_of_getElem? (i := 42) rfl)) (hw _ (List.mem_of_getElem? (i := 41) rfl)) (hw _ (List.mem_of_getElem? (i := 22) rfl)) (hw _ (List.mem_of_getElem? (i := 43) rfl)) (by decide) (rm5 l Z a0 hw a547 (FP.i2d p3) 4607182418800017408 T600.heap n0 Z611 (FP.dadd (FP.dadd (0 : UInt64) (FP.i2d p1)) (FP.i2d p2)) (((0 : Int32) + (1 : Int32)) + (1 : Int32)) d600 F607 ge551 Fl600 Fc600 Fd600 (own_dnn A615) _ 1 hd600 own_done) rfl (b := a547) F607 (argsL := [(.double (FP.i2d p3)), (.double 4607182418800017408)]) (rest := []) rfl rfl 0 100 rfl (by rw [hml]; rfl) (lenOf own_pd3 rfl) (Nat.le_refl _) (by decide) (by decide) (by decide) (by decide) (hb hby at_97) ?_
        intro v616 T616 L616 X616 hQ616
        obtain ⟨rfl, N616, K616, Fl616, Fc616, d616, Fd616, i616, hd616⟩ := hQ616
        have N617 := Fr.app N601 N616
        have F618 := F602.keep K616
        have F619 := F603.keep K616
        have F620 := F604.keep K616 (ninS ne549 nin0)
        have F621 := F605.keep K616
        have F622 := F606.keep K616 (ninS ne550 nin0)
        have F623 := F607.keep K616
        have Z627 : n0 ≤ T616.heap.size := Nat.le_trans Z611 K616.1
        show Go p e below _ T616 (mkF m 100 #[.val (.int p0), .val (.int p1), .val (.int p2), .val (.int p3), .val (.int (3 : Int32)), .val (.ref a489), .val (.ref a547), .val (.double (FP.i2d p1)), .second, .val (.double (FP.i2d p2)), .second, .val (.double (FP.i2d p3)), .second, .unset, .unset, .unset, .unset, .unset] [])
        refine g_iloadN X616 hx 101 (hb hby at_100) rfl rfl ?_
        refine g_i2l X616 hx 102 (hb hby at_101) rfl ?_
        refine g_iload X616 hx 104 (hb hby at_102) rfl rfl ?_
        refine g_iconst X616 hx (2 : Int32) 105 (hb hby at_104) rfl (by decide) ?_
        have ll629 : ((2 : Int32) : Int32).toInt = 2 := by decide
        have ll630 : ((3 : Int32) : Int32).toInt = 3 := by decide
        refine g_ic_lt X616 hx 113 108 (hb hby at_105) (by decide) (by decide) rfl (fun c628 => ?_) (fun c628 => ?_)
        · skip
          exfalso; revert c628; decide
        · skip
          refine g_iloadN X616 hx 109 (hb hby at_108) rfl rfl ?_
          refine g_i2l X616 hx 110 (hb hby at_109) rfl ?_
          refine g_goto X616 hx 114 (hb hby at_110) (by decide) (by decide) ?_
          refine g_ladd X616 hx 115 (hb hby at_114) rfl ?_
          refine g_iload X616 hx 117 (hb hby at_115) rfl rfl ?_
          refine g_iconst X616 hx (3 : Int32) 118 (hb hby at_117) rfl (by decide) ?_
          have ll632 : ((3 : Int32) : Int32).toInt = 3 := by decide
          have ll633 : ((3 : Int32) : Int32).toInt = 3 := by decide
          refine g_ic_lt X616 hx 126 121 (hb hby at_118) (by decide) (by decide) rfl (fun c631 => ?_) (fun c631 => ?_)
          · skip
            exfalso; revert c631; decide
          · skip
            refine g_iloadN X616 hx 122 (hb hby at_121) rfl rfl ?_
            refine g_i2l X616 hx 123 (hb hby at_122) rfl ?_
            refine g_goto X616 hx 127 (hb hby at_123) (by decide) (by decide) ?_
            refine g_ladd X616 hx 128 (hb hby at_127) rfl ?_
            refine g_lstore (l' := #[.val (.int p0), .val (.int p1), .val (.int p2), .val (.int p3), .val (.int (3 : Int32)), .val (.ref a489), .val (.ref a547), .val (.double (FP.i2d p1)), .second, .val (.double (FP.i2d p2)), .second, .val (.double (FP.i2d p3)), .second, .val (.long (((p1.toInt64) + (p2.toInt64)) + (p3.toInt64))), .second, .unset, .unset, .unset]) X616 hx 130 (hb hby at_128) rfl rfl ?_
            refine g_iconst X616 hx (1 : Int32) 131 (hb hby at_130) rfl (by decide) ?_
            refine g_istore (l' := #[.val (.int p0), .val (.int p1), .val (.int p2), .val (.int p3), .val (.int (3 : Int32)), .val (.ref a489), .val (.ref a547), .val (.double (FP.i2d p1)), .second, .val (.double (FP.i2d p2)), .second, .val (.double (FP.i2d p3)), .second, .val (.long (((p1.toInt64) + (p2.toInt64)) + (p3.toInt64))), .second, .val (.int (1 : Int32)), .unset, .unset]) X616 hx 133 (hb hby at_131) rfl rfl ?_
            refine g_aload X616 hx 135 (hb hby at_133) rfl rfl rfl ?_
            refine g_dload X616 hx 137 (hb hby at_135) rfl rfl ?_
            have A634 := Jvm.FP.Core.dsub_int A615 W1 (by omega)
            refine g_virt X616 hx hZ (C := "com/example/neaplight/neaplight/Lightpath") hown (hw _ (List.mem_of_getElem? (i := 52) rfl)) (hw _ (List.mem_of_getElem? (i := 53) rfl)) (hw _ (List.mem_of_getElem? (i := 55) rfl)) (hw _ (List.mem_of_getElem? (i := 55) rfl)) (hw _ (List.mem_of_getElem? (i := 54) rfl)) (hw _ (List.mem_of_getElem? (i := 22) rfl)) (hw _ (List.mem_of_getElem? (i := 56) rfl)) (by decide) (rm7 l Z a0 hw a547 (FP.i2d p1) T616.heap n0 Z627 (FP.dadd (FP.dadd (FP.dadd (0 : UInt64) (FP.i2d p1)) (FP.i2d p2)) (FP.i2d p3)) ((((0 : Int32) + (1 : Int32)) + (1 : Int32)) + (1 : Int32)) d616 F623 ge551 Fl616 Fc616 Fd616 (own_dnn A634)) rfl (b := a547) F623 (argsL := [(.double (FP.i2d p1))]) (rest := []) rfl rfl 0 140 rfl (by rw [hml]; rfl) (lenOf own_pd5 rfl) (Nat.le_refl _) (by decide) (by decide) (by decide) (by decide) (hb hby at_137) ?_
            intro v635 T635 L635 X635 hQ635
            obtain ⟨r635, rfl, z635, N635, K635, Fl635, Fc635, Fd635⟩ := hQ635
            obtain rfl : r635 = 0 := z635.2 (by decide)
            have N636 := Fr.app N617 N635
            have F637 := F618.keep K635
            have F638 := F619.keep K635
            have F639 := F620.keep K635 (ninS ne549 nin0)
            have F640 := F621.keep K635
            have F641 := F622.keep K635 (ninS ne550 nin0)
            have F642 := F623.keep K635
            have Z646 : n0 ≤ T635.heap.size := Nat.le_trans Z627 K635.1
            show Go p e below _ T635 (mkF m 140 #[.val (.int p0), .val (.int p1), .val (.int p2), .val (.int p3), .val (.int (3 : Int32)), .val (.ref a489), .val (.ref a547), .val (.double (FP.i2d p1)), .second, .val (.double (FP.i2d p2)), .second, .val (.double (FP.i2d p3)), .second, .val (.long (((p1.toInt64) + (p2.toInt64)) + (p3.toInt64))), .second, .val (.int (1 : Int32)), .unset, .unset] [(.int (0 : Int32))])
            refine g_istore (l' := #[.val (.int p0), .val (.int p1), .val (.int p2), .val (.int p3), .val (.int (3 : Int32)), .val (.ref a489), .val (.ref a547), .val (.double (FP.i2d p1)), .second, .val (.double (FP.i2d p2)), .second, .val (.double (FP.i2d p3)), .second, .val (.long (((p1.toInt64) + (p2.toInt64)) + (p3.toInt64))), .second, .val (.int (1 : Int32)), .val (.int (0 : Int32)), .unset]) X635 hx 142 (hb hby at_140) rfl rfl ?_
            refine g_iload X635 hx 144 (hb hby at_142) rfl rfl ?_
            have ll648 : ((1 : Int32) : Int32).toInt = 1 := by decide
            refine g_if_eq X635 hx 167 147 (hb hby at_144) (by decide) (by decide) rfl (fun c647 => ?_) (fun c647 => ?_)
            · skip
              exfalso; revert c647; decide
            · skip
              refine g_iload X635 hx 149 (hb hby at_147) rfl rfl ?_
              refine g_iload X635 hx 151 (hb hby at_149) rfl rfl ?_
              refine g_iconst X635 hx (1 : Int32) 152 (hb hby at_151) rfl (by decide) ?_
              have ll650 : ((1 : Int32) : Int32).toInt = 1 := by decide
              have ll651 : ((3 : Int32) : Int32).toInt = 3 := by decide
              refine g_ic_ne X635 hx 159 155 (hb hby at_152) (by decide) (by decide) rfl (fun c649 => ?_) (fun c649 => ?_)
              · skip
                refine g_iconst X635 hx (0 : Int32) 160 (hb hby at_159) rfl (by decide) ?_
                have ll653 : ((0 : Int32) : Int32).toInt = 0 := by decide
                have ll654 : ((0 : Int32) : Int32).toInt = 0 := by decide
                refine g_ic_ne X635 hx 167 163 (hb hby at_160) (by decide) (by decide) rfl (fun c652 => ?_) (fun c652 => ?_)
                · skip
                  exfalso; revert c652; decide
                · skip
                  refine g_iconst X635 hx (1 : Int32) 164 (hb hby at_163) rfl (by decide) ?_
                  refine g_goto X635 hx 168 (hb hby at_164) (by decide) (by decide) ?_
                  refine g_istore (l' := #[.val (.int p0), .val (.int p1), .val (.int p2), .val (.int p3), .val (.int (3 : Int32)), .val (.ref a489), .val (.ref a547), .val (.double (FP.i2d p1)), .second, .val (.double (FP.i2d p2)), .second, .val (.double (FP.i2d p3)), .second, .val (.long (((p1.toInt64) + (p2.toInt64)) + (p3.toInt64))), .second, .val (.int (1 : Int32)), .val (.int (0 : Int32)), .unset]) X635 hx 170 (hb hby at_168) rfl rfl ?_
                  refine g_iload X635 hx 172 (hb hby at_170) rfl rfl ?_
                  have ll656 : ((1 : Int32) : Int32).toInt = 1 := by decide
                  refine g_if_eq X635 hx 194 175 (hb hby at_172) (by decide) (by decide) rfl (fun c655 => ?_) (fun c655 => ?_)
                  · skip
                    exfalso; revert c655; decide
                  · skip
                    refine g_aload X635 hx 177 (hb hby at_175) rfl rfl rfl ?_
                    refine g_virt X635 hx hZ (C := "com/example/neaplight/neaplight/Lightpath") hown (hw _ (List.mem_of_getElem? (i := 57) rfl)) (hw _ (List.mem_of_getElem? (i := 58) rfl)) (hw _ (List.mem_of_getElem? (i := 60) rfl)) (hw _ (List.mem_of_getElem? (i := 60) rfl)) (hw _ (List.mem_of_getElem? (i := 59) rfl)) (hw _ (List.mem_of_getElem? (i := 22) rfl)) (hw _ (List.mem_of_getElem? (i := 61) rfl)) (by decide) (rm8 l Z a0 hw a547 T635.heap n0 Z646 (FP.dsub (FP.dadd (FP.dadd (FP.dadd (0 : UInt64) (FP.i2d p1)) (FP.i2d p2)) (FP.i2d p3)) (FP.i2d p1)) Fl635) rfl (b := a547) F642 (argsL := []) (rest := []) rfl rfl 0 180 rfl (by rw [hml]; rfl) (lenOf own_pd6 rfl) (Nat.le_refl _) (by decide) (by decide) (by decide) (by decide) (hb hby at_177) ?_
                    intro v657 T657 L657 X657 hQ657
                    obtain ⟨rfl, N657, q657⟩ := hQ657
                    have N658 := Fr.app N636 N657
                    show Go p e below _ T657 (mkF m 180 #[.val (.int p0), .val (.int p1), .val (.int p2), .val (.int p3), .val (.int (3 : Int32)), .val (.ref a489), .val (.ref a547), .val (.double (FP.i2d p1)), .second, .val (.double (FP.i2d p2)), .second, .val (.double (FP.i2d p3)), .second, .val (.long (((p1.toInt64) + (p2.toInt64)) + (p3.toInt64))), .second, .val (.int (1 : Int32)), .val (.int (0 : Int32)), .unset] [(.double (FP.dsub (FP.dadd (FP.dadd (FP.dadd (0 : UInt64) (FP.i2d p1)) (FP.i2d p2)) (FP.i2d p3)) (FP.i2d p1)))])
                    refine g_lload X657 hx 182 (hb hby at_180) rfl rfl ?_
                    refine g_iloadN X657 hx 183 (hb hby at_182) rfl rfl ?_
                    refine g_i2l X657 hx 184 (hb hby at_183) rfl ?_
                    refine g_lsub X657 hx 185 (hb hby at_184) rfl ?_
                    refine g_l2d X657 hx 186 (hb hby at_185) rfl ?_
                    have rr : (((((p1.toInt64) + (p2.toInt64)) + (p3.toInt64)) - (p1.toInt64))).toInt = (((p1.toInt + p2.toInt) + p3.toInt) - p1.toInt) := by
                      have := c_ladd (p1.toInt64) (p2.toInt64)
                      have := rng64 (((p1.toInt64) + (p2.toInt64)))
                      have := c_ladd ((p1.toInt64) + (p2.toInt64)) (p3.toInt64)
                      have := rng64 ((((p1.toInt64) + (p2.toInt64)) + (p3.toInt64)))
                      have := c_lsub (((p1.toInt64) + (p2.toInt64)) + (p3.toInt64)) (p1.toInt64)
                      have := rng64 (((((p1.toInt64) + (p2.toInt64)) + (p3.toInt64)) - (p1.toInt64)))
                      omega
                    have D659 := Jvm.FP.Core.l2d_int (a := ((((p1.toInt64) + (p2.toInt64)) + (p3.toInt64)) - (p1.toInt64))) (by rw [rr]; omega)
                    rw [rr] at D659
                    refine g_dc_ne X657 hx 187 194 190 (hb hby at_186) rfl (hb hby at_187) (by decide) (by decide) rfl (Jvm.FP.Core.dcmp_int A634 D659) (fun c660 => ?_) (fun c660 => ?_)
                    · skip
                      exfalso; omega
                    · skip
                      refine g_iconst X657 hx (1 : Int32) 191 (hb hby at_190) rfl (by decide) ?_
                      refine g_goto X657 hx 195 (hb hby at_191) (by decide) (by decide) ?_
                      refine g_istore (l' := #[.val (.int p0), .val (.int p1), .val (.int p2), .val (.int p3), .val (.int (3 : Int32)), .val (.ref a489), .val (.ref a547), .val (.double (FP.i2d p1)), .second, .val (.double (FP.i2d p2)), .second, .val (.double (FP.i2d p3)), .second, .val (.long (((p1.toInt64) + (p2.toInt64)) + (p3.toInt64))), .second, .val (.int (1 : Int32)), .val (.int (0 : Int32)), .unset]) X657 hx 197 (hb hby at_195) rfl rfl ?_
                      refine g_iload X657 hx 199 (hb hby at_197) rfl rfl ?_
                      refine g_iconst X657 hx (2 : Int32) 200 (hb hby at_199) rfl (by decide) ?_
                      have ll662 : ((2 : Int32) : Int32).toInt = 2 := by decide
                      have ll663 : ((3 : Int32) : Int32).toInt = 3 := by decide
                      refine g_ic_lt X657 hx 270 203 (hb hby at_200) (by decide) (by decide) rfl (fun c661 => ?_) (fun c661 => ?_)
                      · skip
                        exfalso; revert c661; decide
                      · skip
                        refine g_aload X657 hx 205 (hb hby at_203) rfl rfl rfl ?_
                        refine g_dload X657 hx 207 (hb hby at_205) rfl rfl ?_
                        have A664 := Jvm.FP.Core.dsub_int A634 W2 (by omega)
                        refine g_virt X657 hx hZ (C := "com/example/neaplight/neaplight/Lightpath") hown (hw _ (List.mem_of_getElem? (i := 52) rfl)) (hw _ (List.mem_of_getElem? (i := 53) rfl)) (hw _ (List.mem_of_getElem? (i := 55) rfl)) (hw _ (List.mem_of_getElem? (i := 55) rfl)) (hw _ (List.mem_of_getElem? (i := 54) rfl)) (hw _ (List.mem_of_getElem? (i := 22) rfl)) (hw _ (List.mem_of_getElem? (i := 56) rfl)) (by decide) (rm7 l Z a0 hw a547 (FP.i2d p2) T635.heap n0 Z646 (FP.dsub (FP.dadd (FP.dadd (FP.dadd (0 : UInt64) (FP.i2d p1)) (FP.i2d p2)) (FP.i2d p3)) (FP.i2d p1)) (((((0 : Int32) + (1 : Int32)) + (1 : Int32)) + (1 : Int32)) - (1 : Int32)) d616 F642 ge551 Fl635 Fc635 Fd635 (own_dnn A664)) q657 (b := a547) F642 (argsL := [(.double (FP.i2d p2))]) (rest := []) rfl rfl 0 210 rfl (by rw [hml]; rfl) (lenOf own_pd5 rfl) (Nat.le_refl _) (by decide) (by decide) (by decide) (by decide) (hb hby at_207) ?_
                        intro v665 T665 L665 X665 hQ665
                        obtain ⟨r665, rfl, z665, N665, K665, Fl665, Fc665, Fd665⟩ := hQ665
                        obtain rfl : r665 = 0 := z665.2 (by decide)
                        have N666 := Fr.app N658 N665
                        have F667 := F637.keep K665
                        have F668 := F638.keep K665
                        have F669 := F639.keep K665 (ninS ne549 nin0)
                        have F670 := F640.keep K665
                        have F671 := F641.keep K665 (ninS ne550 nin0)
                        have F672 := F642.keep K665
                        have Z676 : n0 ≤ T665.heap.size := Nat.le_trans Z646 K665.1
                        show Go p e below _ T665 (mkF m 210 #[.val (.int p0), .val (.int p1), .val (.int p2), .val (.int p3), .val (.int (3 : Int32)), .val (.ref a489), .val (.ref a547), .val (.double (FP.i2d p1)), .second, .val (.double (FP.i2d p2)), .second, .val (.double (FP.i2d p3)), .second, .val (.long (((p1.toInt64) + (p2.toInt64)) + (p3.toInt64))), .second, .val (.int (1 : Int32)), .val (.int (0 : Int32)), .unset] [(.int (0 : Int32))])
                        refine g_istore (l' := #[.val (.int p0), .val (.int p1), .val (.int p2), .val (.int p3), .val (.int (3 : Int32)), .val (.ref a489), .val (.ref a547), .val (.double (FP.i2d p1)), .second, .val (.double (FP.i2d p2)), .second, .val (.double (FP.i2d p3)), .second, .val (.long (((p1.toInt64) + (p2.toInt64)) + (p3.toInt64))), .second, .val (.int (1 : Int32)), .val (.int (0 : Int32)), .val (.int (0 : Int32))]) X665 hx 212 (hb hby at_210) rfl rfl ?_
                        refine g_iload X665 hx 214 (hb hby at_212) rfl rfl ?_
                        have ll678 : ((1 : Int32) : Int32).toInt = 1 := by decide
                        refine g_if_eq X665 hx 237 217 (hb hby at_214) (by decide) (by decide) rfl (fun c677 => ?_) (fun c677 => ?_)
                        · skip
                          exfalso; revert c677; decide
                        · skip
                          refine g_iload X665 hx 219 (hb hby at_217) rfl rfl ?_
                          refine g_iload X665 hx 221 (hb hby at_219) rfl rfl ?_
                          refine g_iconst X665 hx (2 : Int32) 222 (hb hby at_221) rfl (by decide) ?_
                          have ll680 : ((2 : Int32) : Int32).toInt = 2 := by decide
                          have ll681 : ((3 : Int32) : Int32).toInt = 3 := by decide
                          refine g_ic_ne X665 hx 229 225 (hb hby at_222) (by decide) (by decide) rfl (fun c679 => ?_) (fun c679 => ?_)
                          · skip
                            refine g_iconst X665 hx (0 : Int32) 230 (hb hby at_229) rfl (by decide) ?_
                            have ll683 : ((0 : Int32) : Int32).toInt = 0 := by decide
                            have ll684 : ((0 : Int32) : Int32).toInt = 0 := by decide
                            refine g_ic_ne X665 hx 237 233 (hb hby at_230) (by decide) (by decide) rfl (fun c682 => ?_) (fun c682 => ?_)
                            · skip
                              exfalso; revert c682; decide
                            · skip
                              refine g_iconst X665 hx (1 : Int32) 234 (hb hby at_233) rfl (by decide) ?_
                              refine g_goto X665 hx 238 (hb hby at_234) (by decide) (by decide) ?_
                              refine g_istore (l' := #[.val (.int p0), .val (.int p1), .val (.int p2), .val (.int p3), .val (.int (3 : Int32)), .val (.ref a489), .val (.ref a547), .val (.double (FP.i2d p1)), .second, .val (.double (FP.i2d p2)), .second, .val (.double (FP.i2d p3)), .second, .val (.long (((p1.toInt64) + (p2.toInt64)) + (p3.toInt64))), .second, .val (.int (1 : Int32)), .val (.int (0 : Int32)), .val (.int (0 : Int32))]) X665 hx 240 (hb hby at_238) rfl rfl ?_
                              refine g_iload X665 hx 242 (hb hby at_240) rfl rfl ?_
                              have ll686 : ((1 : Int32) : Int32).toInt = 1 := by decide
                              refine g_if_eq X665 hx 267 245 (hb hby at_242) (by decide) (by decide) rfl (fun c685 => ?_) (fun c685 => ?_)
                              · skip
                                exfalso; revert c685; decide
                              · skip
                                refine g_aload X665 hx 247 (hb hby at_245) rfl rfl rfl ?_
                                refine g_virt X665 hx hZ (C := "com/example/neaplight/neaplight/Lightpath") hown (hw _ (List.mem_of_getElem? (i := 57) rfl)) (hw _ (List.mem_of_getElem? (i := 58) rfl)) (hw _ (List.mem_of_getElem? (i := 60) rfl)) (hw _ (List.mem_of_getElem? (i := 60) rfl)) (hw _ (List.mem_of_getElem? (i := 59) rfl)) (hw _ (List.mem_of_getElem? (i := 22) rfl)) (hw _ (List.mem_of_getElem? (i := 61) rfl)) (by decide) (rm8 l Z a0 hw a547 T665.heap n0 Z676 (FP.dsub (FP.dsub (FP.dadd (FP.dadd (FP.dadd (0 : UInt64) (FP.i2d p1)) (FP.i2d p2)) (FP.i2d p3)) (FP.i2d p1)) (FP.i2d p2)) Fl665) rfl (b := a547) F672 (argsL := []) (rest := []) rfl rfl 0 250 rfl (by rw [hml]; rfl) (lenOf own_pd6 rfl) (Nat.le_refl _) (by decide) (by decide) (by decide) (by decide) (hb hby at_247) ?_
                                intro v687 T687 L687 X687 hQ687
                                obtain ⟨rfl, N687, q687⟩ := hQ687
                                have N688 := Fr.app N666 N687
                                show Go p e below _ T687 (mkF m 250 #[.val (.int p0), .val (.int p1), .val (.int p2), .val (.int p3), .val (.int (3 : Int32)), .val (.ref a489), .val (.ref a547), .val (.double (FP.i2d p1)), .second, .val (.double (FP.i2d p2)), .second, .val (.double (FP.i2d p3)), .second, .val (.long (((p1.toInt64) + (p2.toInt64)) + (p3.toInt64))), .second, .val (.int (1 : Int32)), .val (.int (0 : Int32)), .val (.int (0 : Int32))] [(.double (FP.dsub (FP.dsub (FP.dadd (FP.dadd (FP.dadd (0 : UInt64) (FP.i2d p1)) (FP.i2d p2)) (FP.i2d p3)) (FP.i2d p1)) (FP.i2d p2)))])
                                refine g_lload X687 hx 252 (hb hby at_250) rfl rfl ?_
                                refine g_iloadN X687 hx 253 (hb hby at_252) rfl rfl ?_
                                refine g_i2l X687 hx 254 (hb hby at_253) rfl ?_
                                refine g_lsub X687 hx 255 (hb hby at_254) rfl ?_
                                refine g_iloadN X687 hx 256 (hb hby at_255) rfl rfl ?_
                                refine g_i2l X687 hx 257 (hb hby at_256) rfl ?_
                                refine g_lsub X687 hx 258 (hb hby at_257) rfl ?_
                                refine g_l2d X687 hx 259 (hb hby at_258) rfl ?_
                                have rr : ((((((p1.toInt64) + (p2.toInt64)) + (p3.toInt64)) - (p1.toInt64)) - (p2.toInt64))).toInt = ((((p1.toInt + p2.toInt) + p3.toInt) - p1.toInt) - p2.toInt) := by
                                  have := c_ladd (p1.toInt64) (p2.toInt64)
                                  have := rng64 (((p1.toInt64) + (p2.toInt64)))
                                  have := c_ladd ((p1.toInt64) + (p2.toInt64)) (p3.toInt64)
                                  have := rng64 ((((p1.toInt64) + (p2.toInt64)) + (p3.toInt64)))
                                  have := c_lsub (((p1.toInt64) + (p2.toInt64)) + (p3.toInt64)) (p1.toInt64)
                                  have := rng64 (((((p1.toInt64) + (p2.toInt64)) + (p3.toInt64)) - (p1.toInt64)))
                                  have := c_lsub ((((p1.toInt64) + (p2.toInt64)) + (p3.toInt64)) - (p1.toInt64)) (p2.toInt64)
                                  have := rng64 ((((((p1.toInt64) + (p2.toInt64)) + (p3.toInt64)) - (p1.toInt64)) - (p2.toInt64)))
                                  omega
                                have D689 := Jvm.FP.Core.l2d_int (a := (((((p1.toInt64) + (p2.toInt64)) + (p3.toInt64)) - (p1.toInt64)) - (p2.toInt64))) (by rw [rr]; omega)
                                rw [rr] at D689
                                refine g_dc_ne X687 hx 260 267 263 (hb hby at_259) rfl (hb hby at_260) (by decide) (by decide) rfl (Jvm.FP.Core.dcmp_int A664 D689) (fun c690 => ?_) (fun c690 => ?_)
                                · skip
                                  exfalso; omega
                                · skip
                                  refine g_iconst X687 hx (1 : Int32) 264 (hb hby at_263) rfl (by decide) ?_
                                  refine g_goto X687 hx 268 (hb hby at_264) (by decide) (by decide) ?_
                                  refine g_istore (l' := #[.val (.int p0), .val (.int p1), .val (.int p2), .val (.int p3), .val (.int (3 : Int32)), .val (.ref a489), .val (.ref a547), .val (.double (FP.i2d p1)), .second, .val (.double (FP.i2d p2)), .second, .val (.double (FP.i2d p3)), .second, .val (.long (((p1.toInt64) + (p2.toInt64)) + (p3.toInt64))), .second, .val (.int (1 : Int32)), .val (.int (0 : Int32)), .val (.int (0 : Int32))]) X687 hx 270 (hb hby at_268) rfl rfl ?_
                                  refine g_iload X687 hx 272 (hb hby at_270) rfl rfl ?_
                                  refine g_iconst X687 hx (3 : Int32) 273 (hb hby at_272) rfl (by decide) ?_
                                  have ll692 : ((3 : Int32) : Int32).toInt = 3 := by decide
                                  have ll693 : ((3 : Int32) : Int32).toInt = 3 := by decide
                                  refine g_ic_lt X687 hx 335 276 (hb hby at_273) (by decide) (by decide) rfl (fun c691 => ?_) (fun c691 => ?_)
                                  · skip
                                    exfalso; revert c691; decide
                                  · skip
                                    refine g_aload X687 hx 278 (hb hby at_276) rfl rfl rfl ?_
                                    refine g_dload X687 hx 280 (hb hby at_278) rfl rfl ?_
                                    have A694 := Jvm.FP.Core.dsub_int A664 W3 (by omega)
                                    refine g_virt X687 hx hZ (C := "com/example/neaplight/neaplight/Lightpath") hown (hw _ (List.mem_of_getElem? (i := 52) rfl)) (hw _ (List.mem_of_getElem? (i := 53) rfl)) (hw _ (List.mem_of_getElem? (i := 55) rfl)) (hw _ (List.mem_of_getElem? (i := 55) rfl)) (hw _ (List.mem_of_getElem? (i := 54) rfl)) (hw _ (List.mem_of_getElem? (i := 22) rfl)) (hw _ (List.mem_of_getElem? (i := 56) rfl)) (by decide) (rm7 l Z a0 hw a547 (FP.i2d p3) T665.heap n0 Z676 (FP.dsub (FP.dsub (FP.dadd (FP.dadd (FP.dadd (0 : UInt64) (FP.i2d p1)) (FP.i2d p2)) (FP.i2d p3)) (FP.i2d p1)) (FP.i2d p2)) ((((((0 : Int32) + (1 : Int32)) + (1 : Int32)) + (1 : Int32)) - (1 : Int32)) - (1 : Int32)) d616 F672 ge551 Fl665 Fc665 Fd665 (own_dnn A694)) q687 (b := a547) F672 (argsL := [(.double (FP.i2d p3))]) (rest := []) rfl rfl 0 283 rfl (by rw [hml]; rfl) (lenOf own_pd5 rfl) (Nat.le_refl _) (by decide) (by decide) (by decide) (by decide) (hb hby at_280) ?_
                                    intro v695 T695 L695 X695 hQ695
                                    obtain ⟨r695, rfl, z695, N695, K695, Fl695, Fc695, Fd695⟩ := hQ695
                                    obtain rfl : r695 = 1 := z695.1 (by decide)
                                    have N696 := Fr.app N688 N695
                                    have F697 := F667.keep K695
                                    have F698 := F668.keep K695
                                    have F699 := F669.keep K695 (ninS ne549 nin0)
                                    have F700 := F670.keep K695
                                    have F701 := F671.keep K695 (ninS ne550 nin0)
                                    have F702 := F672.keep K695
                                    have Z706 : n0 ≤ T695.heap.size := Nat.le_trans Z676 K695.1
                                    show Go p e below _ T695 (mkF m 283 #[.val (.int p0), .val (.int p1), .val (.int p2), .val (.int p3), .val (.int (3 : Int32)), .val (.ref a489), .val (.ref a547), .val (.double (FP.i2d p1)), .second, .val (.double (FP.i2d p2)), .second, .val (.double (FP.i2d p3)), .second, .val (.long (((p1.toInt64) + (p2.toInt64)) + (p3.toInt64))), .second, .val (.int (1 : Int32)), .val (.int (0 : Int32)), .val (.int (0 : Int32))] [(.int (1 : Int32))])
                                    refine g_istore (l' := #[.val (.int p0), .val (.int p1), .val (.int p2), .val (.int p3), .val (.int (3 : Int32)), .val (.ref a489), .val (.ref a547), .val (.double (FP.i2d p1)), .second, .val (.double (FP.i2d p2)), .second, .val (.double (FP.i2d p3)), .second, .val (.long (((p1.toInt64) + (p2.toInt64)) + (p3.toInt64))), .second, .val (.int (1 : Int32)), .val (.int (0 : Int32)), .val (.int (1 : Int32))]) X695 hx 285 (hb hby at_283) rfl rfl ?_
                                    refine g_iload X695 hx 287 (hb hby at_285) rfl rfl ?_
                                    have ll708 : ((1 : Int32) : Int32).toInt = 1 := by decide
                                    refine g_if_eq X695 hx 299 290 (hb hby at_287) (by decide) (by decide) rfl (fun c707 => ?_) (fun c707 => ?_)
                                    · skip
                                      exfalso; revert c707; decide
                                    · skip
                                      refine g_iload X695 hx 292 (hb hby at_290) rfl rfl ?_
                                      have ll710 : ((1 : Int32) : Int32).toInt = 1 := by decide
                                      refine g_if_eq X695 hx 299 295 (hb hby at_292) (by decide) (by decide) rfl (fun c709 => ?_) (fun c709 => ?_)
                                      · skip
                                        exfalso; revert c709; decide
                                      · skip
                                        refine g_iconst X695 hx (1 : Int32) 296 (hb hby at_295) rfl (by decide) ?_
                                        refine g_goto X695 hx 300 (hb hby at_296) (by decide) (by decide) ?_
                                        refine g_istore (l' := #[.val (.int p0), .val (.int p1), .val (.int p2), .val (.int p3), .val (.int (3 : Int32)), .val (.ref a489), .val (.ref a547), .val (.double (FP.i2d p1)), .second, .val (.double (FP.i2d p2)), .second, .val (.double (FP.i2d p3)), .second, .val (.long (((p1.toInt64) + (p2.toInt64)) + (p3.toInt64))), .second, .val (.int (1 : Int32)), .val (.int (0 : Int32)), .val (.int (1 : Int32))]) X695 hx 302 (hb hby at_300) rfl rfl ?_
                                        refine g_iload X695 hx 304 (hb hby at_302) rfl rfl ?_
                                        have ll712 : ((1 : Int32) : Int32).toInt = 1 := by decide
                                        refine g_if_eq X695 hx 332 307 (hb hby at_304) (by decide) (by decide) rfl (fun c711 => ?_) (fun c711 => ?_)
                                        · skip
                                          exfalso; revert c711; decide
                                        · skip
                                          refine g_aload X695 hx 309 (hb hby at_307) rfl rfl rfl ?_
                                          refine g_virt X695 hx hZ (C := "com/example/neaplight/neaplight/Lightpath") hown (hw _ (List.mem_of_getElem? (i := 57) rfl)) (hw _ (List.mem_of_getElem? (i := 58) rfl)) (hw _ (List.mem_of_getElem? (i := 60) rfl)) (hw _ (List.mem_of_getElem? (i := 60) rfl)) (hw _ (List.mem_of_getElem? (i := 59) rfl)) (hw _ (List.mem_of_getElem? (i := 22) rfl)) (hw _ (List.mem_of_getElem? (i := 61) rfl)) (by decide) (rm8 l Z a0 hw a547 T695.heap n0 Z706 (FP.dsub (FP.dsub (FP.dsub (FP.dadd (FP.dadd (FP.dadd (0 : UInt64) (FP.i2d p1)) (FP.i2d p2)) (FP.i2d p3)) (FP.i2d p1)) (FP.i2d p2)) (FP.i2d p3)) Fl695) rfl (b := a547) F702 (argsL := []) (rest := []) rfl rfl 0 312 rfl (by rw [hml]; rfl) (lenOf own_pd6 rfl) (Nat.le_refl _) (by decide) (by decide) (by decide) (by decide) (hb hby at_309) ?_
                                          intro v713 T713 L713 X713 hQ713
                                          obtain ⟨rfl, N713, q713⟩ := hQ713
                                          have N714 := Fr.app N696 N713
                                          show Go p e below _ T713 (mkF m 312 #[.val (.int p0), .val (.int p1), .val (.int p2), .val (.int p3), .val (.int (3 : Int32)), .val (.ref a489), .val (.ref a547), .val (.double (FP.i2d p1)), .second, .val (.double (FP.i2d p2)), .second, .val (.double (FP.i2d p3)), .second, .val (.long (((p1.toInt64) + (p2.toInt64)) + (p3.toInt64))), .second, .val (.int (1 : Int32)), .val (.int (0 : Int32)), .val (.int (1 : Int32))] [(.double (FP.dsub (FP.dsub (FP.dsub (FP.dadd (FP.dadd (FP.dadd (0 : UInt64) (FP.i2d p1)) (FP.i2d p2)) (FP.i2d p3)) (FP.i2d p1)) (FP.i2d p2)) (FP.i2d p3)))])
                                          refine g_lload X713 hx 314 (hb hby at_312) rfl rfl ?_
                                          refine g_iloadN X713 hx 315 (hb hby at_314) rfl rfl ?_
                                          refine g_i2l X713 hx 316 (hb hby at_315) rfl ?_
                                          refine g_lsub X713 hx 317 (hb hby at_316) rfl ?_
                                          refine g_iloadN X713 hx 318 (hb hby at_317) rfl rfl ?_
                                          refine g_i2l X713 hx 319 (hb hby at_318) rfl ?_
                                          refine g_lsub X713 hx 320 (hb hby at_319) rfl ?_
                                          refine g_iloadN X713 hx 321 (hb hby at_320) rfl rfl ?_
                                          refine g_i2l X713 hx 322 (hb hby at_321) rfl ?_
                                          refine g_lsub X713 hx 323 (hb hby at_322) rfl ?_
                                          refine g_l2d X713 hx 324 (hb hby at_323) rfl ?_
                                          have rr : (((((((p1.toInt64) + (p2.toInt64)) + (p3.toInt64)) - (p1.toInt64)) - (p2.toInt64)) - (p3.toInt64))).toInt = (((((p1.toInt + p2.toInt) + p3.toInt) - p1.toInt) - p2.toInt) - p3.toInt) := by
                                            have := c_ladd (p1.toInt64) (p2.toInt64)
                                            have := rng64 (((p1.toInt64) + (p2.toInt64)))
                                            have := c_ladd ((p1.toInt64) + (p2.toInt64)) (p3.toInt64)
                                            have := rng64 ((((p1.toInt64) + (p2.toInt64)) + (p3.toInt64)))
                                            have := c_lsub (((p1.toInt64) + (p2.toInt64)) + (p3.toInt64)) (p1.toInt64)
                                            have := rng64 (((((p1.toInt64) + (p2.toInt64)) + (p3.toInt64)) - (p1.toInt64)))
                                            have := c_lsub ((((p1.toInt64) + (p2.toInt64)) + (p3.toInt64)) - (p1.toInt64)) (p2.toInt64)
                                            have := rng64 ((((((p1.toInt64) + (p2.toInt64)) + (p3.toInt64)) - (p1.toInt64)) - (p2.toInt64)))
                                            have := c_lsub (((((p1.toInt64) + (p2.toInt64)) + (p3.toInt64)) - (p1.toInt64)) - (p2.toInt64)) (p3.toInt64)
                                            have := rng64 (((((((p1.toInt64) + (p2.toInt64)) + (p3.toInt64)) - (p1.toInt64)) - (p2.toInt64)) - (p3.toInt64)))
                                            omega
                                          have D715 := Jvm.FP.Core.l2d_int (a := ((((((p1.toInt64) + (p2.toInt64)) + (p3.toInt64)) - (p1.toInt64)) - (p2.toInt64)) - (p3.toInt64))) (by rw [rr]; omega)
                                          rw [rr] at D715
                                          refine g_dc_ne X713 hx 325 332 328 (hb hby at_324) rfl (hb hby at_325) (by decide) (by decide) rfl (Jvm.FP.Core.dcmp_int A694 D715) (fun c716 => ?_) (fun c716 => ?_)
                                          · skip
                                            exfalso; omega
                                          · skip
                                            refine g_iconst X713 hx (1 : Int32) 329 (hb hby at_328) rfl (by decide) ?_
                                            refine g_goto X713 hx 333 (hb hby at_329) (by decide) (by decide) ?_
                                            refine g_istore (l' := #[.val (.int p0), .val (.int p1), .val (.int p2), .val (.int p3), .val (.int (3 : Int32)), .val (.ref a489), .val (.ref a547), .val (.double (FP.i2d p1)), .second, .val (.double (FP.i2d p2)), .second, .val (.double (FP.i2d p3)), .second, .val (.long (((p1.toInt64) + (p2.toInt64)) + (p3.toInt64))), .second, .val (.int (1 : Int32)), .val (.int (0 : Int32)), .val (.int (1 : Int32))]) X713 hx 335 (hb hby at_333) rfl rfl ?_
                                            refine g_iload X713 hx 337 (hb hby at_335) rfl rfl ?_
                                            exact g_retZ X713 hx hlk hret (hb hby at_337) (by decide) (by decide) q713 ⟨rfl, N714⟩
                          · skip
                            exfalso; revert c679; decide
              · skip
                exfalso; revert c649; decide
set_option maxRecDepth 65536 in
set_option maxHeartbeats 40000000 in
theorem comes_1 {Post : Tables → Env → Array Value → State → Outcome → State → Prop} (hpost : ∀ tb e args s v u, (limb_1_1.after args s (.returned v) u = true ∧ limb_1_2.after args s (.returned v) u = true ∧ True) → FrameEnd s (.returned v) u (Jvm.fieldLocs frame_1_writes args s ++ Jvm.arrayLocs frame_1_arrays args s ++ Jvm.staticLocs frame_1_statics s) 16 128 → Post tb e args s (.returned v) u) :
    ArmFor flags0 classFile x code maxLocals ret World_1 tables_1 room_1 Calls_1 rest_1 Pre_1 Post := by
  intro l hfl _ _ p e ha hc hk s m args below hf hA hF happ hP
  obtain ⟨hcalls, hrest, hpre⟩ := hP
  obtain ⟨-, -, -, hnamed, -, -, -, hat⟩ := (Spec.applies_iff hf).mp happ
  obtain ⟨hg, hn⟩ := and_e (Cond.before_iff.mp (show (Jvm.Cond.and given_1 narrow_1).before args s = true from hpre))
  obtain ⟨h1, g0⟩ := and_e hg
  obtain ⟨t0, g1⟩ := and_e g0
  obtain ⟨t1, g2⟩ := and_e g1
  obtain ⟨t2, g3⟩ := and_e g2
  have t3 := g3
  obtain ⟨w0, w1, w2, w3, rfl⟩ : ∃ w0 w1 w2 w3 : Value, args = #[w0, w1, w2, w3] := by
    have hs : args.size = 4 := by simpa [Cond.value, given_1] using h1
    obtain ⟨L⟩ := args
    match L, hs with
    | [w0, w1, w2, w3], _ => exact ⟨w0, w1, w2, w3, rfl⟩
  have hw := fun d (hd : d ∈ tables_1) => atoms_spec (ws := Jvm.Cond.code x code maxLocals ret :: tables_1) hat d (List.mem_cons_of_mem _ hd)
  obtain ⟨i0, e0⟩ := is_v t0
  obtain rfl : w0 = (.int i0) := Option.some.inj e0
  obtain ⟨i1, e1⟩ := is_v t1
  obtain rfl : w1 = (.int i1) := Option.some.inj e1
  obtain ⟨i2, e2⟩ := is_v t2
  obtain rfl : w2 = (.int i2) := Option.some.inj e2
  obtain ⟨i3, e3⟩ := is_v t3
  obtain rfl : w3 = (.int i3) := Option.some.inj e3
  obtain ⟨n, o, h1, h2, h3, _, L, rfl, ⟨rfl, N⟩, hq⟩ := rm0 l s _ hw tables_1 i0 i1 i2 i3 s.heap s.heap.size (Nat.le_refl _)  p e ha hc hk s m _ below hf ((Spec.applies_iff_loose hf).mp happ).1 ⟨rfl, State.Warmed39.refl s, rfl⟩ trivial
  refine ⟨n, _, h1, h2, h3, hpost _ _ _ _ _ _ ⟨Cond.after_iff.mpr rfl, Cond.after_iff.mpr (eq_i res_at (Term.int_eval (1)) rfl), trivial⟩ ⟨hq.1, hq.2.1, (hq.2.2.sift fun y hy => Or.inr (N y hy)).mono (by decide) (by decide)⟩⟩
theorem main_1_1 : Claimed_1_1 := comes_1 fun _ _ _ _ _ _ h hF => ⟨h.1, hF⟩
theorem main_1_2 : Claimed_1_2 := comes_1 fun _ _ _ _ _ _ h hF => ⟨h.2.1, hF⟩
end Jvm.Pilot.@@N@@
namespace Jvm.Pilot.@@N@@
open Jvm Jvm.ClassFile Sem Op Lib Jvm.Free Jvm.Stand Jvm.Pilot.@@N@@.Jvm.D
/-! MADE BY PROGRAM (witnessworld.py) out of the Statement's table words and the real class files: 12 classes; the members and pool entries that the words name. The judged class is class 1, her method 1. -/
namespace start1
open Jvm.ClassFile
def u (s : String) : CpInfo := .utf8 (stringToUtf16 s)
/-- a pool by its gaps: so many unusable entries, then the entry; so many at the end -/
def gap : Nat → List CpInfo → List CpInfo
  | 0, r => r
  | n + 1, r => .unusable :: gap n r
def poolList (es : List (Nat × CpInfo)) (last : Nat) : List CpInfo := es.foldr (fun e r => gap e.1 (e.2 :: r)) (gap last [])
def pool (es : List (Nat × CpInfo)) (last : Nat) : Array CpInfo := ⟨poolList es last⟩
def fileOf (pool : Array CpInfo) (this : Nat) (attrs : Array Attribute := #[]) (ms : Array MethodInfo := #[]) (fl : Nat := 33) (sup : Nat := 0) (ifs : Array Nat := #[]) (fds : Array FieldInfo := #[]) : ClassFile where
  minorVersion := 0
  majorVersion := 65
  constantPool := pool
  accessFlags := fl
  thisClass := this
  superClass := sup
  interfaces := ifs
  fields := fds
  methods := ms
  attributes := attrs
def plain (name : String) (sup : Option ClassId) : Class where
  name := name
  kind := .ordinary
  loader := none
  accessFlags := 33
  super := sup
  interfaces := #[]
  cf := none
  fields := #[]
  methods := #[]
  instanceTypes := #[]
  staticTypes := #[]
  resolved := #[]
  callSites := []
  init := .initialized
  statics := none
  mirror := none

def pool0 : Array CpInfo := pool [(5, u "<init>"), (0, u "()V"), (1, .class_ 10), (1, u "java/lang/Object")] 113

def k0c0 : Code := { maxStack := 0, maxLocals := 1, code := object_method_1_code, exceptionTable := #[], attributes := #[] }
def k0m0 : Method := { name := "<init>", desc := "()V", sig := { parameters := [], returnType := none }, accessFlags := 1, code := some k0c0 }
/-- java/lang/Object -/
def k0 : Class := { plain "java/lang/Object" none with
  accessFlags := 33
  interfaces := #[]
  cf := some (fileOf pool0 8 #[] #[{ accessFlags := 1, nameIndex := 5, descriptorIndex := 6, attributes := #[] }] 33 0 #[] #[])
  fields := #[]
  methods := #[k0m0]
  instanceTypes := #[]
  staticTypes := #[]
  resolved := Array.replicate 124 none
  statics := none }

def pool1 : Array CpInfo := pool [(2, .class_ 4), (1, u "java/lang/Object"), (0, u "<init>"), (0, u "()V"), (0, .integer 2147483647), (0, .class_ 9), (0, u "com/example/neaplight/neaplight/Route"), (0, .methodref 8 11), (0, .nameAndType 5 12), (0, u "([I[I)V"), (0, .class_ 14), (0, u "com/example/neaplight/neaplight/Lightpath"), (0, .methodref 13 16), (0, .nameAndType 5 17), (0, u "(Lcom/example/neaplight/neaplight/Route;IIJD)V"), (0, .methodref 13 19), (0, .nameAndType 20 21), (0, u "carry"), (0, u "(DD)V"), (0, .methodref 13 23), (0, .nameAndType 24 25), (0, u "release"), (0, u "(D)Z"), (0, .methodref 13 27), (0, .nameAndType 28 29), (0, u "load"), (0, u "()D"), (0, .class_ 31), (0, u "com/example/neaplight/neaplight/LightpathReleasePinLaw"), (2, u "law"), (0, u "(IIII)Z")] 3

def k1m0 : Method := { name := "<init>", desc := "()V", sig := { parameters := [], returnType := none }, accessFlags := 1, code := none }
def k1c1 : Code := { maxStack := 9, maxLocals := 18, code := code, exceptionTable := #[], attributes := #[] }
def k1m1 : Method := { name := "law", desc := "(IIII)Z", sig := { parameters := [.int, .int, .int, .int], returnType := some .boolean }, accessFlags := 9, code := some k1c1 }
/-- com/example/neaplight/neaplight/LightpathReleasePinLaw -/
def k1 : Class := { plain "com/example/neaplight/neaplight/LightpathReleasePinLaw" (some 0) with
  accessFlags := 49
  interfaces := #[]
  cf := some (fileOf pool1 30 #[] #[{ accessFlags := 1, nameIndex := 5, descriptorIndex := 6, attributes := #[] }, { accessFlags := 9, nameIndex := 34, descriptorIndex := 35, attributes := #[] }] 49 2 #[] #[])
  fields := #[]
  methods := #[k1m0, k1m1]
  instanceTypes := #[]
  staticTypes := #[]
  resolved := Array.replicate 39 none
  statics := none }

def pool2 : Array CpInfo := pool [(1, .methodref 2 3), (0, .class_ 4), (0, .nameAndType 5 6), (0, u "java/lang/Object"), (0, u "<init>"), (0, u "()V"), (0, .class_ 8), (0, u "java/lang/Record")] 13

def k2c0 : Code := { maxStack := 1, maxLocals := 1, code := jdk_30_method_1_code, exceptionTable := #[], attributes := #[] }
def k2m0 : Method := { name := "<init>", desc := "()V", sig := { parameters := [], returnType := none }, accessFlags := 4, code := some k2c0 }
/-- java/lang/Record -/
def k2 : Class := { plain "java/lang/Record" (some 0) with
  accessFlags := 1057
  interfaces := #[]
  cf := some (fileOf pool2 7 #[] #[{ accessFlags := 4, nameIndex := 5, descriptorIndex := 6, attributes := #[] }] 1057 2 #[] #[])
  fields := #[]
  methods := #[k2m0]
  instanceTypes := #[]
  staticTypes := #[]
  resolved := Array.replicate 22 none
  statics := none }

def pool3 : Array CpInfo := pool [(1, .methodref 2 3), (0, .class_ 4), (0, .nameAndType 5 6), (0, u "java/lang/Record"), (0, u "<init>"), (0, u "()V"), (0, .fieldref 8 9), (0, .class_ 10), (0, .nameAndType 11 12), (0, u "com/example/neaplight/neaplight/Route"), (0, u "nodes"), (0, u "[I"), (0, .fieldref 8 14), (0, .nameAndType 15 12), (0, u "links"), (12, u "([I[I)V")] 28

def k3c0 : Code := { maxStack := 2, maxLocals := 3, code := prog_42_method_1_code, exceptionTable := #[], attributes := #[] }
def k3m0 : Method := { name := "<init>", desc := "([I[I)V", sig := { parameters := [(.array .int), (.array .int)], returnType := none }, accessFlags := 0, code := some k3c0 }
/-- com/example/neaplight/neaplight/Route -/
def k3 : Class := { plain "com/example/neaplight/neaplight/Route" (some 2) with
  accessFlags := 48
  interfaces := #[]
  cf := some (fileOf pool3 8 #[] #[{ accessFlags := 0, nameIndex := 5, descriptorIndex := 28, attributes := #[] }] 48 2 #[] #[{ accessFlags := 18, nameIndex := 11, descriptorIndex := 12, attributes := #[] }, { accessFlags := 18, nameIndex := 15, descriptorIndex := 12, attributes := #[] }])
  fields := #[{ name := "nodes", type := (.array .int), accessFlags := 18, slot := 0, constantValue := 0 }, { name := "links", type := (.array .int), accessFlags := 18, slot := 1, constantValue := 0 }]
  methods := #[k3m0]
  instanceTypes := #[(.array .int), (.array .int)]
  staticTypes := #[]
  resolved := Array.replicate 57 none
  statics := none }

def pool4 : Array CpInfo := pool [(1, .methodref 2 3), (0, .class_ 4), (0, .nameAndType 5 6), (0, u "java/lang/Object"), (0, u "<init>"), (0, u "()V"), (0, .fieldref 8 9), (0, .class_ 10), (0, .nameAndType 11 12), (0, u "com/example/neaplight/neaplight/Lightpath"), (0, u "route"), (0, u "Lcom/example/neaplight/neaplight/Route;"), (0, .fieldref 8 14), (0, .nameAndType 15 16), (0, u "channel"), (0, u "I"), (0, .fieldref 8 18), (0, .nameAndType 19 16), (0, u "width"), (0, .fieldref 8 21), (0, .nameAndType 22 23), (0, u "order"), (0, u "J"), (0, .fieldref 8 25), (0, .nameAndType 26 27), (0, u "setUp"), (0, u "D"), (0, .fieldref 8 29), (0, .nameAndType 30 27), (0, u "lastDeparture"), (0, .fieldref 8 32), (0, .nameAndType 33 27), (0, u "load"), (6, .fieldref 8 41), (0, .nameAndType 42 16), (0, u "carried"), (0, .methodref 44 45), (0, .class_ 46), (0, .nameAndType 47 48), (0, u "java/lang/Math"), (0, u "max"), (0, u "(DD)D"), (0, u "place"), (0, u "(Lcom/example/neaplight/neaplight/Route;IIJD)V"), (5, u "()D"), (2, u "carry"), (0, u "(DD)V"), (0, u "release"), (0, u "(D)Z")] 3

def k4c0 : Code := { maxStack := 3, maxLocals := 8, code := prog_24_method_1_code, exceptionTable := #[], attributes := #[] }
def k4m0 : Method := { name := "<init>", desc := "(Lcom/example/neaplight/neaplight/Route;IIJD)V", sig := { parameters := [(.object "com/example/neaplight/neaplight/Route"), .int, .int, .long, .double], returnType := none }, accessFlags := 0, code := some k4c0 }
def k4c1 : Code := { maxStack := 2, maxLocals := 1, code := prog_24_method_7_code, exceptionTable := #[], attributes := #[] }
def k4m1 : Method := { name := "load", desc := "()D", sig := { parameters := [], returnType := some .double }, accessFlags := 0, code := some k4c1 }
def k4c2 : Code := { maxStack := 5, maxLocals := 5, code := prog_24_method_11_code, exceptionTable := #[], attributes := #[] }
def k4m2 : Method := { name := "carry", desc := "(DD)V", sig := { parameters := [.double, .double], returnType := none }, accessFlags := 0, code := some k4c2 }
def k4c3 : Code := { maxStack := 5, maxLocals := 3, code := prog_24_method_12_code, exceptionTable := #[], attributes := #[] }
def k4m3 : Method := { name := "release", desc := "(D)Z", sig := { parameters := [.double], returnType := some .boolean }, accessFlags := 0, code := some k4c3 }
/-- com/example/neaplight/neaplight/Lightpath -/
def k4 : Class := { plain "com/example/neaplight/neaplight/Lightpath" (some 0) with
  accessFlags := 48
  interfaces := #[]
  cf := some (fileOf pool4 8 #[] #[{ accessFlags := 0, nameIndex := 5, descriptorIndex := 50, attributes := #[] }, { accessFlags := 0, nameIndex := 33, descriptorIndex := 56, attributes := #[] }, { accessFlags := 0, nameIndex := 59, descriptorIndex := 60, attributes := #[] }, { accessFlags := 0, nameIndex := 61, descriptorIndex := 62, attributes := #[] }] 48 2 #[] #[{ accessFlags := 18, nameIndex := 11, descriptorIndex := 12, attributes := #[] }, { accessFlags := 18, nameIndex := 15, descriptorIndex := 16, attributes := #[] }, { accessFlags := 18, nameIndex := 19, descriptorIndex := 16, attributes := #[] }, { accessFlags := 18, nameIndex := 22, descriptorIndex := 23, attributes := #[] }, { accessFlags := 18, nameIndex := 26, descriptorIndex := 27, attributes := #[] }, { accessFlags := 2, nameIndex := 33, descriptorIndex := 27, attributes := #[] }, { accessFlags := 2, nameIndex := 42, descriptorIndex := 16, attributes := #[] }, { accessFlags := 2, nameIndex := 30, descriptorIndex := 27, attributes := #[] }, { accessFlags := 0, nameIndex := 49, descriptorIndex := 16, attributes := #[] }])
  fields := #[{ name := "route", type := (.object "com/example/neaplight/neaplight/Route"), accessFlags := 18, slot := 0, constantValue := 0 }, { name := "channel", type := .int, accessFlags := 18, slot := 1, constantValue := 0 }, { name := "width", type := .int, accessFlags := 18, slot := 2, constantValue := 0 }, { name := "order", type := .long, accessFlags := 18, slot := 3, constantValue := 0 }, { name := "setUp", type := .double, accessFlags := 18, slot := 4, constantValue := 0 }, { name := "load", type := .double, accessFlags := 2, slot := 5, constantValue := 0 }, { name := "carried", type := .int, accessFlags := 2, slot := 6, constantValue := 0 }, { name := "lastDeparture", type := .double, accessFlags := 2, slot := 7, constantValue := 0 }, { name := "place", type := .int, accessFlags := 0, slot := 8, constantValue := 0 }]
  methods := #[k4m0, k4m1, k4m2, k4m3]
  instanceTypes := #[(.object "com/example/neaplight/neaplight/Route"), .int, .int, .long, .double, .double, .int, .double, .int]
  staticTypes := #[]
  resolved := Array.replicate 66 none
  statics := none }

def pool5 : Array CpInfo := pool [(1, .class_ 2), (0, u "java/lang/Math"), (1, .class_ 6), (1, u "java/lang/Object"), (0, u "<init>"), (0, u "()V"), (43, u "(DD)D"), (45, .class_ 100), (1, u "java/lang/Math$RandomNumberGeneratorHolder"), (71, u "negativeZeroFloatBits"), (0, u "J"), (2, u "negativeZeroDoubleBits"), (21, u "max"), (46, u "$assertionsDisabled"), (0, u "Z"), (91, u "twoToTheDoubleScaleDown"), (0, u "D"), (4, u "twoToTheDoubleScaleUp"), (9, u "E"), (3, u "PI"), (2, u "TAU"), (2, u "DEGREES_TO_RADIANS"), (0, u "RADIANS_TO_DEGREES")] 94

def k5m0 : Method := { name := "<init>", desc := "()V", sig := { parameters := [], returnType := none }, accessFlags := 2, code := none }
def k5c1 : Code := { maxStack := 4, maxLocals := 4, code := jdk_29_method_68_code, exceptionTable := #[], attributes := #[] }
def k5m1 : Method := { name := "max", desc := "(DD)D", sig := { parameters := [.double, .double], returnType := some .double }, accessFlags := 9, code := some k5c1 }
/-- java/lang/Math -/
def k5 : Class := { plain "java/lang/Math" (some 0) with
  accessFlags := 49
  interfaces := #[]
  cf := some (fileOf pool5 1 #[.nestMembers #[98]] #[{ accessFlags := 2, nameIndex := 7, descriptorIndex := 8, attributes := #[] }, { accessFlags := 9, nameIndex := 198, descriptorIndex := 52, attributes := #[] }] 49 4 #[] #[{ accessFlags := 25, nameIndex := 354, descriptorIndex := 339, attributes := #[] }, { accessFlags := 25, nameIndex := 358, descriptorIndex := 339, attributes := #[] }, { accessFlags := 25, nameIndex := 361, descriptorIndex := 339, attributes := #[] }, { accessFlags := 26, nameIndex := 364, descriptorIndex := 339, attributes := #[] }, { accessFlags := 26, nameIndex := 365, descriptorIndex := 339, attributes := #[] }, { accessFlags := 26, nameIndex := 172, descriptorIndex := 173, attributes := #[] }, { accessFlags := 26, nameIndex := 176, descriptorIndex := 173, attributes := #[] }, { accessFlags := 8, nameIndex := 344, descriptorIndex := 339, attributes := #[] }, { accessFlags := 8, nameIndex := 338, descriptorIndex := 339, attributes := #[] }, { accessFlags := 4120, nameIndex := 245, descriptorIndex := 246, attributes := #[] }])
  fields := #[{ name := "E", type := .double, accessFlags := 25, slot := 0, constantValue := 0 }, { name := "PI", type := .double, accessFlags := 25, slot := 1, constantValue := 0 }, { name := "TAU", type := .double, accessFlags := 25, slot := 2, constantValue := 0 }, { name := "DEGREES_TO_RADIANS", type := .double, accessFlags := 26, slot := 3, constantValue := 0 }, { name := "RADIANS_TO_DEGREES", type := .double, accessFlags := 26, slot := 4, constantValue := 0 }, { name := "negativeZeroFloatBits", type := .long, accessFlags := 26, slot := 5, constantValue := 0 }, { name := "negativeZeroDoubleBits", type := .long, accessFlags := 26, slot := 6, constantValue := 0 }, { name := "twoToTheDoubleScaleUp", type := .double, accessFlags := 8, slot := 7, constantValue := 0 }, { name := "twoToTheDoubleScaleDown", type := .double, accessFlags := 8, slot := 8, constantValue := 0 }, { name := "$assertionsDisabled", type := .boolean, accessFlags := 4120, slot := 9, constantValue := 0 }]
  methods := #[k5m0, k5m1]
  instanceTypes := #[]
  staticTypes := #[.double, .double, .double, .double, .double, .long, .long, .double, .double, .boolean]
  resolved := Array.replicate 460 none
  statics := none }

def pool6 : Array CpInfo := pool [(1, u "java/lang/Cloneable"), (0, .class_ 1), (0, u "java/lang/Object"), (0, .class_ 3)] 3

/-- java/lang/Cloneable -/
def k6 : Class := { plain "java/lang/Cloneable" (some 0) with
  accessFlags := 1537
  interfaces := #[]
  cf := some (fileOf pool6 2 #[] #[] 1537 4 #[] #[])
  fields := #[]
  methods := #[]
  instanceTypes := #[]
  staticTypes := #[]
  resolved := Array.replicate 8 none
  statics := none }

def pool7 : Array CpInfo := pool [(1, u "java/io/Serializable"), (0, .class_ 1), (0, u "java/lang/Object"), (0, .class_ 3)] 3

/-- java/io/Serializable -/
def k7 : Class := { plain "java/io/Serializable" (some 0) with
  accessFlags := 1537
  interfaces := #[]
  cf := some (fileOf pool7 2 #[] #[] 1537 4 #[] #[])
  fields := #[]
  methods := #[]
  instanceTypes := #[]
  staticTypes := #[]
  resolved := Array.replicate 8 none
  statics := none }

/-- the primitive byte -/
def k8 : Class := { plain "byte" none with kind := .primitive 'B', accessFlags := 0x411 }
/-- [B -/
def k9 : Class := { plain "[B" (some 0) with kind := .array 8 .byte, interfaces := #[6, 7], accessFlags := 1041 }

/-- the primitive int -/
def k10 : Class := { plain "int" none with kind := .primitive 'I', accessFlags := 0x411 }
/-- [I -/
def k11 : Class := { plain "[I" (some 0) with kind := .array 10 .int, interfaces := #[6, 7], accessFlags := 1041 }

def heap : Heap := #[]
def classes : Array Class := #[k0, k1, k2, k3, k4, k5, k6, k7, k8, k9, k10, k11]
def interned : List (Array UInt16 × Addr) := []
def slotsUsed : Nat := 0
def theMethod : MethodId := ⟨1, 1⟩
def args0 : Array Value := #[.int 5, .int 3, .int 4, .int 7]
def aboutOver (below : List Frame) : State where
  vm := { classes := classes, interned := interned.toArray }
  heap := heap
  slotsUsed := slotsUsed
  threads := #[{ frames := .invoking theMethod args0 :: below }]
def below0 : List Frame := [.native { method := ⟨0, 0⟩, args := #[] }]
def about1 : State := aboutOver below0
def p0 : Program := .bare "" "" ""
def e0 : Env := launch0.env 0 0 0
theorem w_frames : about1.frames = Frame.invoking theMethod args0 :: below0 := rfl
set_option maxRecDepth 65536 in
theorem w_args : argsFit about1.vm theMethod args0 = true := by decide +kernel
set_option maxRecDepth 65536 in
theorem w_heap : heapFits about1 = true := by decide +kernel
set_option maxRecDepth 65536 in
theorem w_runnable : about1.curStatus? = some .runnable := by decide +kernel
set_option maxRecDepth 65536 in
theorem w_alone : about1.alone = true := by decide +kernel
set_option maxRecDepth 65536 in
theorem w_named : about1.methodNamed? x = some theMethod := by decide +kernel
set_option maxRecDepth 65536 in
theorem w_hears : about1.hears theMethod below0 = true := by decide +kernel
set_option maxRecDepth 65536 in
theorem w_ripe : about1.ripe theMethod args0 below0 = true := by decide +kernel
theorem w_running : about1.status = .running := rfl
set_option maxRecDepth 65536 in
theorem w_room : about1.hasRoom e0.platform room_1 = true :=
  launch0.hasRoom_least _ room_1 (by decide +kernel) (by decide +kernel) (by decide +kernel) (by decide +kernel) (by decide +kernel) (by decide +kernel)
theorem allAtoms_all (ts : List Jvm.Cond) (a : Array Jvm.Value) (st : Jvm.State) : (allAtoms ts).before a st = ts.all (fun c => c.before a st) := by
  induction ts with
  | nil => rfl
  | cons c t ih =>
    show (Jvm.Cond.and c (allAtoms t)).before a st = _
    rw [Jvm.Cond.before_and, ih, List.all_cons]
def words1 : List Jvm.Cond := Jvm.Cond.code x code maxLocals ret :: tables_1
/-- a 'code' word, met by the world's own term for the bytes: nothing is compared byte by byte -/
theorem code_word {y : MethodName} {bytes : ByteArray} {mx : Nat} {rt : Option FieldType} {a : Array Value} {s : State} {m : MethodId} {meth : Method} {c : Code} (h1 : s.methodNamed? y = some m) (h2 : s.vm.method? m = some meth) (h3 : meth.code = some c) (h4 : c.code = bytes)
    (h5 : (c.maxLocals == mx && c.exceptionTable.isEmpty && decide (c.maxStack ≤ mostOperands) && decide (meth.sig.returnType = rt) && !meth.locks && decide (parseMethodDescriptor y.desc = some meth.sig)) = true) : (Jvm.Cond.code y bytes mx rt).before a s = true := by
  simp only [Bool.and_eq_true, beq_iff_eq, Bool.not_eq_true', decide_eq_true_eq] at h5
  obtain ⟨⟨⟨⟨⟨g1, g2⟩, g3⟩, g4⟩, g5⟩, g6⟩ := h5
  simp [Cond.before, Cond.holds, Cond.value, h1, h2, h3, h4, g1, g2, g3, g4, g5, g6]
def isCode : Jvm.Cond → Bool
  | .code _ _ _ _ => true
  | _ => false
theorem all_split {L : List Jvm.Cond} {P : Jvm.Cond → Bool} (h1 : L.all (fun c => isCode c || P c) = true) (h2 : ∀ c ∈ L.filter isCode, P c = true) : L.all P = true := by
  refine List.all_eq_true.mpr fun c hc => ?_
  have h := List.all_eq_true.mp h1 c hc
  rcases Bool.eq_false_or_eq_true (isCode c) with hi | hi
  · exact h2 c (List.mem_filter.mpr ⟨hc, hi⟩)
  · simpa [hi] using h
set_option maxRecDepth 65536 in
theorem w_c0 : (Jvm.Cond.code x code maxLocals ret).before args0 about1 = true := code_word (m := ⟨1, 1⟩) (meth := k1m1) (c := k1c1) (by decide +kernel) rfl rfl rfl (by decide +kernel)
set_option maxRecDepth 65536 in
theorem w_c1 : (Jvm.Cond.code ({ cls := "com/example/neaplight/neaplight/Route", name := "<init>", desc := "([I[I)V" } : Jvm.MethodName) prog_42_method_1_code (3 : Nat) (Option.none : Option Jvm.ClassFile.FieldType)).before args0 about1 = true := code_word (m := ⟨3, 0⟩) (meth := k3m0) (c := k3c0) (by decide +kernel) rfl rfl rfl (by decide +kernel)
set_option maxRecDepth 65536 in
theorem w_c2 : (Jvm.Cond.code ({ cls := "java/lang/Record", name := "<init>", desc := "()V" } : Jvm.MethodName) jdk_30_method_1_code (1 : Nat) (Option.none : Option Jvm.ClassFile.FieldType)).before args0 about1 = true := code_word (m := ⟨2, 0⟩) (meth := k2m0) (c := k2c0) (by decide +kernel) rfl rfl rfl (by decide +kernel)
set_option maxRecDepth 65536 in
theorem w_c3 : (Jvm.Cond.code ({ cls := "java/lang/Object", name := "<init>", desc := "()V" } : Jvm.MethodName) object_method_1_code (1 : Nat) (Option.none : Option Jvm.ClassFile.FieldType)).before args0 about1 = true := code_word (m := ⟨0, 0⟩) (meth := k0m0) (c := k0c0) (by decide +kernel) rfl rfl rfl (by decide +kernel)
set_option maxRecDepth 65536 in
theorem w_c4 : (Jvm.Cond.code ({ cls := "com/example/neaplight/neaplight/Lightpath", name := "<init>", desc := "(Lcom/example/neaplight/neaplight/Route;IIJD)V" } : Jvm.MethodName) prog_24_method_1_code (8 : Nat) (Option.none : Option Jvm.ClassFile.FieldType)).before args0 about1 = true := code_word (m := ⟨4, 0⟩) (meth := k4m0) (c := k4c0) (by decide +kernel) rfl rfl rfl (by decide +kernel)
set_option maxRecDepth 65536 in
theorem w_c5 : (Jvm.Cond.code ({ cls := "com/example/neaplight/neaplight/Lightpath", name := "carry", desc := "(DD)V" } : Jvm.MethodName) prog_24_method_11_code (5 : Nat) (Option.none : Option Jvm.ClassFile.FieldType)).before args0 about1 = true := code_word (m := ⟨4, 2⟩) (meth := k4m2) (c := k4c2) (by decide +kernel) rfl rfl rfl (by decide +kernel)
set_option maxRecDepth 65536 in
theorem w_c6 : (Jvm.Cond.code ({ cls := "java/lang/Math", name := "max", desc := "(DD)D" } : Jvm.MethodName) jdk_29_method_68_code (4 : Nat) (Option.some Jvm.ClassFile.FieldType.double)).before args0 about1 = true := code_word (m := ⟨5, 1⟩) (meth := k5m1) (c := k5c1) (by decide +kernel) rfl rfl rfl (by decide +kernel)
set_option maxRecDepth 65536 in
theorem w_c7 : (Jvm.Cond.code ({ cls := "com/example/neaplight/neaplight/Lightpath", name := "release", desc := "(D)Z" } : Jvm.MethodName) prog_24_method_12_code (3 : Nat) (Option.some Jvm.ClassFile.FieldType.boolean)).before args0 about1 = true := code_word (m := ⟨4, 3⟩) (meth := k4m3) (c := k4c3) (by decide +kernel) rfl rfl rfl (by decide +kernel)
set_option maxRecDepth 65536 in
theorem w_c8 : (Jvm.Cond.code ({ cls := "com/example/neaplight/neaplight/Lightpath", name := "load", desc := "()D" } : Jvm.MethodName) prog_24_method_7_code (1 : Nat) (Option.some Jvm.ClassFile.FieldType.double)).before args0 about1 = true := code_word (m := ⟨4, 1⟩) (meth := k4m1) (c := k4c1) (by decide +kernel) rfl rfl rfl (by decide +kernel)
def codes1 : List Jvm.Cond := [Jvm.Cond.code x code maxLocals ret, Jvm.Cond.code ({ cls := "com/example/neaplight/neaplight/Route", name := "<init>", desc := "([I[I)V" } : Jvm.MethodName) prog_42_method_1_code (3 : Nat) (Option.none : Option Jvm.ClassFile.FieldType), Jvm.Cond.code ({ cls := "java/lang/Record", name := "<init>", desc := "()V" } : Jvm.MethodName) jdk_30_method_1_code (1 : Nat) (Option.none : Option Jvm.ClassFile.FieldType), Jvm.Cond.code ({ cls := "java/lang/Object", name := "<init>", desc := "()V" } : Jvm.MethodName) object_method_1_code (1 : Nat) (Option.none : Option Jvm.ClassFile.FieldType), Jvm.Cond.code ({ cls := "com/example/neaplight/neaplight/Lightpath", name := "<init>", desc := "(Lcom/example/neaplight/neaplight/Route;IIJD)V" } : Jvm.MethodName) prog_24_method_1_code (8 : Nat) (Option.none : Option Jvm.ClassFile.FieldType), Jvm.Cond.code ({ cls := "com/example/neaplight/neaplight/Lightpath", name := "carry", desc := "(DD)V" } : Jvm.MethodName) prog_24_method_11_code (5 : Nat) (Option.none : Option Jvm.ClassFile.FieldType), Jvm.Cond.code ({ cls := "java/lang/Math", name := "max", desc := "(DD)D" } : Jvm.MethodName) jdk_29_method_68_code (4 : Nat) (Option.some Jvm.ClassFile.FieldType.double), Jvm.Cond.code ({ cls := "com/example/neaplight/neaplight/Lightpath", name := "release", desc := "(D)Z" } : Jvm.MethodName) prog_24_method_12_code (3 : Nat) (Option.some Jvm.ClassFile.FieldType.boolean), Jvm.Cond.code ({ cls := "com/example/neaplight/neaplight/Lightpath", name := "load", desc := "()D" } : Jvm.MethodName) prog_24_method_7_code (1 : Nat) (Option.some Jvm.ClassFile.FieldType.double)]
set_option maxRecDepth 65536 in
theorem codes_eq : words1.filter isCode = codes1 := rfl
theorem w_codes : ∀ c ∈ words1.filter isCode, c.before args0 about1 = true := by
  rw [codes_eq]
  intro c hc
  simp only [codes1, List.mem_cons, List.not_mem_nil, or_false] at hc
  rcases hc with rfl | rfl | rfl | rfl | rfl | rfl | rfl | rfl | rfl
  · exact w_c0
  · exact w_c1
  · exact w_c2
  · exact w_c3
  · exact w_c4
  · exact w_c5
  · exact w_c6
  · exact w_c7
  · exact w_c8
set_option maxRecDepth 65536 in
theorem w_t1 : (words1.take 24).all (fun c => isCode c || c.before args0 about1) = true := by decide +kernel
set_option maxRecDepth 65536 in
theorem w_t2 : ((words1.drop 24).take 24).all (fun c => isCode c || c.before args0 about1) = true := by decide +kernel
set_option maxRecDepth 65536 in
theorem w_t3 : ((words1.drop 24).drop 24).all (fun c => isCode c || c.before args0 about1) = true := by decide +kernel
theorem w_tables : (allAtoms (Jvm.Cond.code x code maxLocals ret :: tables_1)).before args0 about1 = true := by
  rw [allAtoms_all]
  show words1.all (fun c => c.before args0 about1) = true
  refine all_split ?_ w_codes
  rw [← List.take_append_drop 24 words1, List.all_append, w_t1, ← List.take_append_drop 24 (words1.drop 24), List.all_append, w_t2, w_t3]
  rfl
set_option maxRecDepth 65536 in
theorem w_case : (Jvm.Cond.and given_1 narrow_1).before args0 about1 = true := by decide +kernel
theorem w_applies : (headSpec (Jvm.Cond.code x code maxLocals ret :: tables_1) room_1).applies x e0.platform about1 = true :=
  (Spec.applies_iff w_frames).mpr ⟨w_running, w_runnable, w_alone, w_named, w_hears, w_ripe, w_room, w_tables⟩
theorem atStart : AtStart classFile x code maxLocals ret World_1 tables_1 room_1 Calls_1 rest_1 Pre_1 launch0 p0 e0 about1 theMethod args0 below0 :=
  ⟨lists_1, trivial, launch0.admits_env _ _ _, launch0.least_env, fairChoices_fair.cas, fairChoices_fair.clock, w_frames, w_args, w_heap, w_applies, trivial, trivial, w_case⟩
end start1
theorem witness_1 : WitnessClaimed_1 := ⟨start1.p0, start1.e0, start1.about1, start1.theMethod, start1.args0, start1.below0, start1.atStart⟩
end Jvm.Pilot.@@N@@
