import JvmDerived
import JvmDerived.Pilot.@@N@@Statement
import JvmDerived.Pilot.@@N@@Code
set_option linter.unusedVariables false
set_option linter.unusedSimpArgs false
namespace Jvm.Pilot.@@N@@
open Jvm Jvm.ClassFile Sem Op Lib Jvm.Free Jvm.Stand Jvm.LawKit Jvm.RoadKit Bundle Jvm.Pilot.@@N@@.Jvm.D
section OwnKit
variable {p : Program} {l : Launch} {e : Env} {R : Room} {s : State} {m : MethodId} {args : Array Value} {below : List Frame} {meth : Method} {c : Code} {T : State} {locs : List Loc} {cells slots : Nat} {Z : State} {a0 : Array Value} {h h' : Heap} {Ev : State → Outcome → Prop}
def Go (p : Program) (e : Env) (below : List Frame) (Ev : State → Outcome → Prop) (T : State) (g : JFrame) : Prop :=
  ∃ (U : State) (o : Outcome), Steps p.tables e below (T.setTop g) U ∧ U.status = .running ∧ Ended U below o ∧ Ev U o
theorem Go.on {T T' : State} {g g' : JFrame} (K : Go p e below Ev T' g') (st : ∀ t, Steps p.tables e below (T'.setTop g') t → Steps p.tables e below (T.setTop g) t) : Go p e below Ev T g := by
  obtain ⟨U, o, h1, h2⟩ := K
  exact ⟨U, o, st _ h1, h2⟩
/-- what a body leaves -/
abbrev EndQ (s : State) (Q : Option Value → Heap → List Loc → Prop) (K N : Nat) : State → Outcome → Prop := fun U o => ∃ (v : Option Value) (L : List Loc), o = .returned v ∧ Q v U.heap L ∧ FrameEnd s o U L K N
theorem own_met {x : MethodName} {code : ByteArray} {ml : Nat} {ret : Option FieldType} {ws : List Jvm.Cond} {rm : Room} {as : Array Value} {h0 : Heap} {Q : Option Value → Heap → List Loc → Prop} {K N : Nat} {Ls : Array Slot} (hpn : plainFor x = true) (hef : ∀ m, entryFrame m as ml = mkF m 0 Ls [])
    (body : ∀ (p : Program) (e : Env) (s : State) (m : MethodId) (below : List Frame) (meth : Method) (c : Code) (T : State), Stand p l e rm s m as below meth c T [] 0 0 → p.tables.exec = Jvm.exec → c.code = code → c.maxLocals = ml → meth.sig.returnType = ret → meth.locks = false → meth.name = x.name → s.vm.findClass x.cls = some m.cls → Z.Warmed39 s.vm → T.heap = h0 → Go p e below (EndQ s Q K N) T (mkF m 0 Ls [])) :
    MetFree l x (head1 (Jvm.Cond.code x code ml ret :: ws) rm) (fun a U => a = as ∧ Z.Warmed39 U.vm ∧ U.heap = h0) (fun _ _ _ _ _ => True) (fun _ U o U' => ∃ v L, o = .returned v ∧ Q v U'.heap L ∧ FrameEnd U o U' L K N) := by
  refine MetFree.of_bodySF hpn hisR ?_
  intro p e s m args below meth c s₁ Bd hml0 hP hK
  obtain ⟨rfl, hZ, hh⟩ := hP
  have e0 : s₁.heap = h0 := by rw [← hh, Bd.state]; rfl
  obtain ⟨U, o, h1, h2, h3, h4⟩ := body p e s m below meth c s₁ (Stand.of_body Bd) Bd.exec Bd.bytes hml0 Bd.returns (BodyLoose.notSynchronized Bd) (name_of_methodNamed Bd.named Bd.method).1 (findClass_of_methodNamed Bd.named) hZ e0
  rw [← hef m] at h1
  exact ⟨U, o, h1, h2, h3, h4⟩
theorem g_leave (X : Stand p l e R s m args below meth c T locs cells slots) (hlk : meth.locks = false) {Q : Option Value → Heap → List Loc → Prop} {K N : Nat} {g : JFrame} {v : Option Value} (hv : meth.sig.returnType = none → v = none) (hK : cells ≤ K) (hN : slots ≤ N) (eT : T.heap = h) (hQ : Q v h locs)
    (hst : ∀ fs, (∀ (f : JFrame) (acts : List Action), f.method = m → f.locked = none → f.entered = [] → (doReturn e (T.setTop f) acts v).1 = T.setFrames fs) → Steps p.tables e below (T.setTop g) (T.setFrames fs)) : Go p e below (EndQ s Q K N) T g := by
  obtain ⟨fs, hr, hrun, hended, hW, hsame⟩ := X.leave (v := v) hv hlk
  exact ⟨_, _, hst fs hr, hrun, hended, _, _, rfl, by rw [show (T.setFrames fs).heap = T.heap from rfl, eT]; exact hQ, ⟨_, rfl⟩, hW, hsame.mono hK hN⟩
theorem g_retI (X : Stand p l e R s m args below meth c T locs cells slots) (hx : p.tables.exec = Jvm.exec) (hlk : meth.locks = false) {Q : Option Value → Heap → List Loc → Prop} {K N : Nat} {pc : Nat} {Ls : Array Slot} {z : Int32} {rest : List Value} (hret : meth.sig.returnType = some .int) (hd : decode c.code pc = .ok (.ireturn, 1)) (hK : cells ≤ K) (hN : slots ≤ N) (eT : T.heap = h) (hQ : Q (some (.int z)) h locs) : Go p e below (EndQ s Q K N) T (mkF m pc Ls (.int z :: rest)) :=
  g_leave X hlk (fun q => by rw [hret] at q; cases q) hK hN eT hQ (fun fs hr => retOut X hx hret rfl (Or.inl ⟨rfl, Or.inl rfl, _, rfl⟩) hd hr)
theorem g_retZ (X : Stand p l e R s m args below meth c T locs cells slots) (hx : p.tables.exec = Jvm.exec) (hlk : meth.locks = false) {Q : Option Value → Heap → List Loc → Prop} {K N : Nat} {pc : Nat} {Ls : Array Slot} {z : Int32} {rest : List Value} (hret : meth.sig.returnType = some .boolean) (hd : decode c.code pc = .ok (.ireturn, 1)) (hK : cells ≤ K) (hN : slots ≤ N) (eT : T.heap = h) (hQ : Q (some (.int (nar .boolean z))) h locs) : Go p e below (EndQ s Q K N) T (mkF m pc Ls (.int z :: rest)) :=
  g_leave X hlk (fun q => by rw [hret] at q; cases q) hK hN eT hQ (fun fs hr => retN X hx (t := .boolean) hret (by simp) hd hr)
theorem g_retD (X : Stand p l e R s m args below meth c T locs cells slots) (hx : p.tables.exec = Jvm.exec) (hlk : meth.locks = false) {Q : Option Value → Heap → List Loc → Prop} {K N : Nat} {pc : Nat} {Ls : Array Slot} {z : UInt64} {rest : List Value} (hret : meth.sig.returnType = some .double) (hd : decode c.code pc = .ok (.dreturn, 1)) (hK : cells ≤ K) (hN : slots ≤ N) (eT : T.heap = h) (hQ : Q (some (.double z)) h locs) : Go p e below (EndQ s Q K N) T (mkF m pc Ls (.double z :: rest)) :=
  g_leave X hlk (fun q => by rw [hret] at q; cases q) hK hN eT hQ (fun fs hr => retOut X hx hret rfl (Or.inr (Or.inr (Or.inl ⟨rfl, rfl, _, rfl⟩))) hd hr)
theorem g_retJ (X : Stand p l e R s m args below meth c T locs cells slots) (hx : p.tables.exec = Jvm.exec) (hlk : meth.locks = false) {Q : Option Value → Heap → List Loc → Prop} {K N : Nat} {pc : Nat} {Ls : Array Slot} {z : Int64} {rest : List Value} (hret : meth.sig.returnType = some .long) (hd : decode c.code pc = .ok (.lreturn, 1)) (hK : cells ≤ K) (hN : slots ≤ N) (eT : T.heap = h) (hQ : Q (some (.long z)) h locs) : Go p e below (EndQ s Q K N) T (mkF m pc Ls (.long z :: rest)) :=
  g_leave X hlk (fun q => by rw [hret] at q; cases q) hK hN eT hQ (fun fs hr => retOut X hx hret rfl (Or.inr (Or.inl ⟨rfl, rfl, _, rfl⟩)) hd hr)
theorem g_retA (X : Stand p l e R s m args below meth c T locs cells slots) (hx : p.tables.exec = Jvm.exec) (hlk : meth.locks = false) {Q : Option Value → Heap → List Loc → Prop} {K N : Nat} {pc : Nat} {Ls : Array Slot} {w : Value} {rest : List Value} {t : FieldType} (hret : meth.sig.returnType = some t) (ht : t.isReference = true) (hw : w.isRef = true) (hn : narrow t w = w) (hd : decode c.code pc = .ok (.areturn, 1)) (hK : cells ≤ K) (hN : slots ≤ N) (eT : T.heap = h) (hQ : Q (some w) h locs) : Go p e below (EndQ s Q K N) T (mkF m pc Ls (w :: rest)) :=
  g_leave X hlk (fun q => by rw [hret] at q; cases q) hK hN eT hQ (fun fs hr => retOut X hx hret hn (Or.inr (Or.inr (Or.inr (Or.inr ⟨rfl, ht, hw⟩)))) hd hr)
theorem g_retV (X : Stand p l e R s m args below meth c T locs cells slots) (hx : p.tables.exec = Jvm.exec) (hlk : meth.locks = false) {Q : Option Value → Heap → List Loc → Prop} {K N : Nat} {pc : Nat} {Ls : Array Slot} (hret : meth.sig.returnType = none) (hd : decode c.code pc = .ok (.return_, 1)) (hK : cells ≤ K) (hN : slots ≤ N) (eT : T.heap = h) (hQ : Q none h locs) : Go p e below (EndQ s Q K N) T (mkF m pc Ls []) :=
  g_leave X hlk (fun _ => rfl) hK hN eT hQ (fun fs hr => X.returnOut hx hret hd hr)
theorem g_iloadN (X : Stand p l e R s m args below meth c T locs cells slots) (hx : p.tables.exec = Jvm.exec) {pc : Nat} {Ls : Array Slot} {st : List Value} {k : Fin 4} {v : Int32} (q : Nat) (hd : decode c.code pc = .ok (.iload_n k, 1)) (hq : pc + 1 = q) (hl : Ls[k.val]? = some (.val (.int v))) (K : Go p e below Ev T (mkF m q Ls (.int v :: st))) : Go p e below Ev T (mkF m pc Ls st) := by
  subst hq
  exact K.on fun _ k => XS.iloadN X.here hx rfl hd hl k
theorem g_iload (X : Stand p l e R s m args below meth c T locs cells slots) (hx : p.tables.exec = Jvm.exec) {pc : Nat} {Ls : Array Slot} {st : List Value} {k : Nat} {v : Int32} (q : Nat) (hd : decode c.code pc = .ok (.iload k, 2)) (hq : pc + 2 = q) (hl : Ls[k]? = some (.val (.int v))) (K : Go p e below Ev T (mkF m q Ls (.int v :: st))) : Go p e below Ev T (mkF m pc Ls st) := by
  subst hq
  exact K.on fun _ k => XS.iload X.here hx rfl hd hl k
theorem g_istoreN (X : Stand p l e R s m args below meth c T locs cells slots) (hx : p.tables.exec = Jvm.exec) {pc : Nat} {Ls : Array Slot} {st : List Value} {k : Fin 4} {v : Int32} {l' : Array Slot} (q : Nat) (hd : decode c.code pc = .ok (.istore_n k, 1)) (hq : pc + 1 = q) (hl : storeLocals Ls k.val (.int v) = some l') (K : Go p e below Ev T (mkF m q l' st)) : Go p e below Ev T (mkF m pc Ls (.int v :: st)) := by
  subst hq
  exact K.on fun _ k => XS.istoreN X.here hx rfl hd rfl hl k
theorem g_istore (X : Stand p l e R s m args below meth c T locs cells slots) (hx : p.tables.exec = Jvm.exec) {pc : Nat} {Ls : Array Slot} {st : List Value} {k : Nat} {v : Int32} {l' : Array Slot} (q : Nat) (hd : decode c.code pc = .ok (.istore k, 2)) (hq : pc + 2 = q) (hl : storeLocals Ls k (.int v) = some l') (K : Go p e below Ev T (mkF m q l' st)) : Go p e below Ev T (mkF m pc Ls (.int v :: st)) := by
  subst hq
  exact K.on fun _ k => XS.istore X.here hx rfl hd rfl hl k
theorem g_lloadN (X : Stand p l e R s m args below meth c T locs cells slots) (hx : p.tables.exec = Jvm.exec) {pc : Nat} {Ls : Array Slot} {st : List Value} {k : Fin 4} {v : Int64} (q : Nat) (hd : decode c.code pc = .ok (.lload_n k, 1)) (hq : pc + 1 = q) (hl : Ls[k.val]? = some (.val (.long v))) (K : Go p e below Ev T (mkF m q Ls (.long v :: st))) : Go p e below Ev T (mkF m pc Ls st) := by
  subst hq
  exact K.on fun _ k => XS.lloadN X.here hx rfl hd hl k
theorem g_lload (X : Stand p l e R s m args below meth c T locs cells slots) (hx : p.tables.exec = Jvm.exec) {pc : Nat} {Ls : Array Slot} {st : List Value} {k : Nat} {v : Int64} (q : Nat) (hd : decode c.code pc = .ok (.lload k, 2)) (hq : pc + 2 = q) (hl : Ls[k]? = some (.val (.long v))) (K : Go p e below Ev T (mkF m q Ls (.long v :: st))) : Go p e below Ev T (mkF m pc Ls st) := by
  subst hq
  exact K.on fun _ k => XS.lload X.here hx rfl hd hl k
theorem g_lstoreN (X : Stand p l e R s m args below meth c T locs cells slots) (hx : p.tables.exec = Jvm.exec) {pc : Nat} {Ls : Array Slot} {st : List Value} {k : Fin 4} {v : Int64} {l' : Array Slot} (q : Nat) (hd : decode c.code pc = .ok (.lstore_n k, 1)) (hq : pc + 1 = q) (hl : storeLocals Ls k.val (.long v) = some l') (K : Go p e below Ev T (mkF m q l' st)) : Go p e below Ev T (mkF m pc Ls (.long v :: st)) := by
  subst hq
  exact K.on fun _ k => XS.lstoreN X.here hx rfl hd rfl hl k
theorem g_lstore (X : Stand p l e R s m args below meth c T locs cells slots) (hx : p.tables.exec = Jvm.exec) {pc : Nat} {Ls : Array Slot} {st : List Value} {k : Nat} {v : Int64} {l' : Array Slot} (q : Nat) (hd : decode c.code pc = .ok (.lstore k, 2)) (hq : pc + 2 = q) (hl : storeLocals Ls k (.long v) = some l') (K : Go p e below Ev T (mkF m q l' st)) : Go p e below Ev T (mkF m pc Ls (.long v :: st)) := by
  subst hq
  exact K.on fun _ k => XS.lstore X.here hx rfl hd rfl hl k
theorem g_dloadN (X : Stand p l e R s m args below meth c T locs cells slots) (hx : p.tables.exec = Jvm.exec) {pc : Nat} {Ls : Array Slot} {st : List Value} {k : Fin 4} {v : UInt64} (q : Nat) (hd : decode c.code pc = .ok (.dload_n k, 1)) (hq : pc + 1 = q) (hl : Ls[k.val]? = some (.val (.double v))) (K : Go p e below Ev T (mkF m q Ls (.double v :: st))) : Go p e below Ev T (mkF m pc Ls st) := by
  subst hq
  exact K.on fun _ k => XS.dloadN X.here hx rfl hd hl k
theorem g_dload (X : Stand p l e R s m args below meth c T locs cells slots) (hx : p.tables.exec = Jvm.exec) {pc : Nat} {Ls : Array Slot} {st : List Value} {k : Nat} {v : UInt64} (q : Nat) (hd : decode c.code pc = .ok (.dload k, 2)) (hq : pc + 2 = q) (hl : Ls[k]? = some (.val (.double v))) (K : Go p e below Ev T (mkF m q Ls (.double v :: st))) : Go p e below Ev T (mkF m pc Ls st) := by
  subst hq
  exact K.on fun _ k => XS.dload X.here hx rfl hd hl k
theorem g_dstoreN (X : Stand p l e R s m args below meth c T locs cells slots) (hx : p.tables.exec = Jvm.exec) {pc : Nat} {Ls : Array Slot} {st : List Value} {k : Fin 4} {v : UInt64} {l' : Array Slot} (q : Nat) (hd : decode c.code pc = .ok (.dstore_n k, 1)) (hq : pc + 1 = q) (hl : storeLocals Ls k.val (.double v) = some l') (K : Go p e below Ev T (mkF m q l' st)) : Go p e below Ev T (mkF m pc Ls (.double v :: st)) := by
  subst hq
  exact K.on fun _ k => XS.dstoreN X.here hx rfl hd rfl hl k
theorem g_dstore (X : Stand p l e R s m args below meth c T locs cells slots) (hx : p.tables.exec = Jvm.exec) {pc : Nat} {Ls : Array Slot} {st : List Value} {k : Nat} {v : UInt64} {l' : Array Slot} (q : Nat) (hd : decode c.code pc = .ok (.dstore k, 2)) (hq : pc + 2 = q) (hl : storeLocals Ls k (.double v) = some l') (K : Go p e below Ev T (mkF m q l' st)) : Go p e below Ev T (mkF m pc Ls (.double v :: st)) := by
  subst hq
  exact K.on fun _ k => XS.dstore X.here hx rfl hd rfl hl k
theorem g_aloadN (X : Stand p l e R s m args below meth c T locs cells slots) (hx : p.tables.exec = Jvm.exec) {pc : Nat} {Ls : Array Slot} {st : List Value} {k : Fin 4} {v : Value} (q : Nat) (hd : decode c.code pc = .ok (.aload_n k, 1)) (hq : pc + 1 = q) (hl : Ls[k.val]? = some (.val v)) (hv : v.isRef = true) (K : Go p e below Ev T (mkF m q Ls (v :: st))) : Go p e below Ev T (mkF m pc Ls st) := by
  subst hq
  exact K.on fun _ k => XS.aloadN X.here hx rfl hd hl hv k
theorem g_aload (X : Stand p l e R s m args below meth c T locs cells slots) (hx : p.tables.exec = Jvm.exec) {pc : Nat} {Ls : Array Slot} {st : List Value} {k : Nat} {v : Value} (q : Nat) (hd : decode c.code pc = .ok (.aload k, 2)) (hq : pc + 2 = q) (hl : Ls[k]? = some (.val v)) (hv : v.isRef = true) (K : Go p e below Ev T (mkF m q Ls (v :: st))) : Go p e below Ev T (mkF m pc Ls st) := by
  subst hq
  exact K.on fun _ k => XS.aload X.here hx rfl hd hl hv k
theorem g_astoreN (X : Stand p l e R s m args below meth c T locs cells slots) (hx : p.tables.exec = Jvm.exec) {pc : Nat} {Ls : Array Slot} {st : List Value} {k : Fin 4} {v : Value} {l' : Array Slot} (q : Nat) (hd : decode c.code pc = .ok (.astore_n k, 1)) (hq : pc + 1 = q) (hv : v.isRef = true) (hl : storeLocals Ls k.val v = some l') (K : Go p e below Ev T (mkF m q l' st)) : Go p e below Ev T (mkF m pc Ls (v :: st)) := by
  subst hq
  exact K.on fun _ k => XS.astoreN X.here hx rfl hd rfl hv hl k
theorem g_astore (X : Stand p l e R s m args below meth c T locs cells slots) (hx : p.tables.exec = Jvm.exec) {pc : Nat} {Ls : Array Slot} {st : List Value} {k : Nat} {v : Value} {l' : Array Slot} (q : Nat) (hd : decode c.code pc = .ok (.astore k, 2)) (hq : pc + 2 = q) (hv : v.isRef = true) (hl : storeLocals Ls k v = some l') (K : Go p e below Ev T (mkF m q l' st)) : Go p e below Ev T (mkF m pc Ls (v :: st)) := by
  subst hq
  exact K.on fun _ k => XS.astore X.here hx rfl hd rfl hv hl k
theorem g_iconst (X : Stand p l e R s m args below meth c T locs cells slots) (hx : p.tables.exec = Jvm.exec) {pc : Nat} {Ls : Array Slot} {st : List Value} {i : Int} (v : Int32) (q : Nat) (hd : decode c.code pc = .ok (.iconst i, 1)) (hq : pc + 1 = q) (hv : Int32.ofInt i = v) (K : Go p e below Ev T (mkF m q Ls (.int v :: st))) : Go p e below Ev T (mkF m pc Ls st) := by
  subst hq
  exact K.on fun _ k => XT.iconstV X.here hx rfl v hd hv k
theorem g_bipush (X : Stand p l e R s m args below meth c T locs cells slots) (hx : p.tables.exec = Jvm.exec) {pc : Nat} {Ls : Array Slot} {st : List Value} {i : Int} (v : Int32) (q : Nat) (hd : decode c.code pc = .ok (.bipush i, 2)) (hq : pc + 2 = q) (hv : (Int8.ofInt i).toInt32 = v) (K : Go p e below Ev T (mkF m q Ls (.int v :: st))) : Go p e below Ev T (mkF m pc Ls st) := by
  subst hq
  exact K.on fun _ k => XT.bipushV X.here hx rfl v hd hv k
theorem g_sipush (X : Stand p l e R s m args below meth c T locs cells slots) (hx : p.tables.exec = Jvm.exec) {pc : Nat} {Ls : Array Slot} {st : List Value} {i : Int} (v : Int32) (q : Nat) (hd : decode c.code pc = .ok (.sipush i, 3)) (hq : pc + 3 = q) (hv : (Int16.ofInt i).toInt32 = v) (K : Go p e below Ev T (mkF m q Ls (.int v :: st))) : Go p e below Ev T (mkF m pc Ls st) := by
  subst hq
  exact K.on fun _ k => XT.sipushV X.here hx rfl v hd hv k
theorem g_lconst (X : Stand p l e R s m args below meth c T locs cells slots) (hx : p.tables.exec = Jvm.exec) {pc : Nat} {Ls : Array Slot} {st : List Value} {i : Fin 2} (v : Int64) (q : Nat) (hd : decode c.code pc = .ok (.lconst i, 1)) (hq : pc + 1 = q) (hv : Int64.ofNat i = v) (K : Go p e below Ev T (mkF m q Ls (.long v :: st))) : Go p e below Ev T (mkF m pc Ls st) := by
  subst hq
  exact K.on fun _ k => XT.lconstV X.here hx rfl v hd hv k
theorem g_dconst0 (X : Stand p l e R s m args below meth c T locs cells slots) (hx : p.tables.exec = Jvm.exec) {pc : Nat} {Ls : Array Slot} {st : List Value}  (q : Nat) (hd : decode c.code pc = .ok (.dconst 0, 1)) (hq : pc + 1 = q)  (K : Go p e below Ev T (mkF m q Ls (.double 0 :: st))) : Go p e below Ev T (mkF m pc Ls st) := by
  subst hq
  exact K.on fun _ k => XS.dconst0 X.here hx rfl hd rfl k
theorem g_dconst1 (X : Stand p l e R s m args below meth c T locs cells slots) (hx : p.tables.exec = Jvm.exec) {pc : Nat} {Ls : Array Slot} {st : List Value}  (q : Nat) (hd : decode c.code pc = .ok (.dconst 1, 1)) (hq : pc + 1 = q)  (K : Go p e below Ev T (mkF m q Ls (.double 4607182418800017408 :: st))) : Go p e below Ev T (mkF m pc Ls st) := by
  subst hq
  exact K.on fun _ k => XS.dconst1 X.here hx rfl hd rfl k
theorem g_null (X : Stand p l e R s m args below meth c T locs cells slots) (hx : p.tables.exec = Jvm.exec) {pc : Nat} {Ls : Array Slot} {st : List Value}  (q : Nat) (hd : decode c.code pc = .ok (.aconst_null, 1)) (hq : pc + 1 = q)  (K : Go p e below Ev T (mkF m q Ls (.null :: st))) : Go p e below Ev T (mkF m pc Ls st) := by
  subst hq
  exact K.on fun _ k => XS.aconstNull X.here hx rfl hd k
theorem g_iinc (X : Stand p l e R s m args below meth c T locs cells slots) (hx : p.tables.exec = Jvm.exec) {pc : Nat} {Ls : Array Slot} {st : List Value} {k : Nat} {i : Int} {v w : Int32} {l' : Array Slot} (q : Nat) (hd : decode c.code pc = .ok (.iinc k i, 3)) (hq : pc + 3 = q) (hl : Ls[k]? = some (.val (.int v))) (hv : Int32.ofInt i = w) (hl' : storeLocals Ls k (.int (v + w)) = some l') (K : Go p e below Ev T (mkF m q l' st)) : Go p e below Ev T (mkF m pc Ls st) := by
  subst hq
  exact K.on fun _ k => XT.iincV X.here hx rfl w hd hv hl hl' k
theorem g_iadd (X : Stand p l e R s m args below meth c T locs cells slots) (hx : p.tables.exec = Jvm.exec) {pc : Nat} {Ls : Array Slot} {st : List Value} {x y : Int32} (q : Nat) (hd : decode c.code pc = .ok (.iadd, 1)) (hq : pc + 1 = q)  (K : Go p e below Ev T (mkF m q Ls (.int (x + y) :: st))) : Go p e below Ev T (mkF m pc Ls (.int y :: .int x :: st)) := by
  subst hq
  exact K.on fun _ k => XS.iadd X.here hx rfl hd rfl k
theorem g_ladd (X : Stand p l e R s m args below meth c T locs cells slots) (hx : p.tables.exec = Jvm.exec) {pc : Nat} {Ls : Array Slot} {st : List Value} {x y : Int64} (q : Nat) (hd : decode c.code pc = .ok (.ladd, 1)) (hq : pc + 1 = q)  (K : Go p e below Ev T (mkF m q Ls (.long (x + y) :: st))) : Go p e below Ev T (mkF m pc Ls (.long y :: .long x :: st)) := by
  subst hq
  exact K.on fun _ k => XS.ladd X.here hx rfl hd rfl k
theorem g_isub (X : Stand p l e R s m args below meth c T locs cells slots) (hx : p.tables.exec = Jvm.exec) {pc : Nat} {Ls : Array Slot} {st : List Value} {x y : Int32} (q : Nat) (hd : decode c.code pc = .ok (.isub, 1)) (hq : pc + 1 = q)  (K : Go p e below Ev T (mkF m q Ls (.int (x - y) :: st))) : Go p e below Ev T (mkF m pc Ls (.int y :: .int x :: st)) := by
  subst hq
  exact K.on fun _ k => XS.isub X.here hx rfl hd rfl k
theorem g_lsub (X : Stand p l e R s m args below meth c T locs cells slots) (hx : p.tables.exec = Jvm.exec) {pc : Nat} {Ls : Array Slot} {st : List Value} {x y : Int64} (q : Nat) (hd : decode c.code pc = .ok (.lsub, 1)) (hq : pc + 1 = q)  (K : Go p e below Ev T (mkF m q Ls (.long (x - y) :: st))) : Go p e below Ev T (mkF m pc Ls (.long y :: .long x :: st)) := by
  subst hq
  exact K.on fun _ k => XS.lsub X.here hx rfl hd rfl k
theorem g_imul (X : Stand p l e R s m args below meth c T locs cells slots) (hx : p.tables.exec = Jvm.exec) {pc : Nat} {Ls : Array Slot} {st : List Value} {x y : Int32} (q : Nat) (hd : decode c.code pc = .ok (.imul, 1)) (hq : pc + 1 = q)  (K : Go p e below Ev T (mkF m q Ls (.int (x * y) :: st))) : Go p e below Ev T (mkF m pc Ls (.int y :: .int x :: st)) := by
  subst hq
  exact K.on fun _ k => XS.imul X.here hx rfl hd rfl k
theorem g_lmul (X : Stand p l e R s m args below meth c T locs cells slots) (hx : p.tables.exec = Jvm.exec) {pc : Nat} {Ls : Array Slot} {st : List Value} {x y : Int64} (q : Nat) (hd : decode c.code pc = .ok (.lmul, 1)) (hq : pc + 1 = q)  (K : Go p e below Ev T (mkF m q Ls (.long (x * y) :: st))) : Go p e below Ev T (mkF m pc Ls (.long y :: .long x :: st)) := by
  subst hq
  exact K.on fun _ k => XS.lmul X.here hx rfl hd rfl k
theorem g_iand (X : Stand p l e R s m args below meth c T locs cells slots) (hx : p.tables.exec = Jvm.exec) {pc : Nat} {Ls : Array Slot} {st : List Value} {x y : Int32} (q : Nat) (hd : decode c.code pc = .ok (.iand, 1)) (hq : pc + 1 = q)  (K : Go p e below Ev T (mkF m q Ls (.int (x &&& y) :: st))) : Go p e below Ev T (mkF m pc Ls (.int y :: .int x :: st)) := by
  subst hq
  exact K.on fun _ k => XS.iand X.here hx rfl hd rfl k
theorem g_land (X : Stand p l e R s m args below meth c T locs cells slots) (hx : p.tables.exec = Jvm.exec) {pc : Nat} {Ls : Array Slot} {st : List Value} {x y : Int64} (q : Nat) (hd : decode c.code pc = .ok (.land, 1)) (hq : pc + 1 = q)  (K : Go p e below Ev T (mkF m q Ls (.long (x &&& y) :: st))) : Go p e below Ev T (mkF m pc Ls (.long y :: .long x :: st)) := by
  subst hq
  exact K.on fun _ k => XS.land X.here hx rfl hd rfl k
theorem g_ior (X : Stand p l e R s m args below meth c T locs cells slots) (hx : p.tables.exec = Jvm.exec) {pc : Nat} {Ls : Array Slot} {st : List Value} {x y : Int32} (q : Nat) (hd : decode c.code pc = .ok (.ior, 1)) (hq : pc + 1 = q)  (K : Go p e below Ev T (mkF m q Ls (.int (x ||| y) :: st))) : Go p e below Ev T (mkF m pc Ls (.int y :: .int x :: st)) := by
  subst hq
  exact K.on fun _ k => XS.ior X.here hx rfl hd rfl k
theorem g_lor (X : Stand p l e R s m args below meth c T locs cells slots) (hx : p.tables.exec = Jvm.exec) {pc : Nat} {Ls : Array Slot} {st : List Value} {x y : Int64} (q : Nat) (hd : decode c.code pc = .ok (.lor, 1)) (hq : pc + 1 = q)  (K : Go p e below Ev T (mkF m q Ls (.long (x ||| y) :: st))) : Go p e below Ev T (mkF m pc Ls (.long y :: .long x :: st)) := by
  subst hq
  exact K.on fun _ k => XS.lor X.here hx rfl hd rfl k
theorem g_ixor (X : Stand p l e R s m args below meth c T locs cells slots) (hx : p.tables.exec = Jvm.exec) {pc : Nat} {Ls : Array Slot} {st : List Value} {x y : Int32} (q : Nat) (hd : decode c.code pc = .ok (.ixor, 1)) (hq : pc + 1 = q)  (K : Go p e below Ev T (mkF m q Ls (.int (x ^^^ y) :: st))) : Go p e below Ev T (mkF m pc Ls (.int y :: .int x :: st)) := by
  subst hq
  exact K.on fun _ k => XS.ixor X.here hx rfl hd rfl k
theorem g_lxor (X : Stand p l e R s m args below meth c T locs cells slots) (hx : p.tables.exec = Jvm.exec) {pc : Nat} {Ls : Array Slot} {st : List Value} {x y : Int64} (q : Nat) (hd : decode c.code pc = .ok (.lxor, 1)) (hq : pc + 1 = q)  (K : Go p e below Ev T (mkF m q Ls (.long (x ^^^ y) :: st))) : Go p e below Ev T (mkF m pc Ls (.long y :: .long x :: st)) := by
  subst hq
  exact K.on fun _ k => XS.lxor X.here hx rfl hd rfl k
theorem g_idiv (X : Stand p l e R s m args below meth c T locs cells slots) (hx : p.tables.exec = Jvm.exec) {pc : Nat} {Ls : Array Slot} {st : List Value} {x y : Int32} (q : Nat) (hd : decode c.code pc = .ok (.idiv, 1)) (hq : pc + 1 = q) (hy : y ≠ 0) (K : Go p e below Ev T (mkF m q Ls (.int (x / y) :: st))) : Go p e below Ev T (mkF m pc Ls (.int y :: .int x :: st)) := by
  subst hq
  exact K.on fun _ k => XS.idiv X.here hx rfl hd rfl hy k
theorem g_ineg (X : Stand p l e R s m args below meth c T locs cells slots) (hx : p.tables.exec = Jvm.exec) {pc : Nat} {Ls : Array Slot} {st : List Value} {x : Int32} (q : Nat) (hd : decode c.code pc = .ok (.ineg, 1)) (hq : pc + 1 = q)  (K : Go p e below Ev T (mkF m q Ls (.int (-x) :: st))) : Go p e below Ev T (mkF m pc Ls (.int x :: st)) := by
  subst hq
  exact K.on fun _ k => XS.ineg X.here hx rfl hd rfl k
theorem g_ldiv (X : Stand p l e R s m args below meth c T locs cells slots) (hx : p.tables.exec = Jvm.exec) {pc : Nat} {Ls : Array Slot} {st : List Value} {x y : Int64} (q : Nat) (hd : decode c.code pc = .ok (.ldiv, 1)) (hq : pc + 1 = q) (hy : y ≠ 0) (K : Go p e below Ev T (mkF m q Ls (.long (x / y) :: st))) : Go p e below Ev T (mkF m pc Ls (.long y :: .long x :: st)) := by
  subst hq
  exact K.on fun _ k => XS.ldiv X.here hx rfl hd rfl hy k
theorem g_lneg (X : Stand p l e R s m args below meth c T locs cells slots) (hx : p.tables.exec = Jvm.exec) {pc : Nat} {Ls : Array Slot} {st : List Value} {x : Int64} (q : Nat) (hd : decode c.code pc = .ok (.lneg, 1)) (hq : pc + 1 = q)  (K : Go p e below Ev T (mkF m q Ls (.long (-x) :: st))) : Go p e below Ev T (mkF m pc Ls (.long x :: st)) := by
  subst hq
  exact K.on fun _ k => XS.lneg X.here hx rfl hd rfl k
theorem g_irem (X : Stand p l e R s m args below meth c T locs cells slots) (hx : p.tables.exec = Jvm.exec) {pc : Nat} {Ls : Array Slot} {st : List Value} {x y : Int32} (q : Nat) (hd : decode c.code pc = .ok (.irem, 1)) (hq : pc + 1 = q) (hy : y ≠ 0) (K : Go p e below Ev T (mkF m q Ls (.int (x % y) :: st))) : Go p e below Ev T (mkF m pc Ls (.int y :: .int x :: st)) := by
  subst hq
  exact K.on fun _ k => iremM X hx rfl hd rfl hy k
theorem g_lrem (X : Stand p l e R s m args below meth c T locs cells slots) (hx : p.tables.exec = Jvm.exec) {pc : Nat} {Ls : Array Slot} {st : List Value} {x y : Int64} (q : Nat) (hd : decode c.code pc = .ok (.lrem, 1)) (hq : pc + 1 = q) (hy : y ≠ 0) (K : Go p e below Ev T (mkF m q Ls (.long (x - (x / y) * y) :: st))) : Go p e below Ev T (mkF m pc Ls (.long y :: .long x :: st)) := by
  subst hq
  exact K.on fun _ k => XS.lrem X.here hx rfl hd rfl hy k
theorem g_ishl (X : Stand p l e R s m args below meth c T locs cells slots) (hx : p.tables.exec = Jvm.exec) {pc : Nat} {Ls : Array Slot} {st : List Value} {x y : Int32} (q : Nat) (hd : decode c.code pc = .ok (.ishl, 1)) (hq : pc + 1 = q)  (K : Go p e below Ev T (mkF m q Ls (.int (x <<< (y &&& 31)) :: st))) : Go p e below Ev T (mkF m pc Ls (.int y :: .int x :: st)) := by
  subst hq
  exact K.on fun _ k => XS.ishl X.here hx rfl hd rfl k
theorem g_ishr (X : Stand p l e R s m args below meth c T locs cells slots) (hx : p.tables.exec = Jvm.exec) {pc : Nat} {Ls : Array Slot} {st : List Value} {x y : Int32} (q : Nat) (hd : decode c.code pc = .ok (.ishr, 1)) (hq : pc + 1 = q)  (K : Go p e below Ev T (mkF m q Ls (.int (x >>> (y &&& 31)) :: st))) : Go p e below Ev T (mkF m pc Ls (.int y :: .int x :: st)) := by
  subst hq
  exact K.on fun _ k => XS.ishr X.here hx rfl hd rfl k
theorem g_iushr (X : Stand p l e R s m args below meth c T locs cells slots) (hx : p.tables.exec = Jvm.exec) {pc : Nat} {Ls : Array Slot} {st : List Value} {x y : Int32} (q : Nat) (hd : decode c.code pc = .ok (.iushr, 1)) (hq : pc + 1 = q)  (K : Go p e below Ev T (mkF m q Ls (.int ((x.toUInt32 >>> (y &&& 31).toUInt32).toInt32) :: st))) : Go p e below Ev T (mkF m pc Ls (.int y :: .int x :: st)) := by
  subst hq
  exact K.on fun _ k => XS.iushr X.here hx rfl hd rfl k
theorem g_lshl (X : Stand p l e R s m args below meth c T locs cells slots) (hx : p.tables.exec = Jvm.exec) {pc : Nat} {Ls : Array Slot} {st : List Value} {x : Int64} {y : Int32} (q : Nat) (hd : decode c.code pc = .ok (.lshl, 1)) (hq : pc + 1 = q)  (K : Go p e below Ev T (mkF m q Ls (.long (x <<< (y &&& 0x3f).toInt64) :: st))) : Go p e below Ev T (mkF m pc Ls (.int y :: .long x :: st)) := by
  subst hq
  exact K.on fun _ k => XS.lshl X.here hx rfl hd rfl k
theorem g_lshr (X : Stand p l e R s m args below meth c T locs cells slots) (hx : p.tables.exec = Jvm.exec) {pc : Nat} {Ls : Array Slot} {st : List Value} {x : Int64} {y : Int32} (q : Nat) (hd : decode c.code pc = .ok (.lshr, 1)) (hq : pc + 1 = q)  (K : Go p e below Ev T (mkF m q Ls (.long (x >>> (y &&& 0x3f).toInt64) :: st))) : Go p e below Ev T (mkF m pc Ls (.int y :: .long x :: st)) := by
  subst hq
  exact K.on fun _ k => XS.lshr X.here hx rfl hd rfl k
theorem g_lushr (X : Stand p l e R s m args below meth c T locs cells slots) (hx : p.tables.exec = Jvm.exec) {pc : Nat} {Ls : Array Slot} {st : List Value} {x : Int64} {y : Int32} (q : Nat) (hd : decode c.code pc = .ok (.lushr, 1)) (hq : pc + 1 = q)  (K : Go p e below Ev T (mkF m q Ls (.long ((x.toUInt64 >>> (y &&& 0x3f).toInt64.toUInt64).toInt64) :: st))) : Go p e below Ev T (mkF m pc Ls (.int y :: .long x :: st)) := by
  subst hq
  exact K.on fun _ k => XS.lushr X.here hx rfl hd rfl k
theorem g_i2l (X : Stand p l e R s m args below meth c T locs cells slots) (hx : p.tables.exec = Jvm.exec) {pc : Nat} {Ls : Array Slot} {st : List Value} {x : Int32} (q : Nat) (hd : decode c.code pc = .ok (.i2l, 1)) (hq : pc + 1 = q)  (K : Go p e below Ev T (mkF m q Ls (.long (x.toInt64) :: st))) : Go p e below Ev T (mkF m pc Ls (.int x :: st)) := by
  subst hq
  exact K.on fun _ k => XS.i2l X.here hx rfl hd rfl k
theorem g_l2i (X : Stand p l e R s m args below meth c T locs cells slots) (hx : p.tables.exec = Jvm.exec) {pc : Nat} {Ls : Array Slot} {st : List Value} {x : Int64} (q : Nat) (hd : decode c.code pc = .ok (.l2i, 1)) (hq : pc + 1 = q)  (K : Go p e below Ev T (mkF m q Ls (.int (x.toInt32) :: st))) : Go p e below Ev T (mkF m pc Ls (.long x :: st)) := by
  subst hq
  exact K.on fun _ k => XS.l2i X.here hx rfl hd rfl k
theorem g_i2b (X : Stand p l e R s m args below meth c T locs cells slots) (hx : p.tables.exec = Jvm.exec) {pc : Nat} {Ls : Array Slot} {st : List Value} {x : Int32} (q : Nat) (hd : decode c.code pc = .ok (.i2b, 1)) (hq : pc + 1 = q)  (K : Go p e below Ev T (mkF m q Ls (.int (x.toInt8.toInt32) :: st))) : Go p e below Ev T (mkF m pc Ls (.int x :: st)) := by
  subst hq
  exact K.on fun _ k => XS.i2b X.here hx rfl hd rfl k
theorem g_i2s (X : Stand p l e R s m args below meth c T locs cells slots) (hx : p.tables.exec = Jvm.exec) {pc : Nat} {Ls : Array Slot} {st : List Value} {x : Int32} (q : Nat) (hd : decode c.code pc = .ok (.i2s, 1)) (hq : pc + 1 = q)  (K : Go p e below Ev T (mkF m q Ls (.int (x.toInt16.toInt32) :: st))) : Go p e below Ev T (mkF m pc Ls (.int x :: st)) := by
  subst hq
  exact K.on fun _ k => XS.i2s X.here hx rfl hd rfl k
theorem g_i2c (X : Stand p l e R s m args below meth c T locs cells slots) (hx : p.tables.exec = Jvm.exec) {pc : Nat} {Ls : Array Slot} {st : List Value} {x : Int32} (q : Nat) (hd : decode c.code pc = .ok (.i2c, 1)) (hq : pc + 1 = q)  (K : Go p e below Ev T (mkF m q Ls (.int (x.toUInt32.toUInt16.toUInt32.toInt32) :: st))) : Go p e below Ev T (mkF m pc Ls (.int x :: st)) := by
  subst hq
  exact K.on fun _ k => XS.i2c X.here hx rfl hd rfl k
theorem g_lcmp (X : Stand p l e R s m args below meth c T locs cells slots) (hx : p.tables.exec = Jvm.exec) {pc : Nat} {Ls : Array Slot} {st : List Value} {x y : Int64} (q : Nat) (hd : decode c.code pc = .ok (.lcmp, 1)) (hq : pc + 1 = q)  (K : Go p e below Ev T (mkF m q Ls (.int (lcmpW x y) :: st))) : Go p e below Ev T (mkF m pc Ls (.long y :: .long x :: st)) := by
  subst hq
  exact K.on fun _ k => XS.lcmp X.here hx rfl hd rfl k
theorem g_i2d (X : Stand p l e R s m args below meth c T locs cells slots) (hx : p.tables.exec = Jvm.exec) {pc : Nat} {Ls : Array Slot} {st : List Value} {x : Int32} (q : Nat) (hd : decode c.code pc = .ok (.i2d, 1)) (hq : pc + 1 = q)  (K : Go p e below Ev T (mkF m q Ls (.double (FP.i2d x) :: st))) : Go p e below Ev T (mkF m pc Ls (.int x :: st)) := by
  subst hq
  exact K.on fun _ k => XS.i2dS X.here hx rfl hd rfl rfl k
theorem g_l2d (X : Stand p l e R s m args below meth c T locs cells slots) (hx : p.tables.exec = Jvm.exec) {pc : Nat} {Ls : Array Slot} {st : List Value} {x : Int64} (q : Nat) (hd : decode c.code pc = .ok (.l2d, 1)) (hq : pc + 1 = q)  (K : Go p e below Ev T (mkF m q Ls (.double (FP.l2d x) :: st))) : Go p e below Ev T (mkF m pc Ls (.long x :: st)) := by
  subst hq
  exact K.on fun _ k => XS.l2dS X.here hx rfl hd rfl rfl k
theorem g_dneg (X : Stand p l e R s m args below meth c T locs cells slots) (hx : p.tables.exec = Jvm.exec) {pc : Nat} {Ls : Array Slot} {st : List Value} {x : UInt64} (q : Nat) (hd : decode c.code pc = .ok (.dneg, 1)) (hq : pc + 1 = q)  (K : Go p e below Ev T (mkF m q Ls (.double (FP.dneg x) :: st))) : Go p e below Ev T (mkF m pc Ls (.double x :: st)) := by
  subst hq
  exact K.on fun _ k => XS.dnegS X.here hx rfl hd rfl rfl k
theorem g_dadd (X : Stand p l e R s m args below meth c T locs cells slots) (hx : p.tables.exec = Jvm.exec) {pc : Nat} {Ls : Array Slot} {st : List Value} {x y : UInt64} (q : Nat) (hd : decode c.code pc = .ok (.dadd, 1)) (hq : pc + 1 = q) (hn : Jvm.Free.Fl.NoNaN64 (FP.dadd x y)) (K : Go p e below Ev T (mkF m q Ls (.double (FP.dadd x y) :: st))) : Go p e below Ev T (mkF m pc Ls (.double y :: .double x :: st)) := by
  subst hq
  exact K.on fun _ k => XS.daddS X.here hx rfl hd rfl hn rfl k
theorem g_dsub (X : Stand p l e R s m args below meth c T locs cells slots) (hx : p.tables.exec = Jvm.exec) {pc : Nat} {Ls : Array Slot} {st : List Value} {x y : UInt64} (q : Nat) (hd : decode c.code pc = .ok (.dsub, 1)) (hq : pc + 1 = q) (hn : Jvm.Free.Fl.NoNaN64 (FP.dsub x y)) (K : Go p e below Ev T (mkF m q Ls (.double (FP.dsub x y) :: st))) : Go p e below Ev T (mkF m pc Ls (.double y :: .double x :: st)) := by
  subst hq
  exact K.on fun _ k => XS.dsubS X.here hx rfl hd rfl hn rfl k
theorem g_dmul (X : Stand p l e R s m args below meth c T locs cells slots) (hx : p.tables.exec = Jvm.exec) {pc : Nat} {Ls : Array Slot} {st : List Value} {x y : UInt64} (q : Nat) (hd : decode c.code pc = .ok (.dmul, 1)) (hq : pc + 1 = q) (hn : Jvm.Free.Fl.NoNaN64 (FP.dmul x y)) (K : Go p e below Ev T (mkF m q Ls (.double (FP.dmul x y) :: st))) : Go p e below Ev T (mkF m pc Ls (.double y :: .double x :: st)) := by
  subst hq
  exact K.on fun _ k => XS.dmulS X.here hx rfl hd rfl hn rfl k
theorem g_ddiv (X : Stand p l e R s m args below meth c T locs cells slots) (hx : p.tables.exec = Jvm.exec) {pc : Nat} {Ls : Array Slot} {st : List Value} {x y : UInt64} (q : Nat) (hd : decode c.code pc = .ok (.ddiv, 1)) (hq : pc + 1 = q) (hn : Jvm.Free.Fl.NoNaN64 (FP.ddiv x y)) (K : Go p e below Ev T (mkF m q Ls (.double (FP.ddiv x y) :: st))) : Go p e below Ev T (mkF m pc Ls (.double y :: .double x :: st)) := by
  subst hq
  exact K.on fun _ k => XS.ddivS X.here hx rfl hd rfl hn rfl k
theorem g_dcmp (X : Stand p l e R s m args below meth c T locs cells slots) (hx : p.tables.exec = Jvm.exec) {pc : Nat} {Ls : Array Slot} {st : List Value} {x y : UInt64} {o : CmpOp} {r : Int32} (q : Nat) (hd : decode c.code pc = .ok (.dcmp o, 1)) (hq : pc + 1 = q) (hr : cmpValue (FP.dcmp x y) o = r) (K : Go p e below Ev T (mkF m q Ls (.int r :: st))) : Go p e below Ev T (mkF m pc Ls (.double y :: .double x :: st)) := by
  subst hq
  exact K.on fun _ k => XS.dcmpS X.here hx rfl hd rfl hr k
theorem g_dup (X : Stand p l e R s m args below meth c T locs cells slots) (hx : p.tables.exec = Jvm.exec) {pc : Nat} {Ls : Array Slot} {st : List Value} {x : Value} (q : Nat) (hd : decode c.code pc = .ok (.dup, 1)) (hq : pc + 1 = q) (hc : x.category = 1) (K : Go p e below Ev T (mkF m q Ls (x :: x :: st))) : Go p e below Ev T (mkF m pc Ls (x :: st)) := by
  subst hq
  exact K.on fun _ k => XS.dup X.here hx rfl hd rfl hc k
theorem g_pop (X : Stand p l e R s m args below meth c T locs cells slots) (hx : p.tables.exec = Jvm.exec) {pc : Nat} {Ls : Array Slot} {st : List Value} {x : Value} (q : Nat) (hd : decode c.code pc = .ok (.pop, 1)) (hq : pc + 1 = q) (hc : x.category = 1) (K : Go p e below Ev T (mkF m q Ls st)) : Go p e below Ev T (mkF m pc Ls (x :: st)) := by
  subst hq
  exact K.on fun _ k => XS.pop X.here hx rfl hd rfl hc k
theorem g_dupX1 (X : Stand p l e R s m args below meth c T locs cells slots) (hx : p.tables.exec = Jvm.exec) {pc : Nat} {Ls : Array Slot} {st : List Value} {x y : Value} (q : Nat) (hd : decode c.code pc = .ok (.dup_x1, 1)) (hq : pc + 1 = q) (hc : x.category = 1) (hc' : y.category = 1) (K : Go p e below Ev T (mkF m q Ls (x :: y :: x :: st))) : Go p e below Ev T (mkF m pc Ls (x :: y :: st)) := by
  subst hq
  exact K.on fun _ k => XS.dupX1 X.here hx rfl hd rfl hc hc' k
theorem g_dup2 (X : Stand p l e R s m args below meth c T locs cells slots) (hx : p.tables.exec = Jvm.exec) {pc : Nat} {Ls : Array Slot} {st : List Value} {x y : Value} (q : Nat) (hd : decode c.code pc = .ok (.dup2, 1)) (hq : pc + 1 = q) (hc : x.category = 1) (hc' : y.category = 1) (K : Go p e below Ev T (mkF m q Ls (x :: y :: x :: y :: st))) : Go p e below Ev T (mkF m pc Ls (x :: y :: st)) := by
  subst hq
  exact K.on fun _ k => XT.dup2 X.here hx rfl hd rfl hc hc' k
theorem g_ldcI (X : Stand p l e R s m args below meth c T locs cells slots) (hx : p.tables.exec = Jvm.exec) {pc : Nat} {Ls : Array Slot} {st : List Value} {own : String} {i : Nat} {v : Int32} (q : Nat) (hZ : Z.Warmed39 s.vm) (hown : s.vm.findClass own = some m.cls) (w : (Jvm.Cond.constant own i v).before a0 Z = true) (hd : decode c.code pc = .ok (.ldc i, 2)) (hq : pc + 2 = q) (K : Go p e below Ev T (mkF m q Ls (.int v :: st))) : Go p e below Ev T (mkF m pc Ls st) := by
  subst hq
  exact K.on fun _ k => X.ldcI hx hown (mvT hZ w) rfl hd k
theorem g_ldcWI (X : Stand p l e R s m args below meth c T locs cells slots) (hx : p.tables.exec = Jvm.exec) {pc : Nat} {Ls : Array Slot} {st : List Value} {own : String} {i : Nat} {v : Int32} (q : Nat) (hZ : Z.Warmed39 s.vm) (hown : s.vm.findClass own = some m.cls) (w : (Jvm.Cond.constant own i v).before a0 Z = true) (hd : decode c.code pc = .ok (.ldc_w i, 3)) (hq : pc + 3 = q) (K : Go p e below Ev T (mkF m q Ls (.int v :: st))) : Go p e below Ev T (mkF m pc Ls st) := by
  subst hq
  exact K.on fun _ k => X.ldcWI hx hown (mvT hZ w) rfl hd k
theorem g_ldc2J (X : Stand p l e R s m args below meth c T locs cells slots) (hx : p.tables.exec = Jvm.exec) {pc : Nat} {Ls : Array Slot} {st : List Value} {own : String} {i : Nat} {v : Int64} (q : Nat) (hZ : Z.Warmed39 s.vm) (hown : s.vm.findClass own = some m.cls) (w : (Jvm.Cond.constantLong own i v).before a0 Z = true) (hd : decode c.code pc = .ok (.ldc2_w i, 3)) (hq : pc + 3 = q) (K : Go p e below Ev T (mkF m q Ls (.long v :: st))) : Go p e below Ev T (mkF m pc Ls st) := by
  subst hq
  exact K.on fun _ k => X.ldc2J hx hown (mvT hZ w) rfl hd k
theorem g_ldc2D (X : Stand p l e R s m args below meth c T locs cells slots) (hx : p.tables.exec = Jvm.exec) {pc : Nat} {Ls : Array Slot} {st : List Value} {own : String} {i : Nat} {v : UInt64} (q : Nat) (hZ : Z.Warmed39 s.vm) (hown : s.vm.findClass own = some m.cls) (w : (Jvm.Cond.constantDouble own i v).before a0 Z = true) (hd : decode c.code pc = .ok (.ldc2_w i, 3)) (hq : pc + 3 = q) (K : Go p e below Ev T (mkF m q Ls (.double v :: st))) : Go p e below Ev T (mkF m pc Ls st) := by
  subst hq
  exact K.on (X.ldc2DoubleC hx hown (mvT hZ w) (g := mkF m pc Ls st) rfl hd)
theorem g_goto (X : Stand p l e R s m args below meth c T locs cells slots) (hx : p.tables.exec = Jvm.exec) {pc : Nat} {Ls : Array Slot} {st : List Value} {o : Int} (q : Nat) (hd : decode c.code pc = .ok (.goto o, 3)) (ho : 0 ≤ (pc : Int) + o) (hq : ((pc : Int) + o).toNat = q) (K : Go p e below Ev T (mkF m q Ls st)) : Go p e below Ev T (mkF m pc Ls st) :=
  K.on fun _ k => XS.goto X.here hx rfl rfl hd ho hq k
theorem own_i0 (x : Int32) : (x < 0 ↔ x.toInt < 0) ∧ (0 < x ↔ 0 < x.toInt) ∧ (x = 0 ↔ x.toInt = 0) := by
  refine ⟨by rw [Int32.lt_iff_toInt_lt]; simp, by rw [Int32.lt_iff_toInt_lt]; simp, ?_⟩
  rw [← Int32.toInt_inj]; simp
theorem g_if_eq (X : Stand p l e R s m args below meth c T locs cells slots) (hx : p.tables.exec = Jvm.exec) {pc : Nat} {Ls : Array Slot} {st : List Value} {x : Int32} {o : Int} (q1 q2 : Nat) (hd : decode c.code pc = .ok (.ifCond .eq o, 3)) (ho : 0 ≤ (pc : Int) + o) (h1 : ((pc : Int) + o).toNat = q1) (h2 : pc + 3 = q2) (Kt : x.toInt = 0 → Go p e below Ev T (mkF m q1 Ls st)) (Kf : x.toInt ≠ 0 → Go p e below Ev T (mkF m q2 Ls st)) : Go p e below Ev T (mkF m pc Ls (.int x :: st)) := by
  have Q := own_i0 x
  by_cases hc : x = 0
  · exact (Kt (by first | omega | (simp only [Q] at hc; omega))).on fun _ k => XS.ifYes X.here hx rfl rfl hd rfl (XT.i0_eq_t (by simpa using hc)) ho h1 k
  · subst h2
    exact (Kf (by first | omega | (simp only [Q] at hc; omega))).on fun _ k => XS.ifNo X.here hx rfl hd rfl (XT.i0_eq_f (by simpa using hc)) k
theorem g_if_ne (X : Stand p l e R s m args below meth c T locs cells slots) (hx : p.tables.exec = Jvm.exec) {pc : Nat} {Ls : Array Slot} {st : List Value} {x : Int32} {o : Int} (q1 q2 : Nat) (hd : decode c.code pc = .ok (.ifCond .ne o, 3)) (ho : 0 ≤ (pc : Int) + o) (h1 : ((pc : Int) + o).toNat = q1) (h2 : pc + 3 = q2) (Kt : x.toInt ≠ 0 → Go p e below Ev T (mkF m q1 Ls st)) (Kf : x.toInt = 0 → Go p e below Ev T (mkF m q2 Ls st)) : Go p e below Ev T (mkF m pc Ls (.int x :: st)) := by
  have Q := own_i0 x
  by_cases hc : ¬ x = 0
  · exact (Kt (by first | omega | (simp only [Q] at hc; omega))).on fun _ k => XS.ifYes X.here hx rfl rfl hd rfl (XT.i0_ne_t (by simpa using hc)) ho h1 k
  · subst h2
    exact (Kf (by first | omega | (simp only [Q] at hc; omega))).on fun _ k => XS.ifNo X.here hx rfl hd rfl (XT.i0_ne_f (by simpa using hc)) k
theorem g_if_lt (X : Stand p l e R s m args below meth c T locs cells slots) (hx : p.tables.exec = Jvm.exec) {pc : Nat} {Ls : Array Slot} {st : List Value} {x : Int32} {o : Int} (q1 q2 : Nat) (hd : decode c.code pc = .ok (.ifCond .lt o, 3)) (ho : 0 ≤ (pc : Int) + o) (h1 : ((pc : Int) + o).toNat = q1) (h2 : pc + 3 = q2) (Kt : x.toInt < 0 → Go p e below Ev T (mkF m q1 Ls st)) (Kf : 0 ≤ x.toInt → Go p e below Ev T (mkF m q2 Ls st)) : Go p e below Ev T (mkF m pc Ls (.int x :: st)) := by
  have Q := own_i0 x
  by_cases hc : x < 0
  · exact (Kt (by first | omega | (simp only [Q] at hc; omega))).on fun _ k => XS.ifYes X.here hx rfl rfl hd rfl (XT.i0_lt_t (by simpa using hc)) ho h1 k
  · subst h2
    exact (Kf (by first | omega | (simp only [Q] at hc; omega))).on fun _ k => XS.ifNo X.here hx rfl hd rfl (XT.i0_lt_f (by simpa using hc)) k
theorem g_if_ge (X : Stand p l e R s m args below meth c T locs cells slots) (hx : p.tables.exec = Jvm.exec) {pc : Nat} {Ls : Array Slot} {st : List Value} {x : Int32} {o : Int} (q1 q2 : Nat) (hd : decode c.code pc = .ok (.ifCond .ge o, 3)) (ho : 0 ≤ (pc : Int) + o) (h1 : ((pc : Int) + o).toNat = q1) (h2 : pc + 3 = q2) (Kt : 0 ≤ x.toInt → Go p e below Ev T (mkF m q1 Ls st)) (Kf : x.toInt < 0 → Go p e below Ev T (mkF m q2 Ls st)) : Go p e below Ev T (mkF m pc Ls (.int x :: st)) := by
  have Q := own_i0 x
  by_cases hc : ¬ x < 0
  · exact (Kt (by first | omega | (simp only [Q] at hc; omega))).on fun _ k => XS.ifYes X.here hx rfl rfl hd rfl (XT.i0_ge_t (by simpa using hc)) ho h1 k
  · subst h2
    exact (Kf (by first | omega | (simp only [Q] at hc; omega))).on fun _ k => XS.ifNo X.here hx rfl hd rfl (XT.i0_ge_f (by simpa using hc)) k
theorem g_if_gt (X : Stand p l e R s m args below meth c T locs cells slots) (hx : p.tables.exec = Jvm.exec) {pc : Nat} {Ls : Array Slot} {st : List Value} {x : Int32} {o : Int} (q1 q2 : Nat) (hd : decode c.code pc = .ok (.ifCond .gt o, 3)) (ho : 0 ≤ (pc : Int) + o) (h1 : ((pc : Int) + o).toNat = q1) (h2 : pc + 3 = q2) (Kt : 0 < x.toInt → Go p e below Ev T (mkF m q1 Ls st)) (Kf : x.toInt ≤ 0 → Go p e below Ev T (mkF m q2 Ls st)) : Go p e below Ev T (mkF m pc Ls (.int x :: st)) := by
  have Q := own_i0 x
  by_cases hc : 0 < x
  · exact (Kt (by first | omega | (simp only [Q] at hc; omega))).on fun _ k => XS.ifYes X.here hx rfl rfl hd rfl (XT.i0_gt_t (by simpa using hc)) ho h1 k
  · subst h2
    exact (Kf (by first | omega | (simp only [Q] at hc; omega))).on fun _ k => XS.ifNo X.here hx rfl hd rfl (XT.i0_gt_f (by simpa using hc)) k
theorem g_if_le (X : Stand p l e R s m args below meth c T locs cells slots) (hx : p.tables.exec = Jvm.exec) {pc : Nat} {Ls : Array Slot} {st : List Value} {x : Int32} {o : Int} (q1 q2 : Nat) (hd : decode c.code pc = .ok (.ifCond .le o, 3)) (ho : 0 ≤ (pc : Int) + o) (h1 : ((pc : Int) + o).toNat = q1) (h2 : pc + 3 = q2) (Kt : x.toInt ≤ 0 → Go p e below Ev T (mkF m q1 Ls st)) (Kf : 0 < x.toInt → Go p e below Ev T (mkF m q2 Ls st)) : Go p e below Ev T (mkF m pc Ls (.int x :: st)) := by
  have Q := own_i0 x
  by_cases hc : ¬ 0 < x
  · exact (Kt (by first | omega | (simp only [Q] at hc; omega))).on fun _ k => XS.ifYes X.here hx rfl rfl hd rfl (XT.i0_le_t (by simpa using hc)) ho h1 k
  · subst h2
    exact (Kf (by first | omega | (simp only [Q] at hc; omega))).on fun _ k => XS.ifNo X.here hx rfl hd rfl (XT.i0_le_f (by simpa using hc)) k
theorem own_ii (x y : Int32) : (x < y ↔ x.toInt < y.toInt) ∧ (y < x ↔ y.toInt < x.toInt) ∧ (x = y ↔ x.toInt = y.toInt) := by
  exact ⟨Int32.lt_iff_toInt_lt, Int32.lt_iff_toInt_lt, Int32.toInt_inj.symm⟩
theorem g_ic_eq (X : Stand p l e R s m args below meth c T locs cells slots) (hx : p.tables.exec = Jvm.exec) {pc : Nat} {Ls : Array Slot} {st : List Value} {x y : Int32} {o : Int} (q1 q2 : Nat) (hd : decode c.code pc = .ok (.if_icmp .eq o, 3)) (ho : 0 ≤ (pc : Int) + o) (h1 : ((pc : Int) + o).toNat = q1) (h2 : pc + 3 = q2) (Kt : x.toInt = y.toInt → Go p e below Ev T (mkF m q1 Ls st)) (Kf : x.toInt ≠ y.toInt → Go p e below Ev T (mkF m q2 Ls st)) : Go p e below Ev T (mkF m pc Ls (.int y :: .int x :: st)) := by
  have Q := own_ii x y
  by_cases hc : x = y
  · exact (Kt (by first | omega | (simp only [Q] at hc; omega))).on fun _ k => XS.icmpYes X.here hx rfl rfl hd rfl (XT.ii_eq_t (by simpa using hc)) ho h1 k
  · subst h2
    exact (Kf (by first | omega | (simp only [Q] at hc; omega))).on fun _ k => XS.icmpNo X.here hx rfl hd rfl (XT.ii_eq_f (by simpa using hc)) k
theorem g_ic_ne (X : Stand p l e R s m args below meth c T locs cells slots) (hx : p.tables.exec = Jvm.exec) {pc : Nat} {Ls : Array Slot} {st : List Value} {x y : Int32} {o : Int} (q1 q2 : Nat) (hd : decode c.code pc = .ok (.if_icmp .ne o, 3)) (ho : 0 ≤ (pc : Int) + o) (h1 : ((pc : Int) + o).toNat = q1) (h2 : pc + 3 = q2) (Kt : x.toInt ≠ y.toInt → Go p e below Ev T (mkF m q1 Ls st)) (Kf : x.toInt = y.toInt → Go p e below Ev T (mkF m q2 Ls st)) : Go p e below Ev T (mkF m pc Ls (.int y :: .int x :: st)) := by
  have Q := own_ii x y
  by_cases hc : ¬ x = y
  · exact (Kt (by first | omega | (simp only [Q] at hc; omega))).on fun _ k => XS.icmpYes X.here hx rfl rfl hd rfl (XT.ii_ne_t (by simpa using hc)) ho h1 k
  · subst h2
    exact (Kf (by first | omega | (simp only [Q] at hc; omega))).on fun _ k => XS.icmpNo X.here hx rfl hd rfl (XT.ii_ne_f (by simpa using hc)) k
theorem g_ic_lt (X : Stand p l e R s m args below meth c T locs cells slots) (hx : p.tables.exec = Jvm.exec) {pc : Nat} {Ls : Array Slot} {st : List Value} {x y : Int32} {o : Int} (q1 q2 : Nat) (hd : decode c.code pc = .ok (.if_icmp .lt o, 3)) (ho : 0 ≤ (pc : Int) + o) (h1 : ((pc : Int) + o).toNat = q1) (h2 : pc + 3 = q2) (Kt : x.toInt < y.toInt → Go p e below Ev T (mkF m q1 Ls st)) (Kf : y.toInt ≤ x.toInt → Go p e below Ev T (mkF m q2 Ls st)) : Go p e below Ev T (mkF m pc Ls (.int y :: .int x :: st)) := by
  have Q := own_ii x y
  by_cases hc : x < y
  · exact (Kt (by first | omega | (simp only [Q] at hc; omega))).on fun _ k => XS.icmpYes X.here hx rfl rfl hd rfl (XT.ii_lt_t (by simpa using hc)) ho h1 k
  · subst h2
    exact (Kf (by first | omega | (simp only [Q] at hc; omega))).on fun _ k => XS.icmpNo X.here hx rfl hd rfl (XT.ii_lt_f (by simpa using hc)) k
theorem g_ic_ge (X : Stand p l e R s m args below meth c T locs cells slots) (hx : p.tables.exec = Jvm.exec) {pc : Nat} {Ls : Array Slot} {st : List Value} {x y : Int32} {o : Int} (q1 q2 : Nat) (hd : decode c.code pc = .ok (.if_icmp .ge o, 3)) (ho : 0 ≤ (pc : Int) + o) (h1 : ((pc : Int) + o).toNat = q1) (h2 : pc + 3 = q2) (Kt : y.toInt ≤ x.toInt → Go p e below Ev T (mkF m q1 Ls st)) (Kf : x.toInt < y.toInt → Go p e below Ev T (mkF m q2 Ls st)) : Go p e below Ev T (mkF m pc Ls (.int y :: .int x :: st)) := by
  have Q := own_ii x y
  by_cases hc : ¬ x < y
  · exact (Kt (by first | omega | (simp only [Q] at hc; omega))).on fun _ k => XS.icmpYes X.here hx rfl rfl hd rfl (XT.ii_ge_t (by simpa using hc)) ho h1 k
  · subst h2
    exact (Kf (by first | omega | (simp only [Q] at hc; omega))).on fun _ k => XS.icmpNo X.here hx rfl hd rfl (XT.ii_ge_f (by simpa using hc)) k
theorem g_ic_gt (X : Stand p l e R s m args below meth c T locs cells slots) (hx : p.tables.exec = Jvm.exec) {pc : Nat} {Ls : Array Slot} {st : List Value} {x y : Int32} {o : Int} (q1 q2 : Nat) (hd : decode c.code pc = .ok (.if_icmp .gt o, 3)) (ho : 0 ≤ (pc : Int) + o) (h1 : ((pc : Int) + o).toNat = q1) (h2 : pc + 3 = q2) (Kt : y.toInt < x.toInt → Go p e below Ev T (mkF m q1 Ls st)) (Kf : x.toInt ≤ y.toInt → Go p e below Ev T (mkF m q2 Ls st)) : Go p e below Ev T (mkF m pc Ls (.int y :: .int x :: st)) := by
  have Q := own_ii x y
  by_cases hc : y < x
  · exact (Kt (by first | omega | (simp only [Q] at hc; omega))).on fun _ k => XS.icmpYes X.here hx rfl rfl hd rfl (XT.ii_gt_t (by simpa using hc)) ho h1 k
  · subst h2
    exact (Kf (by first | omega | (simp only [Q] at hc; omega))).on fun _ k => XS.icmpNo X.here hx rfl hd rfl (XT.ii_gt_f (by simpa using hc)) k
theorem g_ic_le (X : Stand p l e R s m args below meth c T locs cells slots) (hx : p.tables.exec = Jvm.exec) {pc : Nat} {Ls : Array Slot} {st : List Value} {x y : Int32} {o : Int} (q1 q2 : Nat) (hd : decode c.code pc = .ok (.if_icmp .le o, 3)) (ho : 0 ≤ (pc : Int) + o) (h1 : ((pc : Int) + o).toNat = q1) (h2 : pc + 3 = q2) (Kt : x.toInt ≤ y.toInt → Go p e below Ev T (mkF m q1 Ls st)) (Kf : y.toInt < x.toInt → Go p e below Ev T (mkF m q2 Ls st)) : Go p e below Ev T (mkF m pc Ls (.int y :: .int x :: st)) := by
  have Q := own_ii x y
  by_cases hc : ¬ y < x
  · exact (Kt (by first | omega | (simp only [Q] at hc; omega))).on fun _ k => XS.icmpYes X.here hx rfl rfl hd rfl (XT.ii_le_t (by simpa using hc)) ho h1 k
  · subst h2
    exact (Kf (by first | omega | (simp only [Q] at hc; omega))).on fun _ k => XS.icmpNo X.here hx rfl hd rfl (XT.ii_le_f (by simpa using hc)) k
theorem g_lc_eq (X : Stand p l e R s m args below meth c T locs cells slots) (hx : p.tables.exec = Jvm.exec) {pc : Nat} {Ls : Array Slot} {st : List Value} {x y : Int64} {o : Int} (q0 q1 q2 : Nat) (hd0 : decode c.code pc = .ok (.lcmp, 1)) (h0 : pc + 1 = q0) (hd : decode c.code q0 = .ok (.ifCond .eq o, 3)) (ho : 0 ≤ (q0 : Int) + o) (h1 : ((q0 : Int) + o).toNat = q1) (h2 : q0 + 3 = q2) (Kt : x.toInt = y.toInt → Go p e below Ev T (mkF m q1 Ls st)) (Kf : x.toInt ≠ y.toInt → Go p e below Ev T (mkF m q2 Ls st)) : Go p e below Ev T (mkF m pc Ls (.long y :: .long x :: st)) := by
  have Q := c_lcmp x y
  have C : x.toInt < y.toInt ∨ x.toInt = y.toInt ∨ y.toInt < x.toInt := by omega
  refine g_lcmp X hx q0 hd0 h0 (g_if_eq X hx q1 q2 hd ho h1 h2 (fun hc => Kt ?_) (fun hc => Kf ?_)) <;> (rcases C with C | C | C <;> first | (have := Q.1 C; omega) | (have := Q.2.1 C; omega) | (have := Q.2.2 C; omega))
theorem g_lc_ne (X : Stand p l e R s m args below meth c T locs cells slots) (hx : p.tables.exec = Jvm.exec) {pc : Nat} {Ls : Array Slot} {st : List Value} {x y : Int64} {o : Int} (q0 q1 q2 : Nat) (hd0 : decode c.code pc = .ok (.lcmp, 1)) (h0 : pc + 1 = q0) (hd : decode c.code q0 = .ok (.ifCond .ne o, 3)) (ho : 0 ≤ (q0 : Int) + o) (h1 : ((q0 : Int) + o).toNat = q1) (h2 : q0 + 3 = q2) (Kt : x.toInt ≠ y.toInt → Go p e below Ev T (mkF m q1 Ls st)) (Kf : x.toInt = y.toInt → Go p e below Ev T (mkF m q2 Ls st)) : Go p e below Ev T (mkF m pc Ls (.long y :: .long x :: st)) := by
  have Q := c_lcmp x y
  have C : x.toInt < y.toInt ∨ x.toInt = y.toInt ∨ y.toInt < x.toInt := by omega
  refine g_lcmp X hx q0 hd0 h0 (g_if_ne X hx q1 q2 hd ho h1 h2 (fun hc => Kt ?_) (fun hc => Kf ?_)) <;> (rcases C with C | C | C <;> first | (have := Q.1 C; omega) | (have := Q.2.1 C; omega) | (have := Q.2.2 C; omega))
theorem g_lc_lt (X : Stand p l e R s m args below meth c T locs cells slots) (hx : p.tables.exec = Jvm.exec) {pc : Nat} {Ls : Array Slot} {st : List Value} {x y : Int64} {o : Int} (q0 q1 q2 : Nat) (hd0 : decode c.code pc = .ok (.lcmp, 1)) (h0 : pc + 1 = q0) (hd : decode c.code q0 = .ok (.ifCond .lt o, 3)) (ho : 0 ≤ (q0 : Int) + o) (h1 : ((q0 : Int) + o).toNat = q1) (h2 : q0 + 3 = q2) (Kt : x.toInt < y.toInt → Go p e below Ev T (mkF m q1 Ls st)) (Kf : y.toInt ≤ x.toInt → Go p e below Ev T (mkF m q2 Ls st)) : Go p e below Ev T (mkF m pc Ls (.long y :: .long x :: st)) := by
  have Q := c_lcmp x y
  have C : x.toInt < y.toInt ∨ x.toInt = y.toInt ∨ y.toInt < x.toInt := by omega
  refine g_lcmp X hx q0 hd0 h0 (g_if_lt X hx q1 q2 hd ho h1 h2 (fun hc => Kt ?_) (fun hc => Kf ?_)) <;> (rcases C with C | C | C <;> first | (have := Q.1 C; omega) | (have := Q.2.1 C; omega) | (have := Q.2.2 C; omega))
theorem g_lc_ge (X : Stand p l e R s m args below meth c T locs cells slots) (hx : p.tables.exec = Jvm.exec) {pc : Nat} {Ls : Array Slot} {st : List Value} {x y : Int64} {o : Int} (q0 q1 q2 : Nat) (hd0 : decode c.code pc = .ok (.lcmp, 1)) (h0 : pc + 1 = q0) (hd : decode c.code q0 = .ok (.ifCond .ge o, 3)) (ho : 0 ≤ (q0 : Int) + o) (h1 : ((q0 : Int) + o).toNat = q1) (h2 : q0 + 3 = q2) (Kt : y.toInt ≤ x.toInt → Go p e below Ev T (mkF m q1 Ls st)) (Kf : x.toInt < y.toInt → Go p e below Ev T (mkF m q2 Ls st)) : Go p e below Ev T (mkF m pc Ls (.long y :: .long x :: st)) := by
  have Q := c_lcmp x y
  have C : x.toInt < y.toInt ∨ x.toInt = y.toInt ∨ y.toInt < x.toInt := by omega
  refine g_lcmp X hx q0 hd0 h0 (g_if_ge X hx q1 q2 hd ho h1 h2 (fun hc => Kt ?_) (fun hc => Kf ?_)) <;> (rcases C with C | C | C <;> first | (have := Q.1 C; omega) | (have := Q.2.1 C; omega) | (have := Q.2.2 C; omega))
theorem g_lc_gt (X : Stand p l e R s m args below meth c T locs cells slots) (hx : p.tables.exec = Jvm.exec) {pc : Nat} {Ls : Array Slot} {st : List Value} {x y : Int64} {o : Int} (q0 q1 q2 : Nat) (hd0 : decode c.code pc = .ok (.lcmp, 1)) (h0 : pc + 1 = q0) (hd : decode c.code q0 = .ok (.ifCond .gt o, 3)) (ho : 0 ≤ (q0 : Int) + o) (h1 : ((q0 : Int) + o).toNat = q1) (h2 : q0 + 3 = q2) (Kt : y.toInt < x.toInt → Go p e below Ev T (mkF m q1 Ls st)) (Kf : x.toInt ≤ y.toInt → Go p e below Ev T (mkF m q2 Ls st)) : Go p e below Ev T (mkF m pc Ls (.long y :: .long x :: st)) := by
  have Q := c_lcmp x y
  have C : x.toInt < y.toInt ∨ x.toInt = y.toInt ∨ y.toInt < x.toInt := by omega
  refine g_lcmp X hx q0 hd0 h0 (g_if_gt X hx q1 q2 hd ho h1 h2 (fun hc => Kt ?_) (fun hc => Kf ?_)) <;> (rcases C with C | C | C <;> first | (have := Q.1 C; omega) | (have := Q.2.1 C; omega) | (have := Q.2.2 C; omega))
theorem g_lc_le (X : Stand p l e R s m args below meth c T locs cells slots) (hx : p.tables.exec = Jvm.exec) {pc : Nat} {Ls : Array Slot} {st : List Value} {x y : Int64} {o : Int} (q0 q1 q2 : Nat) (hd0 : decode c.code pc = .ok (.lcmp, 1)) (h0 : pc + 1 = q0) (hd : decode c.code q0 = .ok (.ifCond .le o, 3)) (ho : 0 ≤ (q0 : Int) + o) (h1 : ((q0 : Int) + o).toNat = q1) (h2 : q0 + 3 = q2) (Kt : x.toInt ≤ y.toInt → Go p e below Ev T (mkF m q1 Ls st)) (Kf : y.toInt < x.toInt → Go p e below Ev T (mkF m q2 Ls st)) : Go p e below Ev T (mkF m pc Ls (.long y :: .long x :: st)) := by
  have Q := c_lcmp x y
  have C : x.toInt < y.toInt ∨ x.toInt = y.toInt ∨ y.toInt < x.toInt := by omega
  refine g_lcmp X hx q0 hd0 h0 (g_if_le X hx q1 q2 hd ho h1 h2 (fun hc => Kt ?_) (fun hc => Kf ?_)) <;> (rcases C with C | C | C <;> first | (have := Q.1 C; omega) | (have := Q.2.1 C; omega) | (have := Q.2.2 C; omega))
theorem own_cmpv (i j : Int) (o : CmpOp) : (i < j → (cmpValue (some (compare i j)) o).toInt = -1) ∧ (i = j → (cmpValue (some (compare i j)) o).toInt = 0) ∧ (j < i → (cmpValue (some (compare i j)) o).toInt = 1) := by
  refine ⟨fun q => ?_, fun q => ?_, fun q => ?_⟩
  · rw [show compare i j = .lt from by rw [Jvm.FP.Core.compare_ite]; simp [q]]; cases o <;> rfl
  · rw [show compare i j = .eq from by rw [Jvm.FP.Core.compare_ite]; simp [q]]; cases o <;> rfl
  · rw [show compare i j = .gt from by rw [Jvm.FP.Core.compare_ite]; simp [show ¬ i < j by omega, show ¬ i = j by omega]]; cases o <;> rfl
theorem g_dc_eq (X : Stand p l e R s m args below meth c T locs cells slots) (hx : p.tables.exec = Jvm.exec) {pc : Nat} {Ls : Array Slot} {st : List Value} {x y : UInt64} {oo : CmpOp} {i j : Int} {o : Int} (q0 q1 q2 : Nat) (hd0 : decode c.code pc = .ok (.dcmp oo, 1)) (h0 : pc + 1 = q0) (hd : decode c.code q0 = .ok (.ifCond .eq o, 3)) (ho : 0 ≤ (q0 : Int) + o) (h1 : ((q0 : Int) + o).toNat = q1) (h2 : q0 + 3 = q2) (hv : FP.dcmp x y = some (compare i j)) (Kt : i = j → Go p e below Ev T (mkF m q1 Ls st)) (Kf : i ≠ j → Go p e below Ev T (mkF m q2 Ls st)) : Go p e below Ev T (mkF m pc Ls (.double y :: .double x :: st)) := by
  have Q := own_cmpv i j oo
  have C : i < j ∨ i = j ∨ j < i := by omega
  refine g_dcmp X hx q0 hd0 h0 (by rw [hv]) (g_if_eq X hx q1 q2 hd ho h1 h2 (fun hc => Kt ?_) (fun hc => Kf ?_)) <;> (rcases C with C | C | C <;> first | (have := Q.1 C; omega) | (have := Q.2.1 C; omega) | (have := Q.2.2 C; omega))
theorem g_dc_ne (X : Stand p l e R s m args below meth c T locs cells slots) (hx : p.tables.exec = Jvm.exec) {pc : Nat} {Ls : Array Slot} {st : List Value} {x y : UInt64} {oo : CmpOp} {i j : Int} {o : Int} (q0 q1 q2 : Nat) (hd0 : decode c.code pc = .ok (.dcmp oo, 1)) (h0 : pc + 1 = q0) (hd : decode c.code q0 = .ok (.ifCond .ne o, 3)) (ho : 0 ≤ (q0 : Int) + o) (h1 : ((q0 : Int) + o).toNat = q1) (h2 : q0 + 3 = q2) (hv : FP.dcmp x y = some (compare i j)) (Kt : i ≠ j → Go p e below Ev T (mkF m q1 Ls st)) (Kf : i = j → Go p e below Ev T (mkF m q2 Ls st)) : Go p e below Ev T (mkF m pc Ls (.double y :: .double x :: st)) := by
  have Q := own_cmpv i j oo
  have C : i < j ∨ i = j ∨ j < i := by omega
  refine g_dcmp X hx q0 hd0 h0 (by rw [hv]) (g_if_ne X hx q1 q2 hd ho h1 h2 (fun hc => Kt ?_) (fun hc => Kf ?_)) <;> (rcases C with C | C | C <;> first | (have := Q.1 C; omega) | (have := Q.2.1 C; omega) | (have := Q.2.2 C; omega))
theorem g_dc_lt (X : Stand p l e R s m args below meth c T locs cells slots) (hx : p.tables.exec = Jvm.exec) {pc : Nat} {Ls : Array Slot} {st : List Value} {x y : UInt64} {oo : CmpOp} {i j : Int} {o : Int} (q0 q1 q2 : Nat) (hd0 : decode c.code pc = .ok (.dcmp oo, 1)) (h0 : pc + 1 = q0) (hd : decode c.code q0 = .ok (.ifCond .lt o, 3)) (ho : 0 ≤ (q0 : Int) + o) (h1 : ((q0 : Int) + o).toNat = q1) (h2 : q0 + 3 = q2) (hv : FP.dcmp x y = some (compare i j)) (Kt : i < j → Go p e below Ev T (mkF m q1 Ls st)) (Kf : j ≤ i → Go p e below Ev T (mkF m q2 Ls st)) : Go p e below Ev T (mkF m pc Ls (.double y :: .double x :: st)) := by
  have Q := own_cmpv i j oo
  have C : i < j ∨ i = j ∨ j < i := by omega
  refine g_dcmp X hx q0 hd0 h0 (by rw [hv]) (g_if_lt X hx q1 q2 hd ho h1 h2 (fun hc => Kt ?_) (fun hc => Kf ?_)) <;> (rcases C with C | C | C <;> first | (have := Q.1 C; omega) | (have := Q.2.1 C; omega) | (have := Q.2.2 C; omega))
theorem g_dc_ge (X : Stand p l e R s m args below meth c T locs cells slots) (hx : p.tables.exec = Jvm.exec) {pc : Nat} {Ls : Array Slot} {st : List Value} {x y : UInt64} {oo : CmpOp} {i j : Int} {o : Int} (q0 q1 q2 : Nat) (hd0 : decode c.code pc = .ok (.dcmp oo, 1)) (h0 : pc + 1 = q0) (hd : decode c.code q0 = .ok (.ifCond .ge o, 3)) (ho : 0 ≤ (q0 : Int) + o) (h1 : ((q0 : Int) + o).toNat = q1) (h2 : q0 + 3 = q2) (hv : FP.dcmp x y = some (compare i j)) (Kt : j ≤ i → Go p e below Ev T (mkF m q1 Ls st)) (Kf : i < j → Go p e below Ev T (mkF m q2 Ls st)) : Go p e below Ev T (mkF m pc Ls (.double y :: .double x :: st)) := by
  have Q := own_cmpv i j oo
  have C : i < j ∨ i = j ∨ j < i := by omega
  refine g_dcmp X hx q0 hd0 h0 (by rw [hv]) (g_if_ge X hx q1 q2 hd ho h1 h2 (fun hc => Kt ?_) (fun hc => Kf ?_)) <;> (rcases C with C | C | C <;> first | (have := Q.1 C; omega) | (have := Q.2.1 C; omega) | (have := Q.2.2 C; omega))
theorem g_dc_gt (X : Stand p l e R s m args below meth c T locs cells slots) (hx : p.tables.exec = Jvm.exec) {pc : Nat} {Ls : Array Slot} {st : List Value} {x y : UInt64} {oo : CmpOp} {i j : Int} {o : Int} (q0 q1 q2 : Nat) (hd0 : decode c.code pc = .ok (.dcmp oo, 1)) (h0 : pc + 1 = q0) (hd : decode c.code q0 = .ok (.ifCond .gt o, 3)) (ho : 0 ≤ (q0 : Int) + o) (h1 : ((q0 : Int) + o).toNat = q1) (h2 : q0 + 3 = q2) (hv : FP.dcmp x y = some (compare i j)) (Kt : j < i → Go p e below Ev T (mkF m q1 Ls st)) (Kf : i ≤ j → Go p e below Ev T (mkF m q2 Ls st)) : Go p e below Ev T (mkF m pc Ls (.double y :: .double x :: st)) := by
  have Q := own_cmpv i j oo
  have C : i < j ∨ i = j ∨ j < i := by omega
  refine g_dcmp X hx q0 hd0 h0 (by rw [hv]) (g_if_gt X hx q1 q2 hd ho h1 h2 (fun hc => Kt ?_) (fun hc => Kf ?_)) <;> (rcases C with C | C | C <;> first | (have := Q.1 C; omega) | (have := Q.2.1 C; omega) | (have := Q.2.2 C; omega))
theorem g_dc_le (X : Stand p l e R s m args below meth c T locs cells slots) (hx : p.tables.exec = Jvm.exec) {pc : Nat} {Ls : Array Slot} {st : List Value} {x y : UInt64} {oo : CmpOp} {i j : Int} {o : Int} (q0 q1 q2 : Nat) (hd0 : decode c.code pc = .ok (.dcmp oo, 1)) (h0 : pc + 1 = q0) (hd : decode c.code q0 = .ok (.ifCond .le o, 3)) (ho : 0 ≤ (q0 : Int) + o) (h1 : ((q0 : Int) + o).toNat = q1) (h2 : q0 + 3 = q2) (hv : FP.dcmp x y = some (compare i j)) (Kt : i ≤ j → Go p e below Ev T (mkF m q1 Ls st)) (Kf : j < i → Go p e below Ev T (mkF m q2 Ls st)) : Go p e below Ev T (mkF m pc Ls (.double y :: .double x :: st)) := by
  have Q := own_cmpv i j oo
  have C : i < j ∨ i = j ∨ j < i := by omega
  refine g_dcmp X hx q0 hd0 h0 (by rw [hv]) (g_if_le X hx q1 q2 hd ho h1 h2 (fun hc => Kt ?_) (fun hc => Kf ?_)) <;> (rcases C with C | C | C <;> first | (have := Q.1 C; omega) | (have := Q.2.1 C; omega) | (have := Q.2.2 C; omega))
theorem g_ifnull_t (X : Stand p l e R s m args below meth c T locs cells slots) (hx : p.tables.exec = Jvm.exec) {pc : Nat} {Ls : Array Slot} {st : List Value} {o : Int} (q : Nat) (hd : decode c.code pc = .ok (.ifnull o, 3)) (ho : 0 ≤ (pc : Int) + o) (h1 : ((pc : Int) + o).toNat = q) (K : Go p e below Ev T (mkF m q Ls st)) : Go p e below Ev T (mkF m pc Ls (.null :: st)) :=
  K.on fun _ k => XS.ifnullYes X.here hx rfl rfl hd rfl ho h1 k
theorem g_ifnull_f (X : Stand p l e R s m args below meth c T locs cells slots) (hx : p.tables.exec = Jvm.exec) {pc : Nat} {Ls : Array Slot} {st : List Value} {o : Int} {b : Addr} (q : Nat) (hd : decode c.code pc = .ok (.ifnull o, 3)) (h1 : pc + 3 = q) (K : Go p e below Ev T (mkF m q Ls st)) : Go p e below Ev T (mkF m pc Ls (.ref b :: st)) := by
  subst h1
  exact K.on fun _ k => XS.ifnullNo X.here hx rfl hd rfl k
theorem g_ifnonnull_t (X : Stand p l e R s m args below meth c T locs cells slots) (hx : p.tables.exec = Jvm.exec) {pc : Nat} {Ls : Array Slot} {st : List Value} {o : Int} {b : Addr} (q : Nat) (hd : decode c.code pc = .ok (.ifnonnull o, 3)) (ho : 0 ≤ (pc : Int) + o) (h1 : ((pc : Int) + o).toNat = q) (K : Go p e below Ev T (mkF m q Ls st)) : Go p e below Ev T (mkF m pc Ls (.ref b :: st)) :=
  K.on fun _ k => XS.ifnonnullYes X.here hx rfl rfl hd rfl ho h1 k
theorem g_ifnonnull_f (X : Stand p l e R s m args below meth c T locs cells slots) (hx : p.tables.exec = Jvm.exec) {pc : Nat} {Ls : Array Slot} {st : List Value} {o : Int} (q : Nat) (hd : decode c.code pc = .ok (.ifnonnull o, 3)) (h1 : pc + 3 = q) (K : Go p e below Ev T (mkF m q Ls st)) : Go p e below Ev T (mkF m pc Ls (.null :: st)) := by
  subst h1
  exact K.on fun _ k => XS.ifnonnullNo X.here hx rfl hd rfl k
theorem g_new (X : Stand p l e R s m args below meth c T locs cells slots) (hx : p.tables.exec = Jvm.exec) {pc : Nat} {Ls : Array Slot} {st : List Value} (hZ : Z.Warmed39 s.vm) {own C : String} {i n : Nat} (hown : s.vm.findClass own = some m.cls) (w : (Jvm.Cond.classLink own i C).before a0 Z = true) (wi : (Jvm.Cond.instantiable C n).before a0 Z = true) (wz : (Jvm.Cond.initialized C).before a0 Z = true) (eT : T.heap = h) (q : Nat) (hd : decode c.code pc = .ok (.new i, 3)) (hq : pc + 3 = q) (hc : cells + 1 ≤ R.cells) (hl : slots + n ≤ R.slots)
    (K : ∀ (T' : State) (h' : Heap) (a : Addr), a = h.size → Stand p l e R s m args below meth c T' locs (cells + 1) (slots + n) → T'.heap = h' → Ext h h' → Exa Z h' a C → (∀ {O nm d : String} {ty : FieldType}, Laid Z a0 C O nm d → parseFieldDescriptor d = some ty → Fld Z h' a O nm d (defaultValue ty)) → Go p e below Ev T' (mkF m q Ls (.ref a :: st))) : Go p e below Ev T (mkF m pc Ls st) := by
  subst hq
  obtain ⟨T', h', X', e', E', A', D', -, st'⟩ := newO X hx hZ hown w wi wz eT (g := mkF m pc Ls st) rfl hd hc hl
  exact (K T' h' _ rfl X' e' E' A' D').on st'
theorem g_getF (X : Stand p l e R s m args below meth c T locs cells slots) (hx : p.tables.exec = Jvm.exec) {pc : Nat} {Ls : Array Slot} {st : List Value} (hZ : Z.Warmed39 s.vm) {own R0 O n d : String} {i : Nat} (hown : s.vm.findClass own = some m.cls) (w : (Jvm.Cond.fieldLink own i R0 n d).before a0 Z = true) (via : Via Z R0 O n d) (eT : T.heap = h) {a : Addr} {v : Value} (F : Fld Z h a O n d v) (q : Nat) (hd : decode c.code pc = .ok (.getfield i, 3)) (hq : pc + 3 = q) (K : ∀ T', Stand p l e R s m args below meth c T' locs cells slots → T'.heap = h → Go p e below Ev T' (mkF m q Ls (v :: st))) : Go p e below Ev T (mkF m pc Ls (.ref a :: st)) := by
  subst hq
  obtain ⟨T', X', e', st'⟩ := getF X hx hZ hown (host := "") (Or.inl w) via eT F (g := mkF m pc Ls (.ref a :: st)) rfl rfl hd
  exact (K T' X' e').on st'
theorem g_putF (X : Stand p l e R s m args below meth c T locs cells slots) (hx : p.tables.exec = Jvm.exec) {pc : Nat} {Ls : Array Slot} {st : List Value} (hZ : Z.Warmed39 s.vm) {own R0 O n d C : String} {i kk : Nat} {ty : FieldType} (hown : s.vm.findClass own = some m.cls) (w : (Jvm.Cond.fieldLink own i R0 n d).before a0 Z = true) (via : Via Z R0 O n d) (eT : T.heap = h) {a : Addr} {v old : Value} (F : Fld Z h a O n d old) (E : Exa Z h a C) (L : (Jvm.Cond.lays C O n d).before a0 Z = true ∨ ((Jvm.Cond.laysFinal C O n d).before a0 Z = true ∧ own = O ∧ meth.name = "<init>")) (wi : (Jvm.Cond.instantiable C kk).before a0 Z = true) (hty : parseFieldDescriptor d = some ty) (hn : narrow ty v = v) (hf : fits ty v = true) (q : Nat) (hd : decode c.code pc = .ok (.putfield i, 3)) (hq : pc + 3 = q)
    (K : ∀ T' h', Stand p l e R s m args below meth c T' (locs ++ [⟨a, Jvm.RoadKit.slotOf Z O n d⟩]) cells slots → T'.heap = h' → Wr h h' a (Jvm.RoadKit.slotOf Z O n d) v → Go p e below Ev T' (mkF m q Ls st)) : Go p e below Ev T (mkF m pc Ls (v :: .ref a :: st)) := by
  subst hq
  obtain ⟨T', h', X', e', W', st'⟩ := putF X hx hZ hown (host := "") (Or.inl w) via eT F E L wi hty hn hf (g := mkF m pc Ls (v :: .ref a :: st)) rfl rfl hd
  exact (K T' h' X' e' W').on st'
theorem g_objinit (X : Stand p l e R s m args below meth c T locs cells slots) (hx : p.tables.exec = Jvm.exec) {pc : Nat} {Ls : Array Slot} {st : List Value} (hZ : Z.Warmed39 s.vm) {own : String} {i : Nat} (hown : s.vm.findClass own = some m.cls) (w1 : (Jvm.Cond.methodLink own i ⟨"java/lang/Object", "<init>", "()V"⟩).before a0 Z = true) (w2 : (Jvm.Cond.instanceMethod ⟨"java/lang/Object", "<init>", "()V"⟩).before a0 Z = true) (w3 : (Jvm.Cond.code ⟨"java/lang/Object", "<init>", "()V"⟩ object_method_1_code 1 none).before a0 Z = true) (eT : T.heap = h) {a : Addr} (W : Nat) (q : Nat) (hd : decode c.code pc = .ok (.invokespecial i, 3)) (hq : pc + 3 = q) (hsz : Ls.size = c.maxLocals) (hf : 1 ≤ R.frames) (hW : (st.map fun v => v.category).sum ≤ W) (hl : W + 12 ≤ R.locals) (K : ∀ T', Stand p l e R s m args below meth c T' locs cells slots → T'.heap = h → Go p e below Ev T' (mkF m q Ls st)) : Go p e below Ev T (mkF m pc Ls (.ref a :: st)) := by
  subst hq
  obtain ⟨T', X', e', st'⟩ := initO X hx hZ hown w1 w2 w3 eT (g := mkF m pc Ls (.ref a :: st)) rfl hsz rfl hd hf (W := W) (by show 2 * 0 + _ ≤ _; omega) hl
  exact (K T' X' e').on st'
theorem g_static (X : Stand p l e R s m args below meth c T locs cells slots) (hx : p.tables.exec = Jvm.exec) {pc : Nat} {Ls : Array Slot} {st : List Value} (hZ : Z.Warmed39 s.vm) {own : String} {i : Nat} {y : MethodName} {bytes : ByteArray} {maxL : Nat} {ret : Option FieldType} {rm : Room} {as' : Array Value} {Q : Option Value → Heap → List Loc → Prop} {argsL rest : List Value} (hown : s.vm.findClass own = some m.cls) (w1 : (Jvm.Cond.methodLink own i y).before a0 Z = true) (w2 : (Jvm.Cond.static y).before a0 Z = true) (w3 : (Jvm.Cond.initialized y.cls).before a0 Z = true) (w4 : (Jvm.Cond.code y bytes maxL ret).before a0 Z = true) (hy : y.cls ≠ "java/lang/invoke/MethodHandle" ∧ y.cls ≠ "java/lang/invoke/VarHandle") (hM : MetFree l y (head1 [Jvm.Cond.code y bytes maxL ret] rm) (fun a U => a = as' ∧ Z.Warmed39 U.vm ∧ U.heap = h) (fun _ _ _ _ _ => True) (fun _ U o U' => ∃ v L, o = .returned v ∧ Q v U'.heap L ∧ FrameEnd U o U' L rm.cells rm.slots)) (eT : T.heap = h) (hst : st = argsL.reverse ++ rest) (has : argsL.toArray = as') (W : Nat) (q : Nat) (hq : pc + 3 = q) (hsz : Ls.size = c.maxLocals) (hlen : ∀ sig, parseMethodDescriptor y.desc = some sig → argsL.length = sig.parameters.length) (hW : (rest.map fun v => v.category).sum ≤ W) (hf : rm.frames + 1 ≤ R.frames) (hl : W + (maxL + 11) + rm.locals ≤ R.locals) (hc : cells + rm.cells ≤ R.cells) (hs : slots + rm.slots ≤ R.slots) (hd : decode c.code pc = .ok (.invokestatic i, 3))
    (K : ∀ (v : Option Value) (T' : State) (L : List Loc), Stand p l e R s m args below meth c T' (locs ++ L) (cells + rm.cells) (slots + rm.slots) → Q v T'.heap L → Go p e below Ev T' (mkF m q Ls (v.toList ++ rest))) : Go p e below Ev T (mkF m pc Ls st) := by
  subst hq hst
  obtain ⟨v, vm1, ⟨T', L', k', n'⟩, -, X', ⟨L, hQ, l', y', z'⟩, st'⟩ := Jvm.LawKit.callS X hx hown (mvT hZ w1) (mvT hZ w2) (mvT hZ w3) (mvT hZ w4) hy (backOf (W := W) hM hZ w4 w3 hf hl) (g := mkF m pc Ls (argsL.reverse ++ rest)) rfl hsz (argsL := argsL) (rest := rest) hlen rfl (by show 2 * 0 + _ ≤ _; omega) hd (fun _ _ => ⟨has, eT, hc, hs⟩)
  dsimp only [Pt.U, Pt.locs, Pt.cells, Pt.slots] at X' l' y' z' st' hQ
  subst l' y' z'
  exact (K v T' L X' hQ).on fun t k => st' t k
theorem g_init (X : Stand p l e R s m args below meth c T locs cells slots) (hx : p.tables.exec = Jvm.exec) {pc : Nat} {Ls : Array Slot} {st : List Value} (hZ : Z.Warmed39 s.vm) {own : String} {i : Nat} {y : MethodName} {bytes : ByteArray} {maxL : Nat} {rm : Room} {as' : Array Value} {Q : Option Value → Heap → List Loc → Prop} {argsL rest : List Value} (hy1 : y.name = "<init>") (hown : s.vm.findClass own = some m.cls) (w1 : (Jvm.Cond.methodLink own i y).before a0 Z = true) (w2 : (Jvm.Cond.instanceMethod y).before a0 Z = true) (w3 : (Jvm.Cond.initialized y.cls).before a0 Z = true) (w4 : (Jvm.Cond.code y bytes maxL none).before a0 Z = true) (hy : y.cls ≠ "java/lang/invoke/MethodHandle" ∧ y.cls ≠ "java/lang/invoke/VarHandle") (hM : MetFree l y (head1 [Jvm.Cond.code y bytes maxL none] rm) (fun a U => a = as' ∧ Z.Warmed39 U.vm ∧ U.heap = h) (fun _ _ _ _ _ => True) (fun _ U o U' => ∃ v L, o = .returned v ∧ Q v U'.heap L ∧ FrameEnd U o U' L rm.cells rm.slots)) (eT : T.heap = h) {a : Addr} (hst : st = argsL.reverse ++ .ref a :: rest) (has : (.ref a :: argsL).toArray = as') (W : Nat) (q : Nat) (hq : pc + 3 = q) (hsz : Ls.size = c.maxLocals) (hlen : ∀ sig, parseMethodDescriptor y.desc = some sig → argsL.length = sig.parameters.length) (hW : (rest.map fun v => v.category).sum ≤ W) (hf : rm.frames + 1 ≤ R.frames) (hl : W + (maxL + 11) + rm.locals ≤ R.locals) (hc : cells + rm.cells ≤ R.cells) (hs : slots + rm.slots ≤ R.slots) (hd : decode c.code pc = .ok (.invokespecial i, 3))
    (K : ∀ (v : Option Value) (T' : State) (L : List Loc), Stand p l e R s m args below meth c T' (locs ++ L) (cells + rm.cells) (slots + rm.slots) → Q v T'.heap L → Go p e below Ev T' (mkF m q Ls (v.toList ++ rest))) : Go p e below Ev T (mkF m pc Ls st) := by
  subst hq hst
  obtain ⟨v, vm1, ⟨T', L', k', n'⟩, -, X', ⟨L, hQ, l', y', z'⟩, st'⟩ := X.specialBack hx hy1 hown (mvT hZ w1) (mvT hZ w2) (mvT hZ w4) hy (backOf (W := W) hM hZ w4 w3 hf hl) (g := mkF m pc Ls (argsL.reverse ++ .ref a :: rest)) rfl hsz (Steps.refl _) (a := a) (argsL := argsL) (rest := rest) hlen rfl (by show 2 * 0 + _ ≤ _; omega) hd (fun _ _ => ⟨has, eT, hc, hs⟩)
  dsimp only [Pt.U, Pt.locs, Pt.cells, Pt.slots] at X' l' y' z' st' hQ
  subst l' y' z'
  exact (K v T' L X' hQ).on fun t k => st'.trans k
theorem g_virt (X : Stand p l e R s m args below meth c T locs cells slots) (hx : p.tables.exec = Jvm.exec) {pc : Nat} {Ls : Array Slot} {st : List Value} (hZ : Z.Warmed39 s.vm) {own : String} {i : Nat} {y z : MethodName} {C : String} {bytes : ByteArray} {maxL : Nat} {ret : Option FieldType} {rm : Room} {as' : Array Value} {Q : Option Value → Heap → List Loc → Prop} {argsL rest : List Value} (hown : s.vm.findClass own = some m.cls) (w1 : (Jvm.Cond.methodLink own i y).before a0 Z = true) (w2 : (Jvm.Cond.declares y).before a0 Z = true) (w5 : (Jvm.Cond.selects y.cls y y).before a0 Z = true) (w6 : (Jvm.Cond.selects C y z).before a0 Z = true) (w7 : (Jvm.Cond.instanceMethod z).before a0 Z = true) (w3 : (Jvm.Cond.initialized z.cls).before a0 Z = true) (w4 : (Jvm.Cond.code z bytes maxL ret).before a0 Z = true) (hy : y.cls ≠ "java/lang/invoke/MethodHandle" ∧ y.cls ≠ "java/lang/invoke/VarHandle") (hM : MetFree l z (head1 [Jvm.Cond.code z bytes maxL ret] rm) (fun a U => a = as' ∧ Z.Warmed39 U.vm ∧ U.heap = h) (fun _ _ _ _ _ => True) (fun _ U o U' => ∃ v L, o = .returned v ∧ Q v U'.heap L ∧ FrameEnd U o U' L rm.cells rm.slots)) (eT : T.heap = h) {b : Addr} (E : Exa Z h b C) (hst : st = argsL.reverse ++ .ref b :: rest) (has : (.ref b :: argsL).toArray = as') (W : Nat) (q : Nat) (hq : pc + 3 = q) (hsz : Ls.size = c.maxLocals) (hlen : ∀ sig, parseMethodDescriptor y.desc = some sig → argsL.length = sig.parameters.length) (hW : (rest.map fun v => v.category).sum ≤ W) (hf : rm.frames + 1 ≤ R.frames) (hl : W + (maxL + 11) + rm.locals ≤ R.locals) (hc : cells + rm.cells ≤ R.cells) (hs : slots + rm.slots ≤ R.slots) (hd : decode c.code pc = .ok (.invokevirtual i, 3))
    (K : ∀ (v : Option Value) (T' : State) (L : List Loc), Stand p l e R s m args below meth c T' (locs ++ L) (cells + rm.cells) (slots + rm.slots) → Q v T'.heap L → Go p e below Ev T' (mkF m q Ls (v.toList ++ rest))) : Go p e below Ev T (mkF m pc Ls st) := by
  subst hq hst
  obtain ⟨cq, kq, qa, qb, qc⟩ := isOf hZ eT E
  obtain ⟨v, vm1, ⟨T', L', k', n'⟩, -, X', ⟨L, hQ, l', y', z'⟩, st'⟩ := X.virtualBack hx hown (mvT hZ w1) (mvT hZ w2) (notFace_of_selects (args := #[]) (mvT hZ w5)) (mvT hZ w6) (mvT hZ w7) hy (backOf (W := W) hM hZ w4 w3 hf hl) qa qc (g := mkF m pc Ls (argsL.reverse ++ .ref b :: rest)) rfl hsz (Steps.refl _) (argsL := argsL) (rest := rest) hlen rfl (by show 2 * 0 + _ ≤ _; omega) hd (fun _ _ => ⟨has, eT, hc, hs⟩)
  dsimp only [Pt.U, Pt.locs, Pt.cells, Pt.slots] at X' l' y' z' st' hQ
  subst l' y' z'
  exact (K v T' L X' hQ).on fun t k => st'.trans k
theorem own_at {n : Nat} (j : Int32) (h0 : 0 ≤ j.toInt) (z : Int32) (h1 : j.toInt < z.toInt) (S : n = z.toNatClampNeg) : ¬ (j < 0 ∨ n ≤ j.toNatClampNeg) := by
  subst S
  intro q
  rcases q with q | q
  · have := (own_i0 j).1.mp q; omega
  · simp only [Int32.toNatClampNeg] at q; omega
theorem own_ncl {j : Int32} {k : Nat} (h : j.toInt = (k : Int)) : j.toNatClampNeg = k := by simp only [Int32.toNatClampNeg]; omega
theorem g_newP (X : Stand p l e R s m args below meth c T locs cells slots) (hx : p.tables.exec = Jvm.exec) {pc : Nat} {Ls : Array Slot} {st : List Value} (hZ : Z.Warmed39 s.vm) {aty : ArrayType} (w : (Jvm.Cond.arrayClass (newarray.typeOf aty)).before a0 Z = true) (eT : T.heap = h) {n : Int32} (hn : 0 ≤ n.toInt) {cap : Nat} (hcap : n.toInt ≤ cap) (hb : cap * 8 ≤ 536870912) (q : Nat) (hd : decode c.code pc = .ok (.newarray aty, 2)) (hq : pc + 2 = q) (hc : cells + 1 ≤ R.cells) (hl : slots + cap ≤ R.slots) {ad : String} (had : "[" ++ (newarray.typeOf aty).toString = ad)
    (K : ∀ (T' : State) (h' : Heap) (k : ClassId) (a : Addr), a = h.size → Stand p l e R s m args below meth c T' locs (cells + 1) (slots + cap) → T'.heap = h' → Ext h h' → Arv Z h' a k (newarray.typeOf aty) n [] (defaultValue (newarray.typeOf aty)) → Exa Z h' a ad → Go p e below Ev T' (mkF m q Ls (.ref a :: st))) : Go p e below Ev T (mkF m pc Ls (.int n :: st)) := by
  subst hq
  have hn' : ¬ n < 0 := fun q => by have := (own_i0 n).1.mp q; omega
  obtain ⟨T', h', k, X', e', E', A', B', st'⟩ := newPE X hx hZ w eT (g := mkF m pc Ls (.int n :: st)) rfl hd rfl hn' (cap := cap) (by simp only [Int32.toNatClampNeg]; omega) hb hc hl had
  exact (K T' h' k _ rfl X' e' E' (Arv.new A' hn') B').on st'
theorem g_len (X : Stand p l e R s m args below meth c T locs cells slots) (hx : p.tables.exec = Jvm.exec) {pc : Nat} {Ls : Array Slot} {st : List Value} (hZ : Z.Warmed39 s.vm) (eT : T.heap = h) {a : Addr} {k : ClassId} {ty : FieldType} {z : Int32} {vs : List Value} {dv : Value} (V : Arv Z h a k ty z vs dv) (q : Nat) (hd : decode c.code pc = .ok (.arraylength, 1)) (hq : pc + 1 = q) (K : Go p e below Ev T (mkF m q Ls (.int z :: st))) : Go p e below Ev T (mkF m pc Ls (.ref a :: st)) := by
  subst hq
  obtain ⟨cl, A, q1, S, q3, H, G⟩ := V
  refine K.on fun t k => X.arraylength hx (by rw [eT]; exact A.1) (State.isArrayOf_alike hZ.alike A.2.1) (g := mkF m pc Ls (.ref a :: st)) rfl rfl hd t ?_
  rw [len_of S q3]
  exact k
theorem g_dastore (X : Stand p l e R s m args below meth c T locs cells slots) (hx : p.tables.exec = Jvm.exec) {pc : Nat} {Ls : Array Slot} {st : List Value} (hZ : Z.Warmed39 s.vm) (eT : T.heap = h) {a : Addr} {k : ClassId} {z j : Int32} {x : UInt64} {vs : List Value} {dv : Value} (V : Arv Z h a k .double z vs dv) (i : Nat) (hi : j.toInt = (i : Int)) (hz : j.toInt < z.toInt) (hv : i < vs.length) (q : Nat) (hd : decode c.code pc = .ok (.dastore, 1)) (hq : pc + 1 = q)
    (K : ∀ T' h', Stand p l e R s m args below meth c T' (locs ++ [⟨a, j.toNatClampNeg⟩]) cells slots → T'.heap = h' → Wr h h' a j.toNatClampNeg (.double x) → Arv Z h' a k .double z (vs.set i (.double x)) dv → Go p e below Ev T' (mkF m q Ls st)) : Go p e below Ev T (mkF m pc Ls (.double x :: .int j :: .ref a :: st)) := by
  subst hq
  obtain ⟨cl, A, q1, S, q3, H, G⟩ := V
  have hj := own_at j (by omega) z hz S
  obtain ⟨T', h', X', e', W', st'⟩ := stD X hx hZ eT A hj (g := mkF m pc Ls (.double x :: .int j :: .ref a :: st)) rfl rfl hd
  exact (K T' h' X' e' W' (Arv.set A q1 S q3 H G rfl W' i (own_ncl hi) hv)).on st'
theorem g_iastore (X : Stand p l e R s m args below meth c T locs cells slots) (hx : p.tables.exec = Jvm.exec) {pc : Nat} {Ls : Array Slot} {st : List Value} (hZ : Z.Warmed39 s.vm) (eT : T.heap = h) {a : Addr} {k : ClassId} {z j : Int32} {x : Int32} {vs : List Value} {dv : Value} (V : Arv Z h a k .int z vs dv) (i : Nat) (hi : j.toInt = (i : Int)) (hz : j.toInt < z.toInt) (hv : i < vs.length) (q : Nat) (hd : decode c.code pc = .ok (.iastore, 1)) (hq : pc + 1 = q)
    (K : ∀ T' h', Stand p l e R s m args below meth c T' (locs ++ [⟨a, j.toNatClampNeg⟩]) cells slots → T'.heap = h' → Wr h h' a j.toNatClampNeg (.int x) → Arv Z h' a k .int z (vs.set i (.int x)) dv → Go p e below Ev T' (mkF m q Ls st)) : Go p e below Ev T (mkF m pc Ls (.int x :: .int j :: .ref a :: st)) := by
  subst hq
  obtain ⟨cl, A, q1, S, q3, H, G⟩ := V
  have hj := own_at j (by omega) z hz S
  obtain ⟨T', h', X', e', W', st'⟩ := stI X hx hZ eT A hj (g := mkF m pc Ls (.int x :: .int j :: .ref a :: st)) rfl rfl hd
  exact (K T' h' X' e' W' (Arv.set A q1 S q3 H G rfl W' i (own_ncl hi) hv)).on st'
theorem g_lastore (X : Stand p l e R s m args below meth c T locs cells slots) (hx : p.tables.exec = Jvm.exec) {pc : Nat} {Ls : Array Slot} {st : List Value} (hZ : Z.Warmed39 s.vm) (eT : T.heap = h) {a : Addr} {k : ClassId} {z j : Int32} {x : Int64} {vs : List Value} {dv : Value} (V : Arv Z h a k .long z vs dv) (i : Nat) (hi : j.toInt = (i : Int)) (hz : j.toInt < z.toInt) (hv : i < vs.length) (q : Nat) (hd : decode c.code pc = .ok (.lastore, 1)) (hq : pc + 1 = q)
    (K : ∀ T' h', Stand p l e R s m args below meth c T' (locs ++ [⟨a, j.toNatClampNeg⟩]) cells slots → T'.heap = h' → Wr h h' a j.toNatClampNeg (.long x) → Arv Z h' a k .long z (vs.set i (.long x)) dv → Go p e below Ev T' (mkF m q Ls st)) : Go p e below Ev T (mkF m pc Ls (.long x :: .int j :: .ref a :: st)) := by
  subst hq
  obtain ⟨cl, A, q1, S, q3, H, G⟩ := V
  have hj := own_at j (by omega) z hz S
  obtain ⟨T', h', X', e', W', st'⟩ := stJ X hx hZ eT A hj (g := mkF m pc Ls (.long x :: .int j :: .ref a :: st)) rfl rfl hd
  exact (K T' h' X' e' W' (Arv.set A q1 S q3 H G rfl W' i (own_ncl hi) hv)).on st'
theorem g_daload (X : Stand p l e R s m args below meth c T locs cells slots) (hx : p.tables.exec = Jvm.exec) {pc : Nat} {Ls : Array Slot} {st : List Value} (hZ : Z.Warmed39 s.vm) (eT : T.heap = h) {a : Addr} {k : ClassId} {z j : Int32} {v : Value} {vs : List Value} {dv : Value} (V : Arv Z h a k .double z vs dv) (hi : 0 ≤ j.toInt) (hz : j.toInt < z.toInt) (hv : vs.getD j.toNatClampNeg dv = v) (q : Nat) (hd : decode c.code pc = .ok (.daload, 1)) (hq : pc + 1 = q) (K : Go p e below Ev T (mkF m q Ls (v :: st))) : Go p e below Ev T (mkF m pc Ls (.int j :: .ref a :: st)) := by
  subst hq
  obtain ⟨cl, A, q1, S, q3, H, G⟩ := V
  have hj := own_at j hi z hz S
  exact K.on fun t k => X.daload hx (by rw [eT]; exact A.1) (State.isArrayOf_alike hZ.alike A.2.1) A.2.2 hj (H.at hj hv) (g := mkF m pc Ls (.int j :: .ref a :: st)) rfl rfl hd t k
theorem g_iaload (X : Stand p l e R s m args below meth c T locs cells slots) (hx : p.tables.exec = Jvm.exec) {pc : Nat} {Ls : Array Slot} {st : List Value} (hZ : Z.Warmed39 s.vm) (eT : T.heap = h) {a : Addr} {k : ClassId} {z j : Int32} {v : Value} {vs : List Value} {dv : Value} (V : Arv Z h a k .int z vs dv) (hi : 0 ≤ j.toInt) (hz : j.toInt < z.toInt) (hv : vs.getD j.toNatClampNeg dv = v) (q : Nat) (hd : decode c.code pc = .ok (.iaload, 1)) (hq : pc + 1 = q) (K : Go p e below Ev T (mkF m q Ls (v :: st))) : Go p e below Ev T (mkF m pc Ls (.int j :: .ref a :: st)) := by
  subst hq
  obtain ⟨cl, A, q1, S, q3, H, G⟩ := V
  have hj := own_at j hi z hz S
  exact K.on fun t k => X.iaload hx (by rw [eT]; exact A.1) (State.isArrayOf_alike hZ.alike A.2.1) A.2.2 hj (H.at hj hv) (g := mkF m pc Ls (.int j :: .ref a :: st)) rfl rfl hd t k
theorem g_laload (X : Stand p l e R s m args below meth c T locs cells slots) (hx : p.tables.exec = Jvm.exec) {pc : Nat} {Ls : Array Slot} {st : List Value} (hZ : Z.Warmed39 s.vm) (eT : T.heap = h) {a : Addr} {k : ClassId} {z j : Int32} {v : Value} {vs : List Value} {dv : Value} (V : Arv Z h a k .long z vs dv) (hi : 0 ≤ j.toInt) (hz : j.toInt < z.toInt) (hv : vs.getD j.toNatClampNeg dv = v) (q : Nat) (hd : decode c.code pc = .ok (.laload, 1)) (hq : pc + 1 = q) (K : Go p e below Ev T (mkF m q Ls (v :: st))) : Go p e below Ev T (mkF m pc Ls (.int j :: .ref a :: st)) := by
  subst hq
  obtain ⟨cl, A, q1, S, q3, H, G⟩ := V
  have hj := own_at j hi z hz S
  exact K.on fun t k => X.laload hx (by rw [eT]; exact A.1) (State.isArrayOf_alike hZ.alike A.2.1) A.2.2 hj (H.at hj hv) (g := mkF m pc Ls (.int j :: .ref a :: st)) rfl rfl hd t k
theorem g_clone (X : Stand p l e R s m args below meth c T locs cells slots) (hx : p.tables.exec = Jvm.exec) {pc : Nat} {Ls : Array Slot} {st : List Value} (hZ : Z.Warmed39 s.vm) {own ad : String} {i : Nat} (hown : s.vm.findClass own = some m.cls) (w1 : (Jvm.Cond.methodLink own i ⟨ad, "clone", "()Ljava/lang/Object;"⟩).before a0 Z = true) (w2 : (Jvm.Cond.sameMethod ad "java/lang/Object" "clone" "()Ljava/lang/Object;").before a0 Z = true) (w3 : (Jvm.Cond.native ⟨"java/lang/Object", "clone", "()Ljava/lang/Object;"⟩).before a0 Z = true) (w4 : (Jvm.Cond.instanceMethod ⟨"java/lang/Object", "clone", "()Ljava/lang/Object;"⟩).before a0 Z = true) (w5 : (Jvm.Cond.selects ad ⟨ad, "clone", "()Ljava/lang/Object;"⟩ ⟨"java/lang/Object", "clone", "()Ljava/lang/Object;"⟩).before a0 Z = true) (w6 : (Jvm.Cond.castable ad "java/lang/Cloneable").before a0 Z = true) (eT : T.heap = h) {a : Addr} {k : ClassId} {ty : FieldType} {z : Int32} {vs : List Value} {dv : Value} (V : Arv Z h a k ty z vs dv) (E : Exa Z h a ad) (W cap : Nat) (q : Nat) (hd : decode c.code pc = .ok (.invokevirtual i, 3)) (hq : pc + 3 = q) (hsz : Ls.size = c.maxLocals) (hf : 1 ≤ R.frames) (hW : (st.map fun v => v.category).sum ≤ W) (hl : W + 14 ≤ R.locals) (hcap : z.toInt ≤ cap) (hc : cells + 1 ≤ R.cells) (hs : slots + cap ≤ R.slots)
    (K : ∀ (T' : State) (h' : Heap) (b : Addr), b = h.size → Stand p l e R s m args below meth c T' locs (cells + 1) (slots + cap) → T'.heap = h' → Ext h h' → Arv Z h' b k ty z vs dv → Exa Z h' b ad → Go p e below Ev T' (mkF m q Ls (.ref b :: st))) : Go p e below Ev T (mkF m pc Ls (.ref a :: st)) := by
  subst hq
  obtain ⟨T', h', X', e', E', V', B', st'⟩ := cloneH X hx hZ hown w1 w2 w3 w4 w5 w6 eT V.arh E (g := mkF m pc Ls (.ref a :: st)) rfl hsz rfl hd hf (W := W) (cap := cap) (by show 2 * 0 + _ ≤ _; omega) hl (by simp only [Int32.toNatClampNeg]; omega) hc hs
  exact (K T' h' _ rfl X' e' E' V' B').on st'
theorem g_cast (X : Stand p l e R s m args below meth c T locs cells slots) (hx : p.tables.exec = Jvm.exec) {pc : Nat} {Ls : Array Slot} {st : List Value} (hZ : Z.Warmed39 s.vm) {own C : String} {i : Nat} (hown : s.vm.findClass own = some m.cls) (w : (Jvm.Cond.classLink own i C).before a0 Z = true) (eT : T.heap = h) {a : Addr} (F : Ins Z h a C true) (q : Nat) (hd : decode c.code pc = .ok (.checkcast i, 3)) (hq : pc + 3 = q) (K : ∀ T', Stand p l e R s m args below meth c T' locs cells slots → T'.heap = h → Go p e below Ev T' (mkF m q Ls (.ref a :: st))) : Go p e below Ev T (mkF m pc Ls (.ref a :: st)) := by
  subst hq
  obtain ⟨T', X', e', st'⟩ := castY X hx hZ hown w eT F (g := mkF m pc Ls (.ref a :: st)) rfl rfl hd
  exact (K T' X' e').on st'
end OwnKit
theorem own_pd0 : parseMethodDescriptor "(JI)J" = some ⟨[.long, .int], some .long⟩ := by decide +kernel
theorem own_pd1 : parseMethodDescriptor "([D[D)V" = some ⟨[(.array .double), (.array .double)], none⟩ := by decide +kernel
theorem own_pd2 : parseMethodDescriptor "()V" = some ⟨[], none⟩ := by decide +kernel
theorem own_pd3 : parseMethodDescriptor "()Ljava/lang/Object;" = some ⟨[], some (.object "java/lang/Object")⟩ := by decide +kernel
theorem own_pd4 : parseMethodDescriptor "([D)Z" = some ⟨[(.array .double)], some .boolean⟩ := by decide +kernel
def Q_rm0 (n0 : Nat) (v : Option Value) (h : Heap) (L : List Loc) : Prop := v = some (.int 1) ∧ Fr n0 L
theorem own_dlit {i : Int} {a : UInt64} (s : Bool) (c : Nat) (q : Int) (h : Jvm.FP.Core.val64 a = .fin s c q) (h2 : Jvm.FP.Core.signed s (c * 2 ^ q.toNat) = i * ((2 ^ (-q).toNat : Nat) : Int)) : Jvm.FP.Core.DInt i a := by
  show Jvm.FP.Core.Whole i _
  rw [h]
  exact h2
theorem own_dnn {i : Int} {a : UInt64} (h : Jvm.FP.Core.DInt i a) : Jvm.Free.Fl.NoNaN64 a := Jvm.Free.Fl.noNaN64_no.mpr ((Jvm.FP.Core.notNaN_iff a).mpr (Jvm.FP.Core.Whole.ne_nan h))
theorem own_dzero : Jvm.FP.Core.DInt 0 (0 : UInt64) := own_dlit false 0 (-1074) (by decide +kernel) (by decide +kernel)
theorem own_done : Jvm.FP.Core.DInt 1 (4607182418800017408 : UInt64) := own_dlit false (2 ^ 52) (-52) (by decide +kernel) (by decide +kernel)
theorem d1_0 : decode method_2_code 0 = .ok (.iload_n 2, 1) := by decide +kernel
theorem d1_1 : decode method_2_code 1 = .ok (.iconst 1, 1) := by decide +kernel
theorem d1_2 : decode method_2_code 2 = .ok (.iand, 1) := by decide +kernel
theorem d1_3 : decode method_2_code 3 = .ok (.ifCond .eq 17, 3) := by decide +kernel
theorem d1_6 : decode method_2_code 6 = .ok (.lload_n 0, 1) := by decide +kernel
theorem d1_7 : decode method_2_code 7 = .ok (.iload_n 2, 1) := by decide +kernel
theorem d1_8 : decode method_2_code 8 = .ok (.iconst 1, 1) := by decide +kernel
theorem d1_9 : decode method_2_code 9 = .ok (.ishr, 1) := by decide +kernel
theorem d1_10 : decode method_2_code 10 = .ok (.bipush 31, 2) := by decide +kernel
theorem d1_12 : decode method_2_code 12 = .ok (.iand, 1) := by decide +kernel
theorem d1_13 : decode method_2_code 13 = .ok (.i2l, 1) := by decide +kernel
theorem d1_14 : decode method_2_code 14 = .ok (.ladd, 1) := by decide +kernel
theorem d1_15 : decode method_2_code 15 = .ok (.ldc2_w 7, 3) := by decide +kernel
theorem d1_18 : decode method_2_code 18 = .ok (.lsub, 1) := by decide +kernel
theorem d1_19 : decode method_2_code 19 = .ok (.lreturn, 1) := by decide +kernel
theorem d1_20 : decode method_2_code 20 = .ok (.iload_n 2, 1) := by decide +kernel
theorem d1_21 : decode method_2_code 21 = .ok (.i2l, 1) := by decide +kernel
theorem d1_22 : decode method_2_code 22 = .ok (.lreturn, 1) := by decide +kernel
theorem own_pf0 : plainFor (⟨"com/example/recolecta/recolecta/BoxContainsPinLaw", "coord", "(JI)J"⟩ : MethodName) = true := plainFor_of_name (by first | (simp [plainName, overriddenIn]; done) | decide +kernel)
def Q_rm1 (n0 : Nat) (h0 : Heap) (v : Option Value) (h : Heap) (L : List Loc) : Prop := ∃ r : Int64, v = some (.long r) ∧ (-4294967296 ≤ r.toInt ∧ r.toInt ≤ 4294967296) ∧ Fr n0 L ∧ h = h0
theorem ef_rm1 (lo : Int64) (q : Int32) (m : MethodId) : entryFrame m #[(.long lo), (.int q)] 3 = mkF m 0 #[.val (.long lo), .second, .val (.int q)] [] := by first | (simp [entryFrame, mkF, argsToLocals, Value.category]; done) | rfl
set_option maxRecDepth 65536 in
set_option maxHeartbeats 40000000 in
theorem rm1 (l : Launch) (Z : State) (a0 : Array Value) (hw : ∀ d ∈ tables_1, d.before a0 Z = true) (lo : Int64) (q : Int32) (h0 : Heap) (n0 : Nat) (Z0 : n0 ≤ h0.size) (hlo : -2147483648 ≤ lo.toInt ∧ lo.toInt ≤ 2147483648) :
    MetFree l (⟨"com/example/recolecta/recolecta/BoxContainsPinLaw", "coord", "(JI)J"⟩ : MethodName) (head1 [Jvm.Cond.code (⟨"com/example/recolecta/recolecta/BoxContainsPinLaw", "coord", "(JI)J"⟩ : MethodName) method_2_code 3 (some .long)] ({ frames := 0, cells := 0, slots := 0, locals := 0 } : Room)) (fun as_ U => as_ = #[(.long lo), (.int q)] ∧ Z.Warmed39 U.vm ∧ U.heap = h0) (fun _ _ _ _ _ => True) (fun _ U o U' => ∃ v L, o = .returned v ∧ Q_rm1 n0 h0 v U'.heap L ∧ FrameEnd U o U' L ({ frames := 0, cells := 0, slots := 0, locals := 0 } : Room).cells ({ frames := 0, cells := 0, slots := 0, locals := 0 } : Room).slots) := by
  refine own_met own_pf0 (ef_rm1 lo q) ?_
  intro p e s m below meth c T0 X0 hx hby hml hret hlk hnm hown hZ e0
  have N0 := Fr.nil n0
  refine g_iloadN X0 hx 1 (hb hby d1_0) rfl rfl ?_
  refine g_iconst X0 hx (1 : Int32) 2 (hb hby d1_1) rfl (by decide) ?_
  refine g_iand X0 hx 3 (hb hby d1_2) rfl ?_
  refine g_if_eq X0 hx 20 6 (hb hby d1_3) (by decide) (by decide) rfl (fun c1 => ?_) (fun c1 => ?_)
  · skip
    refine g_iloadN X0 hx 21 (hb hby d1_20) rfl rfl ?_
    refine g_i2l X0 hx 22 (hb hby d1_21) rfl ?_
    have e1 := c_i2l q
    have e2 := rng32 q
    exact g_retJ X0 hx hlk hret (hb hby d1_22) (by decide) (by decide) e0 ⟨_, rfl, by omega, N0, rfl⟩
  · skip
    refine g_lloadN X0 hx 7 (hb hby d1_6) rfl rfl ?_
    refine g_iloadN X0 hx 8 (hb hby d1_7) rfl rfl ?_
    refine g_iconst X0 hx (1 : Int32) 9 (hb hby d1_8) rfl (by decide) ?_
    refine g_ishr X0 hx 10 (hb hby d1_9) rfl ?_
    refine g_bipush X0 hx (31 : Int32) 12 (hb hby d1_10) rfl (by decide) ?_
    refine g_iand X0 hx 13 (hb hby d1_12) rfl ?_
    refine g_i2l X0 hx 14 (hb hby d1_13) rfl ?_
    refine g_ladd X0 hx 15 (hb hby d1_14) rfl ?_
    refine g_ldc2J X0 hx 18 hZ hown (hw _ (List.mem_of_getElem? (i := 4) rfl)) (hb hby d1_15) rfl ?_
    refine g_lsub X0 hx 19 (hb hby d1_18) rfl ?_
    have e1 := c_mask (q >>> ((1 : Int32) &&& 31)) 31 5 (by decide) (by decide)
    have e2 := c_i2l ((q >>> ((1 : Int32) &&& 31)) &&& 31)
    have e3 := c_ladd lo ((q >>> ((1 : Int32) &&& 31)) &&& 31).toInt64
    have e4 := rng64 (lo + ((q >>> ((1 : Int32) &&& 31)) &&& 31).toInt64)
    have e5 := c_lsub (lo + ((q >>> ((1 : Int32) &&& 31)) &&& 31).toInt64) 8
    have e6 := rng64 (lo + ((q >>> ((1 : Int32) &&& 31)) &&& 31).toInt64 - 8)
    have l8 : (8 : Int64).toInt = 8 := by decide
    rw [l8] at e5
    exact g_retJ X0 hx hlk hret (hb hby d1_19) (by decide) (by decide) e0 ⟨_, rfl, by omega, N0, rfl⟩
theorem d2_0 : decode prog_7_method_1_code 0 = .ok (.aload_n 0, 1) := by decide +kernel
theorem d2_1 : decode prog_7_method_1_code 1 = .ok (.invokespecial 1, 3) := by decide +kernel
theorem d2_4 : decode prog_7_method_1_code 4 = .ok (.aload_n 1, 1) := by decide +kernel
theorem d2_5 : decode prog_7_method_1_code 5 = .ok (.arraylength, 1) := by decide +kernel
theorem d2_6 : decode prog_7_method_1_code 6 = .ok (.aload_n 2, 1) := by decide +kernel
theorem d2_7 : decode prog_7_method_1_code 7 = .ok (.arraylength, 1) := by decide +kernel
theorem d2_8 : decode prog_7_method_1_code 8 = .ok (.if_icmp .eq 20, 3) := by decide +kernel
theorem d2_11 : decode prog_7_method_1_code 11 = .ok (.new 7, 3) := by decide +kernel
theorem d2_14 : decode prog_7_method_1_code 14 = .ok (.dup, 1) := by decide +kernel
theorem d2_15 : decode prog_7_method_1_code 15 = .ok (.aload_n 1, 1) := by decide +kernel
theorem d2_16 : decode prog_7_method_1_code 16 = .ok (.arraylength, 1) := by decide +kernel
theorem d2_17 : decode prog_7_method_1_code 17 = .ok (.aload_n 2, 1) := by decide +kernel
theorem d2_18 : decode prog_7_method_1_code 18 = .ok (.arraylength, 1) := by decide +kernel
theorem d2_24 : decode prog_7_method_1_code 24 = .ok (.invokespecial 13, 3) := by decide +kernel
theorem d2_27 : decode prog_7_method_1_code 27 = .ok (.athrow, 1) := by decide +kernel
theorem d2_28 : decode prog_7_method_1_code 28 = .ok (.iconst 0, 1) := by decide +kernel
theorem d2_29 : decode prog_7_method_1_code 29 = .ok (.istore_n 3, 1) := by decide +kernel
theorem d2_30 : decode prog_7_method_1_code 30 = .ok (.iload_n 3, 1) := by decide +kernel
theorem d2_31 : decode prog_7_method_1_code 31 = .ok (.aload_n 1, 1) := by decide +kernel
theorem d2_32 : decode prog_7_method_1_code 32 = .ok (.arraylength, 1) := by decide +kernel
theorem d2_33 : decode prog_7_method_1_code 33 = .ok (.if_icmp .ge 41, 3) := by decide +kernel
theorem d2_36 : decode prog_7_method_1_code 36 = .ok (.aload_n 1, 1) := by decide +kernel
theorem d2_37 : decode prog_7_method_1_code 37 = .ok (.iload_n 3, 1) := by decide +kernel
theorem d2_38 : decode prog_7_method_1_code 38 = .ok (.daload, 1) := by decide +kernel
theorem d2_39 : decode prog_7_method_1_code 39 = .ok (.aload_n 2, 1) := by decide +kernel
theorem d2_40 : decode prog_7_method_1_code 40 = .ok (.iload_n 3, 1) := by decide +kernel
theorem d2_41 : decode prog_7_method_1_code 41 = .ok (.daload, 1) := by decide +kernel
theorem d2_42 : decode prog_7_method_1_code 42 = .ok (.dcmp .g, 1) := by decide +kernel
theorem d2_43 : decode prog_7_method_1_code 43 = .ok (.ifCond .le 25, 3) := by decide +kernel
theorem d2_46 : decode prog_7_method_1_code 46 = .ok (.new 7, 3) := by decide +kernel
theorem d2_49 : decode prog_7_method_1_code 49 = .ok (.dup, 1) := by decide +kernel
theorem d2_50 : decode prog_7_method_1_code 50 = .ok (.iload_n 3, 1) := by decide +kernel
theorem d2_51 : decode prog_7_method_1_code 51 = .ok (.iconst 1, 1) := by decide +kernel
theorem d2_52 : decode prog_7_method_1_code 52 = .ok (.iadd, 1) := by decide +kernel
theorem d2_53 : decode prog_7_method_1_code 53 = .ok (.aload_n 1, 1) := by decide +kernel
theorem d2_54 : decode prog_7_method_1_code 54 = .ok (.iload_n 3, 1) := by decide +kernel
theorem d2_55 : decode prog_7_method_1_code 55 = .ok (.daload, 1) := by decide +kernel
theorem d2_56 : decode prog_7_method_1_code 56 = .ok (.aload_n 2, 1) := by decide +kernel
theorem d2_57 : decode prog_7_method_1_code 57 = .ok (.iload_n 3, 1) := by decide +kernel
theorem d2_58 : decode prog_7_method_1_code 58 = .ok (.daload, 1) := by decide +kernel
theorem d2_64 : decode prog_7_method_1_code 64 = .ok (.invokespecial 13, 3) := by decide +kernel
theorem d2_67 : decode prog_7_method_1_code 67 = .ok (.athrow, 1) := by decide +kernel
theorem d2_68 : decode prog_7_method_1_code 68 = .ok (.iinc 3 1, 3) := by decide +kernel
theorem d2_71 : decode prog_7_method_1_code 71 = .ok (.goto (-41), 3) := by decide +kernel
theorem d2_74 : decode prog_7_method_1_code 74 = .ok (.aload_n 0, 1) := by decide +kernel
theorem d2_75 : decode prog_7_method_1_code 75 = .ok (.aload_n 1, 1) := by decide +kernel
theorem d2_76 : decode prog_7_method_1_code 76 = .ok (.invokevirtual 19, 3) := by decide +kernel
theorem d2_79 : decode prog_7_method_1_code 79 = .ok (.checkcast 20, 3) := by decide +kernel
theorem d2_82 : decode prog_7_method_1_code 82 = .ok (.putfield 25, 3) := by decide +kernel
theorem d2_85 : decode prog_7_method_1_code 85 = .ok (.aload_n 0, 1) := by decide +kernel
theorem d2_86 : decode prog_7_method_1_code 86 = .ok (.aload_n 2, 1) := by decide +kernel
theorem d2_87 : decode prog_7_method_1_code 87 = .ok (.invokevirtual 19, 3) := by decide +kernel
theorem d2_90 : decode prog_7_method_1_code 90 = .ok (.checkcast 20, 3) := by decide +kernel
theorem d2_93 : decode prog_7_method_1_code 93 = .ok (.putfield 30, 3) := by decide +kernel
theorem d2_96 : decode prog_7_method_1_code 96 = .ok (.return_, 1) := by decide +kernel
theorem own_pf1 : plainFor (⟨"com/example/recolecta/recolecta/Box", "<init>", "([D[D)V"⟩ : MethodName) = true := plainFor_of_name (by first | (simp [plainName, overriddenIn]; done) | decide +kernel)
def Q_rm2 (Z : State) (a : Addr) (kb kd : ClassId) (m0 m1 x0 x1 : UInt64) (n0 : Nat) (h0 : Heap) (v : Option Value) (h : Heap) (L : List Loc) : Prop := v = none ∧ Fr n0 L ∧ Keep h0 h [a] ∧ ∃ b2 d2, Fld Z h a "com/example/recolecta/recolecta/Box" "min" "[D" (.ref b2) ∧ Fld Z h a "com/example/recolecta/recolecta/Box" "max" "[D" (.ref d2) ∧ Arv Z h b2 kb .double 2 [.double m0, .double m1] (.double 0) ∧ Arv Z h d2 kd .double 2 [.double x0, .double x1] (.double 0)
theorem ef_rm2 (a b d : Addr) (m : MethodId) : entryFrame m #[(.ref a), (.ref b), (.ref d)] 4 = mkF m 0 #[.val (.ref a), .val (.ref b), .val (.ref d), .unset] [] := by first | (simp [entryFrame, mkF, argsToLocals, Value.category]; done) | rfl
set_option maxRecDepth 65536 in
set_option maxHeartbeats 40000000 in
theorem rm2 (l : Launch) (Z : State) (a0 : Array Value) (hw : ∀ d ∈ tables_1, d.before a0 Z = true) (a b d : Addr) (h0 : Heap) (n0 : Nat) (Z0 : n0 ≤ h0.size) (kb kd : ClassId) (m0 m1 x0 x1 : UInt64) (i0 i1 j0 j1 : Int) (Ea : Exa Z h0 a "com/example/recolecta/recolecta/Box") (Eb : Exa Z h0 b "[D") (Ed : Exa Z h0 d "[D") (Vb : Arv Z h0 b kb .double 2 [.double m0, .double m1] (.double 0)) (Vd : Arv Z h0 d kd .double 2 [.double x0, .double x1] (.double 0)) (ga : n0 ≤ a) (nba : b ≠ a) (nda : d ≠ a) (Fmin : Fld Z h0 a "com/example/recolecta/recolecta/Box" "min" "[D" .null) (Fmax : Fld Z h0 a "com/example/recolecta/recolecta/Box" "max" "[D" .null) (c0 : FP.dcmp m0 x0 = some (compare i0 j0)) (c1 : FP.dcmp m1 x1 = some (compare i1 j1)) (le0 : i0 ≤ j0) (le1 : i1 ≤ j1) :
    MetFree l (⟨"com/example/recolecta/recolecta/Box", "<init>", "([D[D)V"⟩ : MethodName) (head1 [Jvm.Cond.code (⟨"com/example/recolecta/recolecta/Box", "<init>", "([D[D)V"⟩ : MethodName) prog_7_method_1_code 4 none] ({ frames := 1, cells := 2, slots := 4, locals := 16 } : Room)) (fun as_ U => as_ = #[(.ref a), (.ref b), (.ref d)] ∧ Z.Warmed39 U.vm ∧ U.heap = h0) (fun _ _ _ _ _ => True) (fun _ U o U' => ∃ v L, o = .returned v ∧ Q_rm2 Z a kb kd m0 m1 x0 x1 n0 h0 v U'.heap L ∧ FrameEnd U o U' L ({ frames := 1, cells := 2, slots := 4, locals := 16 } : Room).cells ({ frames := 1, cells := 2, slots := 4, locals := 16 } : Room).slots) := by
  refine own_met own_pf1 (ef_rm2 a b d) ?_
  intro p e s m below meth c T0 X0 hx hby hml hret hlk hnm hown hZ e0
  have N0 := Fr.nil n0
  refine g_aloadN X0 hx 1 (hb hby d2_0) rfl rfl rfl ?_
  refine g_objinit X0 hx hZ hown (hw _ (List.mem_of_getElem? (i := 12) rfl)) (hw _ (List.mem_of_getElem? (i := 13) rfl)) (hw _ (List.mem_of_getElem? (i := 14) rfl)) e0 0 4 (hb hby d2_1) rfl (by rw [hml]; rfl) (by decide) (Nat.le_refl _) (by decide) ?_
  intro T2 X2 e2
  refine g_aloadN X2 hx 5 (hb hby d2_4) rfl rfl rfl ?_
  refine g_len X2 hx hZ e2 Vb 6 (hb hby d2_5) rfl ?_
  refine g_aloadN X2 hx 7 (hb hby d2_6) rfl rfl rfl ?_
  refine g_len X2 hx hZ e2 Vd 8 (hb hby d2_7) rfl ?_
  have ll4 : ((2 : Int32) : Int32).toInt = 2 := by decide
  have ll5 : ((2 : Int32) : Int32).toInt = 2 := by decide
  refine g_ic_eq X2 hx 28 11 (hb hby d2_8) (by decide) (by decide) rfl (fun c3 => ?_) (fun c3 => ?_)
  · skip
    refine g_iconst X2 hx (0 : Int32) 29 (hb hby d2_28) rfl (by decide) ?_
    refine g_istoreN (l' := #[.val (.ref a), .val (.ref b), .val (.ref d), .val (.int (0 : Int32))]) X2 hx 30 (hb hby d2_29) rfl rfl ?_
    refine g_iloadN X2 hx 31 (hb hby d2_30) rfl rfl ?_
    refine g_aloadN X2 hx 32 (hb hby d2_31) rfl rfl rfl ?_
    refine g_len X2 hx hZ e2 Vb 33 (hb hby d2_32) rfl ?_
    have ll7 : ((2 : Int32) : Int32).toInt = 2 := by decide
    have ll8 : ((0 : Int32) : Int32).toInt = 0 := by decide
    refine g_ic_ge X2 hx 74 36 (hb hby d2_33) (by decide) (by decide) rfl (fun c6 => ?_) (fun c6 => ?_)
    · skip
      exfalso; revert c6; decide
    · skip
      refine g_aloadN X2 hx 37 (hb hby d2_36) rfl rfl rfl ?_
      refine g_iloadN X2 hx 38 (hb hby d2_37) rfl rfl ?_
      refine g_daload X2 hx hZ e2 Vb (by decide) (by decide) (by rw [show ((0 : Int32) : Int32).toNatClampNeg = 0 by decide] <;> rfl) 39 (hb hby d2_38) rfl ?_
      refine g_aloadN X2 hx 40 (hb hby d2_39) rfl rfl rfl ?_
      refine g_iloadN X2 hx 41 (hb hby d2_40) rfl rfl ?_
      refine g_daload X2 hx hZ e2 Vd (by decide) (by decide) (by rw [show ((0 : Int32) : Int32).toNatClampNeg = 0 by decide] <;> rfl) 42 (hb hby d2_41) rfl ?_
      refine g_dc_le X2 hx 43 68 46 (hb hby d2_42) rfl (hb hby d2_43) (by decide) (by decide) rfl c0 (fun c9 => ?_) (fun c9 => ?_)
      · skip
        refine g_iinc (w := (1 : Int32)) (l' := #[.val (.ref a), .val (.ref b), .val (.ref d), .val (.int ((0 : Int32) + (1 : Int32)))]) X2 hx 71 (hb hby d2_68) rfl rfl (by decide) rfl ?_
        refine g_goto X2 hx 30 (hb hby d2_71) (by decide) (by decide) ?_
        refine g_iloadN X2 hx 31 (hb hby d2_30) rfl rfl ?_
        refine g_aloadN X2 hx 32 (hb hby d2_31) rfl rfl rfl ?_
        refine g_len X2 hx hZ e2 Vb 33 (hb hby d2_32) rfl ?_
        have ll11 : ((2 : Int32) : Int32).toInt = 2 := by decide
        have ll12 : (((0 : Int32) + (1 : Int32)) : Int32).toInt = 1 := by decide
        refine g_ic_ge X2 hx 74 36 (hb hby d2_33) (by decide) (by decide) rfl (fun c10 => ?_) (fun c10 => ?_)
        · skip
          exfalso; revert c10; decide
        · skip
          refine g_aloadN X2 hx 37 (hb hby d2_36) rfl rfl rfl ?_
          refine g_iloadN X2 hx 38 (hb hby d2_37) rfl rfl ?_
          refine g_daload X2 hx hZ e2 Vb (by decide) (by decide) (by rw [show (((0 : Int32) + (1 : Int32)) : Int32).toNatClampNeg = 1 by decide] <;> rfl) 39 (hb hby d2_38) rfl ?_
          refine g_aloadN X2 hx 40 (hb hby d2_39) rfl rfl rfl ?_
          refine g_iloadN X2 hx 41 (hb hby d2_40) rfl rfl ?_
          refine g_daload X2 hx hZ e2 Vd (by decide) (by decide) (by rw [show (((0 : Int32) + (1 : Int32)) : Int32).toNatClampNeg = 1 by decide] <;> rfl) 42 (hb hby d2_41) rfl ?_
          refine g_dc_le X2 hx 43 68 46 (hb hby d2_42) rfl (hb hby d2_43) (by decide) (by decide) rfl c1 (fun c13 => ?_) (fun c13 => ?_)
          · skip
            refine g_iinc (w := (1 : Int32)) (l' := #[.val (.ref a), .val (.ref b), .val (.ref d), .val (.int (((0 : Int32) + (1 : Int32)) + (1 : Int32)))]) X2 hx 71 (hb hby d2_68) rfl rfl (by decide) rfl ?_
            refine g_goto X2 hx 30 (hb hby d2_71) (by decide) (by decide) ?_
            refine g_iloadN X2 hx 31 (hb hby d2_30) rfl rfl ?_
            refine g_aloadN X2 hx 32 (hb hby d2_31) rfl rfl rfl ?_
            refine g_len X2 hx hZ e2 Vb 33 (hb hby d2_32) rfl ?_
            have ll15 : ((2 : Int32) : Int32).toInt = 2 := by decide
            have ll16 : ((((0 : Int32) + (1 : Int32)) + (1 : Int32)) : Int32).toInt = 2 := by decide
            refine g_ic_ge X2 hx 74 36 (hb hby d2_33) (by decide) (by decide) rfl (fun c14 => ?_) (fun c14 => ?_)
            · skip
              refine g_aloadN X2 hx 75 (hb hby d2_74) rfl rfl rfl ?_
              refine g_aloadN X2 hx 76 (hb hby d2_75) rfl rfl rfl ?_
              refine g_clone X2 hx hZ hown (hw _ (List.mem_of_getElem? (i := 15) rfl)) (hw _ (List.mem_of_getElem? (i := 16) rfl)) (hw _ (List.mem_of_getElem? (i := 20) rfl)) (hw _ (List.mem_of_getElem? (i := 18) rfl)) (hw _ (List.mem_of_getElem? (i := 19) rfl)) (hw _ (List.mem_of_getElem? (i := 21) rfl)) e2 Vb Eb 1 2 79 (hb hby d2_76) rfl (by rw [hml]; rfl) (by decide) (Nat.le_refl _) (by decide) (by decide) (by decide) (by decide) ?_
              intro T17 h17 a17 g17 X17 e17 E17 V17 A17
              have ne18 : a ≠ a17 := Nat.ne_of_lt (by rw [g17]; exact Ea.lt)
              have ne19 : b ≠ a17 := Nat.ne_of_lt (by rw [g17]; exact Eb.lt)
              have ne20 : d ≠ a17 := Nat.ne_of_lt (by rw [g17]; exact Ed.lt)
              have ge21 : n0 ≤ a17 := by rw [g17]; exact Z0
              have sz22 : h0.size ≤ a17 := by rw [g17]; exact (Keep.refl h0 [a]).1
              have F23 := Ea.ext E17
              have F24 := Eb.ext E17
              have F25 := Ed.ext E17
              have F26 := Vb.ext E17
              have F27 := Vd.ext E17
              have F28 := Fmin.ext E17
              have F29 := Fmax.ext E17
              have K30 := (Keep.refl h0 [a]).ext E17
              have Z31 : n0 ≤ h17.size := Nat.le_trans Z0 E17.1
              refine g_cast X17 hx hZ hown (hw _ (List.mem_of_getElem? (i := 22) rfl)) e17 (Ins.self A17) 82 (hb hby d2_79) rfl ?_
              intro T32 X32 e32
              refine g_putF X32 hx hZ hown (hw _ (List.mem_of_getElem? (i := 24) rfl)) Via.refl e32 F28 F23 (Or.inr ⟨(hw _ (List.mem_of_getElem? (i := 25) rfl)), rfl, hnm⟩) (hw _ (List.mem_of_getElem? (i := 7) rfl)) (ty := (.array .double)) (by decide) rfl rfl 85 (hb hby d2_82) rfl ?_
              intro T33 h33 X33 e33 W33
              have F34 : Fld Z h33 a "com/example/recolecta/recolecta/Box" "min" "[D" (.ref a17) := F28.same W33
              have F35 := F23.wr W33
              have F36 := F24.wr W33
              have F37 := F25.wr W33
              have F38 := F26.other W33 nba
              have F39 := F27.other W33 nda
              have F40 := F29.other W33 (Or.inr (slot_ne (Or.inr (hw _ (List.mem_of_getElem? (i := 27) rfl))) (Or.inr (hw _ (List.mem_of_getElem? (i := 25) rfl))) (by decide) (t := (.array .double)) (t' := (.array .double)) (by decide) (by decide)))
              have F41 := A17.wr W33
              have F42 := V17.other W33 (Ne.symm ne18)
              have K43 := K30.wr W33 (Or.inl (List.mem_of_getElem? (i := 0) rfl))
              have N44 := Fr.snoc X33 N0 ga
              have Z45 : n0 ≤ h33.size := by rw [W33.size]; exact Z31
              refine g_aloadN X33 hx 86 (hb hby d2_85) rfl rfl rfl ?_
              refine g_aloadN X33 hx 87 (hb hby d2_86) rfl rfl rfl ?_
              refine g_clone X33 hx hZ hown (hw _ (List.mem_of_getElem? (i := 15) rfl)) (hw _ (List.mem_of_getElem? (i := 16) rfl)) (hw _ (List.mem_of_getElem? (i := 20) rfl)) (hw _ (List.mem_of_getElem? (i := 18) rfl)) (hw _ (List.mem_of_getElem? (i := 19) rfl)) (hw _ (List.mem_of_getElem? (i := 21) rfl)) e33 F39 F37 1 2 90 (hb hby d2_87) rfl (by rw [hml]; rfl) (by decide) (Nat.le_refl _) (by decide) (by decide) (by decide) (by decide) ?_
              intro T46 h46 a46 g46 X46 e46 E46 V46 A46
              have ne47 : a ≠ a46 := Nat.ne_of_lt (by rw [g46]; exact F35.lt)
              have ne48 : b ≠ a46 := Nat.ne_of_lt (by rw [g46]; exact F36.lt)
              have ne49 : d ≠ a46 := Nat.ne_of_lt (by rw [g46]; exact F37.lt)
              have ne50 : a17 ≠ a46 := Nat.ne_of_lt (by rw [g46]; exact F41.lt)
              have ge51 : n0 ≤ a46 := by rw [g46]; exact Z45
              have sz52 : h0.size ≤ a46 := by rw [g46]; exact K43.1
              have F53 := F35.ext E46
              have F54 := F36.ext E46
              have F55 := F37.ext E46
              have F56 := F38.ext E46
              have F57 := F39.ext E46
              have F58 := F40.ext E46
              have F59 := F41.ext E46
              have F60 := F42.ext E46
              have F61 := F34.ext E46
              have K62 := K43.ext E46
              have Z63 : n0 ≤ h46.size := Nat.le_trans Z45 E46.1
              refine g_cast X46 hx hZ hown (hw _ (List.mem_of_getElem? (i := 22) rfl)) e46 (Ins.self A46) 93 (hb hby d2_90) rfl ?_
              intro T64 X64 e64
              refine g_putF X64 hx hZ hown (hw _ (List.mem_of_getElem? (i := 26) rfl)) Via.refl e64 F58 F53 (Or.inr ⟨(hw _ (List.mem_of_getElem? (i := 27) rfl)), rfl, hnm⟩) (hw _ (List.mem_of_getElem? (i := 7) rfl)) (ty := (.array .double)) (by decide) rfl rfl 96 (hb hby d2_93) rfl ?_
              intro T65 h65 X65 e65 W65
              have F66 : Fld Z h65 a "com/example/recolecta/recolecta/Box" "max" "[D" (.ref a46) := F58.same W65
              have F67 := F53.wr W65
              have F68 := F54.wr W65
              have F69 := F55.wr W65
              have F70 := F56.other W65 nba
              have F71 := F57.other W65 nda
              have F72 := F59.wr W65
              have F73 := F60.other W65 (Ne.symm ne18)
              have F74 := F61.other W65 (Or.inr (slot_ne (Or.inr (hw _ (List.mem_of_getElem? (i := 25) rfl))) (Or.inr (hw _ (List.mem_of_getElem? (i := 27) rfl))) (by decide) (t := (.array .double)) (t' := (.array .double)) (by decide) (by decide)))
              have F75 := A46.wr W65
              have F76 := V46.other W65 (Ne.symm ne47)
              have K77 := K62.wr W65 (Or.inl (List.mem_of_getElem? (i := 0) rfl))
              have N78 := Fr.snoc X65 N44 ga
              have Z79 : n0 ≤ h65.size := by rw [W65.size]; exact Z63
              exact g_retV X65 hx hlk hret (hb hby d2_96) (by decide) (by decide) e65 ⟨rfl, N78, K77, _, _, F74, F66, F73, F76⟩
            · skip
              exfalso; revert c14; decide
          · skip
            exfalso; omega
      · skip
        exfalso; omega
  · skip
    exact absurd rfl c3
theorem d4_0 : decode prog_7_method_3_code 0 = .ok (.iconst 0, 1) := by decide +kernel
theorem d4_1 : decode prog_7_method_3_code 1 = .ok (.istore_n 2, 1) := by decide +kernel
theorem d4_2 : decode prog_7_method_3_code 2 = .ok (.iload_n 2, 1) := by decide +kernel
theorem d4_3 : decode prog_7_method_3_code 3 = .ok (.aload_n 0, 1) := by decide +kernel
theorem d4_4 : decode prog_7_method_3_code 4 = .ok (.getfield 25, 3) := by decide +kernel
theorem d4_7 : decode prog_7_method_3_code 7 = .ok (.arraylength, 1) := by decide +kernel
theorem d4_8 : decode prog_7_method_3_code 8 = .ok (.if_icmp .ge 37, 3) := by decide +kernel
theorem d4_11 : decode prog_7_method_3_code 11 = .ok (.aload_n 1, 1) := by decide +kernel
theorem d4_12 : decode prog_7_method_3_code 12 = .ok (.iload_n 2, 1) := by decide +kernel
theorem d4_13 : decode prog_7_method_3_code 13 = .ok (.daload, 1) := by decide +kernel
theorem d4_14 : decode prog_7_method_3_code 14 = .ok (.aload_n 0, 1) := by decide +kernel
theorem d4_15 : decode prog_7_method_3_code 15 = .ok (.getfield 25, 3) := by decide +kernel
theorem d4_18 : decode prog_7_method_3_code 18 = .ok (.iload_n 2, 1) := by decide +kernel
theorem d4_19 : decode prog_7_method_3_code 19 = .ok (.daload, 1) := by decide +kernel
theorem d4_20 : decode prog_7_method_3_code 20 = .ok (.dcmp .l, 1) := by decide +kernel
theorem d4_21 : decode prog_7_method_3_code 21 = .ok (.ifCond .lt 16, 3) := by decide +kernel
theorem d4_24 : decode prog_7_method_3_code 24 = .ok (.aload_n 1, 1) := by decide +kernel
theorem d4_25 : decode prog_7_method_3_code 25 = .ok (.iload_n 2, 1) := by decide +kernel
theorem d4_26 : decode prog_7_method_3_code 26 = .ok (.daload, 1) := by decide +kernel
theorem d4_27 : decode prog_7_method_3_code 27 = .ok (.aload_n 0, 1) := by decide +kernel
theorem d4_28 : decode prog_7_method_3_code 28 = .ok (.getfield 30, 3) := by decide +kernel
theorem d4_31 : decode prog_7_method_3_code 31 = .ok (.iload_n 2, 1) := by decide +kernel
theorem d4_32 : decode prog_7_method_3_code 32 = .ok (.daload, 1) := by decide +kernel
theorem d4_33 : decode prog_7_method_3_code 33 = .ok (.dcmp .g, 1) := by decide +kernel
theorem d4_34 : decode prog_7_method_3_code 34 = .ok (.ifCond .le 5, 3) := by decide +kernel
theorem d4_37 : decode prog_7_method_3_code 37 = .ok (.iconst 0, 1) := by decide +kernel
theorem d4_38 : decode prog_7_method_3_code 38 = .ok (.ireturn, 1) := by decide +kernel
theorem d4_39 : decode prog_7_method_3_code 39 = .ok (.iinc 2 1, 3) := by decide +kernel
theorem d4_42 : decode prog_7_method_3_code 42 = .ok (.goto (-40), 3) := by decide +kernel
theorem d4_45 : decode prog_7_method_3_code 45 = .ok (.iconst 1, 1) := by decide +kernel
theorem d4_46 : decode prog_7_method_3_code 46 = .ok (.ireturn, 1) := by decide +kernel
theorem own_pf2 : plainFor (⟨"com/example/recolecta/recolecta/Box", "contains", "([D)Z"⟩ : MethodName) = true := plainFor_of_name (by first | (simp [plainName, overriddenIn]; done) | decide +kernel)
def Q_rm4 (i0 i1 j0 j1 k0 k1 : Int) (n0 : Nat) (h0 : Heap) (v : Option Value) (h : Heap) (L : List Loc) : Prop := v = some (.int (if i0 ≤ k0 ∧ k0 ≤ j0 ∧ i1 ≤ k1 ∧ k1 ≤ j1 then 1 else 0)) ∧ Fr n0 L ∧ h = h0
theorem ef_rm4 (a g : Addr) (m : MethodId) : entryFrame m #[(.ref a), (.ref g)] 3 = mkF m 0 #[.val (.ref a), .val (.ref g), .unset] [] := by first | (simp [entryFrame, mkF, argsToLocals, Value.category]; done) | rfl
set_option maxRecDepth 65536 in
set_option maxHeartbeats 40000000 in
theorem rm4 (l : Launch) (Z : State) (a0 : Array Value) (hw : ∀ d ∈ tables_1, d.before a0 Z = true) (a g : Addr) (h0 : Heap) (n0 : Nat) (Z0 : n0 ≤ h0.size) (b d : Addr) (kb kd kg : ClassId) (m0 m1 x0 x1 q0 q1 : UInt64) (i0 i1 j0 j1 k0 k1 : Int) (Vb : Arv Z h0 b kb .double 2 [.double m0, .double m1] (.double 0)) (Vd : Arv Z h0 d kd .double 2 [.double x0, .double x1] (.double 0)) (Vg : Arv Z h0 g kg .double 2 [.double q0, .double q1] (.double 0)) (Fmin : Fld Z h0 a "com/example/recolecta/recolecta/Box" "min" "[D" (.ref b)) (Fmax : Fld Z h0 a "com/example/recolecta/recolecta/Box" "max" "[D" (.ref d)) (cm0 : FP.dcmp q0 m0 = some (compare k0 i0)) (cx0 : FP.dcmp q0 x0 = some (compare k0 j0)) (cm1 : FP.dcmp q1 m1 = some (compare k1 i1)) (cx1 : FP.dcmp q1 x1 = some (compare k1 j1)) :
    MetFree l (⟨"com/example/recolecta/recolecta/Box", "contains", "([D)Z"⟩ : MethodName) (head1 [Jvm.Cond.code (⟨"com/example/recolecta/recolecta/Box", "contains", "([D)Z"⟩ : MethodName) prog_7_method_3_code 3 (some .boolean)] ({ frames := 0, cells := 0, slots := 0, locals := 0 } : Room)) (fun as_ U => as_ = #[(.ref a), (.ref g)] ∧ Z.Warmed39 U.vm ∧ U.heap = h0) (fun _ _ _ _ _ => True) (fun _ U o U' => ∃ v L, o = .returned v ∧ Q_rm4 i0 i1 j0 j1 k0 k1 n0 h0 v U'.heap L ∧ FrameEnd U o U' L ({ frames := 0, cells := 0, slots := 0, locals := 0 } : Room).cells ({ frames := 0, cells := 0, slots := 0, locals := 0 } : Room).slots) := by
  refine own_met own_pf2 (ef_rm4 a g) ?_
  intro p e s m below meth c T0 X0 hx hby hml hret hlk hnm hown hZ e0
  have N0 := Fr.nil n0
  refine g_iconst X0 hx (0 : Int32) 1 (hb hby d4_0) rfl (by decide) ?_
  refine g_istoreN (l' := #[.val (.ref a), .val (.ref g), .val (.int (0 : Int32))]) X0 hx 2 (hb hby d4_1) rfl rfl ?_
  refine g_iloadN X0 hx 3 (hb hby d4_2) rfl rfl ?_
  refine g_aloadN X0 hx 4 (hb hby d4_3) rfl rfl rfl ?_
  refine g_getF X0 hx hZ hown (hw _ (List.mem_of_getElem? (i := 24) rfl)) Via.refl e0 Fmin 7 (hb hby d4_4) rfl ?_
  intro T80 X80 e80
  refine g_len X80 hx hZ e80 Vb 8 (hb hby d4_7) rfl ?_
  have ll82 : ((2 : Int32) : Int32).toInt = 2 := by decide
  have ll83 : ((0 : Int32) : Int32).toInt = 0 := by decide
  refine g_ic_ge X80 hx 45 11 (hb hby d4_8) (by decide) (by decide) rfl (fun c81 => ?_) (fun c81 => ?_)
  · skip
    exfalso; revert c81; decide
  · skip
    refine g_aloadN X80 hx 12 (hb hby d4_11) rfl rfl rfl ?_
    refine g_iloadN X80 hx 13 (hb hby d4_12) rfl rfl ?_
    refine g_daload X80 hx hZ e80 Vg (by decide) (by decide) (by rw [show ((0 : Int32) : Int32).toNatClampNeg = 0 by decide] <;> rfl) 14 (hb hby d4_13) rfl ?_
    refine g_aloadN X80 hx 15 (hb hby d4_14) rfl rfl rfl ?_
    refine g_getF X80 hx hZ hown (hw _ (List.mem_of_getElem? (i := 24) rfl)) Via.refl e80 Fmin 18 (hb hby d4_15) rfl ?_
    intro T84 X84 e84
    refine g_iloadN X84 hx 19 (hb hby d4_18) rfl rfl ?_
    refine g_daload X84 hx hZ e84 Vb (by decide) (by decide) (by rw [show ((0 : Int32) : Int32).toNatClampNeg = 0 by decide] <;> rfl) 20 (hb hby d4_19) rfl ?_
    refine g_dc_lt X84 hx 21 37 24 (hb hby d4_20) rfl (hb hby d4_21) (by decide) (by decide) rfl cm0 (fun c85 => ?_) (fun c85 => ?_)
    · skip
      refine g_iconst X84 hx (0 : Int32) 38 (hb hby d4_37) rfl (by decide) ?_
      exact g_retZ X84 hx hlk hret (hb hby d4_38) (by decide) (by decide) e84 ⟨by rw [if_neg (by omega)]; rfl, N0, rfl⟩
    · skip
      refine g_aloadN X84 hx 25 (hb hby d4_24) rfl rfl rfl ?_
      refine g_iloadN X84 hx 26 (hb hby d4_25) rfl rfl ?_
      refine g_daload X84 hx hZ e84 Vg (by decide) (by decide) (by rw [show ((0 : Int32) : Int32).toNatClampNeg = 0 by decide] <;> rfl) 27 (hb hby d4_26) rfl ?_
      refine g_aloadN X84 hx 28 (hb hby d4_27) rfl rfl rfl ?_
      refine g_getF X84 hx hZ hown (hw _ (List.mem_of_getElem? (i := 26) rfl)) Via.refl e84 Fmax 31 (hb hby d4_28) rfl ?_
      intro T86 X86 e86
      refine g_iloadN X86 hx 32 (hb hby d4_31) rfl rfl ?_
      refine g_daload X86 hx hZ e86 Vd (by decide) (by decide) (by rw [show ((0 : Int32) : Int32).toNatClampNeg = 0 by decide] <;> rfl) 33 (hb hby d4_32) rfl ?_
      refine g_dc_le X86 hx 34 39 37 (hb hby d4_33) rfl (hb hby d4_34) (by decide) (by decide) rfl cx0 (fun c87 => ?_) (fun c87 => ?_)
      · skip
        refine g_iinc (w := (1 : Int32)) (l' := #[.val (.ref a), .val (.ref g), .val (.int ((0 : Int32) + (1 : Int32)))]) X86 hx 42 (hb hby d4_39) rfl rfl (by decide) rfl ?_
        refine g_goto X86 hx 2 (hb hby d4_42) (by decide) (by decide) ?_
        refine g_iloadN X86 hx 3 (hb hby d4_2) rfl rfl ?_
        refine g_aloadN X86 hx 4 (hb hby d4_3) rfl rfl rfl ?_
        refine g_getF X86 hx hZ hown (hw _ (List.mem_of_getElem? (i := 24) rfl)) Via.refl e86 Fmin 7 (hb hby d4_4) rfl ?_
        intro T88 X88 e88
        refine g_len X88 hx hZ e88 Vb 8 (hb hby d4_7) rfl ?_
        have ll90 : ((2 : Int32) : Int32).toInt = 2 := by decide
        have ll91 : (((0 : Int32) + (1 : Int32)) : Int32).toInt = 1 := by decide
        refine g_ic_ge X88 hx 45 11 (hb hby d4_8) (by decide) (by decide) rfl (fun c89 => ?_) (fun c89 => ?_)
        · skip
          exfalso; revert c89; decide
        · skip
          refine g_aloadN X88 hx 12 (hb hby d4_11) rfl rfl rfl ?_
          refine g_iloadN X88 hx 13 (hb hby d4_12) rfl rfl ?_
          refine g_daload X88 hx hZ e88 Vg (by decide) (by decide) (by rw [show (((0 : Int32) + (1 : Int32)) : Int32).toNatClampNeg = 1 by decide] <;> rfl) 14 (hb hby d4_13) rfl ?_
          refine g_aloadN X88 hx 15 (hb hby d4_14) rfl rfl rfl ?_
          refine g_getF X88 hx hZ hown (hw _ (List.mem_of_getElem? (i := 24) rfl)) Via.refl e88 Fmin 18 (hb hby d4_15) rfl ?_
          intro T92 X92 e92
          refine g_iloadN X92 hx 19 (hb hby d4_18) rfl rfl ?_
          refine g_daload X92 hx hZ e92 Vb (by decide) (by decide) (by rw [show (((0 : Int32) + (1 : Int32)) : Int32).toNatClampNeg = 1 by decide] <;> rfl) 20 (hb hby d4_19) rfl ?_
          refine g_dc_lt X92 hx 21 37 24 (hb hby d4_20) rfl (hb hby d4_21) (by decide) (by decide) rfl cm1 (fun c93 => ?_) (fun c93 => ?_)
          · skip
            refine g_iconst X92 hx (0 : Int32) 38 (hb hby d4_37) rfl (by decide) ?_
            exact g_retZ X92 hx hlk hret (hb hby d4_38) (by decide) (by decide) e92 ⟨by rw [if_neg (by omega)]; rfl, N0, rfl⟩
          · skip
            refine g_aloadN X92 hx 25 (hb hby d4_24) rfl rfl rfl ?_
            refine g_iloadN X92 hx 26 (hb hby d4_25) rfl rfl ?_
            refine g_daload X92 hx hZ e92 Vg (by decide) (by decide) (by rw [show (((0 : Int32) + (1 : Int32)) : Int32).toNatClampNeg = 1 by decide] <;> rfl) 27 (hb hby d4_26) rfl ?_
            refine g_aloadN X92 hx 28 (hb hby d4_27) rfl rfl rfl ?_
            refine g_getF X92 hx hZ hown (hw _ (List.mem_of_getElem? (i := 26) rfl)) Via.refl e92 Fmax 31 (hb hby d4_28) rfl ?_
            intro T94 X94 e94
            refine g_iloadN X94 hx 32 (hb hby d4_31) rfl rfl ?_
            refine g_daload X94 hx hZ e94 Vd (by decide) (by decide) (by rw [show (((0 : Int32) + (1 : Int32)) : Int32).toNatClampNeg = 1 by decide] <;> rfl) 33 (hb hby d4_32) rfl ?_
            refine g_dc_le X94 hx 34 39 37 (hb hby d4_33) rfl (hb hby d4_34) (by decide) (by decide) rfl cx1 (fun c95 => ?_) (fun c95 => ?_)
            · skip
              refine g_iinc (w := (1 : Int32)) (l' := #[.val (.ref a), .val (.ref g), .val (.int (((0 : Int32) + (1 : Int32)) + (1 : Int32)))]) X94 hx 42 (hb hby d4_39) rfl rfl (by decide) rfl ?_
              refine g_goto X94 hx 2 (hb hby d4_42) (by decide) (by decide) ?_
              refine g_iloadN X94 hx 3 (hb hby d4_2) rfl rfl ?_
              refine g_aloadN X94 hx 4 (hb hby d4_3) rfl rfl rfl ?_
              refine g_getF X94 hx hZ hown (hw _ (List.mem_of_getElem? (i := 24) rfl)) Via.refl e94 Fmin 7 (hb hby d4_4) rfl ?_
              intro T96 X96 e96
              refine g_len X96 hx hZ e96 Vb 8 (hb hby d4_7) rfl ?_
              have ll98 : ((2 : Int32) : Int32).toInt = 2 := by decide
              have ll99 : ((((0 : Int32) + (1 : Int32)) + (1 : Int32)) : Int32).toInt = 2 := by decide
              refine g_ic_ge X96 hx 45 11 (hb hby d4_8) (by decide) (by decide) rfl (fun c97 => ?_) (fun c97 => ?_)
              · skip
                refine g_iconst X96 hx (1 : Int32) 46 (hb hby d4_45) rfl (by decide) ?_
                exact g_retZ X96 hx hlk hret (hb hby d4_46) (by decide) (by decide) e96 ⟨by rw [if_pos (by omega)]; rfl, N0, rfl⟩
              · skip
                exfalso; revert c97; decide
            · skip
              refine g_iconst X94 hx (0 : Int32) 38 (hb hby d4_37) rfl (by decide) ?_
              exact g_retZ X94 hx hlk hret (hb hby d4_38) (by decide) (by decide) e94 ⟨by rw [if_neg (by omega)]; rfl, N0, rfl⟩
      · skip
        refine g_iconst X86 hx (0 : Int32) 38 (hb hby d4_37) rfl (by decide) ?_
        exact g_retZ X86 hx hlk hret (hb hby d4_38) (by decide) (by decide) e86 ⟨by rw [if_neg (by omega)]; rfl, N0, rfl⟩
theorem own_lo {p : Int32} {lo : Int64} (h : p.toInt64 = lo) : -2147483648 ≤ lo.toInt ∧ lo.toInt ≤ 2147483648 := by
  have e1 := c_i2l p; have e2 := rng32 p
  rw [h] at e1
  omega
theorem own_hi {q : Int32} {lo hi : Int64} (h : -2147483648 ≤ lo.toInt ∧ lo.toInt ≤ 2147483648) (h2 : lo + (q &&& (15 : Int32)).toInt64 = hi) : lo.toInt ≤ hi.toInt ∧ hi.toInt ≤ 4294967296 := by
  have e3 := c_mask q 15 4 (by decide) (by decide)
  have e4 := c_i2l (q &&& 15)
  have e5 := c_ladd lo (q &&& 15).toInt64
  have e8 := rng64 hi
  rw [h2] at e5
  omega
theorem own_cmp {x y : Int64} (hx : -4294967296 ≤ x.toInt ∧ x.toInt ≤ 4294967296) (hy : -4294967296 ≤ y.toInt ∧ y.toInt ≤ 4294967296) : FP.dcmp (FP.l2d x) (FP.l2d y) = some (compare x.toInt y.toInt) := Jvm.FP.Core.dcmp_int (Jvm.FP.Core.l2d_int (by omega)) (Jvm.FP.Core.l2d_int (by omega))
theorem own_pfx : plainFor x = true := plainFor_of_name (show plainName "com/example/recolecta/recolecta/BoxContainsPinLaw" = true by first | (simp [plainName, overriddenIn]; done) | decide +kernel)
theorem ef_rm0 (p0 : Int32) (p1 : Int32) (p2 : Int32) (p3 : Int32) (p4 : Int32) (p5 : Int32) (m : MethodId) : entryFrame m #[(.int p0), (.int p1), (.int p2), (.int p3), (.int p4), (.int p5)] maxLocals = mkF m 0 #[.val (.int p0), .val (.int p1), .val (.int p2), .val (.int p3), .val (.int p4), .val (.int p5), .unset, .unset, .unset, .unset, .unset, .unset, .unset, .unset, .unset, .unset, .unset, .unset, .unset, .unset, .unset, .unset, .unset] [] := by first | (simp [entryFrame, mkF, argsToLocals, Value.category, maxLocals]; done) | rfl
set_option maxRecDepth 65536 in
set_option maxHeartbeats 40000000 in
theorem rm0 (l : Launch) (Z : State) (a0 : Array Value) (hw : ∀ d ∈ tables_1, d.before a0 Z = true) (ws : List Jvm.Cond) (p0 : Int32) (p1 : Int32) (p2 : Int32) (p3 : Int32) (p4 : Int32) (p5 : Int32) (h0 : Heap) (n0 : Nat) (Z0 : n0 ≤ h0.size)  :
    MetFree l x (head1 (Jvm.Cond.code x code maxLocals ret :: ws) room_1) (fun as_ U => as_ = #[(.int p0), (.int p1), (.int p2), (.int p3), (.int p4), (.int p5)] ∧ Z.Warmed39 U.vm ∧ U.heap = h0) (fun _ _ _ _ _ => True) (fun _ U o U' => ∃ v L, o = .returned v ∧ Q_rm0 n0 v U'.heap L ∧ FrameEnd U o U' L 24 128) := by
  refine own_met own_pfx (ef_rm0 p0 p1 p2 p3 p4 p5) ?_
  intro p e s m below meth c T0 X0 hx hby hml hret hlk hnm hown hZ e0
  have N0 := Fr.nil n0
  refine g_iloadN X0 hx 1 (hb hby at_0) rfl rfl ?_
  refine g_i2l X0 hx 2 (hb hby at_1) rfl ?_
  refine g_lstore (l' := #[.val (.int p0), .val (.int p1), .val (.int p2), .val (.int p3), .val (.int p4), .val (.int p5), .val (.long (p0.toInt64)), .second, .unset, .unset, .unset, .unset, .unset, .unset, .unset, .unset, .unset, .unset, .unset, .unset, .unset, .unset, .unset]) X0 hx 4 (hb hby at_2) rfl rfl ?_
  refine g_iloadN X0 hx 5 (hb hby at_4) rfl rfl ?_
  refine g_i2l X0 hx 6 (hb hby at_5) rfl ?_
  refine g_lstore (l' := #[.val (.int p0), .val (.int p1), .val (.int p2), .val (.int p3), .val (.int p4), .val (.int p5), .val (.long (p0.toInt64)), .second, .val (.long (p1.toInt64)), .second, .unset, .unset, .unset, .unset, .unset, .unset, .unset, .unset, .unset, .unset, .unset, .unset, .unset]) X0 hx 8 (hb hby at_6) rfl rfl ?_
  refine g_lload X0 hx 10 (hb hby at_8) rfl rfl ?_
  refine g_iloadN X0 hx 11 (hb hby at_10) rfl rfl ?_
  refine g_bipush X0 hx (15 : Int32) 13 (hb hby at_11) rfl (by decide) ?_
  refine g_iand X0 hx 14 (hb hby at_13) rfl ?_
  refine g_i2l X0 hx 15 (hb hby at_14) rfl ?_
  refine g_ladd X0 hx 16 (hb hby at_15) rfl ?_
  refine g_lstore (l' := #[.val (.int p0), .val (.int p1), .val (.int p2), .val (.int p3), .val (.int p4), .val (.int p5), .val (.long (p0.toInt64)), .second, .val (.long (p1.toInt64)), .second, .val (.long ((p0.toInt64) + ((p2 &&& (15 : Int32)).toInt64))), .second, .unset, .unset, .unset, .unset, .unset, .unset, .unset, .unset, .unset, .unset, .unset]) X0 hx 18 (hb hby at_16) rfl rfl ?_
  refine g_lload X0 hx 20 (hb hby at_18) rfl rfl ?_
  refine g_iloadN X0 hx 21 (hb hby at_20) rfl rfl ?_
  refine g_bipush X0 hx (15 : Int32) 23 (hb hby at_21) rfl (by decide) ?_
  refine g_iand X0 hx 24 (hb hby at_23) rfl ?_
  refine g_i2l X0 hx 25 (hb hby at_24) rfl ?_
  refine g_ladd X0 hx 26 (hb hby at_25) rfl ?_
  refine g_lstore (l' := #[.val (.int p0), .val (.int p1), .val (.int p2), .val (.int p3), .val (.int p4), .val (.int p5), .val (.long (p0.toInt64)), .second, .val (.long (p1.toInt64)), .second, .val (.long ((p0.toInt64) + ((p2 &&& (15 : Int32)).toInt64))), .second, .val (.long ((p1.toInt64) + ((p3 &&& (15 : Int32)).toInt64))), .second, .unset, .unset, .unset, .unset, .unset, .unset, .unset, .unset, .unset]) X0 hx 28 (hb hby at_26) rfl rfl ?_
  generalize hlo0 : (p0.toInt64) = lo0
  generalize hlo1 : (p1.toInt64) = lo1
  generalize hhi0 : (lo0 + ((p2 &&& (15 : Int32)).toInt64)) = hi0
  generalize hhi1 : (lo1 + ((p3 &&& (15 : Int32)).toInt64)) = hi1
  have B0 := own_lo hlo0
  have B1 := own_lo hlo1
  have B2 := own_hi B0 hhi0
  have B3 := own_hi B1 hhi1
  refine g_lload X0 hx 30 (hb hby at_28) rfl rfl ?_
  refine g_iload X0 hx 32 (hb hby at_30) rfl rfl ?_
  refine g_static X0 hx hZ hown (hw _ (List.mem_of_getElem? (i := 0) rfl)) (hw _ (List.mem_of_getElem? (i := 1) rfl)) (hw _ (List.mem_of_getElem? (i := 2) rfl)) (hw _ (List.mem_of_getElem? (i := 3) rfl)) (by decide) (rm1 l Z a0 hw lo0 p4 h0 n0 Z0 B0) e0 (argsL := [(.long lo0), (.int p4)]) (rest := []) rfl rfl 0 35 rfl (by rw [hml]; rfl) (lenOf own_pd0 rfl) (Nat.le_refl _) (by decide) (by decide) (by decide) (by decide) (hb hby at_32) ?_
  intro v100 T100 L100 X100 hQ100
  obtain ⟨t0, rfl, bt0, N100, q100⟩ := hQ100
  have N101 := Fr.app N0 N100
  show Go p e below _ T100 (mkF m 35 #[.val (.int p0), .val (.int p1), .val (.int p2), .val (.int p3), .val (.int p4), .val (.int p5), .val (.long lo0), .second, .val (.long lo1), .second, .val (.long hi0), .second, .val (.long hi1), .second, .unset, .unset, .unset, .unset, .unset, .unset, .unset, .unset, .unset] [(.long t0)])
  refine g_lstore (l' := #[.val (.int p0), .val (.int p1), .val (.int p2), .val (.int p3), .val (.int p4), .val (.int p5), .val (.long lo0), .second, .val (.long lo1), .second, .val (.long hi0), .second, .val (.long hi1), .second, .val (.long t0), .second, .unset, .unset, .unset, .unset, .unset, .unset, .unset]) X100 hx 37 (hb hby at_35) rfl rfl ?_
  refine g_lload X100 hx 39 (hb hby at_37) rfl rfl ?_
  refine g_iload X100 hx 41 (hb hby at_39) rfl rfl ?_
  refine g_static X100 hx hZ hown (hw _ (List.mem_of_getElem? (i := 0) rfl)) (hw _ (List.mem_of_getElem? (i := 1) rfl)) (hw _ (List.mem_of_getElem? (i := 2) rfl)) (hw _ (List.mem_of_getElem? (i := 3) rfl)) (by decide) (rm1 l Z a0 hw lo1 p5 h0 n0 Z0 B1) q100 (argsL := [(.long lo1), (.int p5)]) (rest := []) rfl rfl 0 44 rfl (by rw [hml]; rfl) (lenOf own_pd0 rfl) (Nat.le_refl _) (by decide) (by decide) (by decide) (by decide) (hb hby at_41) ?_
  intro v102 T102 L102 X102 hQ102
  obtain ⟨t1, rfl, bt1, N102, q102⟩ := hQ102
  have N103 := Fr.app N101 N102
  show Go p e below _ T102 (mkF m 44 #[.val (.int p0), .val (.int p1), .val (.int p2), .val (.int p3), .val (.int p4), .val (.int p5), .val (.long lo0), .second, .val (.long lo1), .second, .val (.long hi0), .second, .val (.long hi1), .second, .val (.long t0), .second, .unset, .unset, .unset, .unset, .unset, .unset, .unset] [(.long t1)])
  refine g_lstore (l' := #[.val (.int p0), .val (.int p1), .val (.int p2), .val (.int p3), .val (.int p4), .val (.int p5), .val (.long lo0), .second, .val (.long lo1), .second, .val (.long hi0), .second, .val (.long hi1), .second, .val (.long t0), .second, .val (.long t1), .second, .unset, .unset, .unset, .unset, .unset]) X102 hx 46 (hb hby at_44) rfl rfl ?_
  refine g_iconst X102 hx (2 : Int32) 47 (hb hby at_46) rfl (by decide) ?_
  refine g_newP X102 hx hZ (aty := .double) (hw _ (List.mem_of_getElem? (i := 5) rfl)) q102 (by decide) (cap := 2) (by decide) (by decide) 49 (hb hby at_47) rfl (by decide) (by decide) (ad := "[D") (by decide) ?_
  intro T104 h104 k104 a104 g104 X104 e104 E104 V104 A104
  have ge105 : n0 ≤ a104 := by rw [g104]; exact Z0
  have Z106 : n0 ≤ h104.size := Nat.le_trans Z0 E104.1
  have V104' : Arv Z h104 a104 k104 .double (2 : Int32) [(.double (0 : UInt64)), (.double (0 : UInt64))] (.double (0 : UInt64)) := V104.pad (pad_rep [] (.double (0 : UInt64)) 2)
  refine g_dup X104 hx 50 (hb hby at_49) rfl rfl ?_
  refine g_iconst X104 hx (0 : Int32) 51 (hb hby at_50) rfl (by decide) ?_
  refine g_lload X104 hx 53 (hb hby at_51) rfl rfl ?_
  refine g_l2d X104 hx 54 (hb hby at_53) rfl ?_
  refine g_dastore X104 hx hZ e104 V104' 0 (by decide) (by decide) (by show 0 < 2; decide) 55 (hb hby at_54) rfl ?_
  intro T107 h107 X107 e107 W107 V107
  have F108 := A104.wr W107
  have N110 := Fr.snoc X107 N103 ge105
  have Z111 : n0 ≤ h107.size := by rw [W107.size]; exact Z106
  have V107' : Arv Z h107 a104 k104 .double (2 : Int32) [(.double (FP.l2d lo0)), (.double (0 : UInt64))] (.double (0 : UInt64)) := V107
  refine g_dup X107 hx 56 (hb hby at_55) rfl rfl ?_
  refine g_iconst X107 hx (1 : Int32) 57 (hb hby at_56) rfl (by decide) ?_
  refine g_lload X107 hx 59 (hb hby at_57) rfl rfl ?_
  refine g_l2d X107 hx 60 (hb hby at_59) rfl ?_
  refine g_dastore X107 hx hZ e107 V107' 1 (by decide) (by decide) (by show 1 < 2; decide) 61 (hb hby at_60) rfl ?_
  intro T112 h112 X112 e112 W112 V112
  have F113 := F108.wr W112
  have N115 := Fr.snoc X112 N110 ge105
  have Z116 : n0 ≤ h112.size := by rw [W112.size]; exact Z111
  have V112' : Arv Z h112 a104 k104 .double (2 : Int32) [(.double (FP.l2d lo0)), (.double (FP.l2d lo1))] (.double (0 : UInt64)) := V112
  refine g_astore (l' := #[.val (.int p0), .val (.int p1), .val (.int p2), .val (.int p3), .val (.int p4), .val (.int p5), .val (.long lo0), .second, .val (.long lo1), .second, .val (.long hi0), .second, .val (.long hi1), .second, .val (.long t0), .second, .val (.long t1), .second, .val (.ref a104), .unset, .unset, .unset, .unset]) X112 hx 63 (hb hby at_61) rfl rfl rfl ?_
  refine g_iconst X112 hx (2 : Int32) 64 (hb hby at_63) rfl (by decide) ?_
  refine g_newP X112 hx hZ (aty := .double) (hw _ (List.mem_of_getElem? (i := 5) rfl)) e112 (by decide) (cap := 2) (by decide) (by decide) 66 (hb hby at_64) rfl (by decide) (by decide) (ad := "[D") (by decide) ?_
  intro T117 h117 k117 a117 g117 X117 e117 E117 V117 A117
  have ne118 : a104 ≠ a117 := Nat.ne_of_lt (by rw [g117]; exact F113.lt)
  have ge119 : n0 ≤ a117 := by rw [g117]; exact Z116
  have F120 := F113.ext E117
  have F121 := V112'.ext E117
  have Z122 : n0 ≤ h117.size := Nat.le_trans Z116 E117.1
  have V117' : Arv Z h117 a117 k117 .double (2 : Int32) [(.double (0 : UInt64)), (.double (0 : UInt64))] (.double (0 : UInt64)) := V117.pad (pad_rep [] (.double (0 : UInt64)) 2)
  refine g_dup X117 hx 67 (hb hby at_66) rfl rfl ?_
  refine g_iconst X117 hx (0 : Int32) 68 (hb hby at_67) rfl (by decide) ?_
  refine g_lload X117 hx 70 (hb hby at_68) rfl rfl ?_
  refine g_l2d X117 hx 71 (hb hby at_70) rfl ?_
  refine g_dastore X117 hx hZ e117 V117' 0 (by decide) (by decide) (by show 0 < 2; decide) 72 (hb hby at_71) rfl ?_
  intro T123 h123 X123 e123 W123 V123
  have F124 := F120.wr W123
  have F125 := F121.other W123 ne118
  have F126 := A117.wr W123
  have N128 := Fr.snoc X123 N115 ge119
  have Z129 : n0 ≤ h123.size := by rw [W123.size]; exact Z122
  have V123' : Arv Z h123 a117 k117 .double (2 : Int32) [(.double (FP.l2d hi0)), (.double (0 : UInt64))] (.double (0 : UInt64)) := V123
  refine g_dup X123 hx 73 (hb hby at_72) rfl rfl ?_
  refine g_iconst X123 hx (1 : Int32) 74 (hb hby at_73) rfl (by decide) ?_
  refine g_lload X123 hx 76 (hb hby at_74) rfl rfl ?_
  refine g_l2d X123 hx 77 (hb hby at_76) rfl ?_
  refine g_dastore X123 hx hZ e123 V123' 1 (by decide) (by decide) (by show 1 < 2; decide) 78 (hb hby at_77) rfl ?_
  intro T130 h130 X130 e130 W130 V130
  have F131 := F124.wr W130
  have F132 := F125.other W130 ne118
  have F133 := F126.wr W130
  have N135 := Fr.snoc X130 N128 ge119
  have Z136 : n0 ≤ h130.size := by rw [W130.size]; exact Z129
  have V130' : Arv Z h130 a117 k117 .double (2 : Int32) [(.double (FP.l2d hi0)), (.double (FP.l2d hi1))] (.double (0 : UInt64)) := V130
  refine g_astore (l' := #[.val (.int p0), .val (.int p1), .val (.int p2), .val (.int p3), .val (.int p4), .val (.int p5), .val (.long lo0), .second, .val (.long lo1), .second, .val (.long hi0), .second, .val (.long hi1), .second, .val (.long t0), .second, .val (.long t1), .second, .val (.ref a104), .val (.ref a117), .unset, .unset, .unset]) X130 hx 80 (hb hby at_78) rfl rfl rfl ?_
  refine g_iconst X130 hx (2 : Int32) 81 (hb hby at_80) rfl (by decide) ?_
  refine g_newP X130 hx hZ (aty := .double) (hw _ (List.mem_of_getElem? (i := 5) rfl)) e130 (by decide) (cap := 2) (by decide) (by decide) 83 (hb hby at_81) rfl (by decide) (by decide) (ad := "[D") (by decide) ?_
  intro T137 h137 k137 a137 g137 X137 e137 E137 V137 A137
  have ne138 : a104 ≠ a137 := Nat.ne_of_lt (by rw [g137]; exact F131.lt)
  have ne139 : a117 ≠ a137 := Nat.ne_of_lt (by rw [g137]; exact F133.lt)
  have ge140 : n0 ≤ a137 := by rw [g137]; exact Z136
  have F141 := F131.ext E137
  have F142 := F132.ext E137
  have F143 := F133.ext E137
  have F144 := V130'.ext E137
  have Z145 : n0 ≤ h137.size := Nat.le_trans Z136 E137.1
  have V137' : Arv Z h137 a137 k137 .double (2 : Int32) [(.double (0 : UInt64)), (.double (0 : UInt64))] (.double (0 : UInt64)) := V137.pad (pad_rep [] (.double (0 : UInt64)) 2)
  refine g_dup X137 hx 84 (hb hby at_83) rfl rfl ?_
  refine g_iconst X137 hx (0 : Int32) 85 (hb hby at_84) rfl (by decide) ?_
  refine g_lload X137 hx 87 (hb hby at_85) rfl rfl ?_
  refine g_l2d X137 hx 88 (hb hby at_87) rfl ?_
  refine g_dastore X137 hx hZ e137 V137' 0 (by decide) (by decide) (by show 0 < 2; decide) 89 (hb hby at_88) rfl ?_
  intro T146 h146 X146 e146 W146 V146
  have F147 := F141.wr W146
  have F148 := F142.other W146 ne138
  have F149 := F143.wr W146
  have F150 := F144.other W146 ne139
  have F151 := A137.wr W146
  have N153 := Fr.snoc X146 N135 ge140
  have Z154 : n0 ≤ h146.size := by rw [W146.size]; exact Z145
  have V146' : Arv Z h146 a137 k137 .double (2 : Int32) [(.double (FP.l2d t0)), (.double (0 : UInt64))] (.double (0 : UInt64)) := V146
  refine g_dup X146 hx 90 (hb hby at_89) rfl rfl ?_
  refine g_iconst X146 hx (1 : Int32) 91 (hb hby at_90) rfl (by decide) ?_
  refine g_lload X146 hx 93 (hb hby at_91) rfl rfl ?_
  refine g_l2d X146 hx 94 (hb hby at_93) rfl ?_
  refine g_dastore X146 hx hZ e146 V146' 1 (by decide) (by decide) (by show 1 < 2; decide) 95 (hb hby at_94) rfl ?_
  intro T155 h155 X155 e155 W155 V155
  have F156 := F147.wr W155
  have F157 := F148.other W155 ne138
  have F158 := F149.wr W155
  have F159 := F150.other W155 ne139
  have F160 := F151.wr W155
  have N162 := Fr.snoc X155 N153 ge140
  have Z163 : n0 ≤ h155.size := by rw [W155.size]; exact Z154
  have V155' : Arv Z h155 a137 k137 .double (2 : Int32) [(.double (FP.l2d t0)), (.double (FP.l2d t1))] (.double (0 : UInt64)) := V155
  refine g_astore (l' := #[.val (.int p0), .val (.int p1), .val (.int p2), .val (.int p3), .val (.int p4), .val (.int p5), .val (.long lo0), .second, .val (.long lo1), .second, .val (.long hi0), .second, .val (.long hi1), .second, .val (.long t0), .second, .val (.long t1), .second, .val (.ref a104), .val (.ref a117), .val (.ref a137), .unset, .unset]) X155 hx 97 (hb hby at_95) rfl rfl rfl ?_
  refine g_new X155 hx hZ hown (hw _ (List.mem_of_getElem? (i := 6) rfl)) (hw _ (List.mem_of_getElem? (i := 7) rfl)) (hw _ (List.mem_of_getElem? (i := 8) rfl)) e155 100 (hb hby at_97) rfl (by decide) (by decide) ?_
  intro T164 h164 a164 g164 X164 e164 E164 A164 D164
  have ne165 : a104 ≠ a164 := Nat.ne_of_lt (by rw [g164]; exact F156.lt)
  have ne166 : a117 ≠ a164 := Nat.ne_of_lt (by rw [g164]; exact F158.lt)
  have ne167 : a137 ≠ a164 := Nat.ne_of_lt (by rw [g164]; exact F160.lt)
  have ge168 : n0 ≤ a164 := by rw [g164]; exact Z163
  have F169 := F156.ext E164
  have F170 := F157.ext E164
  have F171 := F158.ext E164
  have F172 := F159.ext E164
  have F173 := F160.ext E164
  have F174 := V155'.ext E164
  have Z175 : n0 ≤ h164.size := Nat.le_trans Z163 E164.1
  have F176 : Fld Z h164 a164 "com/example/recolecta/recolecta/Box" "min" "[D" .null := D164 (Or.inr (hw _ (List.mem_of_getElem? (i := 25) rfl))) (ty := (.array .double)) (by decide)
  have F177 : Fld Z h164 a164 "com/example/recolecta/recolecta/Box" "max" "[D" .null := D164 (Or.inr (hw _ (List.mem_of_getElem? (i := 27) rfl))) (ty := (.array .double)) (by decide)
  refine g_dup X164 hx 101 (hb hby at_100) rfl rfl ?_
  refine g_aload X164 hx 103 (hb hby at_101) rfl rfl rfl ?_
  refine g_aload X164 hx 105 (hb hby at_103) rfl rfl rfl ?_
  refine g_init X164 hx hZ rfl hown (hw _ (List.mem_of_getElem? (i := 9) rfl)) (hw _ (List.mem_of_getElem? (i := 10) rfl)) (hw _ (List.mem_of_getElem? (i := 8) rfl)) (hw _ (List.mem_of_getElem? (i := 11) rfl)) (by decide) (rm2 l Z a0 hw a164 a104 a117 h164 n0 Z175 k104 k117 (FP.l2d lo0) (FP.l2d lo1) (FP.l2d hi0) (FP.l2d hi1) lo0.toInt lo1.toInt hi0.toInt hi1.toInt A164 F169 F171 F170 F172 ge168 ne165 ne166 F176 F177 (own_cmp (by omega) (by omega)) (own_cmp (by omega) (by omega)) B2.1 B3.1) e164 (a := a164) (argsL := [(.ref a104), (.ref a117)]) (rest := [(.ref a164)]) rfl rfl 1 108 rfl (by rw [hml]; rfl) (lenOf own_pd1 rfl) (Nat.le_refl _) (by decide) (by decide) (by decide) (by decide) (hb hby at_105) ?_
  intro v178 T178 L178 X178 hQ178
  obtain ⟨rfl, N178, K178, b2, d2, Fm178, Fx178, Vm178, Vx178⟩ := hQ178
  have N179 := Fr.app N162 N178
  have F180 := F169.keep K178
  have F181 := F170.keep K178 (ninS ne165 nin0)
  have F182 := F171.keep K178
  have F183 := F172.keep K178 (ninS ne166 nin0)
  have F184 := F173.keep K178
  have F185 := F174.keep K178 (ninS ne167 nin0)
  have F186 := A164.keep K178
  have Z189 : n0 ≤ T178.heap.size := Nat.le_trans Z175 K178.1
  show Go p e below _ T178 (mkF m 108 #[.val (.int p0), .val (.int p1), .val (.int p2), .val (.int p3), .val (.int p4), .val (.int p5), .val (.long lo0), .second, .val (.long lo1), .second, .val (.long hi0), .second, .val (.long hi1), .second, .val (.long t0), .second, .val (.long t1), .second, .val (.ref a104), .val (.ref a117), .val (.ref a137), .unset, .unset] [(.ref a164)])
  refine g_astore (l' := #[.val (.int p0), .val (.int p1), .val (.int p2), .val (.int p3), .val (.int p4), .val (.int p5), .val (.long lo0), .second, .val (.long lo1), .second, .val (.long hi0), .second, .val (.long hi1), .second, .val (.long t0), .second, .val (.long t1), .second, .val (.ref a104), .val (.ref a117), .val (.ref a137), .val (.ref a164), .unset]) X178 hx 110 (hb hby at_108) rfl rfl rfl ?_
  refine g_lload X178 hx 112 (hb hby at_110) rfl rfl ?_
  refine g_lload X178 hx 114 (hb hby at_112) rfl rfl ?_
  refine g_lc_gt X178 hx 115 146 118 (hb hby at_114) rfl (hb hby at_115) (by decide) (by decide) rfl (fun c190 => ?_) (fun c190 => ?_)
  · skip
    refine g_iconst X178 hx (0 : Int32) 147 (hb hby at_146) rfl (by decide) ?_
    refine g_istore (l' := #[.val (.int p0), .val (.int p1), .val (.int p2), .val (.int p3), .val (.int p4), .val (.int p5), .val (.long lo0), .second, .val (.long lo1), .second, .val (.long hi0), .second, .val (.long hi1), .second, .val (.long t0), .second, .val (.long t1), .second, .val (.ref a104), .val (.ref a117), .val (.ref a137), .val (.ref a164), .val (.int (0 : Int32))]) X178 hx 149 (hb hby at_147) rfl rfl ?_
    refine g_aload X178 hx 151 (hb hby at_149) rfl rfl rfl ?_
    refine g_aload X178 hx 153 (hb hby at_151) rfl rfl rfl ?_
    refine g_virt X178 hx hZ (C := "com/example/recolecta/recolecta/Box") hown (hw _ (List.mem_of_getElem? (i := 28) rfl)) (hw _ (List.mem_of_getElem? (i := 29) rfl)) (hw _ (List.mem_of_getElem? (i := 31) rfl)) (hw _ (List.mem_of_getElem? (i := 31) rfl)) (hw _ (List.mem_of_getElem? (i := 30) rfl)) (hw _ (List.mem_of_getElem? (i := 8) rfl)) (hw _ (List.mem_of_getElem? (i := 32) rfl)) (by decide) (rm4 l Z a0 hw a164 a137 T178.heap n0 Z189 b2 d2 _ _ _ (FP.l2d lo0) (FP.l2d lo1) (FP.l2d hi0) (FP.l2d hi1) (FP.l2d t0) (FP.l2d t1) lo0.toInt lo1.toInt hi0.toInt hi1.toInt t0.toInt t1.toInt Vm178 Vx178 F185 Fm178 Fx178 (own_cmp (by omega) (by omega)) (own_cmp (by omega) (by omega)) (own_cmp (by omega) (by omega)) (own_cmp (by omega) (by omega))) rfl (b := a164) F186 (argsL := [(.ref a137)]) (rest := []) rfl rfl 0 156 rfl (by rw [hml]; rfl) (lenOf own_pd4 rfl) (Nat.le_refl _) (by decide) (by decide) (by decide) (by decide) (hb hby at_153) ?_
    intro v191 T191 L191 X191 hQ191
    obtain ⟨rfl, N191, q191⟩ := hQ191
    have N192 := Fr.app N179 N191
    rw [if_neg (by omega)]
    show Go p e below _ T191 (mkF m 156 #[.val (.int p0), .val (.int p1), .val (.int p2), .val (.int p3), .val (.int p4), .val (.int p5), .val (.long lo0), .second, .val (.long lo1), .second, .val (.long hi0), .second, .val (.long hi1), .second, .val (.long t0), .second, .val (.long t1), .second, .val (.ref a104), .val (.ref a117), .val (.ref a137), .val (.ref a164), .val (.int (0 : Int32))] [(.int (0 : Int32))])
    refine g_iload X191 hx 158 (hb hby at_156) rfl rfl ?_
    have ll194 : ((0 : Int32) : Int32).toInt = 0 := by decide
    have ll195 : ((0 : Int32) : Int32).toInt = 0 := by decide
    refine g_ic_ne X191 hx 165 161 (hb hby at_158) (by decide) (by decide) rfl (fun c193 => ?_) (fun c193 => ?_)
    · skip
      exact absurd rfl c193
    · skip
      refine g_iconst X191 hx (1 : Int32) 162 (hb hby at_161) rfl (by decide) ?_
      refine g_goto X191 hx 166 (hb hby at_162) (by decide) (by decide) ?_
      exact g_retZ X191 hx hlk hret (hb hby at_166) (by decide) (by decide) q191 ⟨rfl, N192⟩
  · skip
    refine g_lload X178 hx 120 (hb hby at_118) rfl rfl ?_
    refine g_lload X178 hx 122 (hb hby at_120) rfl rfl ?_
    refine g_lc_gt X178 hx 123 146 126 (hb hby at_122) rfl (hb hby at_123) (by decide) (by decide) rfl (fun c196 => ?_) (fun c196 => ?_)
    · skip
      refine g_iconst X178 hx (0 : Int32) 147 (hb hby at_146) rfl (by decide) ?_
      refine g_istore (l' := #[.val (.int p0), .val (.int p1), .val (.int p2), .val (.int p3), .val (.int p4), .val (.int p5), .val (.long lo0), .second, .val (.long lo1), .second, .val (.long hi0), .second, .val (.long hi1), .second, .val (.long t0), .second, .val (.long t1), .second, .val (.ref a104), .val (.ref a117), .val (.ref a137), .val (.ref a164), .val (.int (0 : Int32))]) X178 hx 149 (hb hby at_147) rfl rfl ?_
      refine g_aload X178 hx 151 (hb hby at_149) rfl rfl rfl ?_
      refine g_aload X178 hx 153 (hb hby at_151) rfl rfl rfl ?_
      refine g_virt X178 hx hZ (C := "com/example/recolecta/recolecta/Box") hown (hw _ (List.mem_of_getElem? (i := 28) rfl)) (hw _ (List.mem_of_getElem? (i := 29) rfl)) (hw _ (List.mem_of_getElem? (i := 31) rfl)) (hw _ (List.mem_of_getElem? (i := 31) rfl)) (hw _ (List.mem_of_getElem? (i := 30) rfl)) (hw _ (List.mem_of_getElem? (i := 8) rfl)) (hw _ (List.mem_of_getElem? (i := 32) rfl)) (by decide) (rm4 l Z a0 hw a164 a137 T178.heap n0 Z189 b2 d2 _ _ _ (FP.l2d lo0) (FP.l2d lo1) (FP.l2d hi0) (FP.l2d hi1) (FP.l2d t0) (FP.l2d t1) lo0.toInt lo1.toInt hi0.toInt hi1.toInt t0.toInt t1.toInt Vm178 Vx178 F185 Fm178 Fx178 (own_cmp (by omega) (by omega)) (own_cmp (by omega) (by omega)) (own_cmp (by omega) (by omega)) (own_cmp (by omega) (by omega))) rfl (b := a164) F186 (argsL := [(.ref a137)]) (rest := []) rfl rfl 0 156 rfl (by rw [hml]; rfl) (lenOf own_pd4 rfl) (Nat.le_refl _) (by decide) (by decide) (by decide) (by decide) (hb hby at_153) ?_
      intro v197 T197 L197 X197 hQ197
      obtain ⟨rfl, N197, q197⟩ := hQ197
      have N198 := Fr.app N179 N197
      rw [if_neg (by omega)]
      show Go p e below _ T197 (mkF m 156 #[.val (.int p0), .val (.int p1), .val (.int p2), .val (.int p3), .val (.int p4), .val (.int p5), .val (.long lo0), .second, .val (.long lo1), .second, .val (.long hi0), .second, .val (.long hi1), .second, .val (.long t0), .second, .val (.long t1), .second, .val (.ref a104), .val (.ref a117), .val (.ref a137), .val (.ref a164), .val (.int (0 : Int32))] [(.int (0 : Int32))])
      refine g_iload X197 hx 158 (hb hby at_156) rfl rfl ?_
      have ll200 : ((0 : Int32) : Int32).toInt = 0 := by decide
      have ll201 : ((0 : Int32) : Int32).toInt = 0 := by decide
      refine g_ic_ne X197 hx 165 161 (hb hby at_158) (by decide) (by decide) rfl (fun c199 => ?_) (fun c199 => ?_)
      · skip
        exact absurd rfl c199
      · skip
        refine g_iconst X197 hx (1 : Int32) 162 (hb hby at_161) rfl (by decide) ?_
        refine g_goto X197 hx 166 (hb hby at_162) (by decide) (by decide) ?_
        exact g_retZ X197 hx hlk hret (hb hby at_166) (by decide) (by decide) q197 ⟨rfl, N198⟩
    · skip
      refine g_lload X178 hx 128 (hb hby at_126) rfl rfl ?_
      refine g_lload X178 hx 130 (hb hby at_128) rfl rfl ?_
      refine g_lc_gt X178 hx 131 146 134 (hb hby at_130) rfl (hb hby at_131) (by decide) (by decide) rfl (fun c202 => ?_) (fun c202 => ?_)
      · skip
        refine g_iconst X178 hx (0 : Int32) 147 (hb hby at_146) rfl (by decide) ?_
        refine g_istore (l' := #[.val (.int p0), .val (.int p1), .val (.int p2), .val (.int p3), .val (.int p4), .val (.int p5), .val (.long lo0), .second, .val (.long lo1), .second, .val (.long hi0), .second, .val (.long hi1), .second, .val (.long t0), .second, .val (.long t1), .second, .val (.ref a104), .val (.ref a117), .val (.ref a137), .val (.ref a164), .val (.int (0 : Int32))]) X178 hx 149 (hb hby at_147) rfl rfl ?_
        refine g_aload X178 hx 151 (hb hby at_149) rfl rfl rfl ?_
        refine g_aload X178 hx 153 (hb hby at_151) rfl rfl rfl ?_
        refine g_virt X178 hx hZ (C := "com/example/recolecta/recolecta/Box") hown (hw _ (List.mem_of_getElem? (i := 28) rfl)) (hw _ (List.mem_of_getElem? (i := 29) rfl)) (hw _ (List.mem_of_getElem? (i := 31) rfl)) (hw _ (List.mem_of_getElem? (i := 31) rfl)) (hw _ (List.mem_of_getElem? (i := 30) rfl)) (hw _ (List.mem_of_getElem? (i := 8) rfl)) (hw _ (List.mem_of_getElem? (i := 32) rfl)) (by decide) (rm4 l Z a0 hw a164 a137 T178.heap n0 Z189 b2 d2 _ _ _ (FP.l2d lo0) (FP.l2d lo1) (FP.l2d hi0) (FP.l2d hi1) (FP.l2d t0) (FP.l2d t1) lo0.toInt lo1.toInt hi0.toInt hi1.toInt t0.toInt t1.toInt Vm178 Vx178 F185 Fm178 Fx178 (own_cmp (by omega) (by omega)) (own_cmp (by omega) (by omega)) (own_cmp (by omega) (by omega)) (own_cmp (by omega) (by omega))) rfl (b := a164) F186 (argsL := [(.ref a137)]) (rest := []) rfl rfl 0 156 rfl (by rw [hml]; rfl) (lenOf own_pd4 rfl) (Nat.le_refl _) (by decide) (by decide) (by decide) (by decide) (hb hby at_153) ?_
        intro v203 T203 L203 X203 hQ203
        obtain ⟨rfl, N203, q203⟩ := hQ203
        have N204 := Fr.app N179 N203
        rw [if_neg (by omega)]
        show Go p e below _ T203 (mkF m 156 #[.val (.int p0), .val (.int p1), .val (.int p2), .val (.int p3), .val (.int p4), .val (.int p5), .val (.long lo0), .second, .val (.long lo1), .second, .val (.long hi0), .second, .val (.long hi1), .second, .val (.long t0), .second, .val (.long t1), .second, .val (.ref a104), .val (.ref a117), .val (.ref a137), .val (.ref a164), .val (.int (0 : Int32))] [(.int (0 : Int32))])
        refine g_iload X203 hx 158 (hb hby at_156) rfl rfl ?_
        have ll206 : ((0 : Int32) : Int32).toInt = 0 := by decide
        have ll207 : ((0 : Int32) : Int32).toInt = 0 := by decide
        refine g_ic_ne X203 hx 165 161 (hb hby at_158) (by decide) (by decide) rfl (fun c205 => ?_) (fun c205 => ?_)
        · skip
          exact absurd rfl c205
        · skip
          refine g_iconst X203 hx (1 : Int32) 162 (hb hby at_161) rfl (by decide) ?_
          refine g_goto X203 hx 166 (hb hby at_162) (by decide) (by decide) ?_
          exact g_retZ X203 hx hlk hret (hb hby at_166) (by decide) (by decide) q203 ⟨rfl, N204⟩
      · skip
        refine g_lload X178 hx 136 (hb hby at_134) rfl rfl ?_
        refine g_lload X178 hx 138 (hb hby at_136) rfl rfl ?_
        refine g_lc_gt X178 hx 139 146 142 (hb hby at_138) rfl (hb hby at_139) (by decide) (by decide) rfl (fun c208 => ?_) (fun c208 => ?_)
        · skip
          refine g_iconst X178 hx (0 : Int32) 147 (hb hby at_146) rfl (by decide) ?_
          refine g_istore (l' := #[.val (.int p0), .val (.int p1), .val (.int p2), .val (.int p3), .val (.int p4), .val (.int p5), .val (.long lo0), .second, .val (.long lo1), .second, .val (.long hi0), .second, .val (.long hi1), .second, .val (.long t0), .second, .val (.long t1), .second, .val (.ref a104), .val (.ref a117), .val (.ref a137), .val (.ref a164), .val (.int (0 : Int32))]) X178 hx 149 (hb hby at_147) rfl rfl ?_
          refine g_aload X178 hx 151 (hb hby at_149) rfl rfl rfl ?_
          refine g_aload X178 hx 153 (hb hby at_151) rfl rfl rfl ?_
          refine g_virt X178 hx hZ (C := "com/example/recolecta/recolecta/Box") hown (hw _ (List.mem_of_getElem? (i := 28) rfl)) (hw _ (List.mem_of_getElem? (i := 29) rfl)) (hw _ (List.mem_of_getElem? (i := 31) rfl)) (hw _ (List.mem_of_getElem? (i := 31) rfl)) (hw _ (List.mem_of_getElem? (i := 30) rfl)) (hw _ (List.mem_of_getElem? (i := 8) rfl)) (hw _ (List.mem_of_getElem? (i := 32) rfl)) (by decide) (rm4 l Z a0 hw a164 a137 T178.heap n0 Z189 b2 d2 _ _ _ (FP.l2d lo0) (FP.l2d lo1) (FP.l2d hi0) (FP.l2d hi1) (FP.l2d t0) (FP.l2d t1) lo0.toInt lo1.toInt hi0.toInt hi1.toInt t0.toInt t1.toInt Vm178 Vx178 F185 Fm178 Fx178 (own_cmp (by omega) (by omega)) (own_cmp (by omega) (by omega)) (own_cmp (by omega) (by omega)) (own_cmp (by omega) (by omega))) rfl (b := a164) F186 (argsL := [(.ref a137)]) (rest := []) rfl rfl 0 156 rfl (by rw [hml]; rfl) (lenOf own_pd4 rfl) (Nat.le_refl _) (by decide) (by decide) (by decide) (by decide) (hb hby at_153) ?_
          intro v209 T209 L209 X209 hQ209
          obtain ⟨rfl, N209, q209⟩ := hQ209
          have N210 := Fr.app N179 N209
          rw [if_neg (by omega)]
          show Go p e below _ T209 (mkF m 156 #[.val (.int p0), .val (.int p1), .val (.int p2), .val (.int p3), .val (.int p4), .val (.int p5), .val (.long lo0), .second, .val (.long lo1), .second, .val (.long hi0), .second, .val (.long hi1), .second, .val (.long t0), .second, .val (.long t1), .second, .val (.ref a104), .val (.ref a117), .val (.ref a137), .val (.ref a164), .val (.int (0 : Int32))] [(.int (0 : Int32))])
          refine g_iload X209 hx 158 (hb hby at_156) rfl rfl ?_
          have ll212 : ((0 : Int32) : Int32).toInt = 0 := by decide
          have ll213 : ((0 : Int32) : Int32).toInt = 0 := by decide
          refine g_ic_ne X209 hx 165 161 (hb hby at_158) (by decide) (by decide) rfl (fun c211 => ?_) (fun c211 => ?_)
          · skip
            exact absurd rfl c211
          · skip
            refine g_iconst X209 hx (1 : Int32) 162 (hb hby at_161) rfl (by decide) ?_
            refine g_goto X209 hx 166 (hb hby at_162) (by decide) (by decide) ?_
            exact g_retZ X209 hx hlk hret (hb hby at_166) (by decide) (by decide) q209 ⟨rfl, N210⟩
        · skip
          refine g_iconst X178 hx (1 : Int32) 143 (hb hby at_142) rfl (by decide) ?_
          refine g_goto X178 hx 147 (hb hby at_143) (by decide) (by decide) ?_
          refine g_istore (l' := #[.val (.int p0), .val (.int p1), .val (.int p2), .val (.int p3), .val (.int p4), .val (.int p5), .val (.long lo0), .second, .val (.long lo1), .second, .val (.long hi0), .second, .val (.long hi1), .second, .val (.long t0), .second, .val (.long t1), .second, .val (.ref a104), .val (.ref a117), .val (.ref a137), .val (.ref a164), .val (.int (1 : Int32))]) X178 hx 149 (hb hby at_147) rfl rfl ?_
          refine g_aload X178 hx 151 (hb hby at_149) rfl rfl rfl ?_
          refine g_aload X178 hx 153 (hb hby at_151) rfl rfl rfl ?_
          refine g_virt X178 hx hZ (C := "com/example/recolecta/recolecta/Box") hown (hw _ (List.mem_of_getElem? (i := 28) rfl)) (hw _ (List.mem_of_getElem? (i := 29) rfl)) (hw _ (List.mem_of_getElem? (i := 31) rfl)) (hw _ (List.mem_of_getElem? (i := 31) rfl)) (hw _ (List.mem_of_getElem? (i := 30) rfl)) (hw _ (List.mem_of_getElem? (i := 8) rfl)) (hw _ (List.mem_of_getElem? (i := 32) rfl)) (by decide) (rm4 l Z a0 hw a164 a137 T178.heap n0 Z189 b2 d2 _ _ _ (FP.l2d lo0) (FP.l2d lo1) (FP.l2d hi0) (FP.l2d hi1) (FP.l2d t0) (FP.l2d t1) lo0.toInt lo1.toInt hi0.toInt hi1.toInt t0.toInt t1.toInt Vm178 Vx178 F185 Fm178 Fx178 (own_cmp (by omega) (by omega)) (own_cmp (by omega) (by omega)) (own_cmp (by omega) (by omega)) (own_cmp (by omega) (by omega))) rfl (b := a164) F186 (argsL := [(.ref a137)]) (rest := []) rfl rfl 0 156 rfl (by rw [hml]; rfl) (lenOf own_pd4 rfl) (Nat.le_refl _) (by decide) (by decide) (by decide) (by decide) (hb hby at_153) ?_
          intro v214 T214 L214 X214 hQ214
          obtain ⟨rfl, N214, q214⟩ := hQ214
          have N215 := Fr.app N179 N214
          rw [if_pos (by omega)]
          show Go p e below _ T214 (mkF m 156 #[.val (.int p0), .val (.int p1), .val (.int p2), .val (.int p3), .val (.int p4), .val (.int p5), .val (.long lo0), .second, .val (.long lo1), .second, .val (.long hi0), .second, .val (.long hi1), .second, .val (.long t0), .second, .val (.long t1), .second, .val (.ref a104), .val (.ref a117), .val (.ref a137), .val (.ref a164), .val (.int (1 : Int32))] [(.int (1 : Int32))])
          refine g_iload X214 hx 158 (hb hby at_156) rfl rfl ?_
          have ll217 : ((1 : Int32) : Int32).toInt = 1 := by decide
          have ll218 : ((1 : Int32) : Int32).toInt = 1 := by decide
          refine g_ic_ne X214 hx 165 161 (hb hby at_158) (by decide) (by decide) rfl (fun c216 => ?_) (fun c216 => ?_)
          · skip
            exact absurd rfl c216
          · skip
            refine g_iconst X214 hx (1 : Int32) 162 (hb hby at_161) rfl (by decide) ?_
            refine g_goto X214 hx 166 (hb hby at_162) (by decide) (by decide) ?_
            exact g_retZ X214 hx hlk hret (hb hby at_166) (by decide) (by decide) q214 ⟨rfl, N215⟩
set_option maxRecDepth 65536 in
set_option maxHeartbeats 40000000 in
theorem comes_1 {Post : Tables → Env → Array Value → State → Outcome → State → Prop} (hpost : ∀ tb e args s v u, (limb_1_1.after args s (.returned v) u = true ∧ limb_1_2.after args s (.returned v) u = true ∧ True) → FrameEnd s (.returned v) u (Jvm.fieldLocs frame_1_writes args s ++ Jvm.arrayLocs frame_1_arrays args s ++ Jvm.staticLocs frame_1_statics s) 24 128 → Post tb e args s (.returned v) u) :
    ArmFor flags0 classFile x code maxLocals ret World_1 tables_1 room_1 Calls_1 rest_1 Pre_1 Post := by
  intro l hfl _ _ p e ha hc hk s m args below hf hA hF happ hP
  obtain ⟨hcalls, hrest, hpre⟩ := hP
  obtain ⟨-, -, -, hnamed, -, -, -, hat⟩ := (Spec.applies_iff hf).mp happ
  obtain ⟨hg, hn⟩ := and_e (Cond.before_iff.mp (show (Jvm.Cond.and given_1 narrow_1).before args s = true from hpre))
  obtain ⟨h1, g0⟩ := and_e hg
  obtain ⟨t0, g1⟩ := and_e g0
  obtain ⟨t1, g2⟩ := and_e g1
  obtain ⟨t2, g3⟩ := and_e g2
  obtain ⟨t3, g4⟩ := and_e g3
  obtain ⟨t4, g5⟩ := and_e g4
  have t5 := g5
  obtain ⟨w0, w1, w2, w3, w4, w5, rfl⟩ : ∃ w0 w1 w2 w3 w4 w5 : Value, args = #[w0, w1, w2, w3, w4, w5] := by
    have hs : args.size = 6 := by simpa [Cond.value, given_1] using h1
    obtain ⟨L⟩ := args
    match L, hs with
    | [w0, w1, w2, w3, w4, w5], _ => exact ⟨w0, w1, w2, w3, w4, w5, rfl⟩
  have hw := fun d (hd : d ∈ tables_1) => atoms_spec (ws := Jvm.Cond.code x code maxLocals ret :: tables_1) hat d (List.mem_cons_of_mem _ hd)
  obtain ⟨i0, e0⟩ := is_v t0
  obtain rfl : w0 = (.int i0) := Option.some.inj e0
  obtain ⟨i1, e1⟩ := is_v t1
  obtain rfl : w1 = (.int i1) := Option.some.inj e1
  obtain ⟨i2, e2⟩ := is_v t2
  obtain rfl : w2 = (.int i2) := Option.some.inj e2
  obtain ⟨i3, e3⟩ := is_v t3
  obtain rfl : w3 = (.int i3) := Option.some.inj e3
  obtain ⟨i4, e4⟩ := is_v t4
  obtain rfl : w4 = (.int i4) := Option.some.inj e4
  obtain ⟨i5, e5⟩ := is_v t5
  obtain rfl : w5 = (.int i5) := Option.some.inj e5
  obtain ⟨n, o, h1, h2, h3, _, L, rfl, ⟨rfl, N⟩, hq⟩ := rm0 l s _ hw tables_1 i0 i1 i2 i3 i4 i5 s.heap s.heap.size (Nat.le_refl _)  p e ha hc hk s m _ below hf ((Spec.applies_iff_loose hf).mp happ).1 ⟨rfl, State.Warmed39.refl s, rfl⟩ trivial
  refine ⟨n, _, h1, h2, h3, hpost _ _ _ _ _ _ ⟨Cond.after_iff.mpr rfl, Cond.after_iff.mpr (eq_i res_at (Term.int_eval (1)) rfl), trivial⟩ ⟨hq.1, hq.2.1, (hq.2.2.sift fun y hy => Or.inr (N y hy)).mono (by decide) (by decide)⟩⟩
theorem main_1_1 : Claimed_1_1 := comes_1 fun _ _ _ _ _ _ h hF => ⟨h.1, hF⟩
theorem main_1_2 : Claimed_1_2 := comes_1 fun _ _ _ _ _ _ h hF => ⟨h.2.1, hF⟩
end Jvm.Pilot.@@N@@
namespace Jvm.Pilot.@@N@@
open Jvm Jvm.ClassFile Sem Op Lib Jvm.Free Jvm.Stand Jvm.Pilot.@@N@@.Jvm.D
/-! MADE BY PROGRAM (witnessworld.py) out of the Statement's table words and the real class files: 11 classes; the members and pool entries that the words name. The judged class is class 1, her method 2. -/
namespace start1
open Jvm.ClassFile
def u (s : String) : CpInfo := .utf8 (stringToUtf16 s)
/-- a pool by its gaps: so many unusable entries, then the entry; so many at the end -/
def gap : Nat → List CpInfo → List CpInfo
  | 0, r => r
  | n + 1, r => .unusable :: gap n r
def poolList (es : List (Nat × CpInfo)) (last : Nat) : List CpInfo := es.foldr (fun e r => gap e.1 (e.2 :: r)) (gap last [])
def pool (es : List (Nat × CpInfo)) (last : Nat) : Array CpInfo := ⟨poolList es last⟩
def fileOf (pool : Array CpInfo) (this : Nat) (attrs : Array Attribute := #[]) (ms : Array MethodInfo := #[]) (fl : Nat := 33) (sup : Nat := 0) (ifs : Array Nat := #[]) (fds : Array FieldInfo := #[]) : ClassFile where
  minorVersion := 0
  majorVersion := 65
  constantPool := pool
  accessFlags := fl
  thisClass := this
  superClass := sup
  interfaces := ifs
  fields := fds
  methods := ms
  attributes := attrs
def plain (name : String) (sup : Option ClassId) : Class where
  name := name
  kind := .ordinary
  loader := none
  accessFlags := 33
  super := sup
  interfaces := #[]
  cf := none
  fields := #[]
  methods := #[]
  instanceTypes := #[]
  staticTypes := #[]
  resolved := #[]
  callSites := []
  init := .initialized
  statics := none
  mirror := none

def pool0 : Array CpInfo := pool [(5, u "<init>"), (0, u "()V"), (1, .class_ 10), (1, u "java/lang/Object"), (85, u "clone"), (0, u "()Ljava/lang/Object;")] 26

def k0c0 : Code := { maxStack := 0, maxLocals := 1, code := object_method_1_code, exceptionTable := #[], attributes := #[] }
def k0m0 : Method := { name := "<init>", desc := "()V", sig := { parameters := [], returnType := none }, accessFlags := 1, code := some k0c0 }
def k0m1 : Method := { name := "clone", desc := "()Ljava/lang/Object;", sig := { parameters := [], returnType := some (.object "java/lang/Object") }, accessFlags := 260, code := none }
/-- java/lang/Object -/
def k0 : Class := { plain "java/lang/Object" none with
  accessFlags := 33
  interfaces := #[]
  cf := some (fileOf pool0 8 #[] #[{ accessFlags := 1, nameIndex := 5, descriptorIndex := 6, attributes := #[] }, { accessFlags := 260, nameIndex := 96, descriptorIndex := 97, attributes := #[] }] 33 0 #[] #[])
  fields := #[]
  methods := #[k0m0, k0m1]
  instanceTypes := #[]
  staticTypes := #[]
  resolved := Array.replicate 124 none
  statics := none }

def pool1 : Array CpInfo := pool [(2, .class_ 4), (1, u "java/lang/Object"), (0, u "<init>"), (0, u "()V"), (0, .long 8), (1, .methodref 10 11), (0, .class_ 12), (0, .nameAndType 13 14), (0, u "com/example/recolecta/recolecta/BoxContainsPinLaw"), (0, u "coord"), (0, u "(JI)J"), (0, .class_ 16), (0, u "com/example/recolecta/recolecta/Box"), (0, .methodref 15 18), (0, .nameAndType 5 19), (0, u "([D[D)V"), (0, .methodref 15 21), (0, .nameAndType 22 23), (0, u "contains"), (0, u "([D)Z"), (3, u "law"), (0, u "(IIIIII)Z")] 4

def k1m0 : Method := { name := "<init>", desc := "()V", sig := { parameters := [], returnType := none }, accessFlags := 1, code := none }
def k1c1 : Code := { maxStack := 4, maxLocals := 3, code := method_2_code, exceptionTable := #[], attributes := #[] }
def k1m1 : Method := { name := "coord", desc := "(JI)J", sig := { parameters := [.long, .int], returnType := some .long }, accessFlags := 10, code := some k1c1 }
def k1c2 : Code := { maxStack := 5, maxLocals := 23, code := code, exceptionTable := #[], attributes := #[] }
def k1m2 : Method := { name := "law", desc := "(IIIIII)Z", sig := { parameters := [.int, .int, .int, .int, .int, .int], returnType := some .boolean }, accessFlags := 9, code := some k1c2 }
/-- com/example/recolecta/recolecta/BoxContainsPinLaw -/
def k1 : Class := { plain "com/example/recolecta/recolecta/BoxContainsPinLaw" (some 0) with
  accessFlags := 49
  interfaces := #[]
  cf := some (fileOf pool1 10 #[] #[{ accessFlags := 1, nameIndex := 5, descriptorIndex := 6, attributes := #[] }, { accessFlags := 10, nameIndex := 13, descriptorIndex := 14, attributes := #[] }, { accessFlags := 9, nameIndex := 27, descriptorIndex := 28, attributes := #[] }] 49 2 #[] #[])
  fields := #[]
  methods := #[k1m0, k1m1, k1m2]
  instanceTypes := #[]
  staticTypes := #[]
  resolved := Array.replicate 33 none
  statics := none }

def pool2 : Array CpInfo := pool [(1, .methodref 2 3), (0, .class_ 4), (0, .nameAndType 5 6), (0, u "java/lang/Object"), (0, u "<init>"), (0, u "()V"), (12, .methodref 20 21), (0, .class_ 22), (0, .nameAndType 23 24), (0, u "[D"), (0, u "clone"), (0, u "()Ljava/lang/Object;"), (0, .fieldref 26 27), (0, .class_ 28), (0, .nameAndType 29 22), (0, u "com/example/recolecta/recolecta/Box"), (0, u "min"), (0, .fieldref 26 31), (0, .nameAndType 32 22), (0, u "max"), (28, u "([D[D)V"), (7, u "contains"), (0, u "([D)Z")] 20

def k2c0 : Code := { maxStack := 7, maxLocals := 4, code := prog_7_method_1_code, exceptionTable := #[], attributes := #[] }
def k2m0 : Method := { name := "<init>", desc := "([D[D)V", sig := { parameters := [(.array .double), (.array .double)], returnType := none }, accessFlags := 0, code := some k2c0 }
def k2c1 : Code := { maxStack := 4, maxLocals := 3, code := prog_7_method_3_code, exceptionTable := #[], attributes := #[] }
def k2m1 : Method := { name := "contains", desc := "([D)Z", sig := { parameters := [(.array .double)], returnType := some .boolean }, accessFlags := 0, code := some k2c1 }
/-- com/example/recolecta/recolecta/Box -/
def k2 : Class := { plain "com/example/recolecta/recolecta/Box" (some 0) with
  accessFlags := 48
  interfaces := #[]
  cf := some (fileOf pool2 26 #[] #[{ accessFlags := 0, nameIndex := 5, descriptorIndex := 61, attributes := #[] }, { accessFlags := 0, nameIndex := 69, descriptorIndex := 70, attributes := #[] }] 48 2 #[] #[{ accessFlags := 18, nameIndex := 29, descriptorIndex := 22, attributes := #[] }, { accessFlags := 18, nameIndex := 32, descriptorIndex := 22, attributes := #[] }])
  fields := #[{ name := "min", type := (.array .double), accessFlags := 18, slot := 0, constantValue := 0 }, { name := "max", type := (.array .double), accessFlags := 18, slot := 1, constantValue := 0 }]
  methods := #[k2m0, k2m1]
  instanceTypes := #[(.array .double), (.array .double)]
  staticTypes := #[]
  resolved := Array.replicate 91 none
  statics := none }

def pool3 : Array CpInfo := pool [(1, .class_ 2), (0, u "java/lang/Cloneable"), (0, .class_ 4), (0, u "java/lang/Object")] 2

/-- java/lang/Cloneable -/
def k3 : Class := { plain "java/lang/Cloneable" (some 0) with
  accessFlags := 1537
  interfaces := #[]
  cf := some (fileOf pool3 1 #[] #[] 1537 3 #[] #[])
  fields := #[]
  methods := #[]
  instanceTypes := #[]
  staticTypes := #[]
  resolved := Array.replicate 7 none
  statics := none }

def pool4 : Array CpInfo := pool [(1, u "java/io/Serializable"), (0, .class_ 1), (0, u "java/lang/Object"), (0, .class_ 3)] 3

/-- java/io/Serializable -/
def k4 : Class := { plain "java/io/Serializable" (some 0) with
  accessFlags := 1537
  interfaces := #[]
  cf := some (fileOf pool4 2 #[] #[] 1537 4 #[] #[])
  fields := #[]
  methods := #[]
  instanceTypes := #[]
  staticTypes := #[]
  resolved := Array.replicate 8 none
  statics := none }

/-- the primitive byte -/
def k5 : Class := { plain "byte" none with kind := .primitive 'B', accessFlags := 0x411 }
/-- [B -/
def k6 : Class := { plain "[B" (some 0) with kind := .array 5 .byte, interfaces := #[3, 4], accessFlags := 1041 }

/-- the primitive double -/
def k7 : Class := { plain "double" none with kind := .primitive 'D', accessFlags := 0x411 }
/-- [D -/
def k8 : Class := { plain "[D" (some 0) with kind := .array 7 .double, interfaces := #[3, 4], accessFlags := 1041 }

/-- the primitive int -/
def k9 : Class := { plain "int" none with kind := .primitive 'I', accessFlags := 0x411 }
/-- [I -/
def k10 : Class := { plain "[I" (some 0) with kind := .array 9 .int, interfaces := #[3, 4], accessFlags := 1041 }

def heap : Heap := #[]
def classes : Array Class := #[k0, k1, k2, k3, k4, k5, k6, k7, k8, k9, k10]
def interned : List (Array UInt16 × Addr) := []
def slotsUsed : Nat := 0
def theMethod : MethodId := ⟨1, 2⟩
def args0 : Array Value := #[.int 5, .int 3, .int 4, .int 7, .int 2, .int 9]
def aboutOver (below : List Frame) : State where
  vm := { classes := classes, interned := interned.toArray }
  heap := heap
  slotsUsed := slotsUsed
  threads := #[{ frames := .invoking theMethod args0 :: below }]
def below0 : List Frame := [.native { method := ⟨0, 0⟩, args := #[] }]
def about1 : State := aboutOver below0
def p0 : Program := .bare "" "" ""
def e0 : Env := launch0.env 0 0 0
theorem w_frames : about1.frames = Frame.invoking theMethod args0 :: below0 := rfl
set_option maxRecDepth 65536 in
theorem w_args : argsFit about1.vm theMethod args0 = true := by decide +kernel
set_option maxRecDepth 65536 in
theorem w_heap : heapFits about1 = true := by decide +kernel
set_option maxRecDepth 65536 in
theorem w_runnable : about1.curStatus? = some .runnable := by decide +kernel
set_option maxRecDepth 65536 in
theorem w_alone : about1.alone = true := by decide +kernel
set_option maxRecDepth 65536 in
theorem w_named : about1.methodNamed? x = some theMethod := by decide +kernel
set_option maxRecDepth 65536 in
theorem w_hears : about1.hears theMethod below0 = true := by decide +kernel
set_option maxRecDepth 65536 in
theorem w_ripe : about1.ripe theMethod args0 below0 = true := by decide +kernel
theorem w_running : about1.status = .running := rfl
set_option maxRecDepth 65536 in
theorem w_room : about1.hasRoom e0.platform room_1 = true :=
  launch0.hasRoom_least _ room_1 (by decide +kernel) (by decide +kernel) (by decide +kernel) (by decide +kernel) (by decide +kernel) (by decide +kernel)
theorem allAtoms_all (ts : List Jvm.Cond) (a : Array Jvm.Value) (st : Jvm.State) : (allAtoms ts).before a st = ts.all (fun c => c.before a st) := by
  induction ts with
  | nil => rfl
  | cons c t ih =>
    show (Jvm.Cond.and c (allAtoms t)).before a st = _
    rw [Jvm.Cond.before_and, ih, List.all_cons]
def words1 : List Jvm.Cond := Jvm.Cond.code x code maxLocals ret :: tables_1
/-- a 'code' word, met by the world's own term for the bytes: nothing is compared byte by byte -/
theorem code_word {y : MethodName} {bytes : ByteArray} {mx : Nat} {rt : Option FieldType} {a : Array Value} {s : State} {m : MethodId} {meth : Method} {c : Code} (h1 : s.methodNamed? y = some m) (h2 : s.vm.method? m = some meth) (h3 : meth.code = some c) (h4 : c.code = bytes)
    (h5 : (c.maxLocals == mx && c.exceptionTable.isEmpty && decide (c.maxStack ≤ mostOperands) && decide (meth.sig.returnType = rt) && !meth.locks && decide (parseMethodDescriptor y.desc = some meth.sig)) = true) : (Jvm.Cond.code y bytes mx rt).before a s = true := by
  simp only [Bool.and_eq_true, beq_iff_eq, Bool.not_eq_true', decide_eq_true_eq] at h5
  obtain ⟨⟨⟨⟨⟨g1, g2⟩, g3⟩, g4⟩, g5⟩, g6⟩ := h5
  simp [Cond.before, Cond.holds, Cond.value, h1, h2, h3, h4, g1, g2, g3, g4, g5, g6]
def isCode : Jvm.Cond → Bool
  | .code _ _ _ _ => true
  | _ => false
theorem all_split {L : List Jvm.Cond} {P : Jvm.Cond → Bool} (h1 : L.all (fun c => isCode c || P c) = true) (h2 : ∀ c ∈ L.filter isCode, P c = true) : L.all P = true := by
  refine List.all_eq_true.mpr fun c hc => ?_
  have h := List.all_eq_true.mp h1 c hc
  rcases Bool.eq_false_or_eq_true (isCode c) with hi | hi
  · exact h2 c (List.mem_filter.mpr ⟨hc, hi⟩)
  · simpa [hi] using h
set_option maxRecDepth 65536 in
theorem w_c0 : (Jvm.Cond.code x code maxLocals ret).before args0 about1 = true := code_word (m := ⟨1, 2⟩) (meth := k1m2) (c := k1c2) (by decide +kernel) rfl rfl rfl (by decide +kernel)
set_option maxRecDepth 65536 in
theorem w_c1 : (Jvm.Cond.code ({ cls := "com/example/recolecta/recolecta/BoxContainsPinLaw", name := "coord", desc := "(JI)J" } : Jvm.MethodName) method_2_code (3 : Nat) (Option.some Jvm.ClassFile.FieldType.long)).before args0 about1 = true := code_word (m := ⟨1, 1⟩) (meth := k1m1) (c := k1c1) (by decide +kernel) rfl rfl rfl (by decide +kernel)
set_option maxRecDepth 65536 in
theorem w_c2 : (Jvm.Cond.code ({ cls := "com/example/recolecta/recolecta/Box", name := "<init>", desc := "([D[D)V" } : Jvm.MethodName) prog_7_method_1_code (4 : Nat) (Option.none : Option Jvm.ClassFile.FieldType)).before args0 about1 = true := code_word (m := ⟨2, 0⟩) (meth := k2m0) (c := k2c0) (by decide +kernel) rfl rfl rfl (by decide +kernel)
set_option maxRecDepth 65536 in
theorem w_c3 : (Jvm.Cond.code ({ cls := "java/lang/Object", name := "<init>", desc := "()V" } : Jvm.MethodName) object_method_1_code (1 : Nat) (Option.none : Option Jvm.ClassFile.FieldType)).before args0 about1 = true := code_word (m := ⟨0, 0⟩) (meth := k0m0) (c := k0c0) (by decide +kernel) rfl rfl rfl (by decide +kernel)
set_option maxRecDepth 65536 in
theorem w_c4 : (Jvm.Cond.code ({ cls := "com/example/recolecta/recolecta/Box", name := "contains", desc := "([D)Z" } : Jvm.MethodName) prog_7_method_3_code (3 : Nat) (Option.some Jvm.ClassFile.FieldType.boolean)).before args0 about1 = true := code_word (m := ⟨2, 1⟩) (meth := k2m1) (c := k2c1) (by decide +kernel) rfl rfl rfl (by decide +kernel)
def codes1 : List Jvm.Cond := [Jvm.Cond.code x code maxLocals ret, Jvm.Cond.code ({ cls := "com/example/recolecta/recolecta/BoxContainsPinLaw", name := "coord", desc := "(JI)J" } : Jvm.MethodName) method_2_code (3 : Nat) (Option.some Jvm.ClassFile.FieldType.long), Jvm.Cond.code ({ cls := "com/example/recolecta/recolecta/Box", name := "<init>", desc := "([D[D)V" } : Jvm.MethodName) prog_7_method_1_code (4 : Nat) (Option.none : Option Jvm.ClassFile.FieldType), Jvm.Cond.code ({ cls := "java/lang/Object", name := "<init>", desc := "()V" } : Jvm.MethodName) object_method_1_code (1 : Nat) (Option.none : Option Jvm.ClassFile.FieldType), Jvm.Cond.code ({ cls := "com/example/recolecta/recolecta/Box", name := "contains", desc := "([D)Z" } : Jvm.MethodName) prog_7_method_3_code (3 : Nat) (Option.some Jvm.ClassFile.FieldType.boolean)]
set_option maxRecDepth 65536 in
theorem codes_eq : words1.filter isCode = codes1 := rfl
theorem w_codes : ∀ c ∈ words1.filter isCode, c.before args0 about1 = true := by
  rw [codes_eq]
  intro c hc
  simp only [codes1, List.mem_cons, List.not_mem_nil, or_false] at hc
  rcases hc with rfl | rfl | rfl | rfl | rfl
  · exact w_c0
  · exact w_c1
  · exact w_c2
  · exact w_c3
  · exact w_c4
set_option maxRecDepth 65536 in
theorem w_t1 : (words1.take 24).all (fun c => isCode c || c.before args0 about1) = true := by decide +kernel
set_option maxRecDepth 65536 in
theorem w_t2 : (words1.drop 24).all (fun c => isCode c || c.before args0 about1) = true := by decide +kernel
theorem w_tables : (allAtoms (Jvm.Cond.code x code maxLocals ret :: tables_1)).before args0 about1 = true := by
  rw [allAtoms_all]
  show words1.all (fun c => c.before args0 about1) = true
  refine all_split ?_ w_codes
  rw [← List.take_append_drop 24 words1, List.all_append, w_t1, w_t2]
  rfl
set_option maxRecDepth 65536 in
theorem w_case : (Jvm.Cond.and given_1 narrow_1).before args0 about1 = true := by decide +kernel
theorem w_applies : (headSpec (Jvm.Cond.code x code maxLocals ret :: tables_1) room_1).applies x e0.platform about1 = true :=
  (Spec.applies_iff w_frames).mpr ⟨w_running, w_runnable, w_alone, w_named, w_hears, w_ripe, w_room, w_tables⟩
theorem atStart : AtStart classFile x code maxLocals ret World_1 tables_1 room_1 Calls_1 rest_1 Pre_1 launch0 p0 e0 about1 theMethod args0 below0 :=
  ⟨lists_1, trivial, launch0.admits_env _ _ _, launch0.least_env, fairChoices_fair.cas, fairChoices_fair.clock, w_frames, w_args, w_heap, w_applies, trivial, trivial, w_case⟩
end start1
theorem witness_1 : WitnessClaimed_1 := ⟨start1.p0, start1.e0, start1.about1, start1.theMethod, start1.args0, start1.below0, start1.atStart⟩
end Jvm.Pilot.@@N@@
