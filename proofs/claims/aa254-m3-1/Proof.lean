import JvmDerived
import JvmDerived.Pilot.@@N@@Statement
import JvmDerived.Pilot.@@N@@Code
set_option linter.unusedVariables false
set_option linter.unusedSimpArgs false
namespace Jvm.Pilot.@@N@@
open Jvm Jvm.ClassFile Sem Op Lib Jvm.Free Jvm.Stand Jvm.LawKit Jvm.RoadKit Bundle Jvm.Pilot.@@N@@.Jvm.D
section OwnKit
variable {p : Program} {l : Launch} {e : Env} {R : Room} {s : State} {m : MethodId} {args : Array Value} {below : List Frame} {meth : Method} {c : Code} {T : State} {locs : List Loc} {cells slots : Nat} {Z : State} {a0 : Array Value} {h h' : Heap} {Ev : State → Outcome → Prop}
def Go (p : Program) (e : Env) (below : List Frame) (Ev : State → Outcome → Prop) (T : State) (g : JFrame) : Prop :=
  ∃ (U : State) (o : Outcome), Steps p.tables e below (T.setTop g) U ∧ U.status = .running ∧ Ended U below o ∧ Ev U o
theorem Go.on {T T' : State} {g g' : JFrame} (K : Go p e below Ev T' g') (st : ∀ t, Steps p.tables e below (T'.setTop g') t → Steps p.tables e below (T.setTop g) t) : Go p e below Ev T g := by
  obtain ⟨U, o, h1, h2⟩ := K
  exact ⟨U, o, st _ h1, h2⟩
/-- what a body leaves -/
abbrev EndQ (s : State) (Q : Option Value → Heap → List Loc → Prop) (K N : Nat) : State → Outcome → Prop := fun U o => ∃ (v : Option Value) (L : List Loc), o = .returned v ∧ Q v U.heap L ∧ FrameEnd s o U L K N
theorem own_met {x : MethodName} {code : ByteArray} {ml : Nat} {ret : Option FieldType} {ws : List Jvm.Cond} {rm : Room} {as : Array Value} {h0 : Heap} {Q : Option Value → Heap → List Loc → Prop} {K N : Nat} {Ls : Array Slot} (hpn : plainFor x = true) (hef : ∀ m, entryFrame m as ml = mkF m 0 Ls [])
    (body : ∀ (p : Program) (e : Env) (s : State) (m : MethodId) (below : List Frame) (meth : Method) (c : Code) (T : State), Stand p l e rm s m as below meth c T [] 0 0 → p.tables.exec = Jvm.exec → c.code = code → c.maxLocals = ml → meth.sig.returnType = ret → meth.locks = false → meth.name = x.name → s.vm.findClass x.cls = some m.cls → Z.Warmed39 s.vm → T.heap = h0 → Go p e below (EndQ s Q K N) T (mkF m 0 Ls [])) :
    MetFree l x (head1 (Jvm.Cond.code x code ml ret :: ws) rm) (fun a U => a = as ∧ Z.Warmed39 U.vm ∧ U.heap = h0) (fun _ _ _ _ _ => True) (fun _ U o U' => ∃ v L, o = .returned v ∧ Q v U'.heap L ∧ FrameEnd U o U' L K N) := by
  refine MetFree.of_bodySF hpn hisR ?_
  intro p e s m args below meth c s₁ Bd hml0 hP hK
  obtain ⟨rfl, hZ, hh⟩ := hP
  have e0 : s₁.heap = h0 := by rw [← hh, Bd.state]; rfl
  obtain ⟨U, o, h1, h2, h3, h4⟩ := body p e s m below meth c s₁ (Stand.of_body Bd) Bd.exec Bd.bytes hml0 Bd.returns (BodyLoose.notSynchronized Bd) (name_of_methodNamed Bd.named Bd.method).1 (findClass_of_methodNamed Bd.named) hZ e0
  rw [← hef m] at h1
  exact ⟨U, o, h1, h2, h3, h4⟩
theorem g_leave (X : Stand p l e R s m args below meth c T locs cells slots) (hlk : meth.locks = false) {Q : Option Value → Heap → List Loc → Prop} {K N : Nat} {g : JFrame} {v : Option Value} (hv : meth.sig.returnType = none → v = none) (hK : cells ≤ K) (hN : slots ≤ N) (eT : T.heap = h) (hQ : Q v h locs)
    (hst : ∀ fs, (∀ (f : JFrame) (acts : List Action), f.method = m → f.locked = none → f.entered = [] → (doReturn e (T.setTop f) acts v).1 = T.setFrames fs) → Steps p.tables e below (T.setTop g) (T.setFrames fs)) : Go p e below (EndQ s Q K N) T g := by
  obtain ⟨fs, hr, hrun, hended, hW, hsame⟩ := X.leave (v := v) hv hlk
  exact ⟨_, _, hst fs hr, hrun, hended, _, _, rfl, by rw [show (T.setFrames fs).heap = T.heap from rfl, eT]; exact hQ, ⟨_, rfl⟩, hW, hsame.mono hK hN⟩
theorem g_retI (X : Stand p l e R s m args below meth c T locs cells slots) (hx : p.tables.exec = Jvm.exec) (hlk : meth.locks = false) {Q : Option Value → Heap → List Loc → Prop} {K N : Nat} {pc : Nat} {Ls : Array Slot} {z : Int32} {rest : List Value} (hret : meth.sig.returnType = some .int) (hd : decode c.code pc = .ok (.ireturn, 1)) (hK : cells ≤ K) (hN : slots ≤ N) (eT : T.heap = h) (hQ : Q (some (.int z)) h locs) : Go p e below (EndQ s Q K N) T (mkF m pc Ls (.int z :: rest)) :=
  g_leave X hlk (fun q => by rw [hret] at q; cases q) hK hN eT hQ (fun fs hr => retOut X hx hret rfl (Or.inl ⟨rfl, Or.inl rfl, _, rfl⟩) hd hr)
theorem g_retZ (X : Stand p l e R s m args below meth c T locs cells slots) (hx : p.tables.exec = Jvm.exec) (hlk : meth.locks = false) {Q : Option Value → Heap → List Loc → Prop} {K N : Nat} {pc : Nat} {Ls : Array Slot} {z : Int32} {rest : List Value} (hret : meth.sig.returnType = some .boolean) (hd : decode c.code pc = .ok (.ireturn, 1)) (hK : cells ≤ K) (hN : slots ≤ N) (eT : T.heap = h) (hQ : Q (some (.int (nar .boolean z))) h locs) : Go p e below (EndQ s Q K N) T (mkF m pc Ls (.int z :: rest)) :=
  g_leave X hlk (fun q => by rw [hret] at q; cases q) hK hN eT hQ (fun fs hr => retN X hx (t := .boolean) hret (by simp) hd hr)
theorem g_retD (X : Stand p l e R s m args below meth c T locs cells slots) (hx : p.tables.exec = Jvm.exec) (hlk : meth.locks = false) {Q : Option Value → Heap → List Loc → Prop} {K N : Nat} {pc : Nat} {Ls : Array Slot} {z : UInt64} {rest : List Value} (hret : meth.sig.returnType = some .double) (hd : decode c.code pc = .ok (.dreturn, 1)) (hK : cells ≤ K) (hN : slots ≤ N) (eT : T.heap = h) (hQ : Q (some (.double z)) h locs) : Go p e below (EndQ s Q K N) T (mkF m pc Ls (.double z :: rest)) :=
  g_leave X hlk (fun q => by rw [hret] at q; cases q) hK hN eT hQ (fun fs hr => retOut X hx hret rfl (Or.inr (Or.inr (Or.inl ⟨rfl, rfl, _, rfl⟩))) hd hr)
theorem g_retJ (X : Stand p l e R s m args below meth c T locs cells slots) (hx : p.tables.exec = Jvm.exec) (hlk : meth.locks = false) {Q : Option Value → Heap → List Loc → Prop} {K N : Nat} {pc : Nat} {Ls : Array Slot} {z : Int64} {rest : List Value} (hret : meth.sig.returnType = some .long) (hd : decode c.code pc = .ok (.lreturn, 1)) (hK : cells ≤ K) (hN : slots ≤ N) (eT : T.heap = h) (hQ : Q (some (.long z)) h locs) : Go p e below (EndQ s Q K N) T (mkF m pc Ls (.long z :: rest)) :=
  g_leave X hlk (fun q => by rw [hret] at q; cases q) hK hN eT hQ (fun fs hr => retOut X hx hret rfl (Or.inr (Or.inl ⟨rfl, rfl, _, rfl⟩)) hd hr)
theorem g_retA (X : Stand p l e R s m args below meth c T locs cells slots) (hx : p.tables.exec = Jvm.exec) (hlk : meth.locks = false) {Q : Option Value → Heap → List Loc → Prop} {K N : Nat} {pc : Nat} {Ls : Array Slot} {w : Value} {rest : List Value} {t : FieldType} (hret : meth.sig.returnType = some t) (ht : t.isReference = true) (hw : w.isRef = true) (hn : narrow t w = w) (hd : decode c.code pc = .ok (.areturn, 1)) (hK : cells ≤ K) (hN : slots ≤ N) (eT : T.heap = h) (hQ : Q (some w) h locs) : Go p e below (EndQ s Q K N) T (mkF m pc Ls (w :: rest)) :=
  g_leave X hlk (fun q => by rw [hret] at q; cases q) hK hN eT hQ (fun fs hr => retOut X hx hret hn (Or.inr (Or.inr (Or.inr (Or.inr ⟨rfl, ht, hw⟩)))) hd hr)
theorem g_retV (X : Stand p l e R s m args below meth c T locs cells slots) (hx : p.tables.exec = Jvm.exec) (hlk : meth.locks = false) {Q : Option Value → Heap → List Loc → Prop} {K N : Nat} {pc : Nat} {Ls : Array Slot} (hret : meth.sig.returnType = none) (hd : decode c.code pc = .ok (.return_, 1)) (hK : cells ≤ K) (hN : slots ≤ N) (eT : T.heap = h) (hQ : Q none h locs) : Go p e below (EndQ s Q K N) T (mkF m pc Ls []) :=
  g_leave X hlk (fun _ => rfl) hK hN eT hQ (fun fs hr => X.returnOut hx hret hd hr)
theorem g_iloadN (X : Stand p l e R s m args below meth c T locs cells slots) (hx : p.tables.exec = Jvm.exec) {pc : Nat} {Ls : Array Slot} {st : List Value} {k : Fin 4} {v : Int32} (q : Nat) (hd : decode c.code pc = .ok (.iload_n k, 1)) (hq : pc + 1 = q) (hl : Ls[k.val]? = some (.val (.int v))) (K : Go p e below Ev T (mkF m q Ls (.int v :: st))) : Go p e below Ev T (mkF m pc Ls st) := by
  subst hq
  exact K.on fun _ k => XS.iloadN X.here hx rfl hd hl k
theorem g_iload (X : Stand p l e R s m args below meth c T locs cells slots) (hx : p.tables.exec = Jvm.exec) {pc : Nat} {Ls : Array Slot} {st : List Value} {k : Nat} {v : Int32} (q : Nat) (hd : decode c.code pc = .ok (.iload k, 2)) (hq : pc + 2 = q) (hl : Ls[k]? = some (.val (.int v))) (K : Go p e below Ev T (mkF m q Ls (.int v :: st))) : Go p e below Ev T (mkF m pc Ls st) := by
  subst hq
  exact K.on fun _ k => XS.iload X.here hx rfl hd hl k
theorem g_istoreN (X : Stand p l e R s m args below meth c T locs cells slots) (hx : p.tables.exec = Jvm.exec) {pc : Nat} {Ls : Array Slot} {st : List Value} {k : Fin 4} {v : Int32} {l' : Array Slot} (q : Nat) (hd : decode c.code pc = .ok (.istore_n k, 1)) (hq : pc + 1 = q) (hl : storeLocals Ls k.val (.int v) = some l') (K : Go p e below Ev T (mkF m q l' st)) : Go p e below Ev T (mkF m pc Ls (.int v :: st)) := by
  subst hq
  exact K.on fun _ k => XS.istoreN X.here hx rfl hd rfl hl k
theorem g_istore (X : Stand p l e R s m args below meth c T locs cells slots) (hx : p.tables.exec = Jvm.exec) {pc : Nat} {Ls : Array Slot} {st : List Value} {k : Nat} {v : Int32} {l' : Array Slot} (q : Nat) (hd : decode c.code pc = .ok (.istore k, 2)) (hq : pc + 2 = q) (hl : storeLocals Ls k (.int v) = some l') (K : Go p e below Ev T (mkF m q l' st)) : Go p e below Ev T (mkF m pc Ls (.int v :: st)) := by
  subst hq
  exact K.on fun _ k => XS.istore X.here hx rfl hd rfl hl k
theorem g_lloadN (X : Stand p l e R s m args below meth c T locs cells slots) (hx : p.tables.exec = Jvm.exec) {pc : Nat} {Ls : Array Slot} {st : List Value} {k : Fin 4} {v : Int64} (q : Nat) (hd : decode c.code pc = .ok (.lload_n k, 1)) (hq : pc + 1 = q) (hl : Ls[k.val]? = some (.val (.long v))) (K : Go p e below Ev T (mkF m q Ls (.long v :: st))) : Go p e below Ev T (mkF m pc Ls st) := by
  subst hq
  exact K.on fun _ k => XS.lloadN X.here hx rfl hd hl k
theorem g_lload (X : Stand p l e R s m args below meth c T locs cells slots) (hx : p.tables.exec = Jvm.exec) {pc : Nat} {Ls : Array Slot} {st : List Value} {k : Nat} {v : Int64} (q : Nat) (hd : decode c.code pc = .ok (.lload k, 2)) (hq : pc + 2 = q) (hl : Ls[k]? = some (.val (.long v))) (K : Go p e below Ev T (mkF m q Ls (.long v :: st))) : Go p e below Ev T (mkF m pc Ls st) := by
  subst hq
  exact K.on fun _ k => XS.lload X.here hx rfl hd hl k
theorem g_lstoreN (X : Stand p l e R s m args below meth c T locs cells slots) (hx : p.tables.exec = Jvm.exec) {pc : Nat} {Ls : Array Slot} {st : List Value} {k : Fin 4} {v : Int64} {l' : Array Slot} (q : Nat) (hd : decode c.code pc = .ok (.lstore_n k, 1)) (hq : pc + 1 = q) (hl : storeLocals Ls k.val (.long v) = some l') (K : Go p e below Ev T (mkF m q l' st)) : Go p e below Ev T (mkF m pc Ls (.long v :: st)) := by
  subst hq
  exact K.on fun _ k => XS.lstoreN X.here hx rfl hd rfl hl k
theorem g_lstore (X : Stand p l e R s m args below meth c T locs cells slots) (hx : p.tables.exec = Jvm.exec) {pc : Nat} {Ls : Array Slot} {st : List Value} {k : Nat} {v : Int64} {l' : Array Slot} (q : Nat) (hd : decode c.code pc = .ok (.lstore k, 2)) (hq : pc + 2 = q) (hl : storeLocals Ls k (.long v) = some l') (K : Go p e below Ev T (mkF m q l' st)) : Go p e below Ev T (mkF m pc Ls (.long v :: st)) := by
  subst hq
  exact K.on fun _ k => XS.lstore X.here hx rfl hd rfl hl k
theorem g_dloadN (X : Stand p l e R s m args below meth c T locs cells slots) (hx : p.tables.exec = Jvm.exec) {pc : Nat} {Ls : Array Slot} {st : List Value} {k : Fin 4} {v : UInt64} (q : Nat) (hd : decode c.code pc = .ok (.dload_n k, 1)) (hq : pc + 1 = q) (hl : Ls[k.val]? = some (.val (.double v))) (K : Go p e below Ev T (mkF m q Ls (.double v :: st))) : Go p e below Ev T (mkF m pc Ls st) := by
  subst hq
  exact K.on fun _ k => XS.dloadN X.here hx rfl hd hl k
theorem g_dload (X : Stand p l e R s m args below meth c T locs cells slots) (hx : p.tables.exec = Jvm.exec) {pc : Nat} {Ls : Array Slot} {st : List Value} {k : Nat} {v : UInt64} (q : Nat) (hd : decode c.code pc = .ok (.dload k, 2)) (hq : pc + 2 = q) (hl : Ls[k]? = some (.val (.double v))) (K : Go p e below Ev T (mkF m q Ls (.double v :: st))) : Go p e below Ev T (mkF m pc Ls st) := by
  subst hq
  exact K.on fun _ k => XS.dload X.here hx rfl hd hl k
theorem g_dstoreN (X : Stand p l e R s m args below meth c T locs cells slots) (hx : p.tables.exec = Jvm.exec) {pc : Nat} {Ls : Array Slot} {st : List Value} {k : Fin 4} {v : UInt64} {l' : Array Slot} (q : Nat) (hd : decode c.code pc = .ok (.dstore_n k, 1)) (hq : pc + 1 = q) (hl : storeLocals Ls k.val (.double v) = some l') (K : Go p e below Ev T (mkF m q l' st)) : Go p e below Ev T (mkF m pc Ls (.double v :: st)) := by
  subst hq
  exact K.on fun _ k => XS.dstoreN X.here hx rfl hd rfl hl k
theorem g_dstore (X : Stand p l e R s m args below meth c T locs cells slots) (hx : p.tables.exec = Jvm.exec) {pc : Nat} {Ls : Array Slot} {st : List Value} {k : Nat} {v : UInt64} {l' : Array Slot} (q : Nat) (hd : decode c.code pc = .ok (.dstore k, 2)) (hq : pc + 2 = q) (hl : storeLocals Ls k (.double v) = some l') (K : Go p e below Ev T (mkF m q l' st)) : Go p e below Ev T (mkF m pc Ls (.double v :: st)) := by
  subst hq
  exact K.on fun _ k => XS.dstore X.here hx rfl hd rfl hl k
theorem g_aloadN (X : Stand p l e R s m args below meth c T locs cells slots) (hx : p.tables.exec = Jvm.exec) {pc : Nat} {Ls : Array Slot} {st : List Value} {k : Fin 4} {v : Value} (q : Nat) (hd : decode c.code pc = .ok (.aload_n k, 1)) (hq : pc + 1 = q) (hl : Ls[k.val]? = some (.val v)) (hv : v.isRef = true) (K : Go p e below Ev T (mkF m q Ls (v :: st))) : Go p e below Ev T (mkF m pc Ls st) := by
  subst hq
  exact K.on fun _ k => XS.aloadN X.here hx rfl hd hl hv k
theorem g_aload (X : Stand p l e R s m args below meth c T locs cells slots) (hx : p.tables.exec = Jvm.exec) {pc : Nat} {Ls : Array Slot} {st : List Value} {k : Nat} {v : Value} (q : Nat) (hd : decode c.code pc = .ok (.aload k, 2)) (hq : pc + 2 = q) (hl : Ls[k]? = some (.val v)) (hv : v.isRef = true) (K : Go p e below Ev T (mkF m q Ls (v :: st))) : Go p e below Ev T (mkF m pc Ls st) := by
  subst hq
  exact K.on fun _ k => XS.aload X.here hx rfl hd hl hv k
theorem g_astoreN (X : Stand p l e R s m args below meth c T locs cells slots) (hx : p.tables.exec = Jvm.exec) {pc : Nat} {Ls : Array Slot} {st : List Value} {k : Fin 4} {v : Value} {l' : Array Slot} (q : Nat) (hd : decode c.code pc = .ok (.astore_n k, 1)) (hq : pc + 1 = q) (hv : v.isRef = true) (hl : storeLocals Ls k.val v = some l') (K : Go p e below Ev T (mkF m q l' st)) : Go p e below Ev T (mkF m pc Ls (v :: st)) := by
  subst hq
  exact K.on fun _ k => XS.astoreN X.here hx rfl hd rfl hv hl k
theorem g_astore (X : Stand p l e R s m args below meth c T locs cells slots) (hx : p.tables.exec = Jvm.exec) {pc : Nat} {Ls : Array Slot} {st : List Value} {k : Nat} {v : Value} {l' : Array Slot} (q : Nat) (hd : decode c.code pc = .ok (.astore k, 2)) (hq : pc + 2 = q) (hv : v.isRef = true) (hl : storeLocals Ls k v = some l') (K : Go p e below Ev T (mkF m q l' st)) : Go p e below Ev T (mkF m pc Ls (v :: st)) := by
  subst hq
  exact K.on fun _ k => XS.astore X.here hx rfl hd rfl hv hl k
theorem g_iconst (X : Stand p l e R s m args below meth c T locs cells slots) (hx : p.tables.exec = Jvm.exec) {pc : Nat} {Ls : Array Slot} {st : List Value} {i : Int} (v : Int32) (q : Nat) (hd : decode c.code pc = .ok (.iconst i, 1)) (hq : pc + 1 = q) (hv : Int32.ofInt i = v) (K : Go p e below Ev T (mkF m q Ls (.int v :: st))) : Go p e below Ev T (mkF m pc Ls st) := by
  subst hq
  exact K.on fun _ k => XT.iconstV X.here hx rfl v hd hv k
theorem g_bipush (X : Stand p l e R s m args below meth c T locs cells slots) (hx : p.tables.exec = Jvm.exec) {pc : Nat} {Ls : Array Slot} {st : List Value} {i : Int} (v : Int32) (q : Nat) (hd : decode c.code pc = .ok (.bipush i, 2)) (hq : pc + 2 = q) (hv : (Int8.ofInt i).toInt32 = v) (K : Go p e below Ev T (mkF m q Ls (.int v :: st))) : Go p e below Ev T (mkF m pc Ls st) := by
  subst hq
  exact K.on fun _ k => XT.bipushV X.here hx rfl v hd hv k
theorem g_sipush (X : Stand p l e R s m args below meth c T locs cells slots) (hx : p.tables.exec = Jvm.exec) {pc : Nat} {Ls : Array Slot} {st : List Value} {i : Int} (v : Int32) (q : Nat) (hd : decode c.code pc = .ok (.sipush i, 3)) (hq : pc + 3 = q) (hv : (Int16.ofInt i).toInt32 = v) (K : Go p e below Ev T (mkF m q Ls (.int v :: st))) : Go p e below Ev T (mkF m pc Ls st) := by
  subst hq
  exact K.on fun _ k => XT.sipushV X.here hx rfl v hd hv k
theorem g_lconst (X : Stand p l e R s m args below meth c T locs cells slots) (hx : p.tables.exec = Jvm.exec) {pc : Nat} {Ls : Array Slot} {st : List Value} {i : Fin 2} (v : Int64) (q : Nat) (hd : decode c.code pc = .ok (.lconst i, 1)) (hq : pc + 1 = q) (hv : Int64.ofNat i = v) (K : Go p e below Ev T (mkF m q Ls (.long v :: st))) : Go p e below Ev T (mkF m pc Ls st) := by
  subst hq
  exact K.on fun _ k => XT.lconstV X.here hx rfl v hd hv k
theorem g_dconst0 (X : Stand p l e R s m args below meth c T locs cells slots) (hx : p.tables.exec = Jvm.exec) {pc : Nat} {Ls : Array Slot} {st : List Value}  (q : Nat) (hd : decode c.code pc = .ok (.dconst 0, 1)) (hq : pc + 1 = q)  (K : Go p e below Ev T (mkF m q Ls (.double 0 :: st))) : Go p e below Ev T (mkF m pc Ls st) := by
  subst hq
  exact K.on fun _ k => XS.dconst0 X.here hx rfl hd rfl k
theorem g_dconst1 (X : Stand p l e R s m args below meth c T locs cells slots) (hx : p.tables.exec = Jvm.exec) {pc : Nat} {Ls : Array Slot} {st : List Value}  (q : Nat) (hd : decode c.code pc = .ok (.dconst 1, 1)) (hq : pc + 1 = q)  (K : Go p e below Ev T (mkF m q Ls (.double 4607182418800017408 :: st))) : Go p e below Ev T (mkF m pc Ls st) := by
  subst hq
  exact K.on fun _ k => XS.dconst1 X.here hx rfl hd rfl k
theorem g_null (X : Stand p l e R s m args below meth c T locs cells slots) (hx : p.tables.exec = Jvm.exec) {pc : Nat} {Ls : Array Slot} {st : List Value}  (q : Nat) (hd : decode c.code pc = .ok (.aconst_null, 1)) (hq : pc + 1 = q)  (K : Go p e below Ev T (mkF m q Ls (.null :: st))) : Go p e below Ev T (mkF m pc Ls st) := by
  subst hq
  exact K.on fun _ k => XS.aconstNull X.here hx rfl hd k
theorem g_iinc (X : Stand p l e R s m args below meth c T locs cells slots) (hx : p.tables.exec = Jvm.exec) {pc : Nat} {Ls : Array Slot} {st : List Value} {k : Nat} {i : Int} {v w : Int32} {l' : Array Slot} (q : Nat) (hd : decode c.code pc = .ok (.iinc k i, 3)) (hq : pc + 3 = q) (hl : Ls[k]? = some (.val (.int v))) (hv : Int32.ofInt i = w) (hl' : storeLocals Ls k (.int (v + w)) = some l') (K : Go p e below Ev T (mkF m q l' st)) : Go p e below Ev T (mkF m pc Ls st) := by
  subst hq
  exact K.on fun _ k => XT.iincV X.here hx rfl w hd hv hl hl' k
theorem g_iadd (X : Stand p l e R s m args below meth c T locs cells slots) (hx : p.tables.exec = Jvm.exec) {pc : Nat} {Ls : Array Slot} {st : List Value} {x y : Int32} (q : Nat) (hd : decode c.code pc = .ok (.iadd, 1)) (hq : pc + 1 = q)  (K : Go p e below Ev T (mkF m q Ls (.int (x + y) :: st))) : Go p e below Ev T (mkF m pc Ls (.int y :: .int x :: st)) := by
  subst hq
  exact K.on fun _ k => XS.iadd X.here hx rfl hd rfl k
theorem g_ladd (X : Stand p l e R s m args below meth c T locs cells slots) (hx : p.tables.exec = Jvm.exec) {pc : Nat} {Ls : Array Slot} {st : List Value} {x y : Int64} (q : Nat) (hd : decode c.code pc = .ok (.ladd, 1)) (hq : pc + 1 = q)  (K : Go p e below Ev T (mkF m q Ls (.long (x + y) :: st))) : Go p e below Ev T (mkF m pc Ls (.long y :: .long x :: st)) := by
  subst hq
  exact K.on fun _ k => XS.ladd X.here hx rfl hd rfl k
theorem g_isub (X : Stand p l e R s m args below meth c T locs cells slots) (hx : p.tables.exec = Jvm.exec) {pc : Nat} {Ls : Array Slot} {st : List Value} {x y : Int32} (q : Nat) (hd : decode c.code pc = .ok (.isub, 1)) (hq : pc + 1 = q)  (K : Go p e below Ev T (mkF m q Ls (.int (x - y) :: st))) : Go p e below Ev T (mkF m pc Ls (.int y :: .int x :: st)) := by
  subst hq
  exact K.on fun _ k => XS.isub X.here hx rfl hd rfl k
theorem g_lsub (X : Stand p l e R s m args below meth c T locs cells slots) (hx : p.tables.exec = Jvm.exec) {pc : Nat} {Ls : Array Slot} {st : List Value} {x y : Int64} (q : Nat) (hd : decode c.code pc = .ok (.lsub, 1)) (hq : pc + 1 = q)  (K : Go p e below Ev T (mkF m q Ls (.long (x - y) :: st))) : Go p e below Ev T (mkF m pc Ls (.long y :: .long x :: st)) := by
  subst hq
  exact K.on fun _ k => XS.lsub X.here hx rfl hd rfl k
theorem g_imul (X : Stand p l e R s m args below meth c T locs cells slots) (hx : p.tables.exec = Jvm.exec) {pc : Nat} {Ls : Array Slot} {st : List Value} {x y : Int32} (q : Nat) (hd : decode c.code pc = .ok (.imul, 1)) (hq : pc + 1 = q)  (K : Go p e below Ev T (mkF m q Ls (.int (x * y) :: st))) : Go p e below Ev T (mkF m pc Ls (.int y :: .int x :: st)) := by
  subst hq
  exact K.on fun _ k => XS.imul X.here hx rfl hd rfl k
theorem g_lmul (X : Stand p l e R s m args below meth c T locs cells slots) (hx : p.tables.exec = Jvm.exec) {pc : Nat} {Ls : Array Slot} {st : List Value} {x y : Int64} (q : Nat) (hd : decode c.code pc = .ok (.lmul, 1)) (hq : pc + 1 = q)  (K : Go p e below Ev T (mkF m q Ls (.long (x * y) :: st))) : Go p e below Ev T (mkF m pc Ls (.long y :: .long x :: st)) := by
  subst hq
  exact K.on fun _ k => XS.lmul X.here hx rfl hd rfl k
theorem g_iand (X : Stand p l e R s m args below meth c T locs cells slots) (hx : p.tables.exec = Jvm.exec) {pc : Nat} {Ls : Array Slot} {st : List Value} {x y : Int32} (q : Nat) (hd : decode c.code pc = .ok (.iand, 1)) (hq : pc + 1 = q)  (K : Go p e below Ev T (mkF m q Ls (.int (x &&& y) :: st))) : Go p e below Ev T (mkF m pc Ls (.int y :: .int x :: st)) := by
  subst hq
  exact K.on fun _ k => XS.iand X.here hx rfl hd rfl k
theorem g_land (X : Stand p l e R s m args below meth c T locs cells slots) (hx : p.tables.exec = Jvm.exec) {pc : Nat} {Ls : Array Slot} {st : List Value} {x y : Int64} (q : Nat) (hd : decode c.code pc = .ok (.land, 1)) (hq : pc + 1 = q)  (K : Go p e below Ev T (mkF m q Ls (.long (x &&& y) :: st))) : Go p e below Ev T (mkF m pc Ls (.long y :: .long x :: st)) := by
  subst hq
  exact K.on fun _ k => XS.land X.here hx rfl hd rfl k
theorem g_ior (X : Stand p l e R s m args below meth c T locs cells slots) (hx : p.tables.exec = Jvm.exec) {pc : Nat} {Ls : Array Slot} {st : List Value} {x y : Int32} (q : Nat) (hd : decode c.code pc = .ok (.ior, 1)) (hq : pc + 1 = q)  (K : Go p e below Ev T (mkF m q Ls (.int (x ||| y) :: st))) : Go p e below Ev T (mkF m pc Ls (.int y :: .int x :: st)) := by
  subst hq
  exact K.on fun _ k => XS.ior X.here hx rfl hd rfl k
theorem g_lor (X : Stand p l e R s m args below meth c T locs cells slots) (hx : p.tables.exec = Jvm.exec) {pc : Nat} {Ls : Array Slot} {st : List Value} {x y : Int64} (q : Nat) (hd : decode c.code pc = .ok (.lor, 1)) (hq : pc + 1 = q)  (K : Go p e below Ev T (mkF m q Ls (.long (x ||| y) :: st))) : Go p e below Ev T (mkF m pc Ls (.long y :: .long x :: st)) := by
  subst hq
  exact K.on fun _ k => XS.lor X.here hx rfl hd rfl k
theorem g_ixor (X : Stand p l e R s m args below meth c T locs cells slots) (hx : p.tables.exec = Jvm.exec) {pc : Nat} {Ls : Array Slot} {st : List Value} {x y : Int32} (q : Nat) (hd : decode c.code pc = .ok (.ixor, 1)) (hq : pc + 1 = q)  (K : Go p e below Ev T (mkF m q Ls (.int (x ^^^ y) :: st))) : Go p e below Ev T (mkF m pc Ls (.int y :: .int x :: st)) := by
  subst hq
  exact K.on fun _ k => XS.ixor X.here hx rfl hd rfl k
theorem g_lxor (X : Stand p l e R s m args below meth c T locs cells slots) (hx : p.tables.exec = Jvm.exec) {pc : Nat} {Ls : Array Slot} {st : List Value} {x y : Int64} (q : Nat) (hd : decode c.code pc = .ok (.lxor, 1)) (hq : pc + 1 = q)  (K : Go p e below Ev T (mkF m q Ls (.long (x ^^^ y) :: st))) : Go p e below Ev T (mkF m pc Ls (.long y :: .long x :: st)) := by
  subst hq
  exact K.on fun _ k => XS.lxor X.here hx rfl hd rfl k
theorem g_idiv (X : Stand p l e R s m args below meth c T locs cells slots) (hx : p.tables.exec = Jvm.exec) {pc : Nat} {Ls : Array Slot} {st : List Value} {x y : Int32} (q : Nat) (hd : decode c.code pc = .ok (.idiv, 1)) (hq : pc + 1 = q) (hy : y ≠ 0) (K : Go p e below Ev T (mkF m q Ls (.int (x / y) :: st))) : Go p e below Ev T (mkF m pc Ls (.int y :: .int x :: st)) := by
  subst hq
  exact K.on fun _ k => XS.idiv X.here hx rfl hd rfl hy k
theorem g_ineg (X : Stand p l e R s m args below meth c T locs cells slots) (hx : p.tables.exec = Jvm.exec) {pc : Nat} {Ls : Array Slot} {st : List Value} {x : Int32} (q : Nat) (hd : decode c.code pc = .ok (.ineg, 1)) (hq : pc + 1 = q)  (K : Go p e below Ev T (mkF m q Ls (.int (-x) :: st))) : Go p e below Ev T (mkF m pc Ls (.int x :: st)) := by
  subst hq
  exact K.on fun _ k => XS.ineg X.here hx rfl hd rfl k
theorem g_ldiv (X : Stand p l e R s m args below meth c T locs cells slots) (hx : p.tables.exec = Jvm.exec) {pc : Nat} {Ls : Array Slot} {st : List Value} {x y : Int64} (q : Nat) (hd : decode c.code pc = .ok (.ldiv, 1)) (hq : pc + 1 = q) (hy : y ≠ 0) (K : Go p e below Ev T (mkF m q Ls (.long (x / y) :: st))) : Go p e below Ev T (mkF m pc Ls (.long y :: .long x :: st)) := by
  subst hq
  exact K.on fun _ k => XS.ldiv X.here hx rfl hd rfl hy k
theorem g_lneg (X : Stand p l e R s m args below meth c T locs cells slots) (hx : p.tables.exec = Jvm.exec) {pc : Nat} {Ls : Array Slot} {st : List Value} {x : Int64} (q : Nat) (hd : decode c.code pc = .ok (.lneg, 1)) (hq : pc + 1 = q)  (K : Go p e below Ev T (mkF m q Ls (.long (-x) :: st))) : Go p e below Ev T (mkF m pc Ls (.long x :: st)) := by
  subst hq
  exact K.on fun _ k => XS.lneg X.here hx rfl hd rfl k
theorem g_irem (X : Stand p l e R s m args below meth c T locs cells slots) (hx : p.tables.exec = Jvm.exec) {pc : Nat} {Ls : Array Slot} {st : List Value} {x y : Int32} (q : Nat) (hd : decode c.code pc = .ok (.irem, 1)) (hq : pc + 1 = q) (hy : y ≠ 0) (K : Go p e below Ev T (mkF m q Ls (.int (x % y) :: st))) : Go p e below Ev T (mkF m pc Ls (.int y :: .int x :: st)) := by
  subst hq
  exact K.on fun _ k => iremM X hx rfl hd rfl hy k
theorem g_lrem (X : Stand p l e R s m args below meth c T locs cells slots) (hx : p.tables.exec = Jvm.exec) {pc : Nat} {Ls : Array Slot} {st : List Value} {x y : Int64} (q : Nat) (hd : decode c.code pc = .ok (.lrem, 1)) (hq : pc + 1 = q) (hy : y ≠ 0) (K : Go p e below Ev T (mkF m q Ls (.long (x - (x / y) * y) :: st))) : Go p e below Ev T (mkF m pc Ls (.long y :: .long x :: st)) := by
  subst hq
  exact K.on fun _ k => XS.lrem X.here hx rfl hd rfl hy k
theorem g_ishl (X : Stand p l e R s m args below meth c T locs cells slots) (hx : p.tables.exec = Jvm.exec) {pc : Nat} {Ls : Array Slot} {st : List Value} {x y : Int32} (q : Nat) (hd : decode c.code pc = .ok (.ishl, 1)) (hq : pc + 1 = q)  (K : Go p e below Ev T (mkF m q Ls (.int (x <<< (y &&& 31)) :: st))) : Go p e below Ev T (mkF m pc Ls (.int y :: .int x :: st)) := by
  subst hq
  exact K.on fun _ k => XS.ishl X.here hx rfl hd rfl k
theorem g_ishr (X : Stand p l e R s m args below meth c T locs cells slots) (hx : p.tables.exec = Jvm.exec) {pc : Nat} {Ls : Array Slot} {st : List Value} {x y : Int32} (q : Nat) (hd : decode c.code pc = .ok (.ishr, 1)) (hq : pc + 1 = q)  (K : Go p e below Ev T (mkF m q Ls (.int (x >>> (y &&& 31)) :: st))) : Go p e below Ev T (mkF m pc Ls (.int y :: .int x :: st)) := by
  subst hq
  exact K.on fun _ k => XS.ishr X.here hx rfl hd rfl k
theorem g_iushr (X : Stand p l e R s m args below meth c T locs cells slots) (hx : p.tables.exec = Jvm.exec) {pc : Nat} {Ls : Array Slot} {st : List Value} {x y : Int32} (q : Nat) (hd : decode c.code pc = .ok (.iushr, 1)) (hq : pc + 1 = q)  (K : Go p e below Ev T (mkF m q Ls (.int ((x.toUInt32 >>> (y &&& 31).toUInt32).toInt32) :: st))) : Go p e below Ev T (mkF m pc Ls (.int y :: .int x :: st)) := by
  subst hq
  exact K.on fun _ k => XS.iushr X.here hx rfl hd rfl k
theorem g_lshl (X : Stand p l e R s m args below meth c T locs cells slots) (hx : p.tables.exec = Jvm.exec) {pc : Nat} {Ls : Array Slot} {st : List Value} {x : Int64} {y : Int32} (q : Nat) (hd : decode c.code pc = .ok (.lshl, 1)) (hq : pc + 1 = q)  (K : Go p e below Ev T (mkF m q Ls (.long (x <<< (y &&& 0x3f).toInt64) :: st))) : Go p e below Ev T (mkF m pc Ls (.int y :: .long x :: st)) := by
  subst hq
  exact K.on fun _ k => XS.lshl X.here hx rfl hd rfl k
theorem g_lshr (X : Stand p l e R s m args below meth c T locs cells slots) (hx : p.tables.exec = Jvm.exec) {pc : Nat} {Ls : Array Slot} {st : List Value} {x : Int64} {y : Int32} (q : Nat) (hd : decode c.code pc = .ok (.lshr, 1)) (hq : pc + 1 = q)  (K : Go p e below Ev T (mkF m q Ls (.long (x >>> (y &&& 0x3f).toInt64) :: st))) : Go p e below Ev T (mkF m pc Ls (.int y :: .long x :: st)) := by
  subst hq
  exact K.on fun _ k => XS.lshr X.here hx rfl hd rfl k
theorem g_lushr (X : Stand p l e R s m args below meth c T locs cells slots) (hx : p.tables.exec = Jvm.exec) {pc : Nat} {Ls : Array Slot} {st : List Value} {x : Int64} {y : Int32} (q : Nat) (hd : decode c.code pc = .ok (.lushr, 1)) (hq : pc + 1 = q)  (K : Go p e below Ev T (mkF m q Ls (.long ((x.toUInt64 >>> (y &&& 0x3f).toInt64.toUInt64).toInt64) :: st))) : Go p e below Ev T (mkF m pc Ls (.int y :: .long x :: st)) := by
  subst hq
  exact K.on fun _ k => XS.lushr X.here hx rfl hd rfl k
theorem g_i2l (X : Stand p l e R s m args below meth c T locs cells slots) (hx : p.tables.exec = Jvm.exec) {pc : Nat} {Ls : Array Slot} {st : List Value} {x : Int32} (q : Nat) (hd : decode c.code pc = .ok (.i2l, 1)) (hq : pc + 1 = q)  (K : Go p e below Ev T (mkF m q Ls (.long (x.toInt64) :: st))) : Go p e below Ev T (mkF m pc Ls (.int x :: st)) := by
  subst hq
  exact K.on fun _ k => XS.i2l X.here hx rfl hd rfl k
theorem g_l2i (X : Stand p l e R s m args below meth c T locs cells slots) (hx : p.tables.exec = Jvm.exec) {pc : Nat} {Ls : Array Slot} {st : List Value} {x : Int64} (q : Nat) (hd : decode c.code pc = .ok (.l2i, 1)) (hq : pc + 1 = q)  (K : Go p e below Ev T (mkF m q Ls (.int (x.toInt32) :: st))) : Go p e below Ev T (mkF m pc Ls (.long x :: st)) := by
  subst hq
  exact K.on fun _ k => XS.l2i X.here hx rfl hd rfl k
theorem g_i2b (X : Stand p l e R s m args below meth c T locs cells slots) (hx : p.tables.exec = Jvm.exec) {pc : Nat} {Ls : Array Slot} {st : List Value} {x : Int32} (q : Nat) (hd : decode c.code pc = .ok (.i2b, 1)) (hq : pc + 1 = q)  (K : Go p e below Ev T (mkF m q Ls (.int (x.toInt8.toInt32) :: st))) : Go p e below Ev T (mkF m pc Ls (.int x :: st)) := by
  subst hq
  exact K.on fun _ k => XS.i2b X.here hx rfl hd rfl k
theorem g_i2s (X : Stand p l e R s m args below meth c T locs cells slots) (hx : p.tables.exec = Jvm.exec) {pc : Nat} {Ls : Array Slot} {st : List Value} {x : Int32} (q : Nat) (hd : decode c.code pc = .ok (.i2s, 1)) (hq : pc + 1 = q)  (K : Go p e below Ev T (mkF m q Ls (.int (x.toInt16.toInt32) :: st))) : Go p e below Ev T (mkF m pc Ls (.int x :: st)) := by
  subst hq
  exact K.on fun _ k => XS.i2s X.here hx rfl hd rfl k
theorem g_i2c (X : Stand p l e R s m args below meth c T locs cells slots) (hx : p.tables.exec = Jvm.exec) {pc : Nat} {Ls : Array Slot} {st : List Value} {x : Int32} (q : Nat) (hd : decode c.code pc = .ok (.i2c, 1)) (hq : pc + 1 = q)  (K : Go p e below Ev T (mkF m q Ls (.int (x.toUInt32.toUInt16.toUInt32.toInt32) :: st))) : Go p e below Ev T (mkF m pc Ls (.int x :: st)) := by
  subst hq
  exact K.on fun _ k => XS.i2c X.here hx rfl hd rfl k
theorem g_lcmp (X : Stand p l e R s m args below meth c T locs cells slots) (hx : p.tables.exec = Jvm.exec) {pc : Nat} {Ls : Array Slot} {st : List Value} {x y : Int64} (q : Nat) (hd : decode c.code pc = .ok (.lcmp, 1)) (hq : pc + 1 = q)  (K : Go p e below Ev T (mkF m q Ls (.int (lcmpW x y) :: st))) : Go p e below Ev T (mkF m pc Ls (.long y :: .long x :: st)) := by
  subst hq
  exact K.on fun _ k => XS.lcmp X.here hx rfl hd rfl k
theorem g_i2d (X : Stand p l e R s m args below meth c T locs cells slots) (hx : p.tables.exec = Jvm.exec) {pc : Nat} {Ls : Array Slot} {st : List Value} {x : Int32} (q : Nat) (hd : decode c.code pc = .ok (.i2d, 1)) (hq : pc + 1 = q)  (K : Go p e below Ev T (mkF m q Ls (.double (FP.i2d x) :: st))) : Go p e below Ev T (mkF m pc Ls (.int x :: st)) := by
  subst hq
  exact K.on fun _ k => XS.i2dS X.here hx rfl hd rfl rfl k
theorem g_l2d (X : Stand p l e R s m args below meth c T locs cells slots) (hx : p.tables.exec = Jvm.exec) {pc : Nat} {Ls : Array Slot} {st : List Value} {x : Int64} (q : Nat) (hd : decode c.code pc = .ok (.l2d, 1)) (hq : pc + 1 = q)  (K : Go p e below Ev T (mkF m q Ls (.double (FP.l2d x) :: st))) : Go p e below Ev T (mkF m pc Ls (.long x :: st)) := by
  subst hq
  exact K.on fun _ k => XS.l2dS X.here hx rfl hd rfl rfl k
theorem g_dneg (X : Stand p l e R s m args below meth c T locs cells slots) (hx : p.tables.exec = Jvm.exec) {pc : Nat} {Ls : Array Slot} {st : List Value} {x : UInt64} (q : Nat) (hd : decode c.code pc = .ok (.dneg, 1)) (hq : pc + 1 = q)  (K : Go p e below Ev T (mkF m q Ls (.double (FP.dneg x) :: st))) : Go p e below Ev T (mkF m pc Ls (.double x :: st)) := by
  subst hq
  exact K.on fun _ k => XS.dnegS X.here hx rfl hd rfl rfl k
theorem g_dadd (X : Stand p l e R s m args below meth c T locs cells slots) (hx : p.tables.exec = Jvm.exec) {pc : Nat} {Ls : Array Slot} {st : List Value} {x y : UInt64} (q : Nat) (hd : decode c.code pc = .ok (.dadd, 1)) (hq : pc + 1 = q) (hn : Jvm.Free.Fl.NoNaN64 (FP.dadd x y)) (K : Go p e below Ev T (mkF m q Ls (.double (FP.dadd x y) :: st))) : Go p e below Ev T (mkF m pc Ls (.double y :: .double x :: st)) := by
  subst hq
  exact K.on fun _ k => XS.daddS X.here hx rfl hd rfl hn rfl k
theorem g_dsub (X : Stand p l e R s m args below meth c T locs cells slots) (hx : p.tables.exec = Jvm.exec) {pc : Nat} {Ls : Array Slot} {st : List Value} {x y : UInt64} (q : Nat) (hd : decode c.code pc = .ok (.dsub, 1)) (hq : pc + 1 = q) (hn : Jvm.Free.Fl.NoNaN64 (FP.dsub x y)) (K : Go p e below Ev T (mkF m q Ls (.double (FP.dsub x y) :: st))) : Go p e below Ev T (mkF m pc Ls (.double y :: .double x :: st)) := by
  subst hq
  exact K.on fun _ k => XS.dsubS X.here hx rfl hd rfl hn rfl k
theorem g_dmul (X : Stand p l e R s m args below meth c T locs cells slots) (hx : p.tables.exec = Jvm.exec) {pc : Nat} {Ls : Array Slot} {st : List Value} {x y : UInt64} (q : Nat) (hd : decode c.code pc = .ok (.dmul, 1)) (hq : pc + 1 = q) (hn : Jvm.Free.Fl.NoNaN64 (FP.dmul x y)) (K : Go p e below Ev T (mkF m q Ls (.double (FP.dmul x y) :: st))) : Go p e below Ev T (mkF m pc Ls (.double y :: .double x :: st)) := by
  subst hq
  exact K.on fun _ k => XS.dmulS X.here hx rfl hd rfl hn rfl k
theorem g_ddiv (X : Stand p l e R s m args below meth c T locs cells slots) (hx : p.tables.exec = Jvm.exec) {pc : Nat} {Ls : Array Slot} {st : List Value} {x y : UInt64} (q : Nat) (hd : decode c.code pc = .ok (.ddiv, 1)) (hq : pc + 1 = q) (hn : Jvm.Free.Fl.NoNaN64 (FP.ddiv x y)) (K : Go p e below Ev T (mkF m q Ls (.double (FP.ddiv x y) :: st))) : Go p e below Ev T (mkF m pc Ls (.double y :: .double x :: st)) := by
  subst hq
  exact K.on fun _ k => XS.ddivS X.here hx rfl hd rfl hn rfl k
theorem g_dcmp (X : Stand p l e R s m args below meth c T locs cells slots) (hx : p.tables.exec = Jvm.exec) {pc : Nat} {Ls : Array Slot} {st : List Value} {x y : UInt64} {o : CmpOp} {r : Int32} (q : Nat) (hd : decode c.code pc = .ok (.dcmp o, 1)) (hq : pc + 1 = q) (hr : cmpValue (FP.dcmp x y) o = r) (K : Go p e below Ev T (mkF m q Ls (.int r :: st))) : Go p e below Ev T (mkF m pc Ls (.double y :: .double x :: st)) := by
  subst hq
  exact K.on fun _ k => XS.dcmpS X.here hx rfl hd rfl hr k
theorem g_dup (X : Stand p l e R s m args below meth c T locs cells slots) (hx : p.tables.exec = Jvm.exec) {pc : Nat} {Ls : Array Slot} {st : List Value} {x : Value} (q : Nat) (hd : decode c.code pc = .ok (.dup, 1)) (hq : pc + 1 = q) (hc : x.category = 1) (K : Go p e below Ev T (mkF m q Ls (x :: x :: st))) : Go p e below Ev T (mkF m pc Ls (x :: st)) := by
  subst hq
  exact K.on fun _ k => XS.dup X.here hx rfl hd rfl hc k
theorem g_pop (X : Stand p l e R s m args below meth c T locs cells slots) (hx : p.tables.exec = Jvm.exec) {pc : Nat} {Ls : Array Slot} {st : List Value} {x : Value} (q : Nat) (hd : decode c.code pc = .ok (.pop, 1)) (hq : pc + 1 = q) (hc : x.category = 1) (K : Go p e below Ev T (mkF m q Ls st)) : Go p e below Ev T (mkF m pc Ls (x :: st)) := by
  subst hq
  exact K.on fun _ k => XS.pop X.here hx rfl hd rfl hc k
theorem g_dupX1 (X : Stand p l e R s m args below meth c T locs cells slots) (hx : p.tables.exec = Jvm.exec) {pc : Nat} {Ls : Array Slot} {st : List Value} {x y : Value} (q : Nat) (hd : decode c.code pc = .ok (.dup_x1, 1)) (hq : pc + 1 = q) (hc : x.category = 1) (hc' : y.category = 1) (K : Go p e below Ev T (mkF m q Ls (x :: y :: x :: st))) : Go p e below Ev T (mkF m pc Ls (x :: y :: st)) := by
  subst hq
  exact K.on fun _ k => XS.dupX1 X.here hx rfl hd rfl hc hc' k
theorem g_dup2 (X : Stand p l e R s m args below meth c T locs cells slots) (hx : p.tables.exec = Jvm.exec) {pc : Nat} {Ls : Array Slot} {st : List Value} {x y : Value} (q : Nat) (hd : decode c.code pc = .ok (.dup2, 1)) (hq : pc + 1 = q) (hc : x.category = 1) (hc' : y.category = 1) (K : Go p e below Ev T (mkF m q Ls (x :: y :: x :: y :: st))) : Go p e below Ev T (mkF m pc Ls (x :: y :: st)) := by
  subst hq
  exact K.on fun _ k => XT.dup2 X.here hx rfl hd rfl hc hc' k
theorem g_ldcI (X : Stand p l e R s m args below meth c T locs cells slots) (hx : p.tables.exec = Jvm.exec) {pc : Nat} {Ls : Array Slot} {st : List Value} {own : String} {i : Nat} {v : Int32} (q : Nat) (hZ : Z.Warmed39 s.vm) (hown : s.vm.findClass own = some m.cls) (w : (Jvm.Cond.constant own i v).before a0 Z = true) (hd : decode c.code pc = .ok (.ldc i, 2)) (hq : pc + 2 = q) (K : Go p e below Ev T (mkF m q Ls (.int v :: st))) : Go p e below Ev T (mkF m pc Ls st) := by
  subst hq
  exact K.on fun _ k => X.ldcI hx hown (mvT hZ w) rfl hd k
theorem g_ldcWI (X : Stand p l e R s m args below meth c T locs cells slots) (hx : p.tables.exec = Jvm.exec) {pc : Nat} {Ls : Array Slot} {st : List Value} {own : String} {i : Nat} {v : Int32} (q : Nat) (hZ : Z.Warmed39 s.vm) (hown : s.vm.findClass own = some m.cls) (w : (Jvm.Cond.constant own i v).before a0 Z = true) (hd : decode c.code pc = .ok (.ldc_w i, 3)) (hq : pc + 3 = q) (K : Go p e below Ev T (mkF m q Ls (.int v :: st))) : Go p e below Ev T (mkF m pc Ls st) := by
  subst hq
  exact K.on fun _ k => X.ldcWI hx hown (mvT hZ w) rfl hd k
theorem g_ldc2J (X : Stand p l e R s m args below meth c T locs cells slots) (hx : p.tables.exec = Jvm.exec) {pc : Nat} {Ls : Array Slot} {st : List Value} {own : String} {i : Nat} {v : Int64} (q : Nat) (hZ : Z.Warmed39 s.vm) (hown : s.vm.findClass own = some m.cls) (w : (Jvm.Cond.constantLong own i v).before a0 Z = true) (hd : decode c.code pc = .ok (.ldc2_w i, 3)) (hq : pc + 3 = q) (K : Go p e below Ev T (mkF m q Ls (.long v :: st))) : Go p e below Ev T (mkF m pc Ls st) := by
  subst hq
  exact K.on fun _ k => X.ldc2J hx hown (mvT hZ w) rfl hd k
theorem g_ldc2D (X : Stand p l e R s m args below meth c T locs cells slots) (hx : p.tables.exec = Jvm.exec) {pc : Nat} {Ls : Array Slot} {st : List Value} {own : String} {i : Nat} {v : UInt64} (q : Nat) (hZ : Z.Warmed39 s.vm) (hown : s.vm.findClass own = some m.cls) (w : (Jvm.Cond.constantDouble own i v).before a0 Z = true) (hd : decode c.code pc = .ok (.ldc2_w i, 3)) (hq : pc + 3 = q) (K : Go p e below Ev T (mkF m q Ls (.double v :: st))) : Go p e below Ev T (mkF m pc Ls st) := by
  subst hq
  exact K.on (X.ldc2DoubleC hx hown (mvT hZ w) (g := mkF m pc Ls st) rfl hd)
theorem g_goto (X : Stand p l e R s m args below meth c T locs cells slots) (hx : p.tables.exec = Jvm.exec) {pc : Nat} {Ls : Array Slot} {st : List Value} {o : Int} (q : Nat) (hd : decode c.code pc = .ok (.goto o, 3)) (ho : 0 ≤ (pc : Int) + o) (hq : ((pc : Int) + o).toNat = q) (K : Go p e below Ev T (mkF m q Ls st)) : Go p e below Ev T (mkF m pc Ls st) :=
  K.on fun _ k => XS.goto X.here hx rfl rfl hd ho hq k
theorem own_i0 (x : Int32) : (x < 0 ↔ x.toInt < 0) ∧ (0 < x ↔ 0 < x.toInt) ∧ (x = 0 ↔ x.toInt = 0) := by
  refine ⟨by rw [Int32.lt_iff_toInt_lt]; simp, by rw [Int32.lt_iff_toInt_lt]; simp, ?_⟩
  rw [← Int32.toInt_inj]; simp
theorem g_if_eq (X : Stand p l e R s m args below meth c T locs cells slots) (hx : p.tables.exec = Jvm.exec) {pc : Nat} {Ls : Array Slot} {st : List Value} {x : Int32} {o : Int} (q1 q2 : Nat) (hd : decode c.code pc = .ok (.ifCond .eq o, 3)) (ho : 0 ≤ (pc : Int) + o) (h1 : ((pc : Int) + o).toNat = q1) (h2 : pc + 3 = q2) (Kt : x.toInt = 0 → Go p e below Ev T (mkF m q1 Ls st)) (Kf : x.toInt ≠ 0 → Go p e below Ev T (mkF m q2 Ls st)) : Go p e below Ev T (mkF m pc Ls (.int x :: st)) := by
  have Q := own_i0 x
  by_cases hc : x = 0
  · exact (Kt (by first | omega | (simp only [Q] at hc; omega))).on fun _ k => XS.ifYes X.here hx rfl rfl hd rfl (XT.i0_eq_t (by simpa using hc)) ho h1 k
  · subst h2
    exact (Kf (by first | omega | (simp only [Q] at hc; omega))).on fun _ k => XS.ifNo X.here hx rfl hd rfl (XT.i0_eq_f (by simpa using hc)) k
theorem g_if_ne (X : Stand p l e R s m args below meth c T locs cells slots) (hx : p.tables.exec = Jvm.exec) {pc : Nat} {Ls : Array Slot} {st : List Value} {x : Int32} {o : Int} (q1 q2 : Nat) (hd : decode c.code pc = .ok (.ifCond .ne o, 3)) (ho : 0 ≤ (pc : Int) + o) (h1 : ((pc : Int) + o).toNat = q1) (h2 : pc + 3 = q2) (Kt : x.toInt ≠ 0 → Go p e below Ev T (mkF m q1 Ls st)) (Kf : x.toInt = 0 → Go p e below Ev T (mkF m q2 Ls st)) : Go p e below Ev T (mkF m pc Ls (.int x :: st)) := by
  have Q := own_i0 x
  by_cases hc : ¬ x = 0
  · exact (Kt (by first | omega | (simp only [Q] at hc; omega))).on fun _ k => XS.ifYes X.here hx rfl rfl hd rfl (XT.i0_ne_t (by simpa using hc)) ho h1 k
  · subst h2
    exact (Kf (by first | omega | (simp only [Q] at hc; omega))).on fun _ k => XS.ifNo X.here hx rfl hd rfl (XT.i0_ne_f (by simpa using hc)) k
theorem g_if_lt (X : Stand p l e R s m args below meth c T locs cells slots) (hx : p.tables.exec = Jvm.exec) {pc : Nat} {Ls : Array Slot} {st : List Value} {x : Int32} {o : Int} (q1 q2 : Nat) (hd : decode c.code pc = .ok (.ifCond .lt o, 3)) (ho : 0 ≤ (pc : Int) + o) (h1 : ((pc : Int) + o).toNat = q1) (h2 : pc + 3 = q2) (Kt : x.toInt < 0 → Go p e below Ev T (mkF m q1 Ls st)) (Kf : 0 ≤ x.toInt → Go p e below Ev T (mkF m q2 Ls st)) : Go p e below Ev T (mkF m pc Ls (.int x :: st)) := by
  have Q := own_i0 x
  by_cases hc : x < 0
  · exact (Kt (by first | omega | (simp only [Q] at hc; omega))).on fun _ k => XS.ifYes X.here hx rfl rfl hd rfl (XT.i0_lt_t (by simpa using hc)) ho h1 k
  · subst h2
    exact (Kf (by first | omega | (simp only [Q] at hc; omega))).on fun _ k => XS.ifNo X.here hx rfl hd rfl (XT.i0_lt_f (by simpa using hc)) k
theorem g_if_ge (X : Stand p l e R s m args below meth c T locs cells slots) (hx : p.tables.exec = Jvm.exec) {pc : Nat} {Ls : Array Slot} {st : List Value} {x : Int32} {o : Int} (q1 q2 : Nat) (hd : decode c.code pc = .ok (.ifCond .ge o, 3)) (ho : 0 ≤ (pc : Int) + o) (h1 : ((pc : Int) + o).toNat = q1) (h2 : pc + 3 = q2) (Kt : 0 ≤ x.toInt → Go p e below Ev T (mkF m q1 Ls st)) (Kf : x.toInt < 0 → Go p e below Ev T (mkF m q2 Ls st)) : Go p e below Ev T (mkF m pc Ls (.int x :: st)) := by
  have Q := own_i0 x
  by_cases hc : ¬ x < 0
  · exact (Kt (by first | omega | (simp only [Q] at hc; omega))).on fun _ k => XS.ifYes X.here hx rfl rfl hd rfl (XT.i0_ge_t (by simpa using hc)) ho h1 k
  · subst h2
    exact (Kf (by first | omega | (simp only [Q] at hc; omega))).on fun _ k => XS.ifNo X.here hx rfl hd rfl (XT.i0_ge_f (by simpa using hc)) k
theorem g_if_gt (X : Stand p l e R s m args below meth c T locs cells slots) (hx : p.tables.exec = Jvm.exec) {pc : Nat} {Ls : Array Slot} {st : List Value} {x : Int32} {o : Int} (q1 q2 : Nat) (hd : decode c.code pc = .ok (.ifCond .gt o, 3)) (ho : 0 ≤ (pc : Int) + o) (h1 : ((pc : Int) + o).toNat = q1) (h2 : pc + 3 = q2) (Kt : 0 < x.toInt → Go p e below Ev T (mkF m q1 Ls st)) (Kf : x.toInt ≤ 0 → Go p e below Ev T (mkF m q2 Ls st)) : Go p e below Ev T (mkF m pc Ls (.int x :: st)) := by
  have Q := own_i0 x
  by_cases hc : 0 < x
  · exact (Kt (by first | omega | (simp only [Q] at hc; omega))).on fun _ k => XS.ifYes X.here hx rfl rfl hd rfl (XT.i0_gt_t (by simpa using hc)) ho h1 k
  · subst h2
    exact (Kf (by first | omega | (simp only [Q] at hc; omega))).on fun _ k => XS.ifNo X.here hx rfl hd rfl (XT.i0_gt_f (by simpa using hc)) k
theorem g_if_le (X : Stand p l e R s m args below meth c T locs cells slots) (hx : p.tables.exec = Jvm.exec) {pc : Nat} {Ls : Array Slot} {st : List Value} {x : Int32} {o : Int} (q1 q2 : Nat) (hd : decode c.code pc = .ok (.ifCond .le o, 3)) (ho : 0 ≤ (pc : Int) + o) (h1 : ((pc : Int) + o).toNat = q1) (h2 : pc + 3 = q2) (Kt : x.toInt ≤ 0 → Go p e below Ev T (mkF m q1 Ls st)) (Kf : 0 < x.toInt → Go p e below Ev T (mkF m q2 Ls st)) : Go p e below Ev T (mkF m pc Ls (.int x :: st)) := by
  have Q := own_i0 x
  by_cases hc : ¬ 0 < x
  · exact (Kt (by first | omega | (simp only [Q] at hc; omega))).on fun _ k => XS.ifYes X.here hx rfl rfl hd rfl (XT.i0_le_t (by simpa using hc)) ho h1 k
  · subst h2
    exact (Kf (by first | omega | (simp only [Q] at hc; omega))).on fun _ k => XS.ifNo X.here hx rfl hd rfl (XT.i0_le_f (by simpa using hc)) k
theorem own_ii (x y : Int32) : (x < y ↔ x.toInt < y.toInt) ∧ (y < x ↔ y.toInt < x.toInt) ∧ (x = y ↔ x.toInt = y.toInt) := by
  exact ⟨Int32.lt_iff_toInt_lt, Int32.lt_iff_toInt_lt, Int32.toInt_inj.symm⟩
theorem g_ic_eq (X : Stand p l e R s m args below meth c T locs cells slots) (hx : p.tables.exec = Jvm.exec) {pc : Nat} {Ls : Array Slot} {st : List Value} {x y : Int32} {o : Int} (q1 q2 : Nat) (hd : decode c.code pc = .ok (.if_icmp .eq o, 3)) (ho : 0 ≤ (pc : Int) + o) (h1 : ((pc : Int) + o).toNat = q1) (h2 : pc + 3 = q2) (Kt : x.toInt = y.toInt → Go p e below Ev T (mkF m q1 Ls st)) (Kf : x.toInt ≠ y.toInt → Go p e below Ev T (mkF m q2 Ls st)) : Go p e below Ev T (mkF m pc Ls (.int y :: .int x :: st)) := by
  have Q := own_ii x y
  by_cases hc : x = y
  · exact (Kt (by first | omega | (simp only [Q] at hc; omega))).on fun _ k => XS.icmpYes X.here hx rfl rfl hd rfl (XT.ii_eq_t (by simpa using hc)) ho h1 k
  · subst h2
    exact (Kf (by first | omega | (simp only [Q] at hc; omega))).on fun _ k => XS.icmpNo X.here hx rfl hd rfl (XT.ii_eq_f (by simpa using hc)) k
theorem g_ic_ne (X : Stand p l e R s m args below meth c T locs cells slots) (hx : p.tables.exec = Jvm.exec) {pc : Nat} {Ls : Array Slot} {st : List Value} {x y : Int32} {o : Int} (q1 q2 : Nat) (hd : decode c.code pc = .ok (.if_icmp .ne o, 3)) (ho : 0 ≤ (pc : Int) + o) (h1 : ((pc : Int) + o).toNat = q1) (h2 : pc + 3 = q2) (Kt : x.toInt ≠ y.toInt → Go p e below Ev T (mkF m q1 Ls st)) (Kf : x.toInt = y.toInt → Go p e below Ev T (mkF m q2 Ls st)) : Go p e below Ev T (mkF m pc Ls (.int y :: .int x :: st)) := by
  have Q := own_ii x y
  by_cases hc : ¬ x = y
  · exact (Kt (by first | omega | (simp only [Q] at hc; omega))).on fun _ k => XS.icmpYes X.here hx rfl rfl hd rfl (XT.ii_ne_t (by simpa using hc)) ho h1 k
  · subst h2
    exact (Kf (by first | omega | (simp only [Q] at hc; omega))).on fun _ k => XS.icmpNo X.here hx rfl hd rfl (XT.ii_ne_f (by simpa using hc)) k
theorem g_ic_lt (X : Stand p l e R s m args below meth c T locs cells slots) (hx : p.tables.exec = Jvm.exec) {pc : Nat} {Ls : Array Slot} {st : List Value} {x y : Int32} {o : Int} (q1 q2 : Nat) (hd : decode c.code pc = .ok (.if_icmp .lt o, 3)) (ho : 0 ≤ (pc : Int) + o) (h1 : ((pc : Int) + o).toNat = q1) (h2 : pc + 3 = q2) (Kt : x.toInt < y.toInt → Go p e below Ev T (mkF m q1 Ls st)) (Kf : y.toInt ≤ x.toInt → Go p e below Ev T (mkF m q2 Ls st)) : Go p e below Ev T (mkF m pc Ls (.int y :: .int x :: st)) := by
  have Q := own_ii x y
  by_cases hc : x < y
  · exact (Kt (by first | omega | (simp only [Q] at hc; omega))).on fun _ k => XS.icmpYes X.here hx rfl rfl hd rfl (XT.ii_lt_t (by simpa using hc)) ho h1 k
  · subst h2
    exact (Kf (by first | omega | (simp only [Q] at hc; omega))).on fun _ k => XS.icmpNo X.here hx rfl hd rfl (XT.ii_lt_f (by simpa using hc)) k
theorem g_ic_ge (X : Stand p l e R s m args below meth c T locs cells slots) (hx : p.tables.exec = Jvm.exec) {pc : Nat} {Ls : Array Slot} {st : List Value} {x y : Int32} {o : Int} (q1 q2 : Nat) (hd : decode c.code pc = .ok (.if_icmp .ge o, 3)) (ho : 0 ≤ (pc : Int) + o) (h1 : ((pc : Int) + o).toNat = q1) (h2 : pc + 3 = q2) (Kt : y.toInt ≤ x.toInt → Go p e below Ev T (mkF m q1 Ls st)) (Kf : x.toInt < y.toInt → Go p e below Ev T (mkF m q2 Ls st)) : Go p e below Ev T (mkF m pc Ls (.int y :: .int x :: st)) := by
  have Q := own_ii x y
  by_cases hc : ¬ x < y
  · exact (Kt (by first | omega | (simp only [Q] at hc; omega))).on fun _ k => XS.icmpYes X.here hx rfl rfl hd rfl (XT.ii_ge_t (by simpa using hc)) ho h1 k
  · subst h2
    exact (Kf (by first | omega | (simp only [Q] at hc; omega))).on fun _ k => XS.icmpNo X.here hx rfl hd rfl (XT.ii_ge_f (by simpa using hc)) k
theorem g_ic_gt (X : Stand p l e R s m args below meth c T locs cells slots) (hx : p.tables.exec = Jvm.exec) {pc : Nat} {Ls : Array Slot} {st : List Value} {x y : Int32} {o : Int} (q1 q2 : Nat) (hd : decode c.code pc = .ok (.if_icmp .gt o, 3)) (ho : 0 ≤ (pc : Int) + o) (h1 : ((pc : Int) + o).toNat = q1) (h2 : pc + 3 = q2) (Kt : y.toInt < x.toInt → Go p e below Ev T (mkF m q1 Ls st)) (Kf : x.toInt ≤ y.toInt → Go p e below Ev T (mkF m q2 Ls st)) : Go p e below Ev T (mkF m pc Ls (.int y :: .int x :: st)) := by
  have Q := own_ii x y
  by_cases hc : y < x
  · exact (Kt (by first | omega | (simp only [Q] at hc; omega))).on fun _ k => XS.icmpYes X.here hx rfl rfl hd rfl (XT.ii_gt_t (by simpa using hc)) ho h1 k
  · subst h2
    exact (Kf (by first | omega | (simp only [Q] at hc; omega))).on fun _ k => XS.icmpNo X.here hx rfl hd rfl (XT.ii_gt_f (by simpa using hc)) k
theorem g_ic_le (X : Stand p l e R s m args below meth c T locs cells slots) (hx : p.tables.exec = Jvm.exec) {pc : Nat} {Ls : Array Slot} {st : List Value} {x y : Int32} {o : Int} (q1 q2 : Nat) (hd : decode c.code pc = .ok (.if_icmp .le o, 3)) (ho : 0 ≤ (pc : Int) + o) (h1 : ((pc : Int) + o).toNat = q1) (h2 : pc + 3 = q2) (Kt : x.toInt ≤ y.toInt → Go p e below Ev T (mkF m q1 Ls st)) (Kf : y.toInt < x.toInt → Go p e below Ev T (mkF m q2 Ls st)) : Go p e below Ev T (mkF m pc Ls (.int y :: .int x :: st)) := by
  have Q := own_ii x y
  by_cases hc : ¬ y < x
  · exact (Kt (by first | omega | (simp only [Q] at hc; omega))).on fun _ k => XS.icmpYes X.here hx rfl rfl hd rfl (XT.ii_le_t (by simpa using hc)) ho h1 k
  · subst h2
    exact (Kf (by first | omega | (simp only [Q] at hc; omega))).on fun _ k => XS.icmpNo X.here hx rfl hd rfl (XT.ii_le_f (by simpa using hc)) k
theorem g_lc_eq (X : Stand p l e R s m args below meth c T locs cells slots) (hx : p.tables.exec = Jvm.exec) {pc : Nat} {Ls : Array Slot} {st : List Value} {x y : Int64} {o : Int} (q0 q1 q2 : Nat) (hd0 : decode c.code pc = .ok (.lcmp, 1)) (h0 : pc + 1 = q0) (hd : decode c.code q0 = .ok (.ifCond .eq o, 3)) (ho : 0 ≤ (q0 : Int) + o) (h1 : ((q0 : Int) + o).toNat = q1) (h2 : q0 + 3 = q2) (Kt : x.toInt = y.toInt → Go p e below Ev T (mkF m q1 Ls st)) (Kf : x.toInt ≠ y.toInt → Go p e below Ev T (mkF m q2 Ls st)) : Go p e below Ev T (mkF m pc Ls (.long y :: .long x :: st)) := by
  have Q := c_lcmp x y
  have C : x.toInt < y.toInt ∨ x.toInt = y.toInt ∨ y.toInt < x.toInt := by omega
  refine g_lcmp X hx q0 hd0 h0 (g_if_eq X hx q1 q2 hd ho h1 h2 (fun hc => Kt ?_) (fun hc => Kf ?_)) <;> (rcases C with C | C | C <;> first | (have := Q.1 C; omega) | (have := Q.2.1 C; omega) | (have := Q.2.2 C; omega))
theorem g_lc_ne (X : Stand p l e R s m args below meth c T locs cells slots) (hx : p.tables.exec = Jvm.exec) {pc : Nat} {Ls : Array Slot} {st : List Value} {x y : Int64} {o : Int} (q0 q1 q2 : Nat) (hd0 : decode c.code pc = .ok (.lcmp, 1)) (h0 : pc + 1 = q0) (hd : decode c.code q0 = .ok (.ifCond .ne o, 3)) (ho : 0 ≤ (q0 : Int) + o) (h1 : ((q0 : Int) + o).toNat = q1) (h2 : q0 + 3 = q2) (Kt : x.toInt ≠ y.toInt → Go p e below Ev T (mkF m q1 Ls st)) (Kf : x.toInt = y.toInt → Go p e below Ev T (mkF m q2 Ls st)) : Go p e below Ev T (mkF m pc Ls (.long y :: .long x :: st)) := by
  have Q := c_lcmp x y
  have C : x.toInt < y.toInt ∨ x.toInt = y.toInt ∨ y.toInt < x.toInt := by omega
  refine g_lcmp X hx q0 hd0 h0 (g_if_ne X hx q1 q2 hd ho h1 h2 (fun hc => Kt ?_) (fun hc => Kf ?_)) <;> (rcases C with C | C | C <;> first | (have := Q.1 C; omega) | (have := Q.2.1 C; omega) | (have := Q.2.2 C; omega))
theorem g_lc_lt (X : Stand p l e R s m args below meth c T locs cells slots) (hx : p.tables.exec = Jvm.exec) {pc : Nat} {Ls : Array Slot} {st : List Value} {x y : Int64} {o : Int} (q0 q1 q2 : Nat) (hd0 : decode c.code pc = .ok (.lcmp, 1)) (h0 : pc + 1 = q0) (hd : decode c.code q0 = .ok (.ifCond .lt o, 3)) (ho : 0 ≤ (q0 : Int) + o) (h1 : ((q0 : Int) + o).toNat = q1) (h2 : q0 + 3 = q2) (Kt : x.toInt < y.toInt → Go p e below Ev T (mkF m q1 Ls st)) (Kf : y.toInt ≤ x.toInt → Go p e below Ev T (mkF m q2 Ls st)) : Go p e below Ev T (mkF m pc Ls (.long y :: .long x :: st)) := by
  have Q := c_lcmp x y
  have C : x.toInt < y.toInt ∨ x.toInt = y.toInt ∨ y.toInt < x.toInt := by omega
  refine g_lcmp X hx q0 hd0 h0 (g_if_lt X hx q1 q2 hd ho h1 h2 (fun hc => Kt ?_) (fun hc => Kf ?_)) <;> (rcases C with C | C | C <;> first | (have := Q.1 C; omega) | (have := Q.2.1 C; omega) | (have := Q.2.2 C; omega))
theorem g_lc_ge (X : Stand p l e R s m args below meth c T locs cells slots) (hx : p.tables.exec = Jvm.exec) {pc : Nat} {Ls : Array Slot} {st : List Value} {x y : Int64} {o : Int} (q0 q1 q2 : Nat) (hd0 : decode c.code pc = .ok (.lcmp, 1)) (h0 : pc + 1 = q0) (hd : decode c.code q0 = .ok (.ifCond .ge o, 3)) (ho : 0 ≤ (q0 : Int) + o) (h1 : ((q0 : Int) + o).toNat = q1) (h2 : q0 + 3 = q2) (Kt : y.toInt ≤ x.toInt → Go p e below Ev T (mkF m q1 Ls st)) (Kf : x.toInt < y.toInt → Go p e below Ev T (mkF m q2 Ls st)) : Go p e below Ev T (mkF m pc Ls (.long y :: .long x :: st)) := by
  have Q := c_lcmp x y
  have C : x.toInt < y.toInt ∨ x.toInt = y.toInt ∨ y.toInt < x.toInt := by omega
  refine g_lcmp X hx q0 hd0 h0 (g_if_ge X hx q1 q2 hd ho h1 h2 (fun hc => Kt ?_) (fun hc => Kf ?_)) <;> (rcases C with C | C | C <;> first | (have := Q.1 C; omega) | (have := Q.2.1 C; omega) | (have := Q.2.2 C; omega))
theorem g_lc_gt (X : Stand p l e R s m args below meth c T locs cells slots) (hx : p.tables.exec = Jvm.exec) {pc : Nat} {Ls : Array Slot} {st : List Value} {x y : Int64} {o : Int} (q0 q1 q2 : Nat) (hd0 : decode c.code pc = .ok (.lcmp, 1)) (h0 : pc + 1 = q0) (hd : decode c.code q0 = .ok (.ifCond .gt o, 3)) (ho : 0 ≤ (q0 : Int) + o) (h1 : ((q0 : Int) + o).toNat = q1) (h2 : q0 + 3 = q2) (Kt : y.toInt < x.toInt → Go p e below Ev T (mkF m q1 Ls st)) (Kf : x.toInt ≤ y.toInt → Go p e below Ev T (mkF m q2 Ls st)) : Go p e below Ev T (mkF m pc Ls (.long y :: .long x :: st)) := by
  have Q := c_lcmp x y
  have C : x.toInt < y.toInt ∨ x.toInt = y.toInt ∨ y.toInt < x.toInt := by omega
  refine g_lcmp X hx q0 hd0 h0 (g_if_gt X hx q1 q2 hd ho h1 h2 (fun hc => Kt ?_) (fun hc => Kf ?_)) <;> (rcases C with C | C | C <;> first | (have := Q.1 C; omega) | (have := Q.2.1 C; omega) | (have := Q.2.2 C; omega))
theorem g_lc_le (X : Stand p l e R s m args below meth c T locs cells slots) (hx : p.tables.exec = Jvm.exec) {pc : Nat} {Ls : Array Slot} {st : List Value} {x y : Int64} {o : Int} (q0 q1 q2 : Nat) (hd0 : decode c.code pc = .ok (.lcmp, 1)) (h0 : pc + 1 = q0) (hd : decode c.code q0 = .ok (.ifCond .le o, 3)) (ho : 0 ≤ (q0 : Int) + o) (h1 : ((q0 : Int) + o).toNat = q1) (h2 : q0 + 3 = q2) (Kt : x.toInt ≤ y.toInt → Go p e below Ev T (mkF m q1 Ls st)) (Kf : y.toInt < x.toInt → Go p e below Ev T (mkF m q2 Ls st)) : Go p e below Ev T (mkF m pc Ls (.long y :: .long x :: st)) := by
  have Q := c_lcmp x y
  have C : x.toInt < y.toInt ∨ x.toInt = y.toInt ∨ y.toInt < x.toInt := by omega
  refine g_lcmp X hx q0 hd0 h0 (g_if_le X hx q1 q2 hd ho h1 h2 (fun hc => Kt ?_) (fun hc => Kf ?_)) <;> (rcases C with C | C | C <;> first | (have := Q.1 C; omega) | (have := Q.2.1 C; omega) | (have := Q.2.2 C; omega))
theorem own_cmpv (i j : Int) (o : CmpOp) : (i < j → (cmpValue (some (compare i j)) o).toInt = -1) ∧ (i = j → (cmpValue (some (compare i j)) o).toInt = 0) ∧ (j < i → (cmpValue (some (compare i j)) o).toInt = 1) := by
  refine ⟨fun q => ?_, fun q => ?_, fun q => ?_⟩
  · rw [show compare i j = .lt from by rw [Jvm.FP.Core.compare_ite]; simp [q]]; cases o <;> rfl
  · rw [show compare i j = .eq from by rw [Jvm.FP.Core.compare_ite]; simp [q]]; cases o <;> rfl
  · rw [show compare i j = .gt from by rw [Jvm.FP.Core.compare_ite]; simp [show ¬ i < j by omega, show ¬ i = j by omega]]; cases o <;> rfl
theorem g_dc_eq (X : Stand p l e R s m args below meth c T locs cells slots) (hx : p.tables.exec = Jvm.exec) {pc : Nat} {Ls : Array Slot} {st : List Value} {x y : UInt64} {oo : CmpOp} {i j : Int} {o : Int} (q0 q1 q2 : Nat) (hd0 : decode c.code pc = .ok (.dcmp oo, 1)) (h0 : pc + 1 = q0) (hd : decode c.code q0 = .ok (.ifCond .eq o, 3)) (ho : 0 ≤ (q0 : Int) + o) (h1 : ((q0 : Int) + o).toNat = q1) (h2 : q0 + 3 = q2) (hv : FP.dcmp x y = some (compare i j)) (Kt : i = j → Go p e below Ev T (mkF m q1 Ls st)) (Kf : i ≠ j → Go p e below Ev T (mkF m q2 Ls st)) : Go p e below Ev T (mkF m pc Ls (.double y :: .double x :: st)) := by
  have Q := own_cmpv i j oo
  have C : i < j ∨ i = j ∨ j < i := by omega
  refine g_dcmp X hx q0 hd0 h0 (by rw [hv]) (g_if_eq X hx q1 q2 hd ho h1 h2 (fun hc => Kt ?_) (fun hc => Kf ?_)) <;> (rcases C with C | C | C <;> first | (have := Q.1 C; omega) | (have := Q.2.1 C; omega) | (have := Q.2.2 C; omega))
theorem g_dc_ne (X : Stand p l e R s m args below meth c T locs cells slots) (hx : p.tables.exec = Jvm.exec) {pc : Nat} {Ls : Array Slot} {st : List Value} {x y : UInt64} {oo : CmpOp} {i j : Int} {o : Int} (q0 q1 q2 : Nat) (hd0 : decode c.code pc = .ok (.dcmp oo, 1)) (h0 : pc + 1 = q0) (hd : decode c.code q0 = .ok (.ifCond .ne o, 3)) (ho : 0 ≤ (q0 : Int) + o) (h1 : ((q0 : Int) + o).toNat = q1) (h2 : q0 + 3 = q2) (hv : FP.dcmp x y = some (compare i j)) (Kt : i ≠ j → Go p e below Ev T (mkF m q1 Ls st)) (Kf : i = j → Go p e below Ev T (mkF m q2 Ls st)) : Go p e below Ev T (mkF m pc Ls (.double y :: .double x :: st)) := by
  have Q := own_cmpv i j oo
  have C : i < j ∨ i = j ∨ j < i := by omega
  refine g_dcmp X hx q0 hd0 h0 (by rw [hv]) (g_if_ne X hx q1 q2 hd ho h1 h2 (fun hc => Kt ?_) (fun hc => Kf ?_)) <;> (rcases C with C | C | C <;> first | (have := Q.1 C; omega) | (have := Q.2.1 C; omega) | (have := Q.2.2 C; omega))
theorem g_dc_lt (X : Stand p l e R s m args below meth c T locs cells slots) (hx : p.tables.exec = Jvm.exec) {pc : Nat} {Ls : Array Slot} {st : List Value} {x y : UInt64} {oo : CmpOp} {i j : Int} {o : Int} (q0 q1 q2 : Nat) (hd0 : decode c.code pc = .ok (.dcmp oo, 1)) (h0 : pc + 1 = q0) (hd : decode c.code q0 = .ok (.ifCond .lt o, 3)) (ho : 0 ≤ (q0 : Int) + o) (h1 : ((q0 : Int) + o).toNat = q1) (h2 : q0 + 3 = q2) (hv : FP.dcmp x y = some (compare i j)) (Kt : i < j → Go p e below Ev T (mkF m q1 Ls st)) (Kf : j ≤ i → Go p e below Ev T (mkF m q2 Ls st)) : Go p e below Ev T (mkF m pc Ls (.double y :: .double x :: st)) := by
  have Q := own_cmpv i j oo
  have C : i < j ∨ i = j ∨ j < i := by omega
  refine g_dcmp X hx q0 hd0 h0 (by rw [hv]) (g_if_lt X hx q1 q2 hd ho h1 h2 (fun hc => Kt ?_) (fun hc => Kf ?_)) <;> (rcases C with C | C | C <;> first | (have := Q.1 C; omega) | (have := Q.2.1 C; omega) | (have := Q.2.2 C; omega))
theorem g_dc_ge (X : Stand p l e R s m args below meth c T locs cells slots) (hx : p.tables.exec = Jvm.exec) {pc : Nat} {Ls : Array Slot} {st : List Value} {x y : UInt64} {oo : CmpOp} {i j : Int} {o : Int} (q0 q1 q2 : Nat) (hd0 : decode c.code pc = .ok (.dcmp oo, 1)) (h0 : pc + 1 = q0) (hd : decode c.code q0 = .ok (.ifCond .ge o, 3)) (ho : 0 ≤ (q0 : Int) + o) (h1 : ((q0 : Int) + o).toNat = q1) (h2 : q0 + 3 = q2) (hv : FP.dcmp x y = some (compare i j)) (Kt : j ≤ i → Go p e below Ev T (mkF m q1 Ls st)) (Kf : i < j → Go p e below Ev T (mkF m q2 Ls st)) : Go p e below Ev T (mkF m pc Ls (.double y :: .double x :: st)) := by
  have Q := own_cmpv i j oo
  have C : i < j ∨ i = j ∨ j < i := by omega
  refine g_dcmp X hx q0 hd0 h0 (by rw [hv]) (g_if_ge X hx q1 q2 hd ho h1 h2 (fun hc => Kt ?_) (fun hc => Kf ?_)) <;> (rcases C with C | C | C <;> first | (have := Q.1 C; omega) | (have := Q.2.1 C; omega) | (have := Q.2.2 C; omega))
theorem g_dc_gt (X : Stand p l e R s m args below meth c T locs cells slots) (hx : p.tables.exec = Jvm.exec) {pc : Nat} {Ls : Array Slot} {st : List Value} {x y : UInt64} {oo : CmpOp} {i j : Int} {o : Int} (q0 q1 q2 : Nat) (hd0 : decode c.code pc = .ok (.dcmp oo, 1)) (h0 : pc + 1 = q0) (hd : decode c.code q0 = .ok (.ifCond .gt o, 3)) (ho : 0 ≤ (q0 : Int) + o) (h1 : ((q0 : Int) + o).toNat = q1) (h2 : q0 + 3 = q2) (hv : FP.dcmp x y = some (compare i j)) (Kt : j < i → Go p e below Ev T (mkF m q1 Ls st)) (Kf : i ≤ j → Go p e below Ev T (mkF m q2 Ls st)) : Go p e below Ev T (mkF m pc Ls (.double y :: .double x :: st)) := by
  have Q := own_cmpv i j oo
  have C : i < j ∨ i = j ∨ j < i := by omega
  refine g_dcmp X hx q0 hd0 h0 (by rw [hv]) (g_if_gt X hx q1 q2 hd ho h1 h2 (fun hc => Kt ?_) (fun hc => Kf ?_)) <;> (rcases C with C | C | C <;> first | (have := Q.1 C; omega) | (have := Q.2.1 C; omega) | (have := Q.2.2 C; omega))
theorem g_dc_le (X : Stand p l e R s m args below meth c T locs cells slots) (hx : p.tables.exec = Jvm.exec) {pc : Nat} {Ls : Array Slot} {st : List Value} {x y : UInt64} {oo : CmpOp} {i j : Int} {o : Int} (q0 q1 q2 : Nat) (hd0 : decode c.code pc = .ok (.dcmp oo, 1)) (h0 : pc + 1 = q0) (hd : decode c.code q0 = .ok (.ifCond .le o, 3)) (ho : 0 ≤ (q0 : Int) + o) (h1 : ((q0 : Int) + o).toNat = q1) (h2 : q0 + 3 = q2) (hv : FP.dcmp x y = some (compare i j)) (Kt : i ≤ j → Go p e below Ev T (mkF m q1 Ls st)) (Kf : j < i → Go p e below Ev T (mkF m q2 Ls st)) : Go p e below Ev T (mkF m pc Ls (.double y :: .double x :: st)) := by
  have Q := own_cmpv i j oo
  have C : i < j ∨ i = j ∨ j < i := by omega
  refine g_dcmp X hx q0 hd0 h0 (by rw [hv]) (g_if_le X hx q1 q2 hd ho h1 h2 (fun hc => Kt ?_) (fun hc => Kf ?_)) <;> (rcases C with C | C | C <;> first | (have := Q.1 C; omega) | (have := Q.2.1 C; omega) | (have := Q.2.2 C; omega))
theorem g_ifnull_t (X : Stand p l e R s m args below meth c T locs cells slots) (hx : p.tables.exec = Jvm.exec) {pc : Nat} {Ls : Array Slot} {st : List Value} {o : Int} (q : Nat) (hd : decode c.code pc = .ok (.ifnull o, 3)) (ho : 0 ≤ (pc : Int) + o) (h1 : ((pc : Int) + o).toNat = q) (K : Go p e below Ev T (mkF m q Ls st)) : Go p e below Ev T (mkF m pc Ls (.null :: st)) :=
  K.on fun _ k => XS.ifnullYes X.here hx rfl rfl hd rfl ho h1 k
theorem g_ifnull_f (X : Stand p l e R s m args below meth c T locs cells slots) (hx : p.tables.exec = Jvm.exec) {pc : Nat} {Ls : Array Slot} {st : List Value} {o : Int} {b : Addr} (q : Nat) (hd : decode c.code pc = .ok (.ifnull o, 3)) (h1 : pc + 3 = q) (K : Go p e below Ev T (mkF m q Ls st)) : Go p e below Ev T (mkF m pc Ls (.ref b :: st)) := by
  subst h1
  exact K.on fun _ k => XS.ifnullNo X.here hx rfl hd rfl k
theorem g_ifnonnull_t (X : Stand p l e R s m args below meth c T locs cells slots) (hx : p.tables.exec = Jvm.exec) {pc : Nat} {Ls : Array Slot} {st : List Value} {o : Int} {b : Addr} (q : Nat) (hd : decode c.code pc = .ok (.ifnonnull o, 3)) (ho : 0 ≤ (pc : Int) + o) (h1 : ((pc : Int) + o).toNat = q) (K : Go p e below Ev T (mkF m q Ls st)) : Go p e below Ev T (mkF m pc Ls (.ref b :: st)) :=
  K.on fun _ k => XS.ifnonnullYes X.here hx rfl rfl hd rfl ho h1 k
theorem g_ifnonnull_f (X : Stand p l e R s m args below meth c T locs cells slots) (hx : p.tables.exec = Jvm.exec) {pc : Nat} {Ls : Array Slot} {st : List Value} {o : Int} (q : Nat) (hd : decode c.code pc = .ok (.ifnonnull o, 3)) (h1 : pc + 3 = q) (K : Go p e below Ev T (mkF m q Ls st)) : Go p e below Ev T (mkF m pc Ls (.null :: st)) := by
  subst h1
  exact K.on fun _ k => XS.ifnonnullNo X.here hx rfl hd rfl k
theorem g_new (X : Stand p l e R s m args below meth c T locs cells slots) (hx : p.tables.exec = Jvm.exec) {pc : Nat} {Ls : Array Slot} {st : List Value} (hZ : Z.Warmed39 s.vm) {own C : String} {i n : Nat} (hown : s.vm.findClass own = some m.cls) (w : (Jvm.Cond.classLink own i C).before a0 Z = true) (wi : (Jvm.Cond.instantiable C n).before a0 Z = true) (wz : (Jvm.Cond.initialized C).before a0 Z = true) (eT : T.heap = h) (q : Nat) (hd : decode c.code pc = .ok (.new i, 3)) (hq : pc + 3 = q) (hc : cells + 1 ≤ R.cells) (hl : slots + n ≤ R.slots)
    (K : ∀ (T' : State) (h' : Heap) (a : Addr), a = h.size → Stand p l e R s m args below meth c T' locs (cells + 1) (slots + n) → T'.heap = h' → Ext h h' → Exa Z h' a C → (∀ {O nm d : String} {ty : FieldType}, Laid Z a0 C O nm d → parseFieldDescriptor d = some ty → Fld Z h' a O nm d (defaultValue ty)) → Go p e below Ev T' (mkF m q Ls (.ref a :: st))) : Go p e below Ev T (mkF m pc Ls st) := by
  subst hq
  obtain ⟨T', h', X', e', E', A', D', -, st'⟩ := newO X hx hZ hown w wi wz eT (g := mkF m pc Ls st) rfl hd hc hl
  exact (K T' h' _ rfl X' e' E' A' D').on st'
theorem g_getF (X : Stand p l e R s m args below meth c T locs cells slots) (hx : p.tables.exec = Jvm.exec) {pc : Nat} {Ls : Array Slot} {st : List Value} (hZ : Z.Warmed39 s.vm) {own R0 O n d : String} {i : Nat} (hown : s.vm.findClass own = some m.cls) (w : (Jvm.Cond.fieldLink own i R0 n d).before a0 Z = true) (via : Via Z R0 O n d) (eT : T.heap = h) {a : Addr} {v : Value} (F : Fld Z h a O n d v) (q : Nat) (hd : decode c.code pc = .ok (.getfield i, 3)) (hq : pc + 3 = q) (K : ∀ T', Stand p l e R s m args below meth c T' locs cells slots → T'.heap = h → Go p e below Ev T' (mkF m q Ls (v :: st))) : Go p e below Ev T (mkF m pc Ls (.ref a :: st)) := by
  subst hq
  obtain ⟨T', X', e', st'⟩ := getF X hx hZ hown (host := "") (Or.inl w) via eT F (g := mkF m pc Ls (.ref a :: st)) rfl rfl hd
  exact (K T' X' e').on st'
theorem g_putF (X : Stand p l e R s m args below meth c T locs cells slots) (hx : p.tables.exec = Jvm.exec) {pc : Nat} {Ls : Array Slot} {st : List Value} (hZ : Z.Warmed39 s.vm) {own R0 O n d C : String} {i kk : Nat} {ty : FieldType} (hown : s.vm.findClass own = some m.cls) (w : (Jvm.Cond.fieldLink own i R0 n d).before a0 Z = true) (via : Via Z R0 O n d) (eT : T.heap = h) {a : Addr} {v old : Value} (F : Fld Z h a O n d old) (E : Exa Z h a C) (L : (Jvm.Cond.lays C O n d).before a0 Z = true ∨ ((Jvm.Cond.laysFinal C O n d).before a0 Z = true ∧ own = O ∧ meth.name = "<init>")) (wi : (Jvm.Cond.instantiable C kk).before a0 Z = true) (hty : parseFieldDescriptor d = some ty) (hn : narrow ty v = v) (hf : fits ty v = true) (q : Nat) (hd : decode c.code pc = .ok (.putfield i, 3)) (hq : pc + 3 = q)
    (K : ∀ T' h', Stand p l e R s m args below meth c T' (locs ++ [⟨a, Jvm.RoadKit.slotOf Z O n d⟩]) cells slots → T'.heap = h' → Wr h h' a (Jvm.RoadKit.slotOf Z O n d) v → Go p e below Ev T' (mkF m q Ls st)) : Go p e below Ev T (mkF m pc Ls (v :: .ref a :: st)) := by
  subst hq
  obtain ⟨T', h', X', e', W', st'⟩ := putF X hx hZ hown (host := "") (Or.inl w) via eT F E L wi hty hn hf (g := mkF m pc Ls (v :: .ref a :: st)) rfl rfl hd
  exact (K T' h' X' e' W').on st'
theorem g_objinit (X : Stand p l e R s m args below meth c T locs cells slots) (hx : p.tables.exec = Jvm.exec) {pc : Nat} {Ls : Array Slot} {st : List Value} (hZ : Z.Warmed39 s.vm) {own : String} {i : Nat} (hown : s.vm.findClass own = some m.cls) (w1 : (Jvm.Cond.methodLink own i ⟨"java/lang/Object", "<init>", "()V"⟩).before a0 Z = true) (w2 : (Jvm.Cond.instanceMethod ⟨"java/lang/Object", "<init>", "()V"⟩).before a0 Z = true) (w3 : (Jvm.Cond.code ⟨"java/lang/Object", "<init>", "()V"⟩ object_method_1_code 1 none).before a0 Z = true) (eT : T.heap = h) {a : Addr} (W : Nat) (q : Nat) (hd : decode c.code pc = .ok (.invokespecial i, 3)) (hq : pc + 3 = q) (hsz : Ls.size = c.maxLocals) (hf : 1 ≤ R.frames) (hW : (st.map fun v => v.category).sum ≤ W) (hl : W + 12 ≤ R.locals) (K : ∀ T', Stand p l e R s m args below meth c T' locs cells slots → T'.heap = h → Go p e below Ev T' (mkF m q Ls st)) : Go p e below Ev T (mkF m pc Ls (.ref a :: st)) := by
  subst hq
  obtain ⟨T', X', e', st'⟩ := initO X hx hZ hown w1 w2 w3 eT (g := mkF m pc Ls (.ref a :: st)) rfl hsz rfl hd hf (W := W) (by show 2 * 0 + _ ≤ _; omega) hl
  exact (K T' X' e').on st'
theorem g_static (X : Stand p l e R s m args below meth c T locs cells slots) (hx : p.tables.exec = Jvm.exec) {pc : Nat} {Ls : Array Slot} {st : List Value} (hZ : Z.Warmed39 s.vm) {own : String} {i : Nat} {y : MethodName} {bytes : ByteArray} {maxL : Nat} {ret : Option FieldType} {rm : Room} {as' : Array Value} {Q : Option Value → Heap → List Loc → Prop} {argsL rest : List Value} (hown : s.vm.findClass own = some m.cls) (w1 : (Jvm.Cond.methodLink own i y).before a0 Z = true) (w2 : (Jvm.Cond.static y).before a0 Z = true) (w3 : (Jvm.Cond.initialized y.cls).before a0 Z = true) (w4 : (Jvm.Cond.code y bytes maxL ret).before a0 Z = true) (hy : y.cls ≠ "java/lang/invoke/MethodHandle" ∧ y.cls ≠ "java/lang/invoke/VarHandle") (hM : MetFree l y (head1 [Jvm.Cond.code y bytes maxL ret] rm) (fun a U => a = as' ∧ Z.Warmed39 U.vm ∧ U.heap = h) (fun _ _ _ _ _ => True) (fun _ U o U' => ∃ v L, o = .returned v ∧ Q v U'.heap L ∧ FrameEnd U o U' L rm.cells rm.slots)) (eT : T.heap = h) (hst : st = argsL.reverse ++ rest) (has : argsL.toArray = as') (W : Nat) (q : Nat) (hq : pc + 3 = q) (hsz : Ls.size = c.maxLocals) (hlen : ∀ sig, parseMethodDescriptor y.desc = some sig → argsL.length = sig.parameters.length) (hW : (rest.map fun v => v.category).sum ≤ W) (hf : rm.frames + 1 ≤ R.frames) (hl : W + (maxL + 11) + rm.locals ≤ R.locals) (hc : cells + rm.cells ≤ R.cells) (hs : slots + rm.slots ≤ R.slots) (hd : decode c.code pc = .ok (.invokestatic i, 3))
    (K : ∀ (v : Option Value) (T' : State) (L : List Loc), Stand p l e R s m args below meth c T' (locs ++ L) (cells + rm.cells) (slots + rm.slots) → Q v T'.heap L → Go p e below Ev T' (mkF m q Ls (v.toList ++ rest))) : Go p e below Ev T (mkF m pc Ls st) := by
  subst hq hst
  obtain ⟨v, vm1, ⟨T', L', k', n'⟩, -, X', ⟨L, hQ, l', y', z'⟩, st'⟩ := Jvm.LawKit.callS X hx hown (mvT hZ w1) (mvT hZ w2) (mvT hZ w3) (mvT hZ w4) hy (backOf (W := W) hM hZ w4 w3 hf hl) (g := mkF m pc Ls (argsL.reverse ++ rest)) rfl hsz (argsL := argsL) (rest := rest) hlen rfl (by show 2 * 0 + _ ≤ _; omega) hd (fun _ _ => ⟨has, eT, hc, hs⟩)
  dsimp only [Pt.U, Pt.locs, Pt.cells, Pt.slots] at X' l' y' z' st' hQ
  subst l' y' z'
  exact (K v T' L X' hQ).on fun t k => st' t k
theorem g_init (X : Stand p l e R s m args below meth c T locs cells slots) (hx : p.tables.exec = Jvm.exec) {pc : Nat} {Ls : Array Slot} {st : List Value} (hZ : Z.Warmed39 s.vm) {own : String} {i : Nat} {y : MethodName} {bytes : ByteArray} {maxL : Nat} {rm : Room} {as' : Array Value} {Q : Option Value → Heap → List Loc → Prop} {argsL rest : List Value} (hy1 : y.name = "<init>") (hown : s.vm.findClass own = some m.cls) (w1 : (Jvm.Cond.methodLink own i y).before a0 Z = true) (w2 : (Jvm.Cond.instanceMethod y).before a0 Z = true) (w3 : (Jvm.Cond.initialized y.cls).before a0 Z = true) (w4 : (Jvm.Cond.code y bytes maxL none).before a0 Z = true) (hy : y.cls ≠ "java/lang/invoke/MethodHandle" ∧ y.cls ≠ "java/lang/invoke/VarHandle") (hM : MetFree l y (head1 [Jvm.Cond.code y bytes maxL none] rm) (fun a U => a = as' ∧ Z.Warmed39 U.vm ∧ U.heap = h) (fun _ _ _ _ _ => True) (fun _ U o U' => ∃ v L, o = .returned v ∧ Q v U'.heap L ∧ FrameEnd U o U' L rm.cells rm.slots)) (eT : T.heap = h) {a : Addr} (hst : st = argsL.reverse ++ .ref a :: rest) (has : (.ref a :: argsL).toArray = as') (W : Nat) (q : Nat) (hq : pc + 3 = q) (hsz : Ls.size = c.maxLocals) (hlen : ∀ sig, parseMethodDescriptor y.desc = some sig → argsL.length = sig.parameters.length) (hW : (rest.map fun v => v.category).sum ≤ W) (hf : rm.frames + 1 ≤ R.frames) (hl : W + (maxL + 11) + rm.locals ≤ R.locals) (hc : cells + rm.cells ≤ R.cells) (hs : slots + rm.slots ≤ R.slots) (hd : decode c.code pc = .ok (.invokespecial i, 3))
    (K : ∀ (v : Option Value) (T' : State) (L : List Loc), Stand p l e R s m args below meth c T' (locs ++ L) (cells + rm.cells) (slots + rm.slots) → Q v T'.heap L → Go p e below Ev T' (mkF m q Ls (v.toList ++ rest))) : Go p e below Ev T (mkF m pc Ls st) := by
  subst hq hst
  obtain ⟨v, vm1, ⟨T', L', k', n'⟩, -, X', ⟨L, hQ, l', y', z'⟩, st'⟩ := X.specialBack hx hy1 hown (mvT hZ w1) (mvT hZ w2) (mvT hZ w4) hy (backOf (W := W) hM hZ w4 w3 hf hl) (g := mkF m pc Ls (argsL.reverse ++ .ref a :: rest)) rfl hsz (Steps.refl _) (a := a) (argsL := argsL) (rest := rest) hlen rfl (by show 2 * 0 + _ ≤ _; omega) hd (fun _ _ => ⟨has, eT, hc, hs⟩)
  dsimp only [Pt.U, Pt.locs, Pt.cells, Pt.slots] at X' l' y' z' st' hQ
  subst l' y' z'
  exact (K v T' L X' hQ).on fun t k => st'.trans k
theorem g_virt (X : Stand p l e R s m args below meth c T locs cells slots) (hx : p.tables.exec = Jvm.exec) {pc : Nat} {Ls : Array Slot} {st : List Value} (hZ : Z.Warmed39 s.vm) {own : String} {i : Nat} {y z : MethodName} {C : String} {bytes : ByteArray} {maxL : Nat} {ret : Option FieldType} {rm : Room} {as' : Array Value} {Q : Option Value → Heap → List Loc → Prop} {argsL rest : List Value} (hown : s.vm.findClass own = some m.cls) (w1 : (Jvm.Cond.methodLink own i y).before a0 Z = true) (w2 : (Jvm.Cond.declares y).before a0 Z = true) (w5 : (Jvm.Cond.selects y.cls y y).before a0 Z = true) (w6 : (Jvm.Cond.selects C y z).before a0 Z = true) (w7 : (Jvm.Cond.instanceMethod z).before a0 Z = true) (w3 : (Jvm.Cond.initialized z.cls).before a0 Z = true) (w4 : (Jvm.Cond.code z bytes maxL ret).before a0 Z = true) (hy : y.cls ≠ "java/lang/invoke/MethodHandle" ∧ y.cls ≠ "java/lang/invoke/VarHandle") (hM : MetFree l z (head1 [Jvm.Cond.code z bytes maxL ret] rm) (fun a U => a = as' ∧ Z.Warmed39 U.vm ∧ U.heap = h) (fun _ _ _ _ _ => True) (fun _ U o U' => ∃ v L, o = .returned v ∧ Q v U'.heap L ∧ FrameEnd U o U' L rm.cells rm.slots)) (eT : T.heap = h) {b : Addr} (E : Exa Z h b C) (hst : st = argsL.reverse ++ .ref b :: rest) (has : (.ref b :: argsL).toArray = as') (W : Nat) (q : Nat) (hq : pc + 3 = q) (hsz : Ls.size = c.maxLocals) (hlen : ∀ sig, parseMethodDescriptor y.desc = some sig → argsL.length = sig.parameters.length) (hW : (rest.map fun v => v.category).sum ≤ W) (hf : rm.frames + 1 ≤ R.frames) (hl : W + (maxL + 11) + rm.locals ≤ R.locals) (hc : cells + rm.cells ≤ R.cells) (hs : slots + rm.slots ≤ R.slots) (hd : decode c.code pc = .ok (.invokevirtual i, 3))
    (K : ∀ (v : Option Value) (T' : State) (L : List Loc), Stand p l e R s m args below meth c T' (locs ++ L) (cells + rm.cells) (slots + rm.slots) → Q v T'.heap L → Go p e below Ev T' (mkF m q Ls (v.toList ++ rest))) : Go p e below Ev T (mkF m pc Ls st) := by
  subst hq hst
  obtain ⟨cq, kq, qa, qb, qc⟩ := isOf hZ eT E
  obtain ⟨v, vm1, ⟨T', L', k', n'⟩, -, X', ⟨L, hQ, l', y', z'⟩, st'⟩ := X.virtualBack hx hown (mvT hZ w1) (mvT hZ w2) (notFace_of_selects (args := #[]) (mvT hZ w5)) (mvT hZ w6) (mvT hZ w7) hy (backOf (W := W) hM hZ w4 w3 hf hl) qa qc (g := mkF m pc Ls (argsL.reverse ++ .ref b :: rest)) rfl hsz (Steps.refl _) (argsL := argsL) (rest := rest) hlen rfl (by show 2 * 0 + _ ≤ _; omega) hd (fun _ _ => ⟨has, eT, hc, hs⟩)
  dsimp only [Pt.U, Pt.locs, Pt.cells, Pt.slots] at X' l' y' z' st' hQ
  subst l' y' z'
  exact (K v T' L X' hQ).on fun t k => st'.trans k
theorem own_at {n : Nat} (j : Int32) (h0 : 0 ≤ j.toInt) (z : Int32) (h1 : j.toInt < z.toInt) (S : n = z.toNatClampNeg) : ¬ (j < 0 ∨ n ≤ j.toNatClampNeg) := by
  subst S
  intro q
  rcases q with q | q
  · have := (own_i0 j).1.mp q; omega
  · simp only [Int32.toNatClampNeg] at q; omega
theorem own_ncl {j : Int32} {k : Nat} (h : j.toInt = (k : Int)) : j.toNatClampNeg = k := by simp only [Int32.toNatClampNeg]; omega
theorem g_newP (X : Stand p l e R s m args below meth c T locs cells slots) (hx : p.tables.exec = Jvm.exec) {pc : Nat} {Ls : Array Slot} {st : List Value} (hZ : Z.Warmed39 s.vm) {aty : ArrayType} (w : (Jvm.Cond.arrayClass (newarray.typeOf aty)).before a0 Z = true) (eT : T.heap = h) {n : Int32} (hn : 0 ≤ n.toInt) {cap : Nat} (hcap : n.toInt ≤ cap) (hb : cap * 8 ≤ 536870912) (q : Nat) (hd : decode c.code pc = .ok (.newarray aty, 2)) (hq : pc + 2 = q) (hc : cells + 1 ≤ R.cells) (hl : slots + cap ≤ R.slots) {ad : String} (had : "[" ++ (newarray.typeOf aty).toString = ad)
    (K : ∀ (T' : State) (h' : Heap) (k : ClassId) (a : Addr), a = h.size → Stand p l e R s m args below meth c T' locs (cells + 1) (slots + cap) → T'.heap = h' → Ext h h' → Arv Z h' a k (newarray.typeOf aty) n [] (defaultValue (newarray.typeOf aty)) → Exa Z h' a ad → Go p e below Ev T' (mkF m q Ls (.ref a :: st))) : Go p e below Ev T (mkF m pc Ls (.int n :: st)) := by
  subst hq
  have hn' : ¬ n < 0 := fun q => by have := (own_i0 n).1.mp q; omega
  obtain ⟨T', h', k, X', e', E', A', B', st'⟩ := newPE X hx hZ w eT (g := mkF m pc Ls (.int n :: st)) rfl hd rfl hn' (cap := cap) (by simp only [Int32.toNatClampNeg]; omega) hb hc hl had
  exact (K T' h' k _ rfl X' e' E' (Arv.new A' hn') B').on st'
theorem g_len (X : Stand p l e R s m args below meth c T locs cells slots) (hx : p.tables.exec = Jvm.exec) {pc : Nat} {Ls : Array Slot} {st : List Value} (hZ : Z.Warmed39 s.vm) (eT : T.heap = h) {a : Addr} {k : ClassId} {ty : FieldType} {z : Int32} {vs : List Value} {dv : Value} (V : Arv Z h a k ty z vs dv) (q : Nat) (hd : decode c.code pc = .ok (.arraylength, 1)) (hq : pc + 1 = q) (K : Go p e below Ev T (mkF m q Ls (.int z :: st))) : Go p e below Ev T (mkF m pc Ls (.ref a :: st)) := by
  subst hq
  obtain ⟨cl, A, q1, S, q3, H, G⟩ := V
  refine K.on fun t k => X.arraylength hx (by rw [eT]; exact A.1) (State.isArrayOf_alike hZ.alike A.2.1) (g := mkF m pc Ls (.ref a :: st)) rfl rfl hd t ?_
  rw [len_of S q3]
  exact k
theorem g_dastore (X : Stand p l e R s m args below meth c T locs cells slots) (hx : p.tables.exec = Jvm.exec) {pc : Nat} {Ls : Array Slot} {st : List Value} (hZ : Z.Warmed39 s.vm) (eT : T.heap = h) {a : Addr} {k : ClassId} {z j : Int32} {x : UInt64} {vs : List Value} {dv : Value} (V : Arv Z h a k .double z vs dv) (i : Nat) (hi : j.toInt = (i : Int)) (hz : j.toInt < z.toInt) (hv : i < vs.length) (q : Nat) (hd : decode c.code pc = .ok (.dastore, 1)) (hq : pc + 1 = q)
    (K : ∀ T' h', Stand p l e R s m args below meth c T' (locs ++ [⟨a, j.toNatClampNeg⟩]) cells slots → T'.heap = h' → Wr h h' a j.toNatClampNeg (.double x) → Arv Z h' a k .double z (vs.set i (.double x)) dv → Go p e below Ev T' (mkF m q Ls st)) : Go p e below Ev T (mkF m pc Ls (.double x :: .int j :: .ref a :: st)) := by
  subst hq
  obtain ⟨cl, A, q1, S, q3, H, G⟩ := V
  have hj := own_at j (by omega) z hz S
  obtain ⟨T', h', X', e', W', st'⟩ := stD X hx hZ eT A hj (g := mkF m pc Ls (.double x :: .int j :: .ref a :: st)) rfl rfl hd
  exact (K T' h' X' e' W' (Arv.set A q1 S q3 H G rfl W' i (own_ncl hi) hv)).on st'
theorem g_iastore (X : Stand p l e R s m args below meth c T locs cells slots) (hx : p.tables.exec = Jvm.exec) {pc : Nat} {Ls : Array Slot} {st : List Value} (hZ : Z.Warmed39 s.vm) (eT : T.heap = h) {a : Addr} {k : ClassId} {z j : Int32} {x : Int32} {vs : List Value} {dv : Value} (V : Arv Z h a k .int z vs dv) (i : Nat) (hi : j.toInt = (i : Int)) (hz : j.toInt < z.toInt) (hv : i < vs.length) (q : Nat) (hd : decode c.code pc = .ok (.iastore, 1)) (hq : pc + 1 = q)
    (K : ∀ T' h', Stand p l e R s m args below meth c T' (locs ++ [⟨a, j.toNatClampNeg⟩]) cells slots → T'.heap = h' → Wr h h' a j.toNatClampNeg (.int x) → Arv Z h' a k .int z (vs.set i (.int x)) dv → Go p e below Ev T' (mkF m q Ls st)) : Go p e below Ev T (mkF m pc Ls (.int x :: .int j :: .ref a :: st)) := by
  subst hq
  obtain ⟨cl, A, q1, S, q3, H, G⟩ := V
  have hj := own_at j (by omega) z hz S
  obtain ⟨T', h', X', e', W', st'⟩ := stI X hx hZ eT A hj (g := mkF m pc Ls (.int x :: .int j :: .ref a :: st)) rfl rfl hd
  exact (K T' h' X' e' W' (Arv.set A q1 S q3 H G rfl W' i (own_ncl hi) hv)).on st'
theorem g_lastore (X : Stand p l e R s m args below meth c T locs cells slots) (hx : p.tables.exec = Jvm.exec) {pc : Nat} {Ls : Array Slot} {st : List Value} (hZ : Z.Warmed39 s.vm) (eT : T.heap = h) {a : Addr} {k : ClassId} {z j : Int32} {x : Int64} {vs : List Value} {dv : Value} (V : Arv Z h a k .long z vs dv) (i : Nat) (hi : j.toInt = (i : Int)) (hz : j.toInt < z.toInt) (hv : i < vs.length) (q : Nat) (hd : decode c.code pc = .ok (.lastore, 1)) (hq : pc + 1 = q)
    (K : ∀ T' h', Stand p l e R s m args below meth c T' (locs ++ [⟨a, j.toNatClampNeg⟩]) cells slots → T'.heap = h' → Wr h h' a j.toNatClampNeg (.long x) → Arv Z h' a k .long z (vs.set i (.long x)) dv → Go p e below Ev T' (mkF m q Ls st)) : Go p e below Ev T (mkF m pc Ls (.long x :: .int j :: .ref a :: st)) := by
  subst hq
  obtain ⟨cl, A, q1, S, q3, H, G⟩ := V
  have hj := own_at j (by omega) z hz S
  obtain ⟨T', h', X', e', W', st'⟩ := stJ X hx hZ eT A hj (g := mkF m pc Ls (.long x :: .int j :: .ref a :: st)) rfl rfl hd
  exact (K T' h' X' e' W' (Arv.set A q1 S q3 H G rfl W' i (own_ncl hi) hv)).on st'
theorem g_daload (X : Stand p l e R s m args below meth c T locs cells slots) (hx : p.tables.exec = Jvm.exec) {pc : Nat} {Ls : Array Slot} {st : List Value} (hZ : Z.Warmed39 s.vm) (eT : T.heap = h) {a : Addr} {k : ClassId} {z j : Int32} {v : Value} {vs : List Value} {dv : Value} (V : Arv Z h a k .double z vs dv) (hi : 0 ≤ j.toInt) (hz : j.toInt < z.toInt) (hv : vs.getD j.toNatClampNeg dv = v) (q : Nat) (hd : decode c.code pc = .ok (.daload, 1)) (hq : pc + 1 = q) (K : Go p e below Ev T (mkF m q Ls (v :: st))) : Go p e below Ev T (mkF m pc Ls (.int j :: .ref a :: st)) := by
  subst hq
  obtain ⟨cl, A, q1, S, q3, H, G⟩ := V
  have hj := own_at j hi z hz S
  exact K.on fun t k => X.daload hx (by rw [eT]; exact A.1) (State.isArrayOf_alike hZ.alike A.2.1) A.2.2 hj (H.at hj hv) (g := mkF m pc Ls (.int j :: .ref a :: st)) rfl rfl hd t k
theorem g_iaload (X : Stand p l e R s m args below meth c T locs cells slots) (hx : p.tables.exec = Jvm.exec) {pc : Nat} {Ls : Array Slot} {st : List Value} (hZ : Z.Warmed39 s.vm) (eT : T.heap = h) {a : Addr} {k : ClassId} {z j : Int32} {v : Value} {vs : List Value} {dv : Value} (V : Arv Z h a k .int z vs dv) (hi : 0 ≤ j.toInt) (hz : j.toInt < z.toInt) (hv : vs.getD j.toNatClampNeg dv = v) (q : Nat) (hd : decode c.code pc = .ok (.iaload, 1)) (hq : pc + 1 = q) (K : Go p e below Ev T (mkF m q Ls (v :: st))) : Go p e below Ev T (mkF m pc Ls (.int j :: .ref a :: st)) := by
  subst hq
  obtain ⟨cl, A, q1, S, q3, H, G⟩ := V
  have hj := own_at j hi z hz S
  exact K.on fun t k => X.iaload hx (by rw [eT]; exact A.1) (State.isArrayOf_alike hZ.alike A.2.1) A.2.2 hj (H.at hj hv) (g := mkF m pc Ls (.int j :: .ref a :: st)) rfl rfl hd t k
theorem g_laload (X : Stand p l e R s m args below meth c T locs cells slots) (hx : p.tables.exec = Jvm.exec) {pc : Nat} {Ls : Array Slot} {st : List Value} (hZ : Z.Warmed39 s.vm) (eT : T.heap = h) {a : Addr} {k : ClassId} {z j : Int32} {v : Value} {vs : List Value} {dv : Value} (V : Arv Z h a k .long z vs dv) (hi : 0 ≤ j.toInt) (hz : j.toInt < z.toInt) (hv : vs.getD j.toNatClampNeg dv = v) (q : Nat) (hd : decode c.code pc = .ok (.laload, 1)) (hq : pc + 1 = q) (K : Go p e below Ev T (mkF m q Ls (v :: st))) : Go p e below Ev T (mkF m pc Ls (.int j :: .ref a :: st)) := by
  subst hq
  obtain ⟨cl, A, q1, S, q3, H, G⟩ := V
  have hj := own_at j hi z hz S
  exact K.on fun t k => X.laload hx (by rw [eT]; exact A.1) (State.isArrayOf_alike hZ.alike A.2.1) A.2.2 hj (H.at hj hv) (g := mkF m pc Ls (.int j :: .ref a :: st)) rfl rfl hd t k
theorem g_clone (X : Stand p l e R s m args below meth c T locs cells slots) (hx : p.tables.exec = Jvm.exec) {pc : Nat} {Ls : Array Slot} {st : List Value} (hZ : Z.Warmed39 s.vm) {own ad : String} {i : Nat} (hown : s.vm.findClass own = some m.cls) (w1 : (Jvm.Cond.methodLink own i ⟨ad, "clone", "()Ljava/lang/Object;"⟩).before a0 Z = true) (w2 : (Jvm.Cond.sameMethod ad "java/lang/Object" "clone" "()Ljava/lang/Object;").before a0 Z = true) (w3 : (Jvm.Cond.native ⟨"java/lang/Object", "clone", "()Ljava/lang/Object;"⟩).before a0 Z = true) (w4 : (Jvm.Cond.instanceMethod ⟨"java/lang/Object", "clone", "()Ljava/lang/Object;"⟩).before a0 Z = true) (w5 : (Jvm.Cond.selects ad ⟨ad, "clone", "()Ljava/lang/Object;"⟩ ⟨"java/lang/Object", "clone", "()Ljava/lang/Object;"⟩).before a0 Z = true) (w6 : (Jvm.Cond.castable ad "java/lang/Cloneable").before a0 Z = true) (eT : T.heap = h) {a : Addr} {k : ClassId} {ty : FieldType} {z : Int32} {vs : List Value} {dv : Value} (V : Arv Z h a k ty z vs dv) (E : Exa Z h a ad) (W cap : Nat) (q : Nat) (hd : decode c.code pc = .ok (.invokevirtual i, 3)) (hq : pc + 3 = q) (hsz : Ls.size = c.maxLocals) (hf : 1 ≤ R.frames) (hW : (st.map fun v => v.category).sum ≤ W) (hl : W + 14 ≤ R.locals) (hcap : z.toInt ≤ cap) (hc : cells + 1 ≤ R.cells) (hs : slots + cap ≤ R.slots)
    (K : ∀ (T' : State) (h' : Heap) (b : Addr), b = h.size → Stand p l e R s m args below meth c T' locs (cells + 1) (slots + cap) → T'.heap = h' → Ext h h' → Arv Z h' b k ty z vs dv → Exa Z h' b ad → Go p e below Ev T' (mkF m q Ls (.ref b :: st))) : Go p e below Ev T (mkF m pc Ls (.ref a :: st)) := by
  subst hq
  obtain ⟨T', h', X', e', E', V', B', st'⟩ := cloneH X hx hZ hown w1 w2 w3 w4 w5 w6 eT V.arh E (g := mkF m pc Ls (.ref a :: st)) rfl hsz rfl hd hf (W := W) (cap := cap) (by show 2 * 0 + _ ≤ _; omega) hl (by simp only [Int32.toNatClampNeg]; omega) hc hs
  exact (K T' h' _ rfl X' e' E' V' B').on st'
theorem g_cast (X : Stand p l e R s m args below meth c T locs cells slots) (hx : p.tables.exec = Jvm.exec) {pc : Nat} {Ls : Array Slot} {st : List Value} (hZ : Z.Warmed39 s.vm) {own C : String} {i : Nat} (hown : s.vm.findClass own = some m.cls) (w : (Jvm.Cond.classLink own i C).before a0 Z = true) (eT : T.heap = h) {a : Addr} (F : Ins Z h a C true) (q : Nat) (hd : decode c.code pc = .ok (.checkcast i, 3)) (hq : pc + 3 = q) (K : ∀ T', Stand p l e R s m args below meth c T' locs cells slots → T'.heap = h → Go p e below Ev T' (mkF m q Ls (.ref a :: st))) : Go p e below Ev T (mkF m pc Ls (.ref a :: st)) := by
  subst hq
  obtain ⟨T', X', e', st'⟩ := castY X hx hZ hown w eT F (g := mkF m pc Ls (.ref a :: st)) rfl rfl hd
  exact (K T' X' e').on st'
end OwnKit
theorem own_pd0 : parseMethodDescriptor "([D)Lcom/example/recolecta/recolecta/Bins;" = some ⟨[(.array .double)], some (.object "com/example/recolecta/recolecta/Bins")⟩ := by decide +kernel
theorem own_pd1 : parseMethodDescriptor "(DD)D" = some ⟨[.double, .double], some .double⟩ := by decide +kernel
theorem own_pd2 : parseMethodDescriptor "(IDD)I" = some ⟨[.int, .double, .double], some .int⟩ := by decide +kernel
theorem own_pd3 : parseMethodDescriptor "(DDI)V" = some ⟨[.double, .double, .int], none⟩ := by decide +kernel
theorem own_pd4 : parseMethodDescriptor "()V" = some ⟨[], none⟩ := by decide +kernel
theorem own_pd5 : parseMethodDescriptor "()D" = some ⟨[], some .double⟩ := by decide +kernel
theorem own_pd6 : parseMethodDescriptor "()I" = some ⟨[], some .int⟩ := by decide +kernel
theorem own_pd7 : parseMethodDescriptor "(II)I" = some ⟨[.int, .int], some .int⟩ := by decide +kernel
theorem own_pd8 : parseMethodDescriptor "(I)I" = some ⟨[.int], some .int⟩ := by decide +kernel
def Q_rm0 (n0 : Nat) (v : Option Value) (h : Heap) (L : List Loc) : Prop := v = some (.int 1) ∧ Fr n0 L
theorem own_dlit {i : Int} {a : UInt64} (s : Bool) (c : Nat) (q : Int) (h : Jvm.FP.Core.val64 a = .fin s c q) (h2 : Jvm.FP.Core.signed s (c * 2 ^ q.toNat) = i * ((2 ^ (-q).toNat : Nat) : Int)) : Jvm.FP.Core.DInt i a := by
  show Jvm.FP.Core.Whole i _
  rw [h]
  exact h2
theorem own_dnn {i : Int} {a : UInt64} (h : Jvm.FP.Core.DInt i a) : Jvm.Free.Fl.NoNaN64 a := Jvm.Free.Fl.noNaN64_no.mpr ((Jvm.FP.Core.notNaN_iff a).mpr (Jvm.FP.Core.Whole.ne_nan h))
theorem own_dzero : Jvm.FP.Core.DInt 0 (0 : UInt64) := own_dlit false 0 (-1074) (by decide +kernel) (by decide +kernel)
theorem own_done : Jvm.FP.Core.DInt 1 (4607182418800017408 : UInt64) := own_dlit false (2 ^ 52) (-52) (by decide +kernel) (by decide +kernel)
section OwnMath
variable {p : Program} {l : Launch} {e : Env} {R : Room} {s : State} {m : MethodId} {args : Array Value} {below : List Frame} {meth : Method} {c : Code} {T : State} {locs : List Loc} {cells slots : Nat} {Z : State} {a0 : Array Value} {h h' : Heap} {Ev : State → Outcome → Prop}
theorem g_maxD (X : Stand p l e R s m args below meth c T locs cells slots) (hx : p.tables.exec = Jvm.exec) {pc : Nat} {Ls : Array Slot} {st : List Value} (hZ : Z.Warmed39 s.vm) {own : String} {i : Nat} {by0 : ByteArray} (hown : s.vm.findClass own = some m.cls) (w1 : (Jvm.Cond.methodLink own i ⟨"java/lang/Math", "max", "(DD)D"⟩).before a0 Z = true) (w2 : (Jvm.Cond.static ⟨"java/lang/Math", "max", "(DD)D"⟩).before a0 Z = true) (w3 : (Jvm.Cond.initialized "java/lang/Math").before a0 Z = true) (w4 : (Jvm.Cond.code ⟨"java/lang/Math", "max", "(DD)D"⟩ by0 4 (some .double)).before a0 Z = true) (hby0 : by0 = Jvm.Free.Fl.Abs.maxDCode) (eT : T.heap = h) {a b : UInt64} (ha : Jvm.Free.Fl.NoNaN64 a) (hb : Jvm.Free.Fl.NoNaN64 b) {r : UInt64} (hr : Jvm.Native.java_lang_Math.nans.pick64 true a b = r) (W : Nat) (q : Nat) (hd : decode c.code pc = .ok (.invokestatic i, 3)) (hq : pc + 3 = q) (hsz : Ls.size = c.maxLocals) (hW : (st.map fun v => v.category).sum ≤ W) (hf : 1 ≤ R.frames) (hl : W + 15 ≤ R.locals) (hc : cells ≤ R.cells) (hs : slots ≤ R.slots) (hpd : parseMethodDescriptor "(DD)D" = some ⟨[.double, .double], some .double⟩)
    (K : ∀ T', Stand p l e R s m args below meth c T' locs cells slots → T'.heap = h → Go p e below Ev T' (mkF m q Ls (.double r :: st))) : Go p e below Ev T (mkF m pc Ls (.double b :: .double a :: st)) := by
  subst hq hby0
  obtain ⟨T', X', e', st'⟩ := natS X hx hZ (y := ⟨"java/lang/Math", "max", "(DD)D"⟩) hown w1 w2 w3 w4 (by decide) eT (W := W) (F := fun a' => a' = #[.double a, .double b] ∧ Jvm.Free.Fl.NoNaN64 a ∧ Jvm.Free.Fl.NoNaN64 b) (val := .double (Jvm.Native.java_lang_Math.nans.pick64 true a b)) (val' := .double r) (fun hcd => Jvm.Free.Fl.Abs.maxD_pays a b hcd hf hl) (g := mkF m pc Ls (.double b :: .double a :: st)) rfl hsz (argsL := [.double a, .double b]) (rest := st) (lenOf hpd rfl) rfl (by show 2 * 0 + _ ≤ _; omega) hd hc hs ⟨rfl, ha, hb⟩ (by rw [hr])
  exact (K T' X' e').on st'
theorem g_minD (X : Stand p l e R s m args below meth c T locs cells slots) (hx : p.tables.exec = Jvm.exec) {pc : Nat} {Ls : Array Slot} {st : List Value} (hZ : Z.Warmed39 s.vm) {own : String} {i : Nat} {by0 : ByteArray} (hown : s.vm.findClass own = some m.cls) (w1 : (Jvm.Cond.methodLink own i ⟨"java/lang/Math", "min", "(DD)D"⟩).before a0 Z = true) (w2 : (Jvm.Cond.static ⟨"java/lang/Math", "min", "(DD)D"⟩).before a0 Z = true) (w3 : (Jvm.Cond.initialized "java/lang/Math").before a0 Z = true) (w4 : (Jvm.Cond.code ⟨"java/lang/Math", "min", "(DD)D"⟩ by0 4 (some .double)).before a0 Z = true) (hby0 : by0 = Jvm.Free.Fl.Abs.minDCode) (eT : T.heap = h) {a b : UInt64} (ha : Jvm.Free.Fl.NoNaN64 a) (hb : Jvm.Free.Fl.NoNaN64 b) {r : UInt64} (hr : Jvm.Native.java_lang_Math.nans.pick64 false a b = r) (W : Nat) (q : Nat) (hd : decode c.code pc = .ok (.invokestatic i, 3)) (hq : pc + 3 = q) (hsz : Ls.size = c.maxLocals) (hW : (st.map fun v => v.category).sum ≤ W) (hf : 1 ≤ R.frames) (hl : W + 15 ≤ R.locals) (hc : cells ≤ R.cells) (hs : slots ≤ R.slots) (hpd : parseMethodDescriptor "(DD)D" = some ⟨[.double, .double], some .double⟩)
    (K : ∀ T', Stand p l e R s m args below meth c T' locs cells slots → T'.heap = h → Go p e below Ev T' (mkF m q Ls (.double r :: st))) : Go p e below Ev T (mkF m pc Ls (.double b :: .double a :: st)) := by
  subst hq hby0
  obtain ⟨T', X', e', st'⟩ := natS X hx hZ (y := ⟨"java/lang/Math", "min", "(DD)D"⟩) hown w1 w2 w3 w4 (by decide) eT (W := W) (F := fun a' => a' = #[.double a, .double b] ∧ Jvm.Free.Fl.NoNaN64 a ∧ Jvm.Free.Fl.NoNaN64 b) (val := .double (Jvm.Native.java_lang_Math.nans.pick64 false a b)) (val' := .double r) (fun hcd => Jvm.Free.Fl.Abs.minD_pays a b hcd hf hl) (g := mkF m pc Ls (.double b :: .double a :: st)) rfl hsz (argsL := [.double a, .double b]) (rest := st) (lenOf hpd rfl) rfl (by show 2 * 0 + _ ≤ _; omega) hd hc hs ⟨rfl, ha, hb⟩ (by rw [hr])
  exact (K T' X' e').on st'
theorem g_absD (X : Stand p l e R s m args below meth c T locs cells slots) (hx : p.tables.exec = Jvm.exec) {pc : Nat} {Ls : Array Slot} {st : List Value} (hZ : Z.Warmed39 s.vm) {own : String} {i : Nat} {by0 : ByteArray} (hown : s.vm.findClass own = some m.cls) (w1 : (Jvm.Cond.methodLink own i ⟨"java/lang/Math", "abs", "(D)D"⟩).before a0 Z = true) (w2 : (Jvm.Cond.static ⟨"java/lang/Math", "abs", "(D)D"⟩).before a0 Z = true) (w3 : (Jvm.Cond.initialized "java/lang/Math").before a0 Z = true) (w4 : (Jvm.Cond.code ⟨"java/lang/Math", "abs", "(D)D"⟩ by0 2 (some .double)).before a0 Z = true) (hby0 : by0 = Jvm.Free.Fl.Abs.absDCode) (eT : T.heap = h) {a : UInt64} (ha : Jvm.Free.Fl.NoNaN64 a) (W : Nat) (q : Nat) (hd : decode c.code pc = .ok (.invokestatic i, 3)) (hq : pc + 3 = q) (hsz : Ls.size = c.maxLocals) (hW : (st.map fun v => v.category).sum ≤ W) (hf : 1 ≤ R.frames) (hl : W + 13 ≤ R.locals) (hc : cells ≤ R.cells) (hs : slots ≤ R.slots) (hpd : parseMethodDescriptor "(D)D" = some ⟨[.double], some .double⟩)
    (K : ∀ T', Stand p l e R s m args below meth c T' locs cells slots → T'.heap = h → Go p e below Ev T' (mkF m q Ls (.double (a &&& 0x7fffffffffffffff) :: st))) : Go p e below Ev T (mkF m pc Ls (.double a :: st)) := by
  subst hq hby0
  obtain ⟨T', X', e', st'⟩ := natS X hx hZ (y := ⟨"java/lang/Math", "abs", "(D)D"⟩) hown w1 w2 w3 w4 (by decide) eT (W := W) (F := fun a' => a' = #[.double a] ∧ Jvm.Free.Fl.NoNaN64 a) (val := .double (a &&& 0x7fffffffffffffff)) (val' := .double (a &&& 0x7fffffffffffffff)) (fun hcd => Jvm.Free.Fl.Abs.absD_pays a hcd hf hl) (g := mkF m pc Ls (.double a :: st)) rfl hsz (argsL := [.double a]) (rest := st) (lenOf hpd rfl) rfl (by show 2 * 0 + _ ≤ _; omega) hd hc hs ⟨rfl, ha⟩ rfl
  exact (K T' X' e').on st'
open Jvm.FP.Core in
theorem own_pick {i j : Int} {a b : UInt64} (g : Bool) (ha : DInt i a) (hb : DInt j b) : DInt (if g then max i j else min i j) (Jvm.Native.java_lang_Math.nans.pick64 g a b) := by
  have hc : FP.dcmp a b = some (compare i j) := dcmp_int ha hb
  unfold Jvm.Native.java_lang_Math.nans.pick64
  rw [hc]
  have C : i < j ∨ i = j ∨ j < i := by omega
  rcases C with C | C | C
  · rw [show compare i j = .lt from by rw [compare_ite]; simp [C]]
    cases g
    · show DInt (min i j) a; rw [show min i j = i by omega]; exact ha
    · show DInt (max i j) b; rw [show max i j = j by omega]; exact hb
  · subst C
    rw [show compare i i = .eq from by rw [compare_ite]; simp]
    have e1 : (if g then max i i else min i i) = i := by cases g <;> simp
    rw [e1]
    dsimp only
    split <;> assumption
  · rw [show compare i j = .gt from by rw [compare_ite]; simp [show ¬ i < j by omega, show ¬ i = j by omega]]
    cases g
    · show DInt (min i j) b; rw [show min i j = j by omega]; exact hb
    · show DInt (max i j) a; rw [show max i j = i by omega]; exact ha
theorem own_minD {i j : Int} {a b : UInt64} (ha : Jvm.FP.Core.DInt i a) (hb : Jvm.FP.Core.DInt j b) : Jvm.FP.Core.DInt (min i j) (Jvm.Native.java_lang_Math.nans.pick64 false a b) := own_pick false ha hb
theorem own_maxD {i j : Int} {a b : UInt64} (ha : Jvm.FP.Core.DInt i a) (hb : Jvm.FP.Core.DInt j b) : Jvm.FP.Core.DInt (max i j) (Jvm.Native.java_lang_Math.nans.pick64 true a b) := own_pick true ha hb
end OwnMath
section Nlz
/-- r leading zeros of i: i is 0, or its highest digit is the k-th -/
def NlzIs (i r : Int) : Prop := (i = 0 ∧ r = 32) ∨ ∃ k : Nat, k ≤ 31 ∧ r = 31 - (k : Int) ∧ ((2 ^ k : Nat) : Int) ≤ i ∧ i < ((2 ^ (k + 1) : Nat) : Int)
theorem own_leaf {i r : Int} {z w : Int32} (B : Nat) (hB : B ≤ 30) (hz : z.toInt = i / ((2 ^ B : Nat) : Int)) (h1 : 1 ≤ z.toInt) (h3 : z.toInt < 4) (hw : w.toInt = z.toInt / 2) (hr : r = 31 - (B : Int) - w.toInt) : NlzIs i r := by
  right
  have hP : 0 < ((2 ^ B : Nat) : Int) := by have := Nat.two_pow_pos B; omega
  have e1 := Int.mul_ediv_add_emod i ((2 ^ B : Nat) : Int)
  have e2 := Int.emod_nonneg i (show ((2 ^ B : Nat) : Int) ≠ 0 by omega)
  have e3 := Int.emod_lt_of_pos i hP
  have s1 : ((2 ^ (B + 1) : Nat) : Int) = 2 * ((2 ^ B : Nat) : Int) := by rw [Nat.pow_succ]; omega
  have s2 : ((2 ^ (B + 1 + 1) : Nat) : Int) = 4 * ((2 ^ B : Nat) : Int) := by rw [Nat.pow_succ, Nat.pow_succ]; omega
  have c : z.toInt = 1 ∨ z.toInt = 2 ∨ z.toInt = 3 := by omega
  rw [← hz] at e1
  rcases c with c | c | c <;> rw [c] at e1 hw
  · exact ⟨B, by omega, by omega, by omega, by omega⟩
  · exact ⟨B + 1, by omega, by omega, by omega, by omega⟩
  · exact ⟨B + 1, by omega, by omega, by omega, by omega⟩
theorem own_ush {x z : Int32} (q : Int32) (k : Nat) (hk : q.toBitVec.toNat % 32 = k) (h0 : 0 < k) (hz : (x.toUInt32 >>> (q &&& 31).toUInt32).toInt32 = z) (hx : 0 ≤ x.toInt) : z.toInt = x.toInt / ((2 ^ k : Nat) : Int) := by
  rw [← hz, c_iushr x q k hk h0]
  have := rng32 x
  rw [Int.emod_eq_of_lt hx (by omega)]
end Nlz
theorem d12_0 : decode jdk_33_method_47_code 0 = .ok (.iload_n 0, 1) := by decide +kernel
theorem d12_1 : decode jdk_33_method_47_code 1 = .ok (.ifCond .gt 14, 3) := by decide +kernel
theorem d12_4 : decode jdk_33_method_47_code 4 = .ok (.iload_n 0, 1) := by decide +kernel
theorem d12_5 : decode jdk_33_method_47_code 5 = .ok (.ifCond .ne 8, 3) := by decide +kernel
theorem d12_8 : decode jdk_33_method_47_code 8 = .ok (.bipush 32, 2) := by decide +kernel
theorem d12_10 : decode jdk_33_method_47_code 10 = .ok (.goto 4, 3) := by decide +kernel
theorem d12_13 : decode jdk_33_method_47_code 13 = .ok (.iconst 0, 1) := by decide +kernel
theorem d12_14 : decode jdk_33_method_47_code 14 = .ok (.ireturn, 1) := by decide +kernel
theorem d12_15 : decode jdk_33_method_47_code 15 = .ok (.bipush 31, 2) := by decide +kernel
theorem d12_17 : decode jdk_33_method_47_code 17 = .ok (.istore_n 1, 1) := by decide +kernel
theorem d12_18 : decode jdk_33_method_47_code 18 = .ok (.iload_n 0, 1) := by decide +kernel
theorem d12_19 : decode jdk_33_method_47_code 19 = .ok (.ldc_w 264, 3) := by decide +kernel
theorem d12_22 : decode jdk_33_method_47_code 22 = .ok (.if_icmp .lt 11, 3) := by decide +kernel
theorem d12_25 : decode jdk_33_method_47_code 25 = .ok (.iinc 1 (-16), 3) := by decide +kernel
theorem d12_28 : decode jdk_33_method_47_code 28 = .ok (.iload_n 0, 1) := by decide +kernel
theorem d12_29 : decode jdk_33_method_47_code 29 = .ok (.bipush 16, 2) := by decide +kernel
theorem d12_31 : decode jdk_33_method_47_code 31 = .ok (.iushr, 1) := by decide +kernel
theorem d12_32 : decode jdk_33_method_47_code 32 = .ok (.istore_n 0, 1) := by decide +kernel
theorem d12_33 : decode jdk_33_method_47_code 33 = .ok (.iload_n 0, 1) := by decide +kernel
theorem d12_34 : decode jdk_33_method_47_code 34 = .ok (.sipush 256, 3) := by decide +kernel
theorem d12_37 : decode jdk_33_method_47_code 37 = .ok (.if_icmp .lt 11, 3) := by decide +kernel
theorem d12_40 : decode jdk_33_method_47_code 40 = .ok (.iinc 1 (-8), 3) := by decide +kernel
theorem d12_43 : decode jdk_33_method_47_code 43 = .ok (.iload_n 0, 1) := by decide +kernel
theorem d12_44 : decode jdk_33_method_47_code 44 = .ok (.bipush 8, 2) := by decide +kernel
theorem d12_46 : decode jdk_33_method_47_code 46 = .ok (.iushr, 1) := by decide +kernel
theorem d12_47 : decode jdk_33_method_47_code 47 = .ok (.istore_n 0, 1) := by decide +kernel
theorem d12_48 : decode jdk_33_method_47_code 48 = .ok (.iload_n 0, 1) := by decide +kernel
theorem d12_49 : decode jdk_33_method_47_code 49 = .ok (.bipush 16, 2) := by decide +kernel
theorem d12_51 : decode jdk_33_method_47_code 51 = .ok (.if_icmp .lt 10, 3) := by decide +kernel
theorem d12_54 : decode jdk_33_method_47_code 54 = .ok (.iinc 1 (-4), 3) := by decide +kernel
theorem d12_57 : decode jdk_33_method_47_code 57 = .ok (.iload_n 0, 1) := by decide +kernel
theorem d12_58 : decode jdk_33_method_47_code 58 = .ok (.iconst 4, 1) := by decide +kernel
theorem d12_59 : decode jdk_33_method_47_code 59 = .ok (.iushr, 1) := by decide +kernel
theorem d12_60 : decode jdk_33_method_47_code 60 = .ok (.istore_n 0, 1) := by decide +kernel
theorem d12_61 : decode jdk_33_method_47_code 61 = .ok (.iload_n 0, 1) := by decide +kernel
theorem d12_62 : decode jdk_33_method_47_code 62 = .ok (.iconst 4, 1) := by decide +kernel
theorem d12_63 : decode jdk_33_method_47_code 63 = .ok (.if_icmp .lt 10, 3) := by decide +kernel
theorem d12_66 : decode jdk_33_method_47_code 66 = .ok (.iinc 1 (-2), 3) := by decide +kernel
theorem d12_69 : decode jdk_33_method_47_code 69 = .ok (.iload_n 0, 1) := by decide +kernel
theorem d12_70 : decode jdk_33_method_47_code 70 = .ok (.iconst 2, 1) := by decide +kernel
theorem d12_71 : decode jdk_33_method_47_code 71 = .ok (.iushr, 1) := by decide +kernel
theorem d12_72 : decode jdk_33_method_47_code 72 = .ok (.istore_n 0, 1) := by decide +kernel
theorem d12_73 : decode jdk_33_method_47_code 73 = .ok (.iload_n 1, 1) := by decide +kernel
theorem d12_74 : decode jdk_33_method_47_code 74 = .ok (.iload_n 0, 1) := by decide +kernel
theorem d12_75 : decode jdk_33_method_47_code 75 = .ok (.iconst 1, 1) := by decide +kernel
theorem d12_76 : decode jdk_33_method_47_code 76 = .ok (.iushr, 1) := by decide +kernel
theorem d12_77 : decode jdk_33_method_47_code 77 = .ok (.isub, 1) := by decide +kernel
theorem d12_78 : decode jdk_33_method_47_code 78 = .ok (.ireturn, 1) := by decide +kernel
theorem own_pf0 : plainFor (⟨"java/lang/Integer", "numberOfLeadingZeros", "(I)I"⟩ : MethodName) = true := plainFor_of_name (by first | (simp [plainName, overriddenIn]; done) | decide +kernel)
def Q_rmZ (x : Int32) (n0 : Nat) (h0 : Heap) (v : Option Value) (h : Heap) (L : List Loc) : Prop := ∃ r : Int32, v = some (.int r) ∧ Fr n0 L ∧ h = h0 ∧ NlzIs x.toInt r.toInt
theorem ef_rmZ (x : Int32) (m : MethodId) : entryFrame m #[(.int x)] 2 = mkF m 0 #[.val (.int x), .unset] [] := by first | (simp [entryFrame, mkF, argsToLocals, Value.category]; done) | rfl
set_option maxRecDepth 65536 in
set_option maxHeartbeats 40000000 in
theorem rmZ (l : Launch) (Z : State) (a0 : Array Value) (hw : ∀ d ∈ tables_1, d.before a0 Z = true) (x : Int32) (h0 : Heap) (n0 : Nat) (Z0 : n0 ≤ h0.size) (hx0 : 0 ≤ x.toInt) :
    MetFree l (⟨"java/lang/Integer", "numberOfLeadingZeros", "(I)I"⟩ : MethodName) (head1 [Jvm.Cond.code (⟨"java/lang/Integer", "numberOfLeadingZeros", "(I)I"⟩ : MethodName) jdk_33_method_47_code 2 (some .int)] ({ frames := 0, cells := 0, slots := 0, locals := 0 } : Room)) (fun as_ U => as_ = #[(.int x)] ∧ Z.Warmed39 U.vm ∧ U.heap = h0) (fun _ _ _ _ _ => True) (fun _ U o U' => ∃ v L, o = .returned v ∧ Q_rmZ x n0 h0 v U'.heap L ∧ FrameEnd U o U' L ({ frames := 0, cells := 0, slots := 0, locals := 0 } : Room).cells ({ frames := 0, cells := 0, slots := 0, locals := 0 } : Room).slots) := by
  refine own_met own_pf0 (ef_rmZ x) ?_
  intro p e s m below meth c T0 X0 hx hby hml hret hlk hnm hown hZ e0
  have N0 := Fr.nil n0
  have rx := rng32 x
  refine g_iloadN X0 hx 1 (hb hby d12_0) rfl rfl ?_
  refine g_if_gt X0 hx 15 4 (hb hby d12_1) (by decide) (by decide) rfl (fun c1 => ?_) (fun c1 => ?_)
  · skip
    refine g_bipush X0 hx (31 : Int32) 17 (hb hby d12_15) rfl (by decide) ?_
    refine g_istoreN (l' := #[.val (.int x), .val (.int (31 : Int32))]) X0 hx 18 (hb hby d12_17) rfl rfl ?_
    refine g_iloadN X0 hx 19 (hb hby d12_18) rfl rfl ?_
    refine g_ldcWI X0 hx 22 hZ hown (hw _ (List.mem_of_getElem? (i := 54) rfl)) (hb hby d12_19) rfl ?_
    have ll3 : ((65536 : Int32) : Int32).toInt = 65536 := by decide
    refine g_ic_lt X0 hx 33 25 (hb hby d12_22) (by decide) (by decide) rfl (fun c2 => ?_) (fun c2 => ?_)
    · skip
      refine g_iloadN X0 hx 34 (hb hby d12_33) rfl rfl ?_
      refine g_sipush X0 hx (256 : Int32) 37 (hb hby d12_34) rfl (by decide) ?_
      have ll5 : ((256 : Int32) : Int32).toInt = 256 := by decide
      refine g_ic_lt X0 hx 48 40 (hb hby d12_37) (by decide) (by decide) rfl (fun c4 => ?_) (fun c4 => ?_)
      · skip
        refine g_iloadN X0 hx 49 (hb hby d12_48) rfl rfl ?_
        refine g_bipush X0 hx (16 : Int32) 51 (hb hby d12_49) rfl (by decide) ?_
        have ll7 : ((16 : Int32) : Int32).toInt = 16 := by decide
        refine g_ic_lt X0 hx 61 54 (hb hby d12_51) (by decide) (by decide) rfl (fun c6 => ?_) (fun c6 => ?_)
        · skip
          refine g_iloadN X0 hx 62 (hb hby d12_61) rfl rfl ?_
          refine g_iconst X0 hx (4 : Int32) 63 (hb hby d12_62) rfl (by decide) ?_
          have ll9 : ((4 : Int32) : Int32).toInt = 4 := by decide
          refine g_ic_lt X0 hx 73 66 (hb hby d12_63) (by decide) (by decide) rfl (fun c8 => ?_) (fun c8 => ?_)
          · skip
            refine g_iloadN X0 hx 74 (hb hby d12_73) rfl rfl ?_
            refine g_iloadN X0 hx 75 (hb hby d12_74) rfl rfl ?_
            refine g_iconst X0 hx (1 : Int32) 76 (hb hby d12_75) rfl (by decide) ?_
            refine g_iushr X0 hx 77 (hb hby d12_76) rfl ?_
            refine g_isub X0 hx 78 (hb hby d12_77) rfl ?_
            generalize hw10 : ((x.toUInt32 >>> ((1 : Int32) &&& 31).toUInt32).toInt32) = w10
            have fw10 := own_ush (1 : Int32) 1 (by decide) (by decide) hw10 (by omega)
            have kw10 := c_isub (31 : Int32) w10
            have jw10 : ((31 : Int32) : Int32).toInt = 31 - 0 := by decide
            exact g_retI X0 hx hlk hret (hb hby d12_78) (by decide) (by decide) e0 ⟨_, rfl, N0, rfl, own_leaf (z := x) (w := w10) 0 (by decide) (by omega) (by omega) (by omega) (by omega) (by have := rng32 ((31 : Int32) - w10); omega)⟩
          · skip
            refine g_iinc (w := (-2 : Int32)) (l' := #[.val (.int x), .val (.int ((31 : Int32) + (-2 : Int32)))]) X0 hx 69 (hb hby d12_66) rfl rfl (by decide) rfl ?_
            refine g_iloadN X0 hx 70 (hb hby d12_69) rfl rfl ?_
            refine g_iconst X0 hx (2 : Int32) 71 (hb hby d12_70) rfl (by decide) ?_
            refine g_iushr X0 hx 72 (hb hby d12_71) rfl ?_
            refine g_istoreN (l' := #[.val (.int ((x.toUInt32 >>> ((2 : Int32) &&& 31).toUInt32).toInt32)), .val (.int ((31 : Int32) + (-2 : Int32)))]) X0 hx 73 (hb hby d12_72) rfl rfl ?_
            generalize hz11 : ((x.toUInt32 >>> ((2 : Int32) &&& 31).toUInt32).toInt32) = z11
            have fz11 := own_ush (2 : Int32) 2 (by decide) (by decide) hz11 (by omega)
            refine g_iloadN X0 hx 74 (hb hby d12_73) rfl rfl ?_
            refine g_iloadN X0 hx 75 (hb hby d12_74) rfl rfl ?_
            refine g_iconst X0 hx (1 : Int32) 76 (hb hby d12_75) rfl (by decide) ?_
            refine g_iushr X0 hx 77 (hb hby d12_76) rfl ?_
            refine g_isub X0 hx 78 (hb hby d12_77) rfl ?_
            generalize hw12 : ((z11.toUInt32 >>> ((1 : Int32) &&& 31).toUInt32).toInt32) = w12
            have fw12 := own_ush (1 : Int32) 1 (by decide) (by decide) hw12 (by omega)
            have kw12 := c_isub ((31 : Int32) + (-2 : Int32)) w12
            have jw12 : (((31 : Int32) + (-2 : Int32)) : Int32).toInt = 31 - 2 := by decide
            exact g_retI X0 hx hlk hret (hb hby d12_78) (by decide) (by decide) e0 ⟨_, rfl, N0, rfl, own_leaf (z := z11) (w := w12) 2 (by decide) (by omega) (by omega) (by omega) (by omega) (by have := rng32 (((31 : Int32) + (-2 : Int32)) - w12); omega)⟩
        · skip
          refine g_iinc (w := (-4 : Int32)) (l' := #[.val (.int x), .val (.int ((31 : Int32) + (-4 : Int32)))]) X0 hx 57 (hb hby d12_54) rfl rfl (by decide) rfl ?_
          refine g_iloadN X0 hx 58 (hb hby d12_57) rfl rfl ?_
          refine g_iconst X0 hx (4 : Int32) 59 (hb hby d12_58) rfl (by decide) ?_
          refine g_iushr X0 hx 60 (hb hby d12_59) rfl ?_
          refine g_istoreN (l' := #[.val (.int ((x.toUInt32 >>> ((4 : Int32) &&& 31).toUInt32).toInt32)), .val (.int ((31 : Int32) + (-4 : Int32)))]) X0 hx 61 (hb hby d12_60) rfl rfl ?_
          generalize hz13 : ((x.toUInt32 >>> ((4 : Int32) &&& 31).toUInt32).toInt32) = z13
          have fz13 := own_ush (4 : Int32) 4 (by decide) (by decide) hz13 (by omega)
          refine g_iloadN X0 hx 62 (hb hby d12_61) rfl rfl ?_
          refine g_iconst X0 hx (4 : Int32) 63 (hb hby d12_62) rfl (by decide) ?_
          have ll15 : ((4 : Int32) : Int32).toInt = 4 := by decide
          refine g_ic_lt X0 hx 73 66 (hb hby d12_63) (by decide) (by decide) rfl (fun c14 => ?_) (fun c14 => ?_)
          · skip
            refine g_iloadN X0 hx 74 (hb hby d12_73) rfl rfl ?_
            refine g_iloadN X0 hx 75 (hb hby d12_74) rfl rfl ?_
            refine g_iconst X0 hx (1 : Int32) 76 (hb hby d12_75) rfl (by decide) ?_
            refine g_iushr X0 hx 77 (hb hby d12_76) rfl ?_
            refine g_isub X0 hx 78 (hb hby d12_77) rfl ?_
            generalize hw16 : ((z13.toUInt32 >>> ((1 : Int32) &&& 31).toUInt32).toInt32) = w16
            have fw16 := own_ush (1 : Int32) 1 (by decide) (by decide) hw16 (by omega)
            have kw16 := c_isub ((31 : Int32) + (-4 : Int32)) w16
            have jw16 : (((31 : Int32) + (-4 : Int32)) : Int32).toInt = 31 - 4 := by decide
            exact g_retI X0 hx hlk hret (hb hby d12_78) (by decide) (by decide) e0 ⟨_, rfl, N0, rfl, own_leaf (z := z13) (w := w16) 4 (by decide) (by omega) (by omega) (by omega) (by omega) (by have := rng32 (((31 : Int32) + (-4 : Int32)) - w16); omega)⟩
          · skip
            refine g_iinc (w := (-2 : Int32)) (l' := #[.val (.int z13), .val (.int (((31 : Int32) + (-4 : Int32)) + (-2 : Int32)))]) X0 hx 69 (hb hby d12_66) rfl rfl (by decide) rfl ?_
            refine g_iloadN X0 hx 70 (hb hby d12_69) rfl rfl ?_
            refine g_iconst X0 hx (2 : Int32) 71 (hb hby d12_70) rfl (by decide) ?_
            refine g_iushr X0 hx 72 (hb hby d12_71) rfl ?_
            refine g_istoreN (l' := #[.val (.int ((z13.toUInt32 >>> ((2 : Int32) &&& 31).toUInt32).toInt32)), .val (.int (((31 : Int32) + (-4 : Int32)) + (-2 : Int32)))]) X0 hx 73 (hb hby d12_72) rfl rfl ?_
            generalize hz17 : ((z13.toUInt32 >>> ((2 : Int32) &&& 31).toUInt32).toInt32) = z17
            have fz17 := own_ush (2 : Int32) 2 (by decide) (by decide) hz17 (by omega)
            refine g_iloadN X0 hx 74 (hb hby d12_73) rfl rfl ?_
            refine g_iloadN X0 hx 75 (hb hby d12_74) rfl rfl ?_
            refine g_iconst X0 hx (1 : Int32) 76 (hb hby d12_75) rfl (by decide) ?_
            refine g_iushr X0 hx 77 (hb hby d12_76) rfl ?_
            refine g_isub X0 hx 78 (hb hby d12_77) rfl ?_
            generalize hw18 : ((z17.toUInt32 >>> ((1 : Int32) &&& 31).toUInt32).toInt32) = w18
            have fw18 := own_ush (1 : Int32) 1 (by decide) (by decide) hw18 (by omega)
            have kw18 := c_isub (((31 : Int32) + (-4 : Int32)) + (-2 : Int32)) w18
            have jw18 : ((((31 : Int32) + (-4 : Int32)) + (-2 : Int32)) : Int32).toInt = 31 - 6 := by decide
            exact g_retI X0 hx hlk hret (hb hby d12_78) (by decide) (by decide) e0 ⟨_, rfl, N0, rfl, own_leaf (z := z17) (w := w18) 6 (by decide) (by omega) (by omega) (by omega) (by omega) (by have := rng32 ((((31 : Int32) + (-4 : Int32)) + (-2 : Int32)) - w18); omega)⟩
      · skip
        refine g_iinc (w := (-8 : Int32)) (l' := #[.val (.int x), .val (.int ((31 : Int32) + (-8 : Int32)))]) X0 hx 43 (hb hby d12_40) rfl rfl (by decide) rfl ?_
        refine g_iloadN X0 hx 44 (hb hby d12_43) rfl rfl ?_
        refine g_bipush X0 hx (8 : Int32) 46 (hb hby d12_44) rfl (by decide) ?_
        refine g_iushr X0 hx 47 (hb hby d12_46) rfl ?_
        refine g_istoreN (l' := #[.val (.int ((x.toUInt32 >>> ((8 : Int32) &&& 31).toUInt32).toInt32)), .val (.int ((31 : Int32) + (-8 : Int32)))]) X0 hx 48 (hb hby d12_47) rfl rfl ?_
        generalize hz19 : ((x.toUInt32 >>> ((8 : Int32) &&& 31).toUInt32).toInt32) = z19
        have fz19 := own_ush (8 : Int32) 8 (by decide) (by decide) hz19 (by omega)
        refine g_iloadN X0 hx 49 (hb hby d12_48) rfl rfl ?_
        refine g_bipush X0 hx (16 : Int32) 51 (hb hby d12_49) rfl (by decide) ?_
        have ll21 : ((16 : Int32) : Int32).toInt = 16 := by decide
        refine g_ic_lt X0 hx 61 54 (hb hby d12_51) (by decide) (by decide) rfl (fun c20 => ?_) (fun c20 => ?_)
        · skip
          refine g_iloadN X0 hx 62 (hb hby d12_61) rfl rfl ?_
          refine g_iconst X0 hx (4 : Int32) 63 (hb hby d12_62) rfl (by decide) ?_
          have ll23 : ((4 : Int32) : Int32).toInt = 4 := by decide
          refine g_ic_lt X0 hx 73 66 (hb hby d12_63) (by decide) (by decide) rfl (fun c22 => ?_) (fun c22 => ?_)
          · skip
            refine g_iloadN X0 hx 74 (hb hby d12_73) rfl rfl ?_
            refine g_iloadN X0 hx 75 (hb hby d12_74) rfl rfl ?_
            refine g_iconst X0 hx (1 : Int32) 76 (hb hby d12_75) rfl (by decide) ?_
            refine g_iushr X0 hx 77 (hb hby d12_76) rfl ?_
            refine g_isub X0 hx 78 (hb hby d12_77) rfl ?_
            generalize hw24 : ((z19.toUInt32 >>> ((1 : Int32) &&& 31).toUInt32).toInt32) = w24
            have fw24 := own_ush (1 : Int32) 1 (by decide) (by decide) hw24 (by omega)
            have kw24 := c_isub ((31 : Int32) + (-8 : Int32)) w24
            have jw24 : (((31 : Int32) + (-8 : Int32)) : Int32).toInt = 31 - 8 := by decide
            exact g_retI X0 hx hlk hret (hb hby d12_78) (by decide) (by decide) e0 ⟨_, rfl, N0, rfl, own_leaf (z := z19) (w := w24) 8 (by decide) (by omega) (by omega) (by omega) (by omega) (by have := rng32 (((31 : Int32) + (-8 : Int32)) - w24); omega)⟩
          · skip
            refine g_iinc (w := (-2 : Int32)) (l' := #[.val (.int z19), .val (.int (((31 : Int32) + (-8 : Int32)) + (-2 : Int32)))]) X0 hx 69 (hb hby d12_66) rfl rfl (by decide) rfl ?_
            refine g_iloadN X0 hx 70 (hb hby d12_69) rfl rfl ?_
            refine g_iconst X0 hx (2 : Int32) 71 (hb hby d12_70) rfl (by decide) ?_
            refine g_iushr X0 hx 72 (hb hby d12_71) rfl ?_
            refine g_istoreN (l' := #[.val (.int ((z19.toUInt32 >>> ((2 : Int32) &&& 31).toUInt32).toInt32)), .val (.int (((31 : Int32) + (-8 : Int32)) + (-2 : Int32)))]) X0 hx 73 (hb hby d12_72) rfl rfl ?_
            generalize hz25 : ((z19.toUInt32 >>> ((2 : Int32) &&& 31).toUInt32).toInt32) = z25
            have fz25 := own_ush (2 : Int32) 2 (by decide) (by decide) hz25 (by omega)
            refine g_iloadN X0 hx 74 (hb hby d12_73) rfl rfl ?_
            refine g_iloadN X0 hx 75 (hb hby d12_74) rfl rfl ?_
            refine g_iconst X0 hx (1 : Int32) 76 (hb hby d12_75) rfl (by decide) ?_
            refine g_iushr X0 hx 77 (hb hby d12_76) rfl ?_
            refine g_isub X0 hx 78 (hb hby d12_77) rfl ?_
            generalize hw26 : ((z25.toUInt32 >>> ((1 : Int32) &&& 31).toUInt32).toInt32) = w26
            have fw26 := own_ush (1 : Int32) 1 (by decide) (by decide) hw26 (by omega)
            have kw26 := c_isub (((31 : Int32) + (-8 : Int32)) + (-2 : Int32)) w26
            have jw26 : ((((31 : Int32) + (-8 : Int32)) + (-2 : Int32)) : Int32).toInt = 31 - 10 := by decide
            exact g_retI X0 hx hlk hret (hb hby d12_78) (by decide) (by decide) e0 ⟨_, rfl, N0, rfl, own_leaf (z := z25) (w := w26) 10 (by decide) (by omega) (by omega) (by omega) (by omega) (by have := rng32 ((((31 : Int32) + (-8 : Int32)) + (-2 : Int32)) - w26); omega)⟩
        · skip
          refine g_iinc (w := (-4 : Int32)) (l' := #[.val (.int z19), .val (.int (((31 : Int32) + (-8 : Int32)) + (-4 : Int32)))]) X0 hx 57 (hb hby d12_54) rfl rfl (by decide) rfl ?_
          refine g_iloadN X0 hx 58 (hb hby d12_57) rfl rfl ?_
          refine g_iconst X0 hx (4 : Int32) 59 (hb hby d12_58) rfl (by decide) ?_
          refine g_iushr X0 hx 60 (hb hby d12_59) rfl ?_
          refine g_istoreN (l' := #[.val (.int ((z19.toUInt32 >>> ((4 : Int32) &&& 31).toUInt32).toInt32)), .val (.int (((31 : Int32) + (-8 : Int32)) + (-4 : Int32)))]) X0 hx 61 (hb hby d12_60) rfl rfl ?_
          generalize hz27 : ((z19.toUInt32 >>> ((4 : Int32) &&& 31).toUInt32).toInt32) = z27
          have fz27 := own_ush (4 : Int32) 4 (by decide) (by decide) hz27 (by omega)
          refine g_iloadN X0 hx 62 (hb hby d12_61) rfl rfl ?_
          refine g_iconst X0 hx (4 : Int32) 63 (hb hby d12_62) rfl (by decide) ?_
          have ll29 : ((4 : Int32) : Int32).toInt = 4 := by decide
          refine g_ic_lt X0 hx 73 66 (hb hby d12_63) (by decide) (by decide) rfl (fun c28 => ?_) (fun c28 => ?_)
          · skip
            refine g_iloadN X0 hx 74 (hb hby d12_73) rfl rfl ?_
            refine g_iloadN X0 hx 75 (hb hby d12_74) rfl rfl ?_
            refine g_iconst X0 hx (1 : Int32) 76 (hb hby d12_75) rfl (by decide) ?_
            refine g_iushr X0 hx 77 (hb hby d12_76) rfl ?_
            refine g_isub X0 hx 78 (hb hby d12_77) rfl ?_
            generalize hw30 : ((z27.toUInt32 >>> ((1 : Int32) &&& 31).toUInt32).toInt32) = w30
            have fw30 := own_ush (1 : Int32) 1 (by decide) (by decide) hw30 (by omega)
            have kw30 := c_isub (((31 : Int32) + (-8 : Int32)) + (-4 : Int32)) w30
            have jw30 : ((((31 : Int32) + (-8 : Int32)) + (-4 : Int32)) : Int32).toInt = 31 - 12 := by decide
            exact g_retI X0 hx hlk hret (hb hby d12_78) (by decide) (by decide) e0 ⟨_, rfl, N0, rfl, own_leaf (z := z27) (w := w30) 12 (by decide) (by omega) (by omega) (by omega) (by omega) (by have := rng32 ((((31 : Int32) + (-8 : Int32)) + (-4 : Int32)) - w30); omega)⟩
          · skip
            refine g_iinc (w := (-2 : Int32)) (l' := #[.val (.int z27), .val (.int ((((31 : Int32) + (-8 : Int32)) + (-4 : Int32)) + (-2 : Int32)))]) X0 hx 69 (hb hby d12_66) rfl rfl (by decide) rfl ?_
            refine g_iloadN X0 hx 70 (hb hby d12_69) rfl rfl ?_
            refine g_iconst X0 hx (2 : Int32) 71 (hb hby d12_70) rfl (by decide) ?_
            refine g_iushr X0 hx 72 (hb hby d12_71) rfl ?_
            refine g_istoreN (l' := #[.val (.int ((z27.toUInt32 >>> ((2 : Int32) &&& 31).toUInt32).toInt32)), .val (.int ((((31 : Int32) + (-8 : Int32)) + (-4 : Int32)) + (-2 : Int32)))]) X0 hx 73 (hb hby d12_72) rfl rfl ?_
            generalize hz31 : ((z27.toUInt32 >>> ((2 : Int32) &&& 31).toUInt32).toInt32) = z31
            have fz31 := own_ush (2 : Int32) 2 (by decide) (by decide) hz31 (by omega)
            refine g_iloadN X0 hx 74 (hb hby d12_73) rfl rfl ?_
            refine g_iloadN X0 hx 75 (hb hby d12_74) rfl rfl ?_
            refine g_iconst X0 hx (1 : Int32) 76 (hb hby d12_75) rfl (by decide) ?_
            refine g_iushr X0 hx 77 (hb hby d12_76) rfl ?_
            refine g_isub X0 hx 78 (hb hby d12_77) rfl ?_
            generalize hw32 : ((z31.toUInt32 >>> ((1 : Int32) &&& 31).toUInt32).toInt32) = w32
            have fw32 := own_ush (1 : Int32) 1 (by decide) (by decide) hw32 (by omega)
            have kw32 := c_isub ((((31 : Int32) + (-8 : Int32)) + (-4 : Int32)) + (-2 : Int32)) w32
            have jw32 : (((((31 : Int32) + (-8 : Int32)) + (-4 : Int32)) + (-2 : Int32)) : Int32).toInt = 31 - 14 := by decide
            exact g_retI X0 hx hlk hret (hb hby d12_78) (by decide) (by decide) e0 ⟨_, rfl, N0, rfl, own_leaf (z := z31) (w := w32) 14 (by decide) (by omega) (by omega) (by omega) (by omega) (by have := rng32 (((((31 : Int32) + (-8 : Int32)) + (-4 : Int32)) + (-2 : Int32)) - w32); omega)⟩
    · skip
      refine g_iinc (w := (-16 : Int32)) (l' := #[.val (.int x), .val (.int ((31 : Int32) + (-16 : Int32)))]) X0 hx 28 (hb hby d12_25) rfl rfl (by decide) rfl ?_
      refine g_iloadN X0 hx 29 (hb hby d12_28) rfl rfl ?_
      refine g_bipush X0 hx (16 : Int32) 31 (hb hby d12_29) rfl (by decide) ?_
      refine g_iushr X0 hx 32 (hb hby d12_31) rfl ?_
      refine g_istoreN (l' := #[.val (.int ((x.toUInt32 >>> ((16 : Int32) &&& 31).toUInt32).toInt32)), .val (.int ((31 : Int32) + (-16 : Int32)))]) X0 hx 33 (hb hby d12_32) rfl rfl ?_
      generalize hz33 : ((x.toUInt32 >>> ((16 : Int32) &&& 31).toUInt32).toInt32) = z33
      have fz33 := own_ush (16 : Int32) 16 (by decide) (by decide) hz33 (by omega)
      refine g_iloadN X0 hx 34 (hb hby d12_33) rfl rfl ?_
      refine g_sipush X0 hx (256 : Int32) 37 (hb hby d12_34) rfl (by decide) ?_
      have ll35 : ((256 : Int32) : Int32).toInt = 256 := by decide
      refine g_ic_lt X0 hx 48 40 (hb hby d12_37) (by decide) (by decide) rfl (fun c34 => ?_) (fun c34 => ?_)
      · skip
        refine g_iloadN X0 hx 49 (hb hby d12_48) rfl rfl ?_
        refine g_bipush X0 hx (16 : Int32) 51 (hb hby d12_49) rfl (by decide) ?_
        have ll37 : ((16 : Int32) : Int32).toInt = 16 := by decide
        refine g_ic_lt X0 hx 61 54 (hb hby d12_51) (by decide) (by decide) rfl (fun c36 => ?_) (fun c36 => ?_)
        · skip
          refine g_iloadN X0 hx 62 (hb hby d12_61) rfl rfl ?_
          refine g_iconst X0 hx (4 : Int32) 63 (hb hby d12_62) rfl (by decide) ?_
          have ll39 : ((4 : Int32) : Int32).toInt = 4 := by decide
          refine g_ic_lt X0 hx 73 66 (hb hby d12_63) (by decide) (by decide) rfl (fun c38 => ?_) (fun c38 => ?_)
          · skip
            refine g_iloadN X0 hx 74 (hb hby d12_73) rfl rfl ?_
            refine g_iloadN X0 hx 75 (hb hby d12_74) rfl rfl ?_
            refine g_iconst X0 hx (1 : Int32) 76 (hb hby d12_75) rfl (by decide) ?_
            refine g_iushr X0 hx 77 (hb hby d12_76) rfl ?_
            refine g_isub X0 hx 78 (hb hby d12_77) rfl ?_
            generalize hw40 : ((z33.toUInt32 >>> ((1 : Int32) &&& 31).toUInt32).toInt32) = w40
            have fw40 := own_ush (1 : Int32) 1 (by decide) (by decide) hw40 (by omega)
            have kw40 := c_isub ((31 : Int32) + (-16 : Int32)) w40
            have jw40 : (((31 : Int32) + (-16 : Int32)) : Int32).toInt = 31 - 16 := by decide
            exact g_retI X0 hx hlk hret (hb hby d12_78) (by decide) (by decide) e0 ⟨_, rfl, N0, rfl, own_leaf (z := z33) (w := w40) 16 (by decide) (by omega) (by omega) (by omega) (by omega) (by have := rng32 (((31 : Int32) + (-16 : Int32)) - w40); omega)⟩
          · skip
            refine g_iinc (w := (-2 : Int32)) (l' := #[.val (.int z33), .val (.int (((31 : Int32) + (-16 : Int32)) + (-2 : Int32)))]) X0 hx 69 (hb hby d12_66) rfl rfl (by decide) rfl ?_
            refine g_iloadN X0 hx 70 (hb hby d12_69) rfl rfl ?_
            refine g_iconst X0 hx (2 : Int32) 71 (hb hby d12_70) rfl (by decide) ?_
            refine g_iushr X0 hx 72 (hb hby d12_71) rfl ?_
            refine g_istoreN (l' := #[.val (.int ((z33.toUInt32 >>> ((2 : Int32) &&& 31).toUInt32).toInt32)), .val (.int (((31 : Int32) + (-16 : Int32)) + (-2 : Int32)))]) X0 hx 73 (hb hby d12_72) rfl rfl ?_
            generalize hz41 : ((z33.toUInt32 >>> ((2 : Int32) &&& 31).toUInt32).toInt32) = z41
            have fz41 := own_ush (2 : Int32) 2 (by decide) (by decide) hz41 (by omega)
            refine g_iloadN X0 hx 74 (hb hby d12_73) rfl rfl ?_
            refine g_iloadN X0 hx 75 (hb hby d12_74) rfl rfl ?_
            refine g_iconst X0 hx (1 : Int32) 76 (hb hby d12_75) rfl (by decide) ?_
            refine g_iushr X0 hx 77 (hb hby d12_76) rfl ?_
            refine g_isub X0 hx 78 (hb hby d12_77) rfl ?_
            generalize hw42 : ((z41.toUInt32 >>> ((1 : Int32) &&& 31).toUInt32).toInt32) = w42
            have fw42 := own_ush (1 : Int32) 1 (by decide) (by decide) hw42 (by omega)
            have kw42 := c_isub (((31 : Int32) + (-16 : Int32)) + (-2 : Int32)) w42
            have jw42 : ((((31 : Int32) + (-16 : Int32)) + (-2 : Int32)) : Int32).toInt = 31 - 18 := by decide
            exact g_retI X0 hx hlk hret (hb hby d12_78) (by decide) (by decide) e0 ⟨_, rfl, N0, rfl, own_leaf (z := z41) (w := w42) 18 (by decide) (by omega) (by omega) (by omega) (by omega) (by have := rng32 ((((31 : Int32) + (-16 : Int32)) + (-2 : Int32)) - w42); omega)⟩
        · skip
          refine g_iinc (w := (-4 : Int32)) (l' := #[.val (.int z33), .val (.int (((31 : Int32) + (-16 : Int32)) + (-4 : Int32)))]) X0 hx 57 (hb hby d12_54) rfl rfl (by decide) rfl ?_
          refine g_iloadN X0 hx 58 (hb hby d12_57) rfl rfl ?_
          refine g_iconst X0 hx (4 : Int32) 59 (hb hby d12_58) rfl (by decide) ?_
          refine g_iushr X0 hx 60 (hb hby d12_59) rfl ?_
          refine g_istoreN (l' := #[.val (.int ((z33.toUInt32 >>> ((4 : Int32) &&& 31).toUInt32).toInt32)), .val (.int (((31 : Int32) + (-16 : Int32)) + (-4 : Int32)))]) X0 hx 61 (hb hby d12_60) rfl rfl ?_
          generalize hz43 : ((z33.toUInt32 >>> ((4 : Int32) &&& 31).toUInt32).toInt32) = z43
          have fz43 := own_ush (4 : Int32) 4 (by decide) (by decide) hz43 (by omega)
          refine g_iloadN X0 hx 62 (hb hby d12_61) rfl rfl ?_
          refine g_iconst X0 hx (4 : Int32) 63 (hb hby d12_62) rfl (by decide) ?_
          have ll45 : ((4 : Int32) : Int32).toInt = 4 := by decide
          refine g_ic_lt X0 hx 73 66 (hb hby d12_63) (by decide) (by decide) rfl (fun c44 => ?_) (fun c44 => ?_)
          · skip
            refine g_iloadN X0 hx 74 (hb hby d12_73) rfl rfl ?_
            refine g_iloadN X0 hx 75 (hb hby d12_74) rfl rfl ?_
            refine g_iconst X0 hx (1 : Int32) 76 (hb hby d12_75) rfl (by decide) ?_
            refine g_iushr X0 hx 77 (hb hby d12_76) rfl ?_
            refine g_isub X0 hx 78 (hb hby d12_77) rfl ?_
            generalize hw46 : ((z43.toUInt32 >>> ((1 : Int32) &&& 31).toUInt32).toInt32) = w46
            have fw46 := own_ush (1 : Int32) 1 (by decide) (by decide) hw46 (by omega)
            have kw46 := c_isub (((31 : Int32) + (-16 : Int32)) + (-4 : Int32)) w46
            have jw46 : ((((31 : Int32) + (-16 : Int32)) + (-4 : Int32)) : Int32).toInt = 31 - 20 := by decide
            exact g_retI X0 hx hlk hret (hb hby d12_78) (by decide) (by decide) e0 ⟨_, rfl, N0, rfl, own_leaf (z := z43) (w := w46) 20 (by decide) (by omega) (by omega) (by omega) (by omega) (by have := rng32 ((((31 : Int32) + (-16 : Int32)) + (-4 : Int32)) - w46); omega)⟩
          · skip
            refine g_iinc (w := (-2 : Int32)) (l' := #[.val (.int z43), .val (.int ((((31 : Int32) + (-16 : Int32)) + (-4 : Int32)) + (-2 : Int32)))]) X0 hx 69 (hb hby d12_66) rfl rfl (by decide) rfl ?_
            refine g_iloadN X0 hx 70 (hb hby d12_69) rfl rfl ?_
            refine g_iconst X0 hx (2 : Int32) 71 (hb hby d12_70) rfl (by decide) ?_
            refine g_iushr X0 hx 72 (hb hby d12_71) rfl ?_
            refine g_istoreN (l' := #[.val (.int ((z43.toUInt32 >>> ((2 : Int32) &&& 31).toUInt32).toInt32)), .val (.int ((((31 : Int32) + (-16 : Int32)) + (-4 : Int32)) + (-2 : Int32)))]) X0 hx 73 (hb hby d12_72) rfl rfl ?_
            generalize hz47 : ((z43.toUInt32 >>> ((2 : Int32) &&& 31).toUInt32).toInt32) = z47
            have fz47 := own_ush (2 : Int32) 2 (by decide) (by decide) hz47 (by omega)
            refine g_iloadN X0 hx 74 (hb hby d12_73) rfl rfl ?_
            refine g_iloadN X0 hx 75 (hb hby d12_74) rfl rfl ?_
            refine g_iconst X0 hx (1 : Int32) 76 (hb hby d12_75) rfl (by decide) ?_
            refine g_iushr X0 hx 77 (hb hby d12_76) rfl ?_
            refine g_isub X0 hx 78 (hb hby d12_77) rfl ?_
            generalize hw48 : ((z47.toUInt32 >>> ((1 : Int32) &&& 31).toUInt32).toInt32) = w48
            have fw48 := own_ush (1 : Int32) 1 (by decide) (by decide) hw48 (by omega)
            have kw48 := c_isub ((((31 : Int32) + (-16 : Int32)) + (-4 : Int32)) + (-2 : Int32)) w48
            have jw48 : (((((31 : Int32) + (-16 : Int32)) + (-4 : Int32)) + (-2 : Int32)) : Int32).toInt = 31 - 22 := by decide
            exact g_retI X0 hx hlk hret (hb hby d12_78) (by decide) (by decide) e0 ⟨_, rfl, N0, rfl, own_leaf (z := z47) (w := w48) 22 (by decide) (by omega) (by omega) (by omega) (by omega) (by have := rng32 (((((31 : Int32) + (-16 : Int32)) + (-4 : Int32)) + (-2 : Int32)) - w48); omega)⟩
      · skip
        refine g_iinc (w := (-8 : Int32)) (l' := #[.val (.int z33), .val (.int (((31 : Int32) + (-16 : Int32)) + (-8 : Int32)))]) X0 hx 43 (hb hby d12_40) rfl rfl (by decide) rfl ?_
        refine g_iloadN X0 hx 44 (hb hby d12_43) rfl rfl ?_
        refine g_bipush X0 hx (8 : Int32) 46 (hb hby d12_44) rfl (by decide) ?_
        refine g_iushr X0 hx 47 (hb hby d12_46) rfl ?_
        refine g_istoreN (l' := #[.val (.int ((z33.toUInt32 >>> ((8 : Int32) &&& 31).toUInt32).toInt32)), .val (.int (((31 : Int32) + (-16 : Int32)) + (-8 : Int32)))]) X0 hx 48 (hb hby d12_47) rfl rfl ?_
        generalize hz49 : ((z33.toUInt32 >>> ((8 : Int32) &&& 31).toUInt32).toInt32) = z49
        have fz49 := own_ush (8 : Int32) 8 (by decide) (by decide) hz49 (by omega)
        refine g_iloadN X0 hx 49 (hb hby d12_48) rfl rfl ?_
        refine g_bipush X0 hx (16 : Int32) 51 (hb hby d12_49) rfl (by decide) ?_
        have ll51 : ((16 : Int32) : Int32).toInt = 16 := by decide
        refine g_ic_lt X0 hx 61 54 (hb hby d12_51) (by decide) (by decide) rfl (fun c50 => ?_) (fun c50 => ?_)
        · skip
          refine g_iloadN X0 hx 62 (hb hby d12_61) rfl rfl ?_
          refine g_iconst X0 hx (4 : Int32) 63 (hb hby d12_62) rfl (by decide) ?_
          have ll53 : ((4 : Int32) : Int32).toInt = 4 := by decide
          refine g_ic_lt X0 hx 73 66 (hb hby d12_63) (by decide) (by decide) rfl (fun c52 => ?_) (fun c52 => ?_)
          · skip
            refine g_iloadN X0 hx 74 (hb hby d12_73) rfl rfl ?_
            refine g_iloadN X0 hx 75 (hb hby d12_74) rfl rfl ?_
            refine g_iconst X0 hx (1 : Int32) 76 (hb hby d12_75) rfl (by decide) ?_
            refine g_iushr X0 hx 77 (hb hby d12_76) rfl ?_
            refine g_isub X0 hx 78 (hb hby d12_77) rfl ?_
            generalize hw54 : ((z49.toUInt32 >>> ((1 : Int32) &&& 31).toUInt32).toInt32) = w54
            have fw54 := own_ush (1 : Int32) 1 (by decide) (by decide) hw54 (by omega)
            have kw54 := c_isub (((31 : Int32) + (-16 : Int32)) + (-8 : Int32)) w54
            have jw54 : ((((31 : Int32) + (-16 : Int32)) + (-8 : Int32)) : Int32).toInt = 31 - 24 := by decide
            exact g_retI X0 hx hlk hret (hb hby d12_78) (by decide) (by decide) e0 ⟨_, rfl, N0, rfl, own_leaf (z := z49) (w := w54) 24 (by decide) (by omega) (by omega) (by omega) (by omega) (by have := rng32 ((((31 : Int32) + (-16 : Int32)) + (-8 : Int32)) - w54); omega)⟩
          · skip
            refine g_iinc (w := (-2 : Int32)) (l' := #[.val (.int z49), .val (.int ((((31 : Int32) + (-16 : Int32)) + (-8 : Int32)) + (-2 : Int32)))]) X0 hx 69 (hb hby d12_66) rfl rfl (by decide) rfl ?_
            refine g_iloadN X0 hx 70 (hb hby d12_69) rfl rfl ?_
            refine g_iconst X0 hx (2 : Int32) 71 (hb hby d12_70) rfl (by decide) ?_
            refine g_iushr X0 hx 72 (hb hby d12_71) rfl ?_
            refine g_istoreN (l' := #[.val (.int ((z49.toUInt32 >>> ((2 : Int32) &&& 31).toUInt32).toInt32)), .val (.int ((((31 : Int32) + (-16 : Int32)) + (-8 : Int32)) + (-2 : Int32)))]) X0 hx 73 (hb hby d12_72) rfl rfl ?_
            generalize hz55 : ((z49.toUInt32 >>> ((2 : Int32) &&& 31).toUInt32).toInt32) = z55
            have fz55 := own_ush (2 : Int32) 2 (by decide) (by decide) hz55 (by omega)
            refine g_iloadN X0 hx 74 (hb hby d12_73) rfl rfl ?_
            refine g_iloadN X0 hx 75 (hb hby d12_74) rfl rfl ?_
            refine g_iconst X0 hx (1 : Int32) 76 (hb hby d12_75) rfl (by decide) ?_
            refine g_iushr X0 hx 77 (hb hby d12_76) rfl ?_
            refine g_isub X0 hx 78 (hb hby d12_77) rfl ?_
            generalize hw56 : ((z55.toUInt32 >>> ((1 : Int32) &&& 31).toUInt32).toInt32) = w56
            have fw56 := own_ush (1 : Int32) 1 (by decide) (by decide) hw56 (by omega)
            have kw56 := c_isub ((((31 : Int32) + (-16 : Int32)) + (-8 : Int32)) + (-2 : Int32)) w56
            have jw56 : (((((31 : Int32) + (-16 : Int32)) + (-8 : Int32)) + (-2 : Int32)) : Int32).toInt = 31 - 26 := by decide
            exact g_retI X0 hx hlk hret (hb hby d12_78) (by decide) (by decide) e0 ⟨_, rfl, N0, rfl, own_leaf (z := z55) (w := w56) 26 (by decide) (by omega) (by omega) (by omega) (by omega) (by have := rng32 (((((31 : Int32) + (-16 : Int32)) + (-8 : Int32)) + (-2 : Int32)) - w56); omega)⟩
        · skip
          refine g_iinc (w := (-4 : Int32)) (l' := #[.val (.int z49), .val (.int ((((31 : Int32) + (-16 : Int32)) + (-8 : Int32)) + (-4 : Int32)))]) X0 hx 57 (hb hby d12_54) rfl rfl (by decide) rfl ?_
          refine g_iloadN X0 hx 58 (hb hby d12_57) rfl rfl ?_
          refine g_iconst X0 hx (4 : Int32) 59 (hb hby d12_58) rfl (by decide) ?_
          refine g_iushr X0 hx 60 (hb hby d12_59) rfl ?_
          refine g_istoreN (l' := #[.val (.int ((z49.toUInt32 >>> ((4 : Int32) &&& 31).toUInt32).toInt32)), .val (.int ((((31 : Int32) + (-16 : Int32)) + (-8 : Int32)) + (-4 : Int32)))]) X0 hx 61 (hb hby d12_60) rfl rfl ?_
          generalize hz57 : ((z49.toUInt32 >>> ((4 : Int32) &&& 31).toUInt32).toInt32) = z57
          have fz57 := own_ush (4 : Int32) 4 (by decide) (by decide) hz57 (by omega)
          refine g_iloadN X0 hx 62 (hb hby d12_61) rfl rfl ?_
          refine g_iconst X0 hx (4 : Int32) 63 (hb hby d12_62) rfl (by decide) ?_
          have ll59 : ((4 : Int32) : Int32).toInt = 4 := by decide
          refine g_ic_lt X0 hx 73 66 (hb hby d12_63) (by decide) (by decide) rfl (fun c58 => ?_) (fun c58 => ?_)
          · skip
            refine g_iloadN X0 hx 74 (hb hby d12_73) rfl rfl ?_
            refine g_iloadN X0 hx 75 (hb hby d12_74) rfl rfl ?_
            refine g_iconst X0 hx (1 : Int32) 76 (hb hby d12_75) rfl (by decide) ?_
            refine g_iushr X0 hx 77 (hb hby d12_76) rfl ?_
            refine g_isub X0 hx 78 (hb hby d12_77) rfl ?_
            generalize hw60 : ((z57.toUInt32 >>> ((1 : Int32) &&& 31).toUInt32).toInt32) = w60
            have fw60 := own_ush (1 : Int32) 1 (by decide) (by decide) hw60 (by omega)
            have kw60 := c_isub ((((31 : Int32) + (-16 : Int32)) + (-8 : Int32)) + (-4 : Int32)) w60
            have jw60 : (((((31 : Int32) + (-16 : Int32)) + (-8 : Int32)) + (-4 : Int32)) : Int32).toInt = 31 - 28 := by decide
            exact g_retI X0 hx hlk hret (hb hby d12_78) (by decide) (by decide) e0 ⟨_, rfl, N0, rfl, own_leaf (z := z57) (w := w60) 28 (by decide) (by omega) (by omega) (by omega) (by omega) (by have := rng32 (((((31 : Int32) + (-16 : Int32)) + (-8 : Int32)) + (-4 : Int32)) - w60); omega)⟩
          · skip
            refine g_iinc (w := (-2 : Int32)) (l' := #[.val (.int z57), .val (.int (((((31 : Int32) + (-16 : Int32)) + (-8 : Int32)) + (-4 : Int32)) + (-2 : Int32)))]) X0 hx 69 (hb hby d12_66) rfl rfl (by decide) rfl ?_
            refine g_iloadN X0 hx 70 (hb hby d12_69) rfl rfl ?_
            refine g_iconst X0 hx (2 : Int32) 71 (hb hby d12_70) rfl (by decide) ?_
            refine g_iushr X0 hx 72 (hb hby d12_71) rfl ?_
            refine g_istoreN (l' := #[.val (.int ((z57.toUInt32 >>> ((2 : Int32) &&& 31).toUInt32).toInt32)), .val (.int (((((31 : Int32) + (-16 : Int32)) + (-8 : Int32)) + (-4 : Int32)) + (-2 : Int32)))]) X0 hx 73 (hb hby d12_72) rfl rfl ?_
            generalize hz61 : ((z57.toUInt32 >>> ((2 : Int32) &&& 31).toUInt32).toInt32) = z61
            have fz61 := own_ush (2 : Int32) 2 (by decide) (by decide) hz61 (by omega)
            refine g_iloadN X0 hx 74 (hb hby d12_73) rfl rfl ?_
            refine g_iloadN X0 hx 75 (hb hby d12_74) rfl rfl ?_
            refine g_iconst X0 hx (1 : Int32) 76 (hb hby d12_75) rfl (by decide) ?_
            refine g_iushr X0 hx 77 (hb hby d12_76) rfl ?_
            refine g_isub X0 hx 78 (hb hby d12_77) rfl ?_
            generalize hw62 : ((z61.toUInt32 >>> ((1 : Int32) &&& 31).toUInt32).toInt32) = w62
            have fw62 := own_ush (1 : Int32) 1 (by decide) (by decide) hw62 (by omega)
            have kw62 := c_isub (((((31 : Int32) + (-16 : Int32)) + (-8 : Int32)) + (-4 : Int32)) + (-2 : Int32)) w62
            have jw62 : ((((((31 : Int32) + (-16 : Int32)) + (-8 : Int32)) + (-4 : Int32)) + (-2 : Int32)) : Int32).toInt = 31 - 30 := by decide
            exact g_retI X0 hx hlk hret (hb hby d12_78) (by decide) (by decide) e0 ⟨_, rfl, N0, rfl, own_leaf (z := z61) (w := w62) 30 (by decide) (by omega) (by omega) (by omega) (by omega) (by have := rng32 ((((((31 : Int32) + (-16 : Int32)) + (-8 : Int32)) + (-4 : Int32)) + (-2 : Int32)) - w62); omega)⟩
  · skip
    refine g_iloadN X0 hx 5 (hb hby d12_4) rfl rfl ?_
    refine g_if_ne X0 hx 13 8 (hb hby d12_5) (by decide) (by decide) rfl (fun c63 => ?_) (fun c63 => ?_)
    · skip
      exfalso; omega
    · skip
      refine g_bipush X0 hx (32 : Int32) 10 (hb hby d12_8) rfl (by decide) ?_
      refine g_goto X0 hx 14 (hb hby d12_10) (by decide) (by decide) ?_
      exact g_retI X0 hx hlk hret (hb hby d12_14) (by decide) (by decide) e0 ⟨_, rfl, N0, rfl, Or.inl ⟨by omega, by decide⟩⟩
/-- how many bins n values have -/
def CntIs (n r : Int) : Prop := (n = 1 ∧ r = 1) ∨ ∃ k : Nat, k ≤ 30 ∧ r = (k : Int) + 2 ∧ ((2 ^ k : Nat) : Int) ≤ n - 1 ∧ n - 1 < ((2 ^ (k + 1) : Nat) : Int)
theorem own_cnt {n z r : Int32} (hn : 1 ≤ n.toInt) (h : NlzIs (n - 1).toInt z.toInt) : CntIs n.toInt ((33 : Int32) - z).toInt := by
  have e1 := c_isub n 1
  have e2 := c_isub 33 z
  have r0 := rng32 n; have r1 := rng32 (n - 1); have r2 := rng32 ((33 : Int32) - z)
  have l1 : (1 : Int32).toInt = 1 := by decide
  have l2 : (33 : Int32).toInt = 33 := by decide
  rcases h with ⟨h1, h2⟩ | ⟨k, h1, h2, h3, h4⟩
  · left; omega
  · right
    have hk : k ≤ 30 := by
      refine Nat.le_of_not_gt fun q => ?_
      have : k = 31 := by omega
      subst this
      omega
    exact ⟨k, hk, by omega, by omega, by omega⟩
theorem d4_0 : decode prog_6_method_3_code 0 = .ok (.dload_n 1, 1) := by decide +kernel
theorem d4_1 : decode prog_6_method_3_code 1 = .ok (.dload_n 3, 1) := by decide +kernel
theorem d4_2 : decode prog_6_method_3_code 2 = .ok (.dcmp .l, 1) := by decide +kernel
theorem d4_3 : decode prog_6_method_3_code 3 = .ok (.ifCond .ne 5, 3) := by decide +kernel
theorem d4_6 : decode prog_6_method_3_code 6 = .ok (.iconst 1, 1) := by decide +kernel
theorem d4_7 : decode prog_6_method_3_code 7 = .ok (.ireturn, 1) := by decide +kernel
theorem d4_8 : decode prog_6_method_3_code 8 = .ok (.bipush 33, 2) := by decide +kernel
theorem d4_10 : decode prog_6_method_3_code 10 = .ok (.iload_n 0, 1) := by decide +kernel
theorem d4_11 : decode prog_6_method_3_code 11 = .ok (.iconst 1, 1) := by decide +kernel
theorem d4_12 : decode prog_6_method_3_code 12 = .ok (.isub, 1) := by decide +kernel
theorem d4_13 : decode prog_6_method_3_code 13 = .ok (.invokestatic 45, 3) := by decide +kernel
theorem d4_16 : decode prog_6_method_3_code 16 = .ok (.isub, 1) := by decide +kernel
theorem d4_17 : decode prog_6_method_3_code 17 = .ok (.ireturn, 1) := by decide +kernel
theorem own_pf1 : plainFor (⟨"com/example/recolecta/recolecta/Bins", "countFor", "(IDD)I"⟩ : MethodName) = true := plainFor_of_name (by first | (simp [plainName, overriddenIn]; done) | decide +kernel)
def Q_rmC (n : Int32) (i j : Int) (n0 : Nat) (h0 : Heap) (v : Option Value) (h : Heap) (L : List Loc) : Prop := ∃ r : Int32, v = some (.int r) ∧ Fr n0 L ∧ h = h0 ∧ (i = j → r.toInt = 1) ∧ (i ≠ j → CntIs n.toInt r.toInt)
theorem ef_rmC (n : Int32) (a b : UInt64) (m : MethodId) : entryFrame m #[(.int n), (.double a), (.double b)] 5 = mkF m 0 #[.val (.int n), .val (.double a), .second, .val (.double b), .second] [] := by first | (simp [entryFrame, mkF, argsToLocals, Value.category]; done) | rfl
set_option maxRecDepth 65536 in
set_option maxHeartbeats 40000000 in
theorem rmC (l : Launch) (Z : State) (a0 : Array Value) (hw : ∀ d ∈ tables_1, d.before a0 Z = true) (n : Int32) (a b : UInt64) (h0 : Heap) (n0 : Nat) (Z0 : n0 ≤ h0.size) (i j : Int) (hij : FP.dcmp a b = some (compare i j)) (hn1 : 1 ≤ n.toInt) :
    MetFree l (⟨"com/example/recolecta/recolecta/Bins", "countFor", "(IDD)I"⟩ : MethodName) (head1 [Jvm.Cond.code (⟨"com/example/recolecta/recolecta/Bins", "countFor", "(IDD)I"⟩ : MethodName) prog_6_method_3_code 5 (some .int)] ({ frames := 1, cells := 0, slots := 0, locals := 16 } : Room)) (fun as_ U => as_ = #[(.int n), (.double a), (.double b)] ∧ Z.Warmed39 U.vm ∧ U.heap = h0) (fun _ _ _ _ _ => True) (fun _ U o U' => ∃ v L, o = .returned v ∧ Q_rmC n i j n0 h0 v U'.heap L ∧ FrameEnd U o U' L ({ frames := 1, cells := 0, slots := 0, locals := 16 } : Room).cells ({ frames := 1, cells := 0, slots := 0, locals := 16 } : Room).slots) := by
  refine own_met own_pf1 (ef_rmC n a b) ?_
  intro p e s m below meth c T0 X0 hx hby hml hret hlk hnm hown hZ e0
  have N0 := Fr.nil n0
  refine g_dloadN X0 hx 1 (hb hby d4_0) rfl rfl ?_
  refine g_dloadN X0 hx 2 (hb hby d4_1) rfl rfl ?_
  refine g_dc_ne X0 hx 3 8 6 (hb hby d4_2) rfl (hb hby d4_3) (by decide) (by decide) rfl hij (fun c64 => ?_) (fun c64 => ?_)
  · skip
    refine g_bipush X0 hx (33 : Int32) 10 (hb hby d4_8) rfl (by decide) ?_
    refine g_iloadN X0 hx 11 (hb hby d4_10) rfl rfl ?_
    refine g_iconst X0 hx (1 : Int32) 12 (hb hby d4_11) rfl (by decide) ?_
    refine g_isub X0 hx 13 (hb hby d4_12) rfl ?_
    refine g_static X0 hx hZ hown (hw _ (List.mem_of_getElem? (i := 50) rfl)) (hw _ (List.mem_of_getElem? (i := 51) rfl)) (hw _ (List.mem_of_getElem? (i := 52) rfl)) (hw _ (List.mem_of_getElem? (i := 53) rfl)) (by decide) (rmZ l Z a0 hw (n - 1) h0 n0 Z0 (by have := c_isub n 1; have := rng32 (n - 1); have : (1 : Int32).toInt = 1 := (by decide); have := rng32 n; omega)) e0 (argsL := [(.int (n - (1 : Int32)))]) (rest := [(.int (33 : Int32))]) rfl rfl 1 16 rfl (by rw [hml]; rfl) (lenOf own_pd8 rfl) (Nat.le_refl _) (by decide) (by decide) (by decide) (by decide) (hb hby d4_13) ?_
    intro v65 T65 L65 X65 hQ65
    obtain ⟨z65, rfl, N65, q65, hz65⟩ := hQ65
    have N66 := Fr.app N0 N65
    show Go p e below _ T65 (mkF m 16 #[.val (.int n), .val (.double a), .second, .val (.double b), .second] [(.int z65), (.int (33 : Int32))])
    refine g_isub X65 hx 17 (hb hby d4_16) rfl ?_
    exact g_retI X65 hx hlk hret (hb hby d4_17) (by decide) (by decide) q65 ⟨_, rfl, N66, rfl, fun q => absurd q c64, fun _ => own_cnt (r := 0) hn1 hz65⟩
  · skip
    refine g_iconst X0 hx (1 : Int32) 7 (hb hby d4_6) rfl (by decide) ?_
    exact g_retI X0 hx hlk hret (hb hby d4_7) (by decide) (by decide) e0 ⟨_, rfl, N0, rfl, fun _ => by decide, fun q => absurd c64 q⟩
theorem own_lit {n r : Int} (h : CntIs n r) (h8 : n ≤ 8) : (n = 1 → r = 1) ∧ (n = 2 → r = 2) ∧ (3 ≤ n → n ≤ 4 → r = 3) ∧ (5 ≤ n → r = 4) := by
  rcases h with ⟨h1, h2⟩ | ⟨k, h1, h2, h3, h4⟩
  · omega
  · have hk : k < 3 := by
      refine Nat.lt_of_not_le fun q => ?_
      have : 2 ^ 3 ≤ 2 ^ k := Nat.pow_le_pow_right (by decide) q
      omega
    have : k = 0 ∨ k = 1 ∨ k = 2 := by omega
    rcases this with rfl | rfl | rfl
    · have e1 : ((2 ^ 0 : Nat) : Int) = 1 := rfl
      have e2 : ((2 ^ (0 + 1) : Nat) : Int) = 2 := rfl
      omega
    · have e1 : ((2 ^ 1 : Nat) : Int) = 2 := rfl
      have e2 : ((2 ^ (1 + 1) : Nat) : Int) = 4 := rfl
      omega
    · have e1 : ((2 ^ 2 : Nat) : Int) = 4 := rfl
      have e2 : ((2 ^ (2 + 1) : Nat) : Int) = 8 := rfl
      omega
def IsMin (m : Int) (l : List Int) : Prop := m ∈ l ∧ ∀ x ∈ l, m ≤ x
def IsMax (m : Int) (l : List Int) : Prop := m ∈ l ∧ ∀ x ∈ l, x ≤ m
theorem own_min1 (a : Int) : IsMin a [a] := ⟨List.mem_singleton.mpr rfl, fun x h => by rw [List.mem_singleton.mp h]; exact Int.le_refl _⟩
theorem own_max1 (a : Int) : IsMax a [a] := ⟨List.mem_singleton.mpr rfl, fun x h => by rw [List.mem_singleton.mp h]; exact Int.le_refl _⟩
theorem own_minS {m m' x : Int} {l : List Int} (h : IsMin m l) (h1 : m' ≤ m) (h2 : m' ≤ x) (h3 : m' = m ∨ m' = x) : IsMin m' (x :: l) := by
  refine ⟨?_, fun y hy => ?_⟩
  · rcases h3 with q | q
    · rw [q]; exact List.mem_cons_of_mem _ h.1
    · rw [q]; exact List.mem_cons_self ..
  · rcases List.mem_cons.mp hy with q | q
    · rw [q]; exact h2
    · exact Int.le_trans h1 (h.2 y q)
theorem own_maxS {m m' x : Int} {l : List Int} (h : IsMax m l) (h1 : m ≤ m') (h2 : x ≤ m') (h3 : m' = m ∨ m' = x) : IsMax m' (x :: l) := by
  refine ⟨?_, fun y hy => ?_⟩
  · rcases h3 with q | q
    · rw [q]; exact List.mem_cons_of_mem _ h.1
    · rw [q]; exact List.mem_cons_self ..
  · rcases List.mem_cons.mp hy with q | q
    · rw [q]; exact h2
    · exact Int.le_trans (h.2 y q) h1
theorem own_minEq {m m' : Int} {l l' : List Int} (h : IsMin m l) (h' : IsMin m' l') (s : ∀ x ∈ l, x ∈ l') (s' : ∀ x ∈ l', x ∈ l) : m = m' := Int.le_antisymm (h.2 _ (s' _ h'.1)) (h'.2 _ (s _ h.1))
theorem own_maxEq {m m' : Int} {l l' : List Int} (h : IsMax m l) (h' : IsMax m' l') (s : ∀ x ∈ l, x ∈ l') (s' : ∀ x ∈ l', x ∈ l) : m = m' := Int.le_antisymm (h'.2 _ (s _ h.1)) (h.2 _ (s' _ h'.1))
theorem own_mm {m m' : Int} {l : List Int} (h : IsMin m l) (h' : IsMax m' l) : m ≤ m' := Int.le_trans (h.2 _ h'.1) (Int.le_refl _)
theorem own_minE {i j : Int} {a b : UInt64} (ha : Jvm.FP.Core.DInt i a) (hb : Jvm.FP.Core.DInt j b) : ∃ m, Jvm.FP.Core.DInt m (Jvm.Native.java_lang_Math.nans.pick64 false a b) ∧ m ≤ i ∧ m ≤ j ∧ (m = i ∨ m = j) := ⟨_, own_minD ha hb, by omega, by omega, by omega⟩
theorem own_maxE {i j : Int} {a b : UInt64} (ha : Jvm.FP.Core.DInt i a) (hb : Jvm.FP.Core.DInt j b) : ∃ m, Jvm.FP.Core.DInt m (Jvm.Native.java_lang_Math.nans.pick64 true a b) ∧ i ≤ m ∧ j ≤ m ∧ (m = i ∨ m = j) := ⟨_, own_maxD ha hb, by omega, by omega, by omega⟩
theorem own_n8 {k n : Int32} (h : (k &&& (7 : Int32)) + (1 : Int32) = n) : n = 1 ∨ n = 2 ∨ n = 3 ∨ n = 4 ∨ n = 5 ∨ n = 6 ∨ n = 7 ∨ n = 8 := by
  have e1 := c_mask k 7 3 (by decide) (by decide)
  have e3 := c_iadd (k &&& 7) 1
  have r3 := rng32 n
  rw [h] at e3
  have l1 : (1 : Int32).toInt = 1 := by decide
  rw [l1] at e3
  have L : ∀ z : Int32, n.toInt = z.toInt → n = z := fun z q => Int32.toInt_inj.mp q
  have C : n.toInt = 1 ∨ n.toInt = 2 ∨ n.toInt = 3 ∨ n.toInt = 4 ∨ n.toInt = 5 ∨ n.toInt = 6 ∨ n.toInt = 7 ∨ n.toInt = 8 := by omega
  rcases C with C | C | C | C | C | C | C | C
  · left; exact L 1 (by rw [C]; decide)
  · right; left; exact L 2 (by rw [C]; decide)
  · right; right; left; exact L 3 (by rw [C]; decide)
  · right; right; right; left; exact L 4 (by rw [C]; decide)
  · right; right; right; right; left; exact L 5 (by rw [C]; decide)
  · right; right; right; right; right; left; exact L 6 (by rw [C]; decide)
  · right; right; right; right; right; right; left; exact L 7 (by rw [C]; decide)
  · right; right; right; right; right; right; right; exact L 8 (by rw [C]; decide)
theorem d10_0 : decode jdk_29_method_69_code 0 = .ok (.iload_n 0, 1) := by decide +kernel
theorem d10_1 : decode jdk_29_method_69_code 1 = .ok (.iload_n 1, 1) := by decide +kernel
theorem d10_2 : decode jdk_29_method_69_code 2 = .ok (.if_icmp .gt 7, 3) := by decide +kernel
theorem d10_5 : decode jdk_29_method_69_code 5 = .ok (.iload_n 0, 1) := by decide +kernel
theorem d10_6 : decode jdk_29_method_69_code 6 = .ok (.goto 4, 3) := by decide +kernel
theorem d10_9 : decode jdk_29_method_69_code 9 = .ok (.iload_n 1, 1) := by decide +kernel
theorem d10_10 : decode jdk_29_method_69_code 10 = .ok (.ireturn, 1) := by decide +kernel
theorem own_pf2 : plainFor (⟨"java/lang/Math", "min", "(II)I"⟩ : MethodName) = true := Jvm.Free.JP.mathPlain rfl (by decide)
def Q_rm10 (x y : Int32) (n0 : Nat) (h0 : Heap) (v : Option Value) (h : Heap) (L : List Loc) : Prop := ∃ r : Int32, v = some (.int r) ∧ (r.toInt ≤ x.toInt ∧ r.toInt ≤ y.toInt ∧ (r.toInt = x.toInt ∨ r.toInt = y.toInt)) ∧ Fr n0 L ∧ h = h0
theorem ef_rm10 (x y : Int32) (m : MethodId) : entryFrame m #[(.int x), (.int y)] 2 = mkF m 0 #[.val (.int x), .val (.int y)] [] := by first | (simp [entryFrame, mkF, argsToLocals, Value.category]; done) | rfl
set_option maxRecDepth 65536 in
set_option maxHeartbeats 40000000 in
theorem rm10 (l : Launch) (Z : State) (a0 : Array Value) (hw : ∀ d ∈ tables_1, d.before a0 Z = true) (x y : Int32) (h0 : Heap) (n0 : Nat) (Z0 : n0 ≤ h0.size)  :
    MetFree l (⟨"java/lang/Math", "min", "(II)I"⟩ : MethodName) (head1 [Jvm.Cond.code (⟨"java/lang/Math", "min", "(II)I"⟩ : MethodName) jdk_29_method_69_code 2 (some .int)] ({ frames := 0, cells := 0, slots := 0, locals := 0 } : Room)) (fun as_ U => as_ = #[(.int x), (.int y)] ∧ Z.Warmed39 U.vm ∧ U.heap = h0) (fun _ _ _ _ _ => True) (fun _ U o U' => ∃ v L, o = .returned v ∧ Q_rm10 x y n0 h0 v U'.heap L ∧ FrameEnd U o U' L ({ frames := 0, cells := 0, slots := 0, locals := 0 } : Room).cells ({ frames := 0, cells := 0, slots := 0, locals := 0 } : Room).slots) := by
  refine own_met own_pf2 (ef_rm10 x y) ?_
  intro p e s m below meth c T0 X0 hx hby hml hret hlk hnm hown hZ e0
  have N0 := Fr.nil n0
  refine g_iloadN X0 hx 1 (hb hby d10_0) rfl rfl ?_
  refine g_iloadN X0 hx 2 (hb hby d10_1) rfl rfl ?_
  refine g_ic_gt X0 hx 9 5 (hb hby d10_2) (by decide) (by decide) rfl (fun c67 => ?_) (fun c67 => ?_)
  · skip
    refine g_iloadN X0 hx 10 (hb hby d10_9) rfl rfl ?_
    exact g_retI X0 hx hlk hret (hb hby d10_10) (by decide) (by decide) e0 ⟨_, rfl, by omega, N0, rfl⟩
  · skip
    refine g_iloadN X0 hx 6 (hb hby d10_5) rfl rfl ?_
    refine g_goto X0 hx 10 (hb hby d10_6) (by decide) (by decide) ?_
    exact g_retI X0 hx hlk hret (hb hby d10_10) (by decide) (by decide) e0 ⟨_, rfl, by omega, N0, rfl⟩
theorem d11_0 : decode jdk_29_method_65_code 0 = .ok (.iload_n 0, 1) := by decide +kernel
theorem d11_1 : decode jdk_29_method_65_code 1 = .ok (.iload_n 1, 1) := by decide +kernel
theorem d11_2 : decode jdk_29_method_65_code 2 = .ok (.if_icmp .lt 7, 3) := by decide +kernel
theorem d11_5 : decode jdk_29_method_65_code 5 = .ok (.iload_n 0, 1) := by decide +kernel
theorem d11_6 : decode jdk_29_method_65_code 6 = .ok (.goto 4, 3) := by decide +kernel
theorem d11_9 : decode jdk_29_method_65_code 9 = .ok (.iload_n 1, 1) := by decide +kernel
theorem d11_10 : decode jdk_29_method_65_code 10 = .ok (.ireturn, 1) := by decide +kernel
theorem own_pf3 : plainFor (⟨"java/lang/Math", "max", "(II)I"⟩ : MethodName) = true := Jvm.Free.JP.mathPlain rfl (by decide)
def Q_rm11 (x y : Int32) (n0 : Nat) (h0 : Heap) (v : Option Value) (h : Heap) (L : List Loc) : Prop := ∃ r : Int32, v = some (.int r) ∧ (x.toInt ≤ r.toInt ∧ y.toInt ≤ r.toInt ∧ (r.toInt = x.toInt ∨ r.toInt = y.toInt)) ∧ Fr n0 L ∧ h = h0
theorem ef_rm11 (x y : Int32) (m : MethodId) : entryFrame m #[(.int x), (.int y)] 2 = mkF m 0 #[.val (.int x), .val (.int y)] [] := by first | (simp [entryFrame, mkF, argsToLocals, Value.category]; done) | rfl
set_option maxRecDepth 65536 in
set_option maxHeartbeats 40000000 in
theorem rm11 (l : Launch) (Z : State) (a0 : Array Value) (hw : ∀ d ∈ tables_1, d.before a0 Z = true) (x y : Int32) (h0 : Heap) (n0 : Nat) (Z0 : n0 ≤ h0.size)  :
    MetFree l (⟨"java/lang/Math", "max", "(II)I"⟩ : MethodName) (head1 [Jvm.Cond.code (⟨"java/lang/Math", "max", "(II)I"⟩ : MethodName) jdk_29_method_65_code 2 (some .int)] ({ frames := 0, cells := 0, slots := 0, locals := 0 } : Room)) (fun as_ U => as_ = #[(.int x), (.int y)] ∧ Z.Warmed39 U.vm ∧ U.heap = h0) (fun _ _ _ _ _ => True) (fun _ U o U' => ∃ v L, o = .returned v ∧ Q_rm11 x y n0 h0 v U'.heap L ∧ FrameEnd U o U' L ({ frames := 0, cells := 0, slots := 0, locals := 0 } : Room).cells ({ frames := 0, cells := 0, slots := 0, locals := 0 } : Room).slots) := by
  refine own_met own_pf3 (ef_rm11 x y) ?_
  intro p e s m below meth c T0 X0 hx hby hml hret hlk hnm hown hZ e0
  have N0 := Fr.nil n0
  refine g_iloadN X0 hx 1 (hb hby d11_0) rfl rfl ?_
  refine g_iloadN X0 hx 2 (hb hby d11_1) rfl rfl ?_
  refine g_ic_lt X0 hx 9 5 (hb hby d11_2) (by decide) (by decide) rfl (fun c68 => ?_) (fun c68 => ?_)
  · skip
    refine g_iloadN X0 hx 10 (hb hby d11_9) rfl rfl ?_
    exact g_retI X0 hx hlk hret (hb hby d11_10) (by decide) (by decide) e0 ⟨_, rfl, by omega, N0, rfl⟩
  · skip
    refine g_iloadN X0 hx 6 (hb hby d11_5) rfl rfl ?_
    refine g_goto X0 hx 10 (hb hby d11_6) (by decide) (by decide) ?_
    exact g_retI X0 hx hlk hret (hb hby d11_10) (by decide) (by decide) e0 ⟨_, rfl, by omega, N0, rfl⟩
theorem d5_0 : decode prog_6_method_1_code 0 = .ok (.aload_n 0, 1) := by decide +kernel
theorem d5_1 : decode prog_6_method_1_code 1 = .ok (.invokespecial 1, 3) := by decide +kernel
theorem d5_4 : decode prog_6_method_1_code 4 = .ok (.dload_n 1, 1) := by decide +kernel
theorem d5_5 : decode prog_6_method_1_code 5 = .ok (.dload_n 3, 1) := by decide +kernel
theorem d5_6 : decode prog_6_method_1_code 6 = .ok (.dcmp .g, 1) := by decide +kernel
theorem d5_7 : decode prog_6_method_1_code 7 = .ok (.ifCond .le 18, 3) := by decide +kernel
theorem d5_10 : decode prog_6_method_1_code 10 = .ok (.new 7, 3) := by decide +kernel
theorem d5_13 : decode prog_6_method_1_code 13 = .ok (.dup, 1) := by decide +kernel
theorem d5_14 : decode prog_6_method_1_code 14 = .ok (.dload_n 1, 1) := by decide +kernel
theorem d5_15 : decode prog_6_method_1_code 15 = .ok (.dload_n 3, 1) := by decide +kernel
theorem d5_21 : decode prog_6_method_1_code 21 = .ok (.invokespecial 13, 3) := by decide +kernel
theorem d5_24 : decode prog_6_method_1_code 24 = .ok (.athrow, 1) := by decide +kernel
theorem d5_25 : decode prog_6_method_1_code 25 = .ok (.aload_n 0, 1) := by decide +kernel
theorem d5_26 : decode prog_6_method_1_code 26 = .ok (.dload_n 1, 1) := by decide +kernel
theorem d5_27 : decode prog_6_method_1_code 27 = .ok (.putfield 16, 3) := by decide +kernel
theorem d5_30 : decode prog_6_method_1_code 30 = .ok (.aload_n 0, 1) := by decide +kernel
theorem d5_31 : decode prog_6_method_1_code 31 = .ok (.dload_n 3, 1) := by decide +kernel
theorem d5_32 : decode prog_6_method_1_code 32 = .ok (.putfield 22, 3) := by decide +kernel
theorem d5_35 : decode prog_6_method_1_code 35 = .ok (.aload_n 0, 1) := by decide +kernel
theorem d5_36 : decode prog_6_method_1_code 36 = .ok (.iload 5, 2) := by decide +kernel
theorem d5_38 : decode prog_6_method_1_code 38 = .ok (.putfield 25, 3) := by decide +kernel
theorem d5_41 : decode prog_6_method_1_code 41 = .ok (.return_, 1) := by decide +kernel
theorem own_pf4 : plainFor (⟨"com/example/recolecta/recolecta/Bins", "<init>", "(DDI)V"⟩ : MethodName) = true := plainFor_of_name (by first | (simp [plainName, overriddenIn]; done) | decide +kernel)
def Q_rm5 (Z : State) (a : Addr) (lo hi : UInt64) (ct : Int32) (n0 : Nat) (h0 : Heap) (v : Option Value) (h : Heap) (L : List Loc) : Prop := v = none ∧ Fr n0 L ∧ Keep h0 h [a] ∧ Fld Z h a "com/example/recolecta/recolecta/Bins" "min" "D" (.double lo) ∧ Fld Z h a "com/example/recolecta/recolecta/Bins" "max" "D" (.double hi) ∧ Fld Z h a "com/example/recolecta/recolecta/Bins" "count" "I" (.int ct)
theorem ef_rm5 (a : Addr) (lo hi : UInt64) (ct : Int32) (m : MethodId) : entryFrame m #[(.ref a), (.double lo), (.double hi), (.int ct)] 6 = mkF m 0 #[.val (.ref a), .val (.double lo), .second, .val (.double hi), .second, .val (.int ct)] [] := by first | (simp [entryFrame, mkF, argsToLocals, Value.category]; done) | rfl
set_option maxRecDepth 65536 in
set_option maxHeartbeats 40000000 in
theorem rm5 (l : Launch) (Z : State) (a0 : Array Value) (hw : ∀ d ∈ tables_1, d.before a0 Z = true) (a : Addr) (lo hi : UInt64) (ct : Int32) (h0 : Heap) (n0 : Nat) (Z0 : n0 ≤ h0.size) (i j : Int) (hc : FP.dcmp lo hi = some (compare i j)) (hij : i ≤ j) (Ea : Exa Z h0 a "com/example/recolecta/recolecta/Bins") (ga : n0 ≤ a) (F_min : Fld Z h0 a "com/example/recolecta/recolecta/Bins" "min" "D" (.double 0)) (F_max : Fld Z h0 a "com/example/recolecta/recolecta/Bins" "max" "D" (.double 0)) (F_count : Fld Z h0 a "com/example/recolecta/recolecta/Bins" "count" "I" (.int 0)) :
    MetFree l (⟨"com/example/recolecta/recolecta/Bins", "<init>", "(DDI)V"⟩ : MethodName) (head1 [Jvm.Cond.code (⟨"com/example/recolecta/recolecta/Bins", "<init>", "(DDI)V"⟩ : MethodName) prog_6_method_1_code 6 none] ({ frames := 1, cells := 0, slots := 0, locals := 12 } : Room)) (fun as_ U => as_ = #[(.ref a), (.double lo), (.double hi), (.int ct)] ∧ Z.Warmed39 U.vm ∧ U.heap = h0) (fun _ _ _ _ _ => True) (fun _ U o U' => ∃ v L, o = .returned v ∧ Q_rm5 Z a lo hi ct n0 h0 v U'.heap L ∧ FrameEnd U o U' L ({ frames := 1, cells := 0, slots := 0, locals := 12 } : Room).cells ({ frames := 1, cells := 0, slots := 0, locals := 12 } : Room).slots) := by
  refine own_met own_pf4 (ef_rm5 a lo hi ct) ?_
  intro p e s m below meth c T0 X0 hx hby hml hret hlk hnm hown hZ e0
  have N0 := Fr.nil n0
  refine g_aloadN X0 hx 1 (hb hby d5_0) rfl rfl rfl ?_
  refine g_objinit X0 hx hZ hown (hw _ (List.mem_of_getElem? (i := 20) rfl)) (hw _ (List.mem_of_getElem? (i := 21) rfl)) (hw _ (List.mem_of_getElem? (i := 22) rfl)) e0 0 4 (hb hby d5_1) rfl (by rw [hml]; rfl) (by decide) (Nat.le_refl _) (by decide) ?_
  intro T69 X69 e69
  refine g_dloadN X69 hx 5 (hb hby d5_4) rfl rfl ?_
  refine g_dloadN X69 hx 6 (hb hby d5_5) rfl rfl ?_
  refine g_dc_le X69 hx 7 25 10 (hb hby d5_6) rfl (hb hby d5_7) (by decide) (by decide) rfl hc (fun c70 => ?_) (fun c70 => ?_)
  · skip
    refine g_aloadN X69 hx 26 (hb hby d5_25) rfl rfl rfl ?_
    refine g_dloadN X69 hx 27 (hb hby d5_26) rfl rfl ?_
    refine g_putF X69 hx hZ hown (hw _ (List.mem_of_getElem? (i := 23) rfl)) Via.refl e69 F_min Ea (Or.inr ⟨(hw _ (List.mem_of_getElem? (i := 24) rfl)), rfl, hnm⟩) (hw _ (List.mem_of_getElem? (i := 13) rfl)) (ty := .double) (by decide) rfl rfl 30 (hb hby d5_27) rfl ?_
    intro T71 h71 X71 e71 W71
    have F72 : Fld Z h71 a "com/example/recolecta/recolecta/Bins" "min" "D" (.double lo) := F_min.same W71
    have F73 := Ea.wr W71
    have F74 := F_max.other W71 (Or.inr (slot_ne (Or.inr (hw _ (List.mem_of_getElem? (i := 26) rfl))) (Or.inr (hw _ (List.mem_of_getElem? (i := 24) rfl))) (by decide) (t := .double) (t' := .double) (by decide) (by decide)))
    have F75 := F_count.other W71 (Or.inr (slot_ne (Or.inr (hw _ (List.mem_of_getElem? (i := 28) rfl))) (Or.inr (hw _ (List.mem_of_getElem? (i := 24) rfl))) (by decide) (t := .int) (t' := .double) (by decide) (by decide)))
    have K76 := (Keep.refl h0 [a]).wr W71 (Or.inl (List.mem_of_getElem? (i := 0) rfl))
    have N77 := Fr.snoc X71 N0 ga
    have Z78 : n0 ≤ h71.size := by rw [W71.size]; exact Z0
    refine g_aloadN X71 hx 31 (hb hby d5_30) rfl rfl rfl ?_
    refine g_dloadN X71 hx 32 (hb hby d5_31) rfl rfl ?_
    refine g_putF X71 hx hZ hown (hw _ (List.mem_of_getElem? (i := 25) rfl)) Via.refl e71 F74 F73 (Or.inr ⟨(hw _ (List.mem_of_getElem? (i := 26) rfl)), rfl, hnm⟩) (hw _ (List.mem_of_getElem? (i := 13) rfl)) (ty := .double) (by decide) rfl rfl 35 (hb hby d5_32) rfl ?_
    intro T79 h79 X79 e79 W79
    have F80 : Fld Z h79 a "com/example/recolecta/recolecta/Bins" "max" "D" (.double hi) := F74.same W79
    have F81 := F73.wr W79
    have F82 := F75.other W79 (Or.inr (slot_ne (Or.inr (hw _ (List.mem_of_getElem? (i := 28) rfl))) (Or.inr (hw _ (List.mem_of_getElem? (i := 26) rfl))) (by decide) (t := .int) (t' := .double) (by decide) (by decide)))
    have F83 := F72.other W79 (Or.inr (slot_ne (Or.inr (hw _ (List.mem_of_getElem? (i := 24) rfl))) (Or.inr (hw _ (List.mem_of_getElem? (i := 26) rfl))) (by decide) (t := .double) (t' := .double) (by decide) (by decide)))
    have K84 := K76.wr W79 (Or.inl (List.mem_of_getElem? (i := 0) rfl))
    have N85 := Fr.snoc X79 N77 ga
    have Z86 : n0 ≤ h79.size := by rw [W79.size]; exact Z78
    refine g_aloadN X79 hx 36 (hb hby d5_35) rfl rfl rfl ?_
    refine g_iload X79 hx 38 (hb hby d5_36) rfl rfl ?_
    refine g_putF X79 hx hZ hown (hw _ (List.mem_of_getElem? (i := 27) rfl)) Via.refl e79 F82 F81 (Or.inr ⟨(hw _ (List.mem_of_getElem? (i := 28) rfl)), rfl, hnm⟩) (hw _ (List.mem_of_getElem? (i := 13) rfl)) (ty := .int) (by decide) rfl rfl 41 (hb hby d5_38) rfl ?_
    intro T87 h87 X87 e87 W87
    have F88 : Fld Z h87 a "com/example/recolecta/recolecta/Bins" "count" "I" (.int ct) := F82.same W87
    have F89 := F81.wr W87
    have F90 := F83.other W87 (Or.inr (slot_ne (Or.inr (hw _ (List.mem_of_getElem? (i := 24) rfl))) (Or.inr (hw _ (List.mem_of_getElem? (i := 28) rfl))) (by decide) (t := .double) (t' := .int) (by decide) (by decide)))
    have F91 := F80.other W87 (Or.inr (slot_ne (Or.inr (hw _ (List.mem_of_getElem? (i := 26) rfl))) (Or.inr (hw _ (List.mem_of_getElem? (i := 28) rfl))) (by decide) (t := .double) (t' := .int) (by decide) (by decide)))
    have K92 := K84.wr W87 (Or.inl (List.mem_of_getElem? (i := 0) rfl))
    have N93 := Fr.snoc X87 N85 ga
    have Z94 : n0 ≤ h87.size := by rw [W87.size]; exact Z86
    exact g_retV X87 hx hlk hret (hb hby d5_41) (by decide) (by decide) e87 ⟨rfl, N93, K92, F90, F91, F88⟩
  · skip
    exfalso; omega
theorem d7_0 : decode prog_6_method_5_code 0 = .ok (.aload_n 0, 1) := by decide +kernel
theorem d7_1 : decode prog_6_method_5_code 1 = .ok (.getfield 16, 3) := by decide +kernel
theorem d7_4 : decode prog_6_method_5_code 4 = .ok (.dreturn, 1) := by decide +kernel
theorem own_pf5 : plainFor (⟨"com/example/recolecta/recolecta/Bins", "min", "()D"⟩ : MethodName) = true := plainFor_of_name (by first | (simp [plainName, overriddenIn]; done) | decide +kernel)
def Q_rm7 (x : UInt64) (n0 : Nat) (h0 : Heap) (v : Option Value) (h : Heap) (L : List Loc) : Prop := v = some (.double x) ∧ Fr n0 L ∧ h = h0
theorem ef_rm7 (a : Addr) (m : MethodId) : entryFrame m #[(.ref a)] 1 = mkF m 0 #[.val (.ref a)] [] := by first | (simp [entryFrame, mkF, argsToLocals, Value.category]; done) | rfl
set_option maxRecDepth 65536 in
set_option maxHeartbeats 40000000 in
theorem rm7 (l : Launch) (Z : State) (a0 : Array Value) (hw : ∀ d ∈ tables_1, d.before a0 Z = true) (a : Addr) (h0 : Heap) (n0 : Nat) (Z0 : n0 ≤ h0.size) (x : UInt64) (F : Fld Z h0 a "com/example/recolecta/recolecta/Bins" "min" "D" (.double x)) :
    MetFree l (⟨"com/example/recolecta/recolecta/Bins", "min", "()D"⟩ : MethodName) (head1 [Jvm.Cond.code (⟨"com/example/recolecta/recolecta/Bins", "min", "()D"⟩ : MethodName) prog_6_method_5_code 1 (some .double)] ({ frames := 0, cells := 0, slots := 0, locals := 0 } : Room)) (fun as_ U => as_ = #[(.ref a)] ∧ Z.Warmed39 U.vm ∧ U.heap = h0) (fun _ _ _ _ _ => True) (fun _ U o U' => ∃ v L, o = .returned v ∧ Q_rm7 x n0 h0 v U'.heap L ∧ FrameEnd U o U' L ({ frames := 0, cells := 0, slots := 0, locals := 0 } : Room).cells ({ frames := 0, cells := 0, slots := 0, locals := 0 } : Room).slots) := by
  refine own_met own_pf5 (ef_rm7 a) ?_
  intro p e s m below meth c T0 X0 hx hby hml hret hlk hnm hown hZ e0
  have N0 := Fr.nil n0
  refine g_aloadN X0 hx 1 (hb hby d7_0) rfl rfl rfl ?_
  refine g_getF X0 hx hZ hown (hw _ (List.mem_of_getElem? (i := 23) rfl)) Via.refl e0 F 4 (hb hby d7_1) rfl ?_
  intro T95 X95 e95
  exact g_retD X95 hx hlk hret (hb hby d7_4) (by decide) (by decide) e95 ⟨rfl, N0, rfl⟩
theorem d8_0 : decode prog_6_method_6_code 0 = .ok (.aload_n 0, 1) := by decide +kernel
theorem d8_1 : decode prog_6_method_6_code 1 = .ok (.getfield 22, 3) := by decide +kernel
theorem d8_4 : decode prog_6_method_6_code 4 = .ok (.dreturn, 1) := by decide +kernel
theorem own_pf6 : plainFor (⟨"com/example/recolecta/recolecta/Bins", "max", "()D"⟩ : MethodName) = true := plainFor_of_name (by first | (simp [plainName, overriddenIn]; done) | decide +kernel)
def Q_rm8 (x : UInt64) (n0 : Nat) (h0 : Heap) (v : Option Value) (h : Heap) (L : List Loc) : Prop := v = some (.double x) ∧ Fr n0 L ∧ h = h0
theorem ef_rm8 (a : Addr) (m : MethodId) : entryFrame m #[(.ref a)] 1 = mkF m 0 #[.val (.ref a)] [] := by first | (simp [entryFrame, mkF, argsToLocals, Value.category]; done) | rfl
set_option maxRecDepth 65536 in
set_option maxHeartbeats 40000000 in
theorem rm8 (l : Launch) (Z : State) (a0 : Array Value) (hw : ∀ d ∈ tables_1, d.before a0 Z = true) (a : Addr) (h0 : Heap) (n0 : Nat) (Z0 : n0 ≤ h0.size) (x : UInt64) (F : Fld Z h0 a "com/example/recolecta/recolecta/Bins" "max" "D" (.double x)) :
    MetFree l (⟨"com/example/recolecta/recolecta/Bins", "max", "()D"⟩ : MethodName) (head1 [Jvm.Cond.code (⟨"com/example/recolecta/recolecta/Bins", "max", "()D"⟩ : MethodName) prog_6_method_6_code 1 (some .double)] ({ frames := 0, cells := 0, slots := 0, locals := 0 } : Room)) (fun as_ U => as_ = #[(.ref a)] ∧ Z.Warmed39 U.vm ∧ U.heap = h0) (fun _ _ _ _ _ => True) (fun _ U o U' => ∃ v L, o = .returned v ∧ Q_rm8 x n0 h0 v U'.heap L ∧ FrameEnd U o U' L ({ frames := 0, cells := 0, slots := 0, locals := 0 } : Room).cells ({ frames := 0, cells := 0, slots := 0, locals := 0 } : Room).slots) := by
  refine own_met own_pf6 (ef_rm8 a) ?_
  intro p e s m below meth c T0 X0 hx hby hml hret hlk hnm hown hZ e0
  have N0 := Fr.nil n0
  refine g_aloadN X0 hx 1 (hb hby d8_0) rfl rfl rfl ?_
  refine g_getF X0 hx hZ hown (hw _ (List.mem_of_getElem? (i := 25) rfl)) Via.refl e0 F 4 (hb hby d8_1) rfl ?_
  intro T96 X96 e96
  exact g_retD X96 hx hlk hret (hb hby d8_4) (by decide) (by decide) e96 ⟨rfl, N0, rfl⟩
theorem d9_0 : decode prog_6_method_7_code 0 = .ok (.aload_n 0, 1) := by decide +kernel
theorem d9_1 : decode prog_6_method_7_code 1 = .ok (.getfield 25, 3) := by decide +kernel
theorem d9_4 : decode prog_6_method_7_code 4 = .ok (.ireturn, 1) := by decide +kernel
theorem own_pf7 : plainFor (⟨"com/example/recolecta/recolecta/Bins", "count", "()I"⟩ : MethodName) = true := plainFor_of_name (by first | (simp [plainName, overriddenIn]; done) | decide +kernel)
def Q_rm9 (x : Int32) (n0 : Nat) (h0 : Heap) (v : Option Value) (h : Heap) (L : List Loc) : Prop := v = some (.int x) ∧ Fr n0 L ∧ h = h0
theorem ef_rm9 (a : Addr) (m : MethodId) : entryFrame m #[(.ref a)] 1 = mkF m 0 #[.val (.ref a)] [] := by first | (simp [entryFrame, mkF, argsToLocals, Value.category]; done) | rfl
set_option maxRecDepth 65536 in
set_option maxHeartbeats 40000000 in
theorem rm9 (l : Launch) (Z : State) (a0 : Array Value) (hw : ∀ d ∈ tables_1, d.before a0 Z = true) (a : Addr) (h0 : Heap) (n0 : Nat) (Z0 : n0 ≤ h0.size) (x : Int32) (F : Fld Z h0 a "com/example/recolecta/recolecta/Bins" "count" "I" (.int x)) :
    MetFree l (⟨"com/example/recolecta/recolecta/Bins", "count", "()I"⟩ : MethodName) (head1 [Jvm.Cond.code (⟨"com/example/recolecta/recolecta/Bins", "count", "()I"⟩ : MethodName) prog_6_method_7_code 1 (some .int)] ({ frames := 0, cells := 0, slots := 0, locals := 0 } : Room)) (fun as_ U => as_ = #[(.ref a)] ∧ Z.Warmed39 U.vm ∧ U.heap = h0) (fun _ _ _ _ _ => True) (fun _ U o U' => ∃ v L, o = .returned v ∧ Q_rm9 x n0 h0 v U'.heap L ∧ FrameEnd U o U' L ({ frames := 0, cells := 0, slots := 0, locals := 0 } : Room).cells ({ frames := 0, cells := 0, slots := 0, locals := 0 } : Room).slots) := by
  refine own_met own_pf7 (ef_rm9 a) ?_
  intro p e s m below meth c T0 X0 hx hby hml hret hlk hnm hown hZ e0
  have N0 := Fr.nil n0
  refine g_aloadN X0 hx 1 (hb hby d9_0) rfl rfl rfl ?_
  refine g_getF X0 hx hZ hown (hw _ (List.mem_of_getElem? (i := 27) rfl)) Via.refl e0 F 4 (hb hby d9_1) rfl ?_
  intro T97 X97 e97
  exact g_retI X97 hx hlk hret (hb hby d9_4) (by decide) (by decide) e97 ⟨rfl, N0, rfl⟩
theorem d1_0 : decode prog_6_method_2_code 0 = .ok (.aload_n 0, 1) := by decide +kernel
theorem d1_1 : decode prog_6_method_2_code 1 = .ok (.iconst 0, 1) := by decide +kernel
theorem d1_2 : decode prog_6_method_2_code 2 = .ok (.daload, 1) := by decide +kernel
theorem d1_3 : decode prog_6_method_2_code 3 = .ok (.dstore_n 1, 1) := by decide +kernel
theorem d1_4 : decode prog_6_method_2_code 4 = .ok (.aload_n 0, 1) := by decide +kernel
theorem d1_5 : decode prog_6_method_2_code 5 = .ok (.iconst 0, 1) := by decide +kernel
theorem d1_6 : decode prog_6_method_2_code 6 = .ok (.daload, 1) := by decide +kernel
theorem d1_7 : decode prog_6_method_2_code 7 = .ok (.dstore_n 3, 1) := by decide +kernel
theorem d1_8 : decode prog_6_method_2_code 8 = .ok (.aload_n 0, 1) := by decide +kernel
theorem d1_9 : decode prog_6_method_2_code 9 = .ok (.astore 5, 2) := by decide +kernel
theorem d1_11 : decode prog_6_method_2_code 11 = .ok (.aload 5, 2) := by decide +kernel
theorem d1_13 : decode prog_6_method_2_code 13 = .ok (.arraylength, 1) := by decide +kernel
theorem d1_14 : decode prog_6_method_2_code 14 = .ok (.istore 6, 2) := by decide +kernel
theorem d1_16 : decode prog_6_method_2_code 16 = .ok (.iconst 0, 1) := by decide +kernel
theorem d1_17 : decode prog_6_method_2_code 17 = .ok (.istore 7, 2) := by decide +kernel
theorem d1_19 : decode prog_6_method_2_code 19 = .ok (.iload 7, 2) := by decide +kernel
theorem d1_21 : decode prog_6_method_2_code 21 = .ok (.iload 6, 2) := by decide +kernel
theorem d1_23 : decode prog_6_method_2_code 23 = .ok (.if_icmp .ge 30, 3) := by decide +kernel
theorem d1_26 : decode prog_6_method_2_code 26 = .ok (.aload 5, 2) := by decide +kernel
theorem d1_28 : decode prog_6_method_2_code 28 = .ok (.iload 7, 2) := by decide +kernel
theorem d1_30 : decode prog_6_method_2_code 30 = .ok (.daload, 1) := by decide +kernel
theorem d1_31 : decode prog_6_method_2_code 31 = .ok (.dstore 8, 2) := by decide +kernel
theorem d1_33 : decode prog_6_method_2_code 33 = .ok (.dload_n 1, 1) := by decide +kernel
theorem d1_34 : decode prog_6_method_2_code 34 = .ok (.dload 8, 2) := by decide +kernel
theorem d1_36 : decode prog_6_method_2_code 36 = .ok (.invokestatic 29, 3) := by decide +kernel
theorem d1_39 : decode prog_6_method_2_code 39 = .ok (.dstore_n 1, 1) := by decide +kernel
theorem d1_40 : decode prog_6_method_2_code 40 = .ok (.dload_n 3, 1) := by decide +kernel
theorem d1_41 : decode prog_6_method_2_code 41 = .ok (.dload 8, 2) := by decide +kernel
theorem d1_43 : decode prog_6_method_2_code 43 = .ok (.invokestatic 34, 3) := by decide +kernel
theorem d1_46 : decode prog_6_method_2_code 46 = .ok (.dstore_n 3, 1) := by decide +kernel
theorem d1_47 : decode prog_6_method_2_code 47 = .ok (.iinc 7 1, 3) := by decide +kernel
theorem d1_50 : decode prog_6_method_2_code 50 = .ok (.goto (-31), 3) := by decide +kernel
theorem d1_53 : decode prog_6_method_2_code 53 = .ok (.new 17, 3) := by decide +kernel
theorem d1_56 : decode prog_6_method_2_code 56 = .ok (.dup, 1) := by decide +kernel
theorem d1_57 : decode prog_6_method_2_code 57 = .ok (.dload_n 1, 1) := by decide +kernel
theorem d1_58 : decode prog_6_method_2_code 58 = .ok (.dload_n 3, 1) := by decide +kernel
theorem d1_59 : decode prog_6_method_2_code 59 = .ok (.aload_n 0, 1) := by decide +kernel
theorem d1_60 : decode prog_6_method_2_code 60 = .ok (.arraylength, 1) := by decide +kernel
theorem d1_61 : decode prog_6_method_2_code 61 = .ok (.dload_n 1, 1) := by decide +kernel
theorem d1_62 : decode prog_6_method_2_code 62 = .ok (.dload_n 3, 1) := by decide +kernel
theorem d1_63 : decode prog_6_method_2_code 63 = .ok (.invokestatic 36, 3) := by decide +kernel
theorem d1_66 : decode prog_6_method_2_code 66 = .ok (.invokespecial 40, 3) := by decide +kernel
theorem d1_69 : decode prog_6_method_2_code 69 = .ok (.areturn, 1) := by decide +kernel
theorem own_pf8 : plainFor (⟨"com/example/recolecta/recolecta/Bins", "over", "([D)Lcom/example/recolecta/recolecta/Bins;"⟩ : MethodName) = true := plainFor_of_name (by first | (simp [plainName, overriddenIn]; done) | decide +kernel)
def Q_rm1_1 (Z : State) (i_x0 : Int) (n0 : Nat) (h0 : Heap) (v : Option Value) (h : Heap) (L : List Loc) : Prop := ∃ a : Addr, v = some (.ref a) ∧ Fr n0 L ∧ n0 ≤ a ∧ Keep h0 h [] ∧ Exa Z h a "com/example/recolecta/recolecta/Bins" ∧ ∃ (lo hi : UInt64) (r : Int32) (mi ma : Int), Fld Z h a "com/example/recolecta/recolecta/Bins" "min" "D" (.double lo) ∧ Fld Z h a "com/example/recolecta/recolecta/Bins" "max" "D" (.double hi) ∧ Fld Z h a "com/example/recolecta/recolecta/Bins" "count" "I" (.int r) ∧ Jvm.FP.Core.DInt mi lo ∧ Jvm.FP.Core.DInt ma hi ∧ IsMin mi [i_x0, i_x0] ∧ IsMax ma [i_x0, i_x0] ∧ (mi = ma → r.toInt = 1) ∧ (mi ≠ ma → CntIs (1 : Int32).toInt r.toInt)
theorem ef_rm1_1 (b : Addr) (m : MethodId) : entryFrame m #[(.ref b)] 10 = mkF m 0 #[.val (.ref b), .unset, .unset, .unset, .unset, .unset, .unset, .unset, .unset, .unset] [] := by first | (simp [entryFrame, mkF, argsToLocals, Value.category]; done) | rfl
set_option maxRecDepth 65536 in
set_option maxHeartbeats 40000000 in
theorem rm1_1 (l : Launch) (Z : State) (a0 : Array Value) (hw : ∀ d ∈ tables_1, d.before a0 Z = true) (b : Addr) (h0 : Heap) (n0 : Nat) (Z0 : n0 ≤ h0.size) (kb : ClassId) (x0 : UInt64) (i_x0 : Int) (h_x0 : Jvm.FP.Core.DInt i_x0 x0) (Vb : Arv Z h0 b kb .double 1 [.double x0] (.double 0)) :
    MetFree l (⟨"com/example/recolecta/recolecta/Bins", "over", "([D)Lcom/example/recolecta/recolecta/Bins;"⟩ : MethodName) (head1 [Jvm.Cond.code (⟨"com/example/recolecta/recolecta/Bins", "over", "([D)Lcom/example/recolecta/recolecta/Bins;"⟩ : MethodName) prog_6_method_2_code 10 (some (.object "com/example/recolecta/recolecta/Bins"))] ({ frames := 2, cells := 1, slots := 3, locals := 48 } : Room)) (fun as_ U => as_ = #[(.ref b)] ∧ Z.Warmed39 U.vm ∧ U.heap = h0) (fun _ _ _ _ _ => True) (fun _ U o U' => ∃ v L, o = .returned v ∧ Q_rm1_1 Z i_x0 n0 h0 v U'.heap L ∧ FrameEnd U o U' L ({ frames := 2, cells := 1, slots := 3, locals := 48 } : Room).cells ({ frames := 2, cells := 1, slots := 3, locals := 48 } : Room).slots) := by
  refine own_met own_pf8 (ef_rm1_1 b) ?_
  intro p e s m below meth c T0 X0 hx hby hml hret hlk hnm hown hZ e0
  have N0 := Fr.nil n0
  refine g_aloadN X0 hx 1 (hb hby d1_0) rfl rfl rfl ?_
  refine g_iconst X0 hx (0 : Int32) 2 (hb hby d1_1) rfl (by decide) ?_
  refine g_daload X0 hx hZ e0 Vb (by decide) (by decide) (by rw [show ((0 : Int32) : Int32).toNatClampNeg = 0 by decide] <;> rfl) 3 (hb hby d1_2) rfl ?_
  refine g_dstoreN (l' := #[.val (.ref b), .val (.double x0), .second, .unset, .unset, .unset, .unset, .unset, .unset, .unset]) X0 hx 4 (hb hby d1_3) rfl rfl ?_
  refine g_aloadN X0 hx 5 (hb hby d1_4) rfl rfl rfl ?_
  refine g_iconst X0 hx (0 : Int32) 6 (hb hby d1_5) rfl (by decide) ?_
  refine g_daload X0 hx hZ e0 Vb (by decide) (by decide) (by rw [show ((0 : Int32) : Int32).toNatClampNeg = 0 by decide] <;> rfl) 7 (hb hby d1_6) rfl ?_
  refine g_dstoreN (l' := #[.val (.ref b), .val (.double x0), .second, .val (.double x0), .second, .unset, .unset, .unset, .unset, .unset]) X0 hx 8 (hb hby d1_7) rfl rfl ?_
  refine g_aloadN X0 hx 9 (hb hby d1_8) rfl rfl rfl ?_
  refine g_astore (l' := #[.val (.ref b), .val (.double x0), .second, .val (.double x0), .second, .val (.ref b), .unset, .unset, .unset, .unset]) X0 hx 11 (hb hby d1_9) rfl rfl rfl ?_
  refine g_aload X0 hx 13 (hb hby d1_11) rfl rfl rfl ?_
  refine g_len X0 hx hZ e0 Vb 14 (hb hby d1_13) rfl ?_
  refine g_istore (l' := #[.val (.ref b), .val (.double x0), .second, .val (.double x0), .second, .val (.ref b), .val (.int (1 : Int32)), .unset, .unset, .unset]) X0 hx 16 (hb hby d1_14) rfl rfl ?_
  refine g_iconst X0 hx (0 : Int32) 17 (hb hby d1_16) rfl (by decide) ?_
  refine g_istore (l' := #[.val (.ref b), .val (.double x0), .second, .val (.double x0), .second, .val (.ref b), .val (.int (1 : Int32)), .val (.int (0 : Int32)), .unset, .unset]) X0 hx 19 (hb hby d1_17) rfl rfl ?_
  refine g_iload X0 hx 21 (hb hby d1_19) rfl rfl ?_
  refine g_iload X0 hx 23 (hb hby d1_21) rfl rfl ?_
  have ll99 : ((1 : Int32) : Int32).toInt = 1 := by decide
  have ll100 : ((0 : Int32) : Int32).toInt = 0 := by decide
  refine g_ic_ge X0 hx 53 26 (hb hby d1_23) (by decide) (by decide) rfl (fun c98 => ?_) (fun c98 => ?_)
  · skip
    exfalso; revert c98; decide
  · skip
    refine g_aload X0 hx 28 (hb hby d1_26) rfl rfl rfl ?_
    refine g_iload X0 hx 30 (hb hby d1_28) rfl rfl ?_
    refine g_daload X0 hx hZ e0 Vb (by decide) (by decide) (by rw [show ((0 : Int32) : Int32).toNatClampNeg = 0 by decide] <;> rfl) 31 (hb hby d1_30) rfl ?_
    refine g_dstore (l' := #[.val (.ref b), .val (.double x0), .second, .val (.double x0), .second, .val (.ref b), .val (.int (1 : Int32)), .val (.int (0 : Int32)), .val (.double x0), .second]) X0 hx 33 (hb hby d1_31) rfl rfl ?_
    refine g_dloadN X0 hx 34 (hb hby d1_33) rfl rfl ?_
    refine g_dload X0 hx 36 (hb hby d1_34) rfl rfl ?_
    obtain ⟨m1, A1, a1, a2, a3⟩ := own_minE h_x0 h_x0
    have M1 := own_minS (own_min1 i_x0) a1 a2 a3
    clear a1 a2 a3
    obtain ⟨w1, B1, a1, a2, a3⟩ := own_maxE h_x0 h_x0
    have W1 := own_maxS (own_max1 i_x0) a1 a2 a3
    clear a1 a2 a3
    refine g_minD X0 hx hZ hown (hw _ (List.mem_of_getElem? (i := 5) rfl)) (hw _ (List.mem_of_getElem? (i := 6) rfl)) (hw _ (List.mem_of_getElem? (i := 7) rfl)) (hw _ (List.mem_of_getElem? (i := 8) rfl)) rfl e0 (own_dnn h_x0) (own_dnn h_x0) (r := (Jvm.Native.java_lang_Math.nans.pick64 false x0 x0)) rfl 0 39 (hb hby d1_36) rfl (by rw [hml]; rfl) (Nat.le_refl _) (by decide) (by decide) (by decide) (by decide) own_pd1 ?_
    intro T101 X101 e101
    refine g_dstoreN (l' := #[.val (.ref b), .val (.double (Jvm.Native.java_lang_Math.nans.pick64 false x0 x0)), .second, .val (.double x0), .second, .val (.ref b), .val (.int (1 : Int32)), .val (.int (0 : Int32)), .val (.double x0), .second]) X101 hx 40 (hb hby d1_39) rfl rfl ?_
    refine g_dloadN X101 hx 41 (hb hby d1_40) rfl rfl ?_
    refine g_dload X101 hx 43 (hb hby d1_41) rfl rfl ?_
    refine g_maxD X101 hx hZ hown (hw _ (List.mem_of_getElem? (i := 9) rfl)) (hw _ (List.mem_of_getElem? (i := 10) rfl)) (hw _ (List.mem_of_getElem? (i := 7) rfl)) (hw _ (List.mem_of_getElem? (i := 11) rfl)) rfl e101 (own_dnn h_x0) (own_dnn h_x0) (r := (Jvm.Native.java_lang_Math.nans.pick64 true x0 x0)) rfl 0 46 (hb hby d1_43) rfl (by rw [hml]; rfl) (Nat.le_refl _) (by decide) (by decide) (by decide) (by decide) own_pd1 ?_
    intro T102 X102 e102
    refine g_dstoreN (l' := #[.val (.ref b), .val (.double (Jvm.Native.java_lang_Math.nans.pick64 false x0 x0)), .second, .val (.double (Jvm.Native.java_lang_Math.nans.pick64 true x0 x0)), .second, .val (.ref b), .val (.int (1 : Int32)), .val (.int (0 : Int32)), .val (.double x0), .second]) X102 hx 47 (hb hby d1_46) rfl rfl ?_
    generalize hgx0 : (Jvm.Native.java_lang_Math.nans.pick64 true x0 x0) = gx0
    generalize hgn0 : (Jvm.Native.java_lang_Math.nans.pick64 false x0 x0) = gn0
    rw [hgn0] at A1
    rw [hgx0] at B1
    refine g_iinc (w := (1 : Int32)) (l' := #[.val (.ref b), .val (.double gn0), .second, .val (.double gx0), .second, .val (.ref b), .val (.int (1 : Int32)), .val (.int ((0 : Int32) + (1 : Int32))), .val (.double x0), .second]) X102 hx 50 (hb hby d1_47) rfl rfl (by decide) rfl ?_
    refine g_goto X102 hx 19 (hb hby d1_50) (by decide) (by decide) ?_
    refine g_iload X102 hx 21 (hb hby d1_19) rfl rfl ?_
    refine g_iload X102 hx 23 (hb hby d1_21) rfl rfl ?_
    have ll104 : ((1 : Int32) : Int32).toInt = 1 := by decide
    have ll105 : (((0 : Int32) + (1 : Int32)) : Int32).toInt = 1 := by decide
    refine g_ic_ge X102 hx 53 26 (hb hby d1_23) (by decide) (by decide) rfl (fun c103 => ?_) (fun c103 => ?_)
    · skip
      refine g_new X102 hx hZ hown (hw _ (List.mem_of_getElem? (i := 12) rfl)) (hw _ (List.mem_of_getElem? (i := 13) rfl)) (hw _ (List.mem_of_getElem? (i := 3) rfl)) e102 56 (hb hby d1_53) rfl (by decide) (by decide) ?_
      intro T106 h106 a106 g106 X106 e106 E106 A106 D106
      have ne107 : b ≠ a106 := Nat.ne_of_lt (by rw [g106]; exact Vb.lt)
      have ge108 : n0 ≤ a106 := by rw [g106]; exact Z0
      have sz109 : h0.size ≤ a106 := by rw [g106]; exact (Keep.refl h0 []).1
      have F110 := Vb.ext E106
      have K111 := (Keep.refl h0 []).ext E106
      have Z112 : n0 ≤ h106.size := Nat.le_trans Z0 E106.1
      have F113 : Fld Z h106 a106 "com/example/recolecta/recolecta/Bins" "min" "D" (.double (0 : UInt64)) := D106 (Or.inr (hw _ (List.mem_of_getElem? (i := 24) rfl))) (ty := .double) (by decide)
      have F114 : Fld Z h106 a106 "com/example/recolecta/recolecta/Bins" "max" "D" (.double (0 : UInt64)) := D106 (Or.inr (hw _ (List.mem_of_getElem? (i := 26) rfl))) (ty := .double) (by decide)
      have F115 : Fld Z h106 a106 "com/example/recolecta/recolecta/Bins" "count" "I" (.int (0 : Int32)) := D106 (Or.inr (hw _ (List.mem_of_getElem? (i := 28) rfl))) (ty := .int) (by decide)
      refine g_dup X106 hx 57 (hb hby d1_56) rfl rfl ?_
      refine g_dloadN X106 hx 58 (hb hby d1_57) rfl rfl ?_
      refine g_dloadN X106 hx 59 (hb hby d1_58) rfl rfl ?_
      refine g_aloadN X106 hx 60 (hb hby d1_59) rfl rfl rfl ?_
      refine g_len X106 hx hZ e106 F110 61 (hb hby d1_60) rfl ?_
      refine g_dloadN X106 hx 62 (hb hby d1_61) rfl rfl ?_
      refine g_dloadN X106 hx 63 (hb hby d1_62) rfl rfl ?_
      have dn := A1
      have dx := B1
      have le := own_mm M1 W1
      refine g_static X106 hx hZ hown (hw _ (List.mem_of_getElem? (i := 14) rfl)) (hw _ (List.mem_of_getElem? (i := 15) rfl)) (hw _ (List.mem_of_getElem? (i := 3) rfl)) (hw _ (List.mem_of_getElem? (i := 16) rfl)) (by decide) (rmC l Z a0 hw 1 gn0 gx0 h106 n0 Z112 m1 w1 (Jvm.FP.Core.dcmp_int dn dx) (by decide)) e106 (argsL := [(.int (1 : Int32)), (.double gn0), (.double gx0)]) (rest := [(.double gx0), (.double gn0), (.ref a106), (.ref a106)]) rfl rfl 6 66 rfl (by rw [hml]; rfl) (lenOf own_pd2 rfl) (Nat.le_refl _) (by decide) (by decide) (by decide) (by decide) (hb hby d1_63) ?_
      intro v116 T116 L116 X116 hQ116
      obtain ⟨r, rfl, N116, q116, r1, r2⟩ := hQ116
      have N117 := Fr.app N0 N116
      show Go p e below _ T116 (mkF m 66 #[.val (.ref b), .val (.double gn0), .second, .val (.double gx0), .second, .val (.ref b), .val (.int (1 : Int32)), .val (.int ((0 : Int32) + (1 : Int32))), .val (.double x0), .second] [(.int r), (.double gx0), (.double gn0), (.ref a106), (.ref a106)])
      refine g_init X116 hx hZ rfl hown (hw _ (List.mem_of_getElem? (i := 17) rfl)) (hw _ (List.mem_of_getElem? (i := 18) rfl)) (hw _ (List.mem_of_getElem? (i := 3) rfl)) (hw _ (List.mem_of_getElem? (i := 19) rfl)) (by decide) (rm5 l Z a0 hw a106 gn0 gx0 r h106 n0 Z112 m1 w1 (Jvm.FP.Core.dcmp_int dn dx) le A106 ge108 F113 F114 F115) q116 (a := a106) (argsL := [(.double gn0), (.double gx0), (.int r)]) (rest := [(.ref a106)]) rfl rfl 1 69 rfl (by rw [hml]; rfl) (lenOf own_pd3 rfl) (Nat.le_refl _) (by decide) (by decide) (by decide) (by decide) (hb hby d1_66) ?_
      intro v118 T118 L118 X118 hQ118
      obtain ⟨rfl, N118, K118, F1118, F2118, F3118⟩ := hQ118
      have N119 := Fr.app N117 N118
      have F120 := F110.keep K118 (ninS ne107 nin0)
      have F121 := A106.keep K118
      have Z125 : n0 ≤ T118.heap.size := Nat.le_trans Z112 K118.1
      have K126 := K111.trans K118 (allS (Or.inr sz109) all0)
      show Go p e below _ T118 (mkF m 69 #[.val (.ref b), .val (.double gn0), .second, .val (.double gx0), .second, .val (.ref b), .val (.int (1 : Int32)), .val (.int ((0 : Int32) + (1 : Int32))), .val (.double x0), .second] [(.ref a106)])
      exact g_retA X118 hx hlk hret rfl rfl rfl (hb hby d1_69) (by decide) (by decide) rfl ⟨a106, rfl, N119, ge108, K126, F121, gn0, gx0, r, m1, w1, F1118, F2118, F3118, dn, dx, M1, W1, r1, r2⟩
    · skip
      exfalso; revert c103; decide
def Q_rm1_2 (Z : State) (i_x0 : Int) (i_x1 : Int) (n0 : Nat) (h0 : Heap) (v : Option Value) (h : Heap) (L : List Loc) : Prop := ∃ a : Addr, v = some (.ref a) ∧ Fr n0 L ∧ n0 ≤ a ∧ Keep h0 h [] ∧ Exa Z h a "com/example/recolecta/recolecta/Bins" ∧ ∃ (lo hi : UInt64) (r : Int32) (mi ma : Int), Fld Z h a "com/example/recolecta/recolecta/Bins" "min" "D" (.double lo) ∧ Fld Z h a "com/example/recolecta/recolecta/Bins" "max" "D" (.double hi) ∧ Fld Z h a "com/example/recolecta/recolecta/Bins" "count" "I" (.int r) ∧ Jvm.FP.Core.DInt mi lo ∧ Jvm.FP.Core.DInt ma hi ∧ IsMin mi [i_x1, i_x0, i_x0] ∧ IsMax ma [i_x1, i_x0, i_x0] ∧ (mi = ma → r.toInt = 1) ∧ (mi ≠ ma → CntIs (2 : Int32).toInt r.toInt)
theorem ef_rm1_2 (b : Addr) (m : MethodId) : entryFrame m #[(.ref b)] 10 = mkF m 0 #[.val (.ref b), .unset, .unset, .unset, .unset, .unset, .unset, .unset, .unset, .unset] [] := by first | (simp [entryFrame, mkF, argsToLocals, Value.category]; done) | rfl
set_option maxRecDepth 65536 in
set_option maxHeartbeats 40000000 in
theorem rm1_2 (l : Launch) (Z : State) (a0 : Array Value) (hw : ∀ d ∈ tables_1, d.before a0 Z = true) (b : Addr) (h0 : Heap) (n0 : Nat) (Z0 : n0 ≤ h0.size) (kb : ClassId) (x0 : UInt64) (i_x0 : Int) (h_x0 : Jvm.FP.Core.DInt i_x0 x0) (x1 : UInt64) (i_x1 : Int) (h_x1 : Jvm.FP.Core.DInt i_x1 x1) (Vb : Arv Z h0 b kb .double 2 [.double x0, .double x1] (.double 0)) :
    MetFree l (⟨"com/example/recolecta/recolecta/Bins", "over", "([D)Lcom/example/recolecta/recolecta/Bins;"⟩ : MethodName) (head1 [Jvm.Cond.code (⟨"com/example/recolecta/recolecta/Bins", "over", "([D)Lcom/example/recolecta/recolecta/Bins;"⟩ : MethodName) prog_6_method_2_code 10 (some (.object "com/example/recolecta/recolecta/Bins"))] ({ frames := 2, cells := 1, slots := 3, locals := 48 } : Room)) (fun as_ U => as_ = #[(.ref b)] ∧ Z.Warmed39 U.vm ∧ U.heap = h0) (fun _ _ _ _ _ => True) (fun _ U o U' => ∃ v L, o = .returned v ∧ Q_rm1_2 Z i_x0 i_x1 n0 h0 v U'.heap L ∧ FrameEnd U o U' L ({ frames := 2, cells := 1, slots := 3, locals := 48 } : Room).cells ({ frames := 2, cells := 1, slots := 3, locals := 48 } : Room).slots) := by
  refine own_met own_pf8 (ef_rm1_2 b) ?_
  intro p e s m below meth c T0 X0 hx hby hml hret hlk hnm hown hZ e0
  have N0 := Fr.nil n0
  refine g_aloadN X0 hx 1 (hb hby d1_0) rfl rfl rfl ?_
  refine g_iconst X0 hx (0 : Int32) 2 (hb hby d1_1) rfl (by decide) ?_
  refine g_daload X0 hx hZ e0 Vb (by decide) (by decide) (by rw [show ((0 : Int32) : Int32).toNatClampNeg = 0 by decide] <;> rfl) 3 (hb hby d1_2) rfl ?_
  refine g_dstoreN (l' := #[.val (.ref b), .val (.double x0), .second, .unset, .unset, .unset, .unset, .unset, .unset, .unset]) X0 hx 4 (hb hby d1_3) rfl rfl ?_
  refine g_aloadN X0 hx 5 (hb hby d1_4) rfl rfl rfl ?_
  refine g_iconst X0 hx (0 : Int32) 6 (hb hby d1_5) rfl (by decide) ?_
  refine g_daload X0 hx hZ e0 Vb (by decide) (by decide) (by rw [show ((0 : Int32) : Int32).toNatClampNeg = 0 by decide] <;> rfl) 7 (hb hby d1_6) rfl ?_
  refine g_dstoreN (l' := #[.val (.ref b), .val (.double x0), .second, .val (.double x0), .second, .unset, .unset, .unset, .unset, .unset]) X0 hx 8 (hb hby d1_7) rfl rfl ?_
  refine g_aloadN X0 hx 9 (hb hby d1_8) rfl rfl rfl ?_
  refine g_astore (l' := #[.val (.ref b), .val (.double x0), .second, .val (.double x0), .second, .val (.ref b), .unset, .unset, .unset, .unset]) X0 hx 11 (hb hby d1_9) rfl rfl rfl ?_
  refine g_aload X0 hx 13 (hb hby d1_11) rfl rfl rfl ?_
  refine g_len X0 hx hZ e0 Vb 14 (hb hby d1_13) rfl ?_
  refine g_istore (l' := #[.val (.ref b), .val (.double x0), .second, .val (.double x0), .second, .val (.ref b), .val (.int (2 : Int32)), .unset, .unset, .unset]) X0 hx 16 (hb hby d1_14) rfl rfl ?_
  refine g_iconst X0 hx (0 : Int32) 17 (hb hby d1_16) rfl (by decide) ?_
  refine g_istore (l' := #[.val (.ref b), .val (.double x0), .second, .val (.double x0), .second, .val (.ref b), .val (.int (2 : Int32)), .val (.int (0 : Int32)), .unset, .unset]) X0 hx 19 (hb hby d1_17) rfl rfl ?_
  refine g_iload X0 hx 21 (hb hby d1_19) rfl rfl ?_
  refine g_iload X0 hx 23 (hb hby d1_21) rfl rfl ?_
  have ll128 : ((2 : Int32) : Int32).toInt = 2 := by decide
  have ll129 : ((0 : Int32) : Int32).toInt = 0 := by decide
  refine g_ic_ge X0 hx 53 26 (hb hby d1_23) (by decide) (by decide) rfl (fun c127 => ?_) (fun c127 => ?_)
  · skip
    exfalso; revert c127; decide
  · skip
    refine g_aload X0 hx 28 (hb hby d1_26) rfl rfl rfl ?_
    refine g_iload X0 hx 30 (hb hby d1_28) rfl rfl ?_
    refine g_daload X0 hx hZ e0 Vb (by decide) (by decide) (by rw [show ((0 : Int32) : Int32).toNatClampNeg = 0 by decide] <;> rfl) 31 (hb hby d1_30) rfl ?_
    refine g_dstore (l' := #[.val (.ref b), .val (.double x0), .second, .val (.double x0), .second, .val (.ref b), .val (.int (2 : Int32)), .val (.int (0 : Int32)), .val (.double x0), .second]) X0 hx 33 (hb hby d1_31) rfl rfl ?_
    refine g_dloadN X0 hx 34 (hb hby d1_33) rfl rfl ?_
    refine g_dload X0 hx 36 (hb hby d1_34) rfl rfl ?_
    obtain ⟨m1, A1, a1, a2, a3⟩ := own_minE h_x0 h_x0
    have M1 := own_minS (own_min1 i_x0) a1 a2 a3
    clear a1 a2 a3
    obtain ⟨w1, B1, a1, a2, a3⟩ := own_maxE h_x0 h_x0
    have W1 := own_maxS (own_max1 i_x0) a1 a2 a3
    clear a1 a2 a3
    refine g_minD X0 hx hZ hown (hw _ (List.mem_of_getElem? (i := 5) rfl)) (hw _ (List.mem_of_getElem? (i := 6) rfl)) (hw _ (List.mem_of_getElem? (i := 7) rfl)) (hw _ (List.mem_of_getElem? (i := 8) rfl)) rfl e0 (own_dnn h_x0) (own_dnn h_x0) (r := (Jvm.Native.java_lang_Math.nans.pick64 false x0 x0)) rfl 0 39 (hb hby d1_36) rfl (by rw [hml]; rfl) (Nat.le_refl _) (by decide) (by decide) (by decide) (by decide) own_pd1 ?_
    intro T130 X130 e130
    refine g_dstoreN (l' := #[.val (.ref b), .val (.double (Jvm.Native.java_lang_Math.nans.pick64 false x0 x0)), .second, .val (.double x0), .second, .val (.ref b), .val (.int (2 : Int32)), .val (.int (0 : Int32)), .val (.double x0), .second]) X130 hx 40 (hb hby d1_39) rfl rfl ?_
    refine g_dloadN X130 hx 41 (hb hby d1_40) rfl rfl ?_
    refine g_dload X130 hx 43 (hb hby d1_41) rfl rfl ?_
    refine g_maxD X130 hx hZ hown (hw _ (List.mem_of_getElem? (i := 9) rfl)) (hw _ (List.mem_of_getElem? (i := 10) rfl)) (hw _ (List.mem_of_getElem? (i := 7) rfl)) (hw _ (List.mem_of_getElem? (i := 11) rfl)) rfl e130 (own_dnn h_x0) (own_dnn h_x0) (r := (Jvm.Native.java_lang_Math.nans.pick64 true x0 x0)) rfl 0 46 (hb hby d1_43) rfl (by rw [hml]; rfl) (Nat.le_refl _) (by decide) (by decide) (by decide) (by decide) own_pd1 ?_
    intro T131 X131 e131
    refine g_dstoreN (l' := #[.val (.ref b), .val (.double (Jvm.Native.java_lang_Math.nans.pick64 false x0 x0)), .second, .val (.double (Jvm.Native.java_lang_Math.nans.pick64 true x0 x0)), .second, .val (.ref b), .val (.int (2 : Int32)), .val (.int (0 : Int32)), .val (.double x0), .second]) X131 hx 47 (hb hby d1_46) rfl rfl ?_
    generalize hgx0 : (Jvm.Native.java_lang_Math.nans.pick64 true x0 x0) = gx0
    generalize hgn0 : (Jvm.Native.java_lang_Math.nans.pick64 false x0 x0) = gn0
    rw [hgn0] at A1
    rw [hgx0] at B1
    refine g_iinc (w := (1 : Int32)) (l' := #[.val (.ref b), .val (.double gn0), .second, .val (.double gx0), .second, .val (.ref b), .val (.int (2 : Int32)), .val (.int ((0 : Int32) + (1 : Int32))), .val (.double x0), .second]) X131 hx 50 (hb hby d1_47) rfl rfl (by decide) rfl ?_
    refine g_goto X131 hx 19 (hb hby d1_50) (by decide) (by decide) ?_
    refine g_iload X131 hx 21 (hb hby d1_19) rfl rfl ?_
    refine g_iload X131 hx 23 (hb hby d1_21) rfl rfl ?_
    have ll133 : ((2 : Int32) : Int32).toInt = 2 := by decide
    have ll134 : (((0 : Int32) + (1 : Int32)) : Int32).toInt = 1 := by decide
    refine g_ic_ge X131 hx 53 26 (hb hby d1_23) (by decide) (by decide) rfl (fun c132 => ?_) (fun c132 => ?_)
    · skip
      exfalso; revert c132; decide
    · skip
      refine g_aload X131 hx 28 (hb hby d1_26) rfl rfl rfl ?_
      refine g_iload X131 hx 30 (hb hby d1_28) rfl rfl ?_
      refine g_daload X131 hx hZ e131 Vb (by decide) (by decide) (by rw [show (((0 : Int32) + (1 : Int32)) : Int32).toNatClampNeg = 1 by decide] <;> rfl) 31 (hb hby d1_30) rfl ?_
      refine g_dstore (l' := #[.val (.ref b), .val (.double gn0), .second, .val (.double gx0), .second, .val (.ref b), .val (.int (2 : Int32)), .val (.int ((0 : Int32) + (1 : Int32))), .val (.double x1), .second]) X131 hx 33 (hb hby d1_31) rfl rfl ?_
      refine g_dloadN X131 hx 34 (hb hby d1_33) rfl rfl ?_
      refine g_dload X131 hx 36 (hb hby d1_34) rfl rfl ?_
      obtain ⟨m2, A2, a1, a2, a3⟩ := own_minE A1 h_x1
      have M2 := own_minS M1 a1 a2 a3
      clear a1 a2 a3
      obtain ⟨w2, B2, a1, a2, a3⟩ := own_maxE B1 h_x1
      have W2 := own_maxS W1 a1 a2 a3
      clear a1 a2 a3
      refine g_minD X131 hx hZ hown (hw _ (List.mem_of_getElem? (i := 5) rfl)) (hw _ (List.mem_of_getElem? (i := 6) rfl)) (hw _ (List.mem_of_getElem? (i := 7) rfl)) (hw _ (List.mem_of_getElem? (i := 8) rfl)) rfl e131 (own_dnn A1) (own_dnn h_x1) (r := (Jvm.Native.java_lang_Math.nans.pick64 false gn0 x1)) rfl 0 39 (hb hby d1_36) rfl (by rw [hml]; rfl) (Nat.le_refl _) (by decide) (by decide) (by decide) (by decide) own_pd1 ?_
      intro T135 X135 e135
      refine g_dstoreN (l' := #[.val (.ref b), .val (.double (Jvm.Native.java_lang_Math.nans.pick64 false gn0 x1)), .second, .val (.double gx0), .second, .val (.ref b), .val (.int (2 : Int32)), .val (.int ((0 : Int32) + (1 : Int32))), .val (.double x1), .second]) X135 hx 40 (hb hby d1_39) rfl rfl ?_
      refine g_dloadN X135 hx 41 (hb hby d1_40) rfl rfl ?_
      refine g_dload X135 hx 43 (hb hby d1_41) rfl rfl ?_
      refine g_maxD X135 hx hZ hown (hw _ (List.mem_of_getElem? (i := 9) rfl)) (hw _ (List.mem_of_getElem? (i := 10) rfl)) (hw _ (List.mem_of_getElem? (i := 7) rfl)) (hw _ (List.mem_of_getElem? (i := 11) rfl)) rfl e135 (own_dnn B1) (own_dnn h_x1) (r := (Jvm.Native.java_lang_Math.nans.pick64 true gx0 x1)) rfl 0 46 (hb hby d1_43) rfl (by rw [hml]; rfl) (Nat.le_refl _) (by decide) (by decide) (by decide) (by decide) own_pd1 ?_
      intro T136 X136 e136
      refine g_dstoreN (l' := #[.val (.ref b), .val (.double (Jvm.Native.java_lang_Math.nans.pick64 false gn0 x1)), .second, .val (.double (Jvm.Native.java_lang_Math.nans.pick64 true gx0 x1)), .second, .val (.ref b), .val (.int (2 : Int32)), .val (.int ((0 : Int32) + (1 : Int32))), .val (.double x1), .second]) X136 hx 47 (hb hby d1_46) rfl rfl ?_
      generalize hgx1 : (Jvm.Native.java_lang_Math.nans.pick64 true gx0 x1) = gx1
      generalize hgn1 : (Jvm.Native.java_lang_Math.nans.pick64 false gn0 x1) = gn1
      rw [hgn1] at A2
      rw [hgx1] at B2
      refine g_iinc (w := (1 : Int32)) (l' := #[.val (.ref b), .val (.double gn1), .second, .val (.double gx1), .second, .val (.ref b), .val (.int (2 : Int32)), .val (.int (((0 : Int32) + (1 : Int32)) + (1 : Int32))), .val (.double x1), .second]) X136 hx 50 (hb hby d1_47) rfl rfl (by decide) rfl ?_
      refine g_goto X136 hx 19 (hb hby d1_50) (by decide) (by decide) ?_
      refine g_iload X136 hx 21 (hb hby d1_19) rfl rfl ?_
      refine g_iload X136 hx 23 (hb hby d1_21) rfl rfl ?_
      have ll138 : ((2 : Int32) : Int32).toInt = 2 := by decide
      have ll139 : ((((0 : Int32) + (1 : Int32)) + (1 : Int32)) : Int32).toInt = 2 := by decide
      refine g_ic_ge X136 hx 53 26 (hb hby d1_23) (by decide) (by decide) rfl (fun c137 => ?_) (fun c137 => ?_)
      · skip
        refine g_new X136 hx hZ hown (hw _ (List.mem_of_getElem? (i := 12) rfl)) (hw _ (List.mem_of_getElem? (i := 13) rfl)) (hw _ (List.mem_of_getElem? (i := 3) rfl)) e136 56 (hb hby d1_53) rfl (by decide) (by decide) ?_
        intro T140 h140 a140 g140 X140 e140 E140 A140 D140
        have ne141 : b ≠ a140 := Nat.ne_of_lt (by rw [g140]; exact Vb.lt)
        have ge142 : n0 ≤ a140 := by rw [g140]; exact Z0
        have sz143 : h0.size ≤ a140 := by rw [g140]; exact (Keep.refl h0 []).1
        have F144 := Vb.ext E140
        have K145 := (Keep.refl h0 []).ext E140
        have Z146 : n0 ≤ h140.size := Nat.le_trans Z0 E140.1
        have F147 : Fld Z h140 a140 "com/example/recolecta/recolecta/Bins" "min" "D" (.double (0 : UInt64)) := D140 (Or.inr (hw _ (List.mem_of_getElem? (i := 24) rfl))) (ty := .double) (by decide)
        have F148 : Fld Z h140 a140 "com/example/recolecta/recolecta/Bins" "max" "D" (.double (0 : UInt64)) := D140 (Or.inr (hw _ (List.mem_of_getElem? (i := 26) rfl))) (ty := .double) (by decide)
        have F149 : Fld Z h140 a140 "com/example/recolecta/recolecta/Bins" "count" "I" (.int (0 : Int32)) := D140 (Or.inr (hw _ (List.mem_of_getElem? (i := 28) rfl))) (ty := .int) (by decide)
        refine g_dup X140 hx 57 (hb hby d1_56) rfl rfl ?_
        refine g_dloadN X140 hx 58 (hb hby d1_57) rfl rfl ?_
        refine g_dloadN X140 hx 59 (hb hby d1_58) rfl rfl ?_
        refine g_aloadN X140 hx 60 (hb hby d1_59) rfl rfl rfl ?_
        refine g_len X140 hx hZ e140 F144 61 (hb hby d1_60) rfl ?_
        refine g_dloadN X140 hx 62 (hb hby d1_61) rfl rfl ?_
        refine g_dloadN X140 hx 63 (hb hby d1_62) rfl rfl ?_
        have dn := A2
        have dx := B2
        have le := own_mm M2 W2
        refine g_static X140 hx hZ hown (hw _ (List.mem_of_getElem? (i := 14) rfl)) (hw _ (List.mem_of_getElem? (i := 15) rfl)) (hw _ (List.mem_of_getElem? (i := 3) rfl)) (hw _ (List.mem_of_getElem? (i := 16) rfl)) (by decide) (rmC l Z a0 hw 2 gn1 gx1 h140 n0 Z146 m2 w2 (Jvm.FP.Core.dcmp_int dn dx) (by decide)) e140 (argsL := [(.int (2 : Int32)), (.double gn1), (.double gx1)]) (rest := [(.double gx1), (.double gn1), (.ref a140), (.ref a140)]) rfl rfl 6 66 rfl (by rw [hml]; rfl) (lenOf own_pd2 rfl) (Nat.le_refl _) (by decide) (by decide) (by decide) (by decide) (hb hby d1_63) ?_
        intro v150 T150 L150 X150 hQ150
        obtain ⟨r, rfl, N150, q150, r1, r2⟩ := hQ150
        have N151 := Fr.app N0 N150
        show Go p e below _ T150 (mkF m 66 #[.val (.ref b), .val (.double gn1), .second, .val (.double gx1), .second, .val (.ref b), .val (.int (2 : Int32)), .val (.int (((0 : Int32) + (1 : Int32)) + (1 : Int32))), .val (.double x1), .second] [(.int r), (.double gx1), (.double gn1), (.ref a140), (.ref a140)])
        refine g_init X150 hx hZ rfl hown (hw _ (List.mem_of_getElem? (i := 17) rfl)) (hw _ (List.mem_of_getElem? (i := 18) rfl)) (hw _ (List.mem_of_getElem? (i := 3) rfl)) (hw _ (List.mem_of_getElem? (i := 19) rfl)) (by decide) (rm5 l Z a0 hw a140 gn1 gx1 r h140 n0 Z146 m2 w2 (Jvm.FP.Core.dcmp_int dn dx) le A140 ge142 F147 F148 F149) q150 (a := a140) (argsL := [(.double gn1), (.double gx1), (.int r)]) (rest := [(.ref a140)]) rfl rfl 1 69 rfl (by rw [hml]; rfl) (lenOf own_pd3 rfl) (Nat.le_refl _) (by decide) (by decide) (by decide) (by decide) (hb hby d1_66) ?_
        intro v152 T152 L152 X152 hQ152
        obtain ⟨rfl, N152, K152, F1152, F2152, F3152⟩ := hQ152
        have N153 := Fr.app N151 N152
        have F154 := F144.keep K152 (ninS ne141 nin0)
        have F155 := A140.keep K152
        have Z159 : n0 ≤ T152.heap.size := Nat.le_trans Z146 K152.1
        have K160 := K145.trans K152 (allS (Or.inr sz143) all0)
        show Go p e below _ T152 (mkF m 69 #[.val (.ref b), .val (.double gn1), .second, .val (.double gx1), .second, .val (.ref b), .val (.int (2 : Int32)), .val (.int (((0 : Int32) + (1 : Int32)) + (1 : Int32))), .val (.double x1), .second] [(.ref a140)])
        exact g_retA X152 hx hlk hret rfl rfl rfl (hb hby d1_69) (by decide) (by decide) rfl ⟨a140, rfl, N153, ge142, K160, F155, gn1, gx1, r, m2, w2, F1152, F2152, F3152, dn, dx, M2, W2, r1, r2⟩
      · skip
        exfalso; revert c137; decide
def Q_rm1_3 (Z : State) (i_x0 : Int) (i_x1 : Int) (i_x2 : Int) (n0 : Nat) (h0 : Heap) (v : Option Value) (h : Heap) (L : List Loc) : Prop := ∃ a : Addr, v = some (.ref a) ∧ Fr n0 L ∧ n0 ≤ a ∧ Keep h0 h [] ∧ Exa Z h a "com/example/recolecta/recolecta/Bins" ∧ ∃ (lo hi : UInt64) (r : Int32) (mi ma : Int), Fld Z h a "com/example/recolecta/recolecta/Bins" "min" "D" (.double lo) ∧ Fld Z h a "com/example/recolecta/recolecta/Bins" "max" "D" (.double hi) ∧ Fld Z h a "com/example/recolecta/recolecta/Bins" "count" "I" (.int r) ∧ Jvm.FP.Core.DInt mi lo ∧ Jvm.FP.Core.DInt ma hi ∧ IsMin mi [i_x2, i_x1, i_x0, i_x0] ∧ IsMax ma [i_x2, i_x1, i_x0, i_x0] ∧ (mi = ma → r.toInt = 1) ∧ (mi ≠ ma → CntIs (3 : Int32).toInt r.toInt)
theorem ef_rm1_3 (b : Addr) (m : MethodId) : entryFrame m #[(.ref b)] 10 = mkF m 0 #[.val (.ref b), .unset, .unset, .unset, .unset, .unset, .unset, .unset, .unset, .unset] [] := by first | (simp [entryFrame, mkF, argsToLocals, Value.category]; done) | rfl
set_option maxRecDepth 65536 in
set_option maxHeartbeats 40000000 in
theorem rm1_3 (l : Launch) (Z : State) (a0 : Array Value) (hw : ∀ d ∈ tables_1, d.before a0 Z = true) (b : Addr) (h0 : Heap) (n0 : Nat) (Z0 : n0 ≤ h0.size) (kb : ClassId) (x0 : UInt64) (i_x0 : Int) (h_x0 : Jvm.FP.Core.DInt i_x0 x0) (x1 : UInt64) (i_x1 : Int) (h_x1 : Jvm.FP.Core.DInt i_x1 x1) (x2 : UInt64) (i_x2 : Int) (h_x2 : Jvm.FP.Core.DInt i_x2 x2) (Vb : Arv Z h0 b kb .double 3 [.double x0, .double x1, .double x2] (.double 0)) :
    MetFree l (⟨"com/example/recolecta/recolecta/Bins", "over", "([D)Lcom/example/recolecta/recolecta/Bins;"⟩ : MethodName) (head1 [Jvm.Cond.code (⟨"com/example/recolecta/recolecta/Bins", "over", "([D)Lcom/example/recolecta/recolecta/Bins;"⟩ : MethodName) prog_6_method_2_code 10 (some (.object "com/example/recolecta/recolecta/Bins"))] ({ frames := 2, cells := 1, slots := 3, locals := 48 } : Room)) (fun as_ U => as_ = #[(.ref b)] ∧ Z.Warmed39 U.vm ∧ U.heap = h0) (fun _ _ _ _ _ => True) (fun _ U o U' => ∃ v L, o = .returned v ∧ Q_rm1_3 Z i_x0 i_x1 i_x2 n0 h0 v U'.heap L ∧ FrameEnd U o U' L ({ frames := 2, cells := 1, slots := 3, locals := 48 } : Room).cells ({ frames := 2, cells := 1, slots := 3, locals := 48 } : Room).slots) := by
  refine own_met own_pf8 (ef_rm1_3 b) ?_
  intro p e s m below meth c T0 X0 hx hby hml hret hlk hnm hown hZ e0
  have N0 := Fr.nil n0
  refine g_aloadN X0 hx 1 (hb hby d1_0) rfl rfl rfl ?_
  refine g_iconst X0 hx (0 : Int32) 2 (hb hby d1_1) rfl (by decide) ?_
  refine g_daload X0 hx hZ e0 Vb (by decide) (by decide) (by rw [show ((0 : Int32) : Int32).toNatClampNeg = 0 by decide] <;> rfl) 3 (hb hby d1_2) rfl ?_
  refine g_dstoreN (l' := #[.val (.ref b), .val (.double x0), .second, .unset, .unset, .unset, .unset, .unset, .unset, .unset]) X0 hx 4 (hb hby d1_3) rfl rfl ?_
  refine g_aloadN X0 hx 5 (hb hby d1_4) rfl rfl rfl ?_
  refine g_iconst X0 hx (0 : Int32) 6 (hb hby d1_5) rfl (by decide) ?_
  refine g_daload X0 hx hZ e0 Vb (by decide) (by decide) (by rw [show ((0 : Int32) : Int32).toNatClampNeg = 0 by decide] <;> rfl) 7 (hb hby d1_6) rfl ?_
  refine g_dstoreN (l' := #[.val (.ref b), .val (.double x0), .second, .val (.double x0), .second, .unset, .unset, .unset, .unset, .unset]) X0 hx 8 (hb hby d1_7) rfl rfl ?_
  refine g_aloadN X0 hx 9 (hb hby d1_8) rfl rfl rfl ?_
  refine g_astore (l' := #[.val (.ref b), .val (.double x0), .second, .val (.double x0), .second, .val (.ref b), .unset, .unset, .unset, .unset]) X0 hx 11 (hb hby d1_9) rfl rfl rfl ?_
  refine g_aload X0 hx 13 (hb hby d1_11) rfl rfl rfl ?_
  refine g_len X0 hx hZ e0 Vb 14 (hb hby d1_13) rfl ?_
  refine g_istore (l' := #[.val (.ref b), .val (.double x0), .second, .val (.double x0), .second, .val (.ref b), .val (.int (3 : Int32)), .unset, .unset, .unset]) X0 hx 16 (hb hby d1_14) rfl rfl ?_
  refine g_iconst X0 hx (0 : Int32) 17 (hb hby d1_16) rfl (by decide) ?_
  refine g_istore (l' := #[.val (.ref b), .val (.double x0), .second, .val (.double x0), .second, .val (.ref b), .val (.int (3 : Int32)), .val (.int (0 : Int32)), .unset, .unset]) X0 hx 19 (hb hby d1_17) rfl rfl ?_
  refine g_iload X0 hx 21 (hb hby d1_19) rfl rfl ?_
  refine g_iload X0 hx 23 (hb hby d1_21) rfl rfl ?_
  have ll162 : ((3 : Int32) : Int32).toInt = 3 := by decide
  have ll163 : ((0 : Int32) : Int32).toInt = 0 := by decide
  refine g_ic_ge X0 hx 53 26 (hb hby d1_23) (by decide) (by decide) rfl (fun c161 => ?_) (fun c161 => ?_)
  · skip
    exfalso; revert c161; decide
  · skip
    refine g_aload X0 hx 28 (hb hby d1_26) rfl rfl rfl ?_
    refine g_iload X0 hx 30 (hb hby d1_28) rfl rfl ?_
    refine g_daload X0 hx hZ e0 Vb (by decide) (by decide) (by rw [show ((0 : Int32) : Int32).toNatClampNeg = 0 by decide] <;> rfl) 31 (hb hby d1_30) rfl ?_
    refine g_dstore (l' := #[.val (.ref b), .val (.double x0), .second, .val (.double x0), .second, .val (.ref b), .val (.int (3 : Int32)), .val (.int (0 : Int32)), .val (.double x0), .second]) X0 hx 33 (hb hby d1_31) rfl rfl ?_
    refine g_dloadN X0 hx 34 (hb hby d1_33) rfl rfl ?_
    refine g_dload X0 hx 36 (hb hby d1_34) rfl rfl ?_
    obtain ⟨m1, A1, a1, a2, a3⟩ := own_minE h_x0 h_x0
    have M1 := own_minS (own_min1 i_x0) a1 a2 a3
    clear a1 a2 a3
    obtain ⟨w1, B1, a1, a2, a3⟩ := own_maxE h_x0 h_x0
    have W1 := own_maxS (own_max1 i_x0) a1 a2 a3
    clear a1 a2 a3
    refine g_minD X0 hx hZ hown (hw _ (List.mem_of_getElem? (i := 5) rfl)) (hw _ (List.mem_of_getElem? (i := 6) rfl)) (hw _ (List.mem_of_getElem? (i := 7) rfl)) (hw _ (List.mem_of_getElem? (i := 8) rfl)) rfl e0 (own_dnn h_x0) (own_dnn h_x0) (r := (Jvm.Native.java_lang_Math.nans.pick64 false x0 x0)) rfl 0 39 (hb hby d1_36) rfl (by rw [hml]; rfl) (Nat.le_refl _) (by decide) (by decide) (by decide) (by decide) own_pd1 ?_
    intro T164 X164 e164
    refine g_dstoreN (l' := #[.val (.ref b), .val (.double (Jvm.Native.java_lang_Math.nans.pick64 false x0 x0)), .second, .val (.double x0), .second, .val (.ref b), .val (.int (3 : Int32)), .val (.int (0 : Int32)), .val (.double x0), .second]) X164 hx 40 (hb hby d1_39) rfl rfl ?_
    refine g_dloadN X164 hx 41 (hb hby d1_40) rfl rfl ?_
    refine g_dload X164 hx 43 (hb hby d1_41) rfl rfl ?_
    refine g_maxD X164 hx hZ hown (hw _ (List.mem_of_getElem? (i := 9) rfl)) (hw _ (List.mem_of_getElem? (i := 10) rfl)) (hw _ (List.mem_of_getElem? (i := 7) rfl)) (hw _ (List.mem_of_getElem? (i := 11) rfl)) rfl e164 (own_dnn h_x0) (own_dnn h_x0) (r := (Jvm.Native.java_lang_Math.nans.pick64 true x0 x0)) rfl 0 46 (hb hby d1_43) rfl (by rw [hml]; rfl) (Nat.le_refl _) (by decide) (by decide) (by decide) (by decide) own_pd1 ?_
    intro T165 X165 e165
    refine g_dstoreN (l' := #[.val (.ref b), .val (.double (Jvm.Native.java_lang_Math.nans.pick64 false x0 x0)), .second, .val (.double (Jvm.Native.java_lang_Math.nans.pick64 true x0 x0)), .second, .val (.ref b), .val (.int (3 : Int32)), .val (.int (0 : Int32)), .val (.double x0), .second]) X165 hx 47 (hb hby d1_46) rfl rfl ?_
    generalize hgx0 : (Jvm.Native.java_lang_Math.nans.pick64 true x0 x0) = gx0
    generalize hgn0 : (Jvm.Native.java_lang_Math.nans.pick64 false x0 x0) = gn0
    rw [hgn0] at A1
    rw [hgx0] at B1
    refine g_iinc (w := (1 : Int32)) (l' := #[.val (.ref b), .val (.double gn0), .second, .val (.double gx0), .second, .val (.ref b), .val (.int (3 : Int32)), .val (.int ((0 : Int32) + (1 : Int32))), .val (.double x0), .second]) X165 hx 50 (hb hby d1_47) rfl rfl (by decide) rfl ?_
    refine g_goto X165 hx 19 (hb hby d1_50) (by decide) (by decide) ?_
    refine g_iload X165 hx 21 (hb hby d1_19) rfl rfl ?_
    refine g_iload X165 hx 23 (hb hby d1_21) rfl rfl ?_
    have ll167 : ((3 : Int32) : Int32).toInt = 3 := by decide
    have ll168 : (((0 : Int32) + (1 : Int32)) : Int32).toInt = 1 := by decide
    refine g_ic_ge X165 hx 53 26 (hb hby d1_23) (by decide) (by decide) rfl (fun c166 => ?_) (fun c166 => ?_)
    · skip
      exfalso; revert c166; decide
    · skip
      refine g_aload X165 hx 28 (hb hby d1_26) rfl rfl rfl ?_
      refine g_iload X165 hx 30 (hb hby d1_28) rfl rfl ?_
      refine g_daload X165 hx hZ e165 Vb (by decide) (by decide) (by rw [show (((0 : Int32) + (1 : Int32)) : Int32).toNatClampNeg = 1 by decide] <;> rfl) 31 (hb hby d1_30) rfl ?_
      refine g_dstore (l' := #[.val (.ref b), .val (.double gn0), .second, .val (.double gx0), .second, .val (.ref b), .val (.int (3 : Int32)), .val (.int ((0 : Int32) + (1 : Int32))), .val (.double x1), .second]) X165 hx 33 (hb hby d1_31) rfl rfl ?_
      refine g_dloadN X165 hx 34 (hb hby d1_33) rfl rfl ?_
      refine g_dload X165 hx 36 (hb hby d1_34) rfl rfl ?_
      obtain ⟨m2, A2, a1, a2, a3⟩ := own_minE A1 h_x1
      have M2 := own_minS M1 a1 a2 a3
      clear a1 a2 a3
      obtain ⟨w2, B2, a1, a2, a3⟩ := own_maxE B1 h_x1
      have W2 := own_maxS W1 a1 a2 a3
      clear a1 a2 a3
      refine g_minD X165 hx hZ hown (hw _ (List.mem_of_getElem? (i := 5) rfl)) (hw _ (List.mem_of_getElem? (i := 6) rfl)) (hw _ (List.mem_of_getElem? (i := 7) rfl)) (hw _ (List.mem_of_getElem? (i := 8) rfl)) rfl e165 (own_dnn A1) (own_dnn h_x1) (r := (Jvm.Native.java_lang_Math.nans.pick64 false gn0 x1)) rfl 0 39 (hb hby d1_36) rfl (by rw [hml]; rfl) (Nat.le_refl _) (by decide) (by decide) (by decide) (by decide) own_pd1 ?_
      intro T169 X169 e169
      refine g_dstoreN (l' := #[.val (.ref b), .val (.double (Jvm.Native.java_lang_Math.nans.pick64 false gn0 x1)), .second, .val (.double gx0), .second, .val (.ref b), .val (.int (3 : Int32)), .val (.int ((0 : Int32) + (1 : Int32))), .val (.double x1), .second]) X169 hx 40 (hb hby d1_39) rfl rfl ?_
      refine g_dloadN X169 hx 41 (hb hby d1_40) rfl rfl ?_
      refine g_dload X169 hx 43 (hb hby d1_41) rfl rfl ?_
      refine g_maxD X169 hx hZ hown (hw _ (List.mem_of_getElem? (i := 9) rfl)) (hw _ (List.mem_of_getElem? (i := 10) rfl)) (hw _ (List.mem_of_getElem? (i := 7) rfl)) (hw _ (List.mem_of_getElem? (i := 11) rfl)) rfl e169 (own_dnn B1) (own_dnn h_x1) (r := (Jvm.Native.java_lang_Math.nans.pick64 true gx0 x1)) rfl 0 46 (hb hby d1_43) rfl (by rw [hml]; rfl) (Nat.le_refl _) (by decide) (by decide) (by decide) (by decide) own_pd1 ?_
      intro T170 X170 e170
      refine g_dstoreN (l' := #[.val (.ref b), .val (.double (Jvm.Native.java_lang_Math.nans.pick64 false gn0 x1)), .second, .val (.double (Jvm.Native.java_lang_Math.nans.pick64 true gx0 x1)), .second, .val (.ref b), .val (.int (3 : Int32)), .val (.int ((0 : Int32) + (1 : Int32))), .val (.double x1), .second]) X170 hx 47 (hb hby d1_46) rfl rfl ?_
      generalize hgx1 : (Jvm.Native.java_lang_Math.nans.pick64 true gx0 x1) = gx1
      generalize hgn1 : (Jvm.Native.java_lang_Math.nans.pick64 false gn0 x1) = gn1
      rw [hgn1] at A2
      rw [hgx1] at B2
      refine g_iinc (w := (1 : Int32)) (l' := #[.val (.ref b), .val (.double gn1), .second, .val (.double gx1), .second, .val (.ref b), .val (.int (3 : Int32)), .val (.int (((0 : Int32) + (1 : Int32)) + (1 : Int32))), .val (.double x1), .second]) X170 hx 50 (hb hby d1_47) rfl rfl (by decide) rfl ?_
      refine g_goto X170 hx 19 (hb hby d1_50) (by decide) (by decide) ?_
      refine g_iload X170 hx 21 (hb hby d1_19) rfl rfl ?_
      refine g_iload X170 hx 23 (hb hby d1_21) rfl rfl ?_
      have ll172 : ((3 : Int32) : Int32).toInt = 3 := by decide
      have ll173 : ((((0 : Int32) + (1 : Int32)) + (1 : Int32)) : Int32).toInt = 2 := by decide
      refine g_ic_ge X170 hx 53 26 (hb hby d1_23) (by decide) (by decide) rfl (fun c171 => ?_) (fun c171 => ?_)
      · skip
        exfalso; revert c171; decide
      · skip
        refine g_aload X170 hx 28 (hb hby d1_26) rfl rfl rfl ?_
        refine g_iload X170 hx 30 (hb hby d1_28) rfl rfl ?_
        refine g_daload X170 hx hZ e170 Vb (by decide) (by decide) (by rw [show ((((0 : Int32) + (1 : Int32)) + (1 : Int32)) : Int32).toNatClampNeg = 2 by decide] <;> rfl) 31 (hb hby d1_30) rfl ?_
        refine g_dstore (l' := #[.val (.ref b), .val (.double gn1), .second, .val (.double gx1), .second, .val (.ref b), .val (.int (3 : Int32)), .val (.int (((0 : Int32) + (1 : Int32)) + (1 : Int32))), .val (.double x2), .second]) X170 hx 33 (hb hby d1_31) rfl rfl ?_
        refine g_dloadN X170 hx 34 (hb hby d1_33) rfl rfl ?_
        refine g_dload X170 hx 36 (hb hby d1_34) rfl rfl ?_
        obtain ⟨m3, A3, a1, a2, a3⟩ := own_minE A2 h_x2
        have M3 := own_minS M2 a1 a2 a3
        clear a1 a2 a3
        obtain ⟨w3, B3, a1, a2, a3⟩ := own_maxE B2 h_x2
        have W3 := own_maxS W2 a1 a2 a3
        clear a1 a2 a3
        refine g_minD X170 hx hZ hown (hw _ (List.mem_of_getElem? (i := 5) rfl)) (hw _ (List.mem_of_getElem? (i := 6) rfl)) (hw _ (List.mem_of_getElem? (i := 7) rfl)) (hw _ (List.mem_of_getElem? (i := 8) rfl)) rfl e170 (own_dnn A2) (own_dnn h_x2) (r := (Jvm.Native.java_lang_Math.nans.pick64 false gn1 x2)) rfl 0 39 (hb hby d1_36) rfl (by rw [hml]; rfl) (Nat.le_refl _) (by decide) (by decide) (by decide) (by decide) own_pd1 ?_
        intro T174 X174 e174
        refine g_dstoreN (l' := #[.val (.ref b), .val (.double (Jvm.Native.java_lang_Math.nans.pick64 false gn1 x2)), .second, .val (.double gx1), .second, .val (.ref b), .val (.int (3 : Int32)), .val (.int (((0 : Int32) + (1 : Int32)) + (1 : Int32))), .val (.double x2), .second]) X174 hx 40 (hb hby d1_39) rfl rfl ?_
        refine g_dloadN X174 hx 41 (hb hby d1_40) rfl rfl ?_
        refine g_dload X174 hx 43 (hb hby d1_41) rfl rfl ?_
        refine g_maxD X174 hx hZ hown (hw _ (List.mem_of_getElem? (i := 9) rfl)) (hw _ (List.mem_of_getElem? (i := 10) rfl)) (hw _ (List.mem_of_getElem? (i := 7) rfl)) (hw _ (List.mem_of_getElem? (i := 11) rfl)) rfl e174 (own_dnn B2) (own_dnn h_x2) (r := (Jvm.Native.java_lang_Math.nans.pick64 true gx1 x2)) rfl 0 46 (hb hby d1_43) rfl (by rw [hml]; rfl) (Nat.le_refl _) (by decide) (by decide) (by decide) (by decide) own_pd1 ?_
        intro T175 X175 e175
        refine g_dstoreN (l' := #[.val (.ref b), .val (.double (Jvm.Native.java_lang_Math.nans.pick64 false gn1 x2)), .second, .val (.double (Jvm.Native.java_lang_Math.nans.pick64 true gx1 x2)), .second, .val (.ref b), .val (.int (3 : Int32)), .val (.int (((0 : Int32) + (1 : Int32)) + (1 : Int32))), .val (.double x2), .second]) X175 hx 47 (hb hby d1_46) rfl rfl ?_
        generalize hgx2 : (Jvm.Native.java_lang_Math.nans.pick64 true gx1 x2) = gx2
        generalize hgn2 : (Jvm.Native.java_lang_Math.nans.pick64 false gn1 x2) = gn2
        rw [hgn2] at A3
        rw [hgx2] at B3
        refine g_iinc (w := (1 : Int32)) (l' := #[.val (.ref b), .val (.double gn2), .second, .val (.double gx2), .second, .val (.ref b), .val (.int (3 : Int32)), .val (.int ((((0 : Int32) + (1 : Int32)) + (1 : Int32)) + (1 : Int32))), .val (.double x2), .second]) X175 hx 50 (hb hby d1_47) rfl rfl (by decide) rfl ?_
        refine g_goto X175 hx 19 (hb hby d1_50) (by decide) (by decide) ?_
        refine g_iload X175 hx 21 (hb hby d1_19) rfl rfl ?_
        refine g_iload X175 hx 23 (hb hby d1_21) rfl rfl ?_
        have ll177 : ((3 : Int32) : Int32).toInt = 3 := by decide
        have ll178 : (((((0 : Int32) + (1 : Int32)) + (1 : Int32)) + (1 : Int32)) : Int32).toInt = 3 := by decide
        refine g_ic_ge X175 hx 53 26 (hb hby d1_23) (by decide) (by decide) rfl (fun c176 => ?_) (fun c176 => ?_)
        · skip
          refine g_new X175 hx hZ hown (hw _ (List.mem_of_getElem? (i := 12) rfl)) (hw _ (List.mem_of_getElem? (i := 13) rfl)) (hw _ (List.mem_of_getElem? (i := 3) rfl)) e175 56 (hb hby d1_53) rfl (by decide) (by decide) ?_
          intro T179 h179 a179 g179 X179 e179 E179 A179 D179
          have ne180 : b ≠ a179 := Nat.ne_of_lt (by rw [g179]; exact Vb.lt)
          have ge181 : n0 ≤ a179 := by rw [g179]; exact Z0
          have sz182 : h0.size ≤ a179 := by rw [g179]; exact (Keep.refl h0 []).1
          have F183 := Vb.ext E179
          have K184 := (Keep.refl h0 []).ext E179
          have Z185 : n0 ≤ h179.size := Nat.le_trans Z0 E179.1
          have F186 : Fld Z h179 a179 "com/example/recolecta/recolecta/Bins" "min" "D" (.double (0 : UInt64)) := D179 (Or.inr (hw _ (List.mem_of_getElem? (i := 24) rfl))) (ty := .double) (by decide)
          have F187 : Fld Z h179 a179 "com/example/recolecta/recolecta/Bins" "max" "D" (.double (0 : UInt64)) := D179 (Or.inr (hw _ (List.mem_of_getElem? (i := 26) rfl))) (ty := .double) (by decide)
          have F188 : Fld Z h179 a179 "com/example/recolecta/recolecta/Bins" "count" "I" (.int (0 : Int32)) := D179 (Or.inr (hw _ (List.mem_of_getElem? (i := 28) rfl))) (ty := .int) (by decide)
          refine g_dup X179 hx 57 (hb hby d1_56) rfl rfl ?_
          refine g_dloadN X179 hx 58 (hb hby d1_57) rfl rfl ?_
          refine g_dloadN X179 hx 59 (hb hby d1_58) rfl rfl ?_
          refine g_aloadN X179 hx 60 (hb hby d1_59) rfl rfl rfl ?_
          refine g_len X179 hx hZ e179 F183 61 (hb hby d1_60) rfl ?_
          refine g_dloadN X179 hx 62 (hb hby d1_61) rfl rfl ?_
          refine g_dloadN X179 hx 63 (hb hby d1_62) rfl rfl ?_
          have dn := A3
          have dx := B3
          have le := own_mm M3 W3
          refine g_static X179 hx hZ hown (hw _ (List.mem_of_getElem? (i := 14) rfl)) (hw _ (List.mem_of_getElem? (i := 15) rfl)) (hw _ (List.mem_of_getElem? (i := 3) rfl)) (hw _ (List.mem_of_getElem? (i := 16) rfl)) (by decide) (rmC l Z a0 hw 3 gn2 gx2 h179 n0 Z185 m3 w3 (Jvm.FP.Core.dcmp_int dn dx) (by decide)) e179 (argsL := [(.int (3 : Int32)), (.double gn2), (.double gx2)]) (rest := [(.double gx2), (.double gn2), (.ref a179), (.ref a179)]) rfl rfl 6 66 rfl (by rw [hml]; rfl) (lenOf own_pd2 rfl) (Nat.le_refl _) (by decide) (by decide) (by decide) (by decide) (hb hby d1_63) ?_
          intro v189 T189 L189 X189 hQ189
          obtain ⟨r, rfl, N189, q189, r1, r2⟩ := hQ189
          have N190 := Fr.app N0 N189
          show Go p e below _ T189 (mkF m 66 #[.val (.ref b), .val (.double gn2), .second, .val (.double gx2), .second, .val (.ref b), .val (.int (3 : Int32)), .val (.int ((((0 : Int32) + (1 : Int32)) + (1 : Int32)) + (1 : Int32))), .val (.double x2), .second] [(.int r), (.double gx2), (.double gn2), (.ref a179), (.ref a179)])
          refine g_init X189 hx hZ rfl hown (hw _ (List.mem_of_getElem? (i := 17) rfl)) (hw _ (List.mem_of_getElem? (i := 18) rfl)) (hw _ (List.mem_of_getElem? (i := 3) rfl)) (hw _ (List.mem_of_getElem? (i := 19) rfl)) (by decide) (rm5 l Z a0 hw a179 gn2 gx2 r h179 n0 Z185 m3 w3 (Jvm.FP.Core.dcmp_int dn dx) le A179 ge181 F186 F187 F188) q189 (a := a179) (argsL := [(.double gn2), (.double gx2), (.int r)]) (rest := [(.ref a179)]) rfl rfl 1 69 rfl (by rw [hml]; rfl) (lenOf own_pd3 rfl) (Nat.le_refl _) (by decide) (by decide) (by decide) (by decide) (hb hby d1_66) ?_
          intro v191 T191 L191 X191 hQ191
          obtain ⟨rfl, N191, K191, F1191, F2191, F3191⟩ := hQ191
          have N192 := Fr.app N190 N191
          have F193 := F183.keep K191 (ninS ne180 nin0)
          have F194 := A179.keep K191
          have Z198 : n0 ≤ T191.heap.size := Nat.le_trans Z185 K191.1
          have K199 := K184.trans K191 (allS (Or.inr sz182) all0)
          show Go p e below _ T191 (mkF m 69 #[.val (.ref b), .val (.double gn2), .second, .val (.double gx2), .second, .val (.ref b), .val (.int (3 : Int32)), .val (.int ((((0 : Int32) + (1 : Int32)) + (1 : Int32)) + (1 : Int32))), .val (.double x2), .second] [(.ref a179)])
          exact g_retA X191 hx hlk hret rfl rfl rfl (hb hby d1_69) (by decide) (by decide) rfl ⟨a179, rfl, N192, ge181, K199, F194, gn2, gx2, r, m3, w3, F1191, F2191, F3191, dn, dx, M3, W3, r1, r2⟩
        · skip
          exfalso; revert c176; decide
def Q_rm1_4 (Z : State) (i_x0 : Int) (i_x1 : Int) (i_x2 : Int) (i_x3 : Int) (n0 : Nat) (h0 : Heap) (v : Option Value) (h : Heap) (L : List Loc) : Prop := ∃ a : Addr, v = some (.ref a) ∧ Fr n0 L ∧ n0 ≤ a ∧ Keep h0 h [] ∧ Exa Z h a "com/example/recolecta/recolecta/Bins" ∧ ∃ (lo hi : UInt64) (r : Int32) (mi ma : Int), Fld Z h a "com/example/recolecta/recolecta/Bins" "min" "D" (.double lo) ∧ Fld Z h a "com/example/recolecta/recolecta/Bins" "max" "D" (.double hi) ∧ Fld Z h a "com/example/recolecta/recolecta/Bins" "count" "I" (.int r) ∧ Jvm.FP.Core.DInt mi lo ∧ Jvm.FP.Core.DInt ma hi ∧ IsMin mi [i_x3, i_x2, i_x1, i_x0, i_x0] ∧ IsMax ma [i_x3, i_x2, i_x1, i_x0, i_x0] ∧ (mi = ma → r.toInt = 1) ∧ (mi ≠ ma → CntIs (4 : Int32).toInt r.toInt)
theorem ef_rm1_4 (b : Addr) (m : MethodId) : entryFrame m #[(.ref b)] 10 = mkF m 0 #[.val (.ref b), .unset, .unset, .unset, .unset, .unset, .unset, .unset, .unset, .unset] [] := by first | (simp [entryFrame, mkF, argsToLocals, Value.category]; done) | rfl
set_option maxRecDepth 65536 in
set_option maxHeartbeats 40000000 in
theorem rm1_4 (l : Launch) (Z : State) (a0 : Array Value) (hw : ∀ d ∈ tables_1, d.before a0 Z = true) (b : Addr) (h0 : Heap) (n0 : Nat) (Z0 : n0 ≤ h0.size) (kb : ClassId) (x0 : UInt64) (i_x0 : Int) (h_x0 : Jvm.FP.Core.DInt i_x0 x0) (x1 : UInt64) (i_x1 : Int) (h_x1 : Jvm.FP.Core.DInt i_x1 x1) (x2 : UInt64) (i_x2 : Int) (h_x2 : Jvm.FP.Core.DInt i_x2 x2) (x3 : UInt64) (i_x3 : Int) (h_x3 : Jvm.FP.Core.DInt i_x3 x3) (Vb : Arv Z h0 b kb .double 4 [.double x0, .double x1, .double x2, .double x3] (.double 0)) :
    MetFree l (⟨"com/example/recolecta/recolecta/Bins", "over", "([D)Lcom/example/recolecta/recolecta/Bins;"⟩ : MethodName) (head1 [Jvm.Cond.code (⟨"com/example/recolecta/recolecta/Bins", "over", "([D)Lcom/example/recolecta/recolecta/Bins;"⟩ : MethodName) prog_6_method_2_code 10 (some (.object "com/example/recolecta/recolecta/Bins"))] ({ frames := 2, cells := 1, slots := 3, locals := 48 } : Room)) (fun as_ U => as_ = #[(.ref b)] ∧ Z.Warmed39 U.vm ∧ U.heap = h0) (fun _ _ _ _ _ => True) (fun _ U o U' => ∃ v L, o = .returned v ∧ Q_rm1_4 Z i_x0 i_x1 i_x2 i_x3 n0 h0 v U'.heap L ∧ FrameEnd U o U' L ({ frames := 2, cells := 1, slots := 3, locals := 48 } : Room).cells ({ frames := 2, cells := 1, slots := 3, locals := 48 } : Room).slots) := by
  refine own_met own_pf8 (ef_rm1_4 b) ?_
  intro p e s m below meth c T0 X0 hx hby hml hret hlk hnm hown hZ e0
  have N0 := Fr.nil n0
  refine g_aloadN X0 hx 1 (hb hby d1_0) rfl rfl rfl ?_
  refine g_iconst X0 hx (0 : Int32) 2 (hb hby d1_1) rfl (by decide) ?_
  refine g_daload X0 hx hZ e0 Vb (by decide) (by decide) (by rw [show ((0 : Int32) : Int32).toNatClampNeg = 0 by decide] <;> rfl) 3 (hb hby d1_2) rfl ?_
  refine g_dstoreN (l' := #[.val (.ref b), .val (.double x0), .second, .unset, .unset, .unset, .unset, .unset, .unset, .unset]) X0 hx 4 (hb hby d1_3) rfl rfl ?_
  refine g_aloadN X0 hx 5 (hb hby d1_4) rfl rfl rfl ?_
  refine g_iconst X0 hx (0 : Int32) 6 (hb hby d1_5) rfl (by decide) ?_
  refine g_daload X0 hx hZ e0 Vb (by decide) (by decide) (by rw [show ((0 : Int32) : Int32).toNatClampNeg = 0 by decide] <;> rfl) 7 (hb hby d1_6) rfl ?_
  refine g_dstoreN (l' := #[.val (.ref b), .val (.double x0), .second, .val (.double x0), .second, .unset, .unset, .unset, .unset, .unset]) X0 hx 8 (hb hby d1_7) rfl rfl ?_
  refine g_aloadN X0 hx 9 (hb hby d1_8) rfl rfl rfl ?_
  refine g_astore (l' := #[.val (.ref b), .val (.double x0), .second, .val (.double x0), .second, .val (.ref b), .unset, .unset, .unset, .unset]) X0 hx 11 (hb hby d1_9) rfl rfl rfl ?_
  refine g_aload X0 hx 13 (hb hby d1_11) rfl rfl rfl ?_
  refine g_len X0 hx hZ e0 Vb 14 (hb hby d1_13) rfl ?_
  refine g_istore (l' := #[.val (.ref b), .val (.double x0), .second, .val (.double x0), .second, .val (.ref b), .val (.int (4 : Int32)), .unset, .unset, .unset]) X0 hx 16 (hb hby d1_14) rfl rfl ?_
  refine g_iconst X0 hx (0 : Int32) 17 (hb hby d1_16) rfl (by decide) ?_
  refine g_istore (l' := #[.val (.ref b), .val (.double x0), .second, .val (.double x0), .second, .val (.ref b), .val (.int (4 : Int32)), .val (.int (0 : Int32)), .unset, .unset]) X0 hx 19 (hb hby d1_17) rfl rfl ?_
  refine g_iload X0 hx 21 (hb hby d1_19) rfl rfl ?_
  refine g_iload X0 hx 23 (hb hby d1_21) rfl rfl ?_
  have ll201 : ((4 : Int32) : Int32).toInt = 4 := by decide
  have ll202 : ((0 : Int32) : Int32).toInt = 0 := by decide
  refine g_ic_ge X0 hx 53 26 (hb hby d1_23) (by decide) (by decide) rfl (fun c200 => ?_) (fun c200 => ?_)
  · skip
    exfalso; revert c200; decide
  · skip
    refine g_aload X0 hx 28 (hb hby d1_26) rfl rfl rfl ?_
    refine g_iload X0 hx 30 (hb hby d1_28) rfl rfl ?_
    refine g_daload X0 hx hZ e0 Vb (by decide) (by decide) (by rw [show ((0 : Int32) : Int32).toNatClampNeg = 0 by decide] <;> rfl) 31 (hb hby d1_30) rfl ?_
    refine g_dstore (l' := #[.val (.ref b), .val (.double x0), .second, .val (.double x0), .second, .val (.ref b), .val (.int (4 : Int32)), .val (.int (0 : Int32)), .val (.double x0), .second]) X0 hx 33 (hb hby d1_31) rfl rfl ?_
    refine g_dloadN X0 hx 34 (hb hby d1_33) rfl rfl ?_
    refine g_dload X0 hx 36 (hb hby d1_34) rfl rfl ?_
    obtain ⟨m1, A1, a1, a2, a3⟩ := own_minE h_x0 h_x0
    have M1 := own_minS (own_min1 i_x0) a1 a2 a3
    clear a1 a2 a3
    obtain ⟨w1, B1, a1, a2, a3⟩ := own_maxE h_x0 h_x0
    have W1 := own_maxS (own_max1 i_x0) a1 a2 a3
    clear a1 a2 a3
    refine g_minD X0 hx hZ hown (hw _ (List.mem_of_getElem? (i := 5) rfl)) (hw _ (List.mem_of_getElem? (i := 6) rfl)) (hw _ (List.mem_of_getElem? (i := 7) rfl)) (hw _ (List.mem_of_getElem? (i := 8) rfl)) rfl e0 (own_dnn h_x0) (own_dnn h_x0) (r := (Jvm.Native.java_lang_Math.nans.pick64 false x0 x0)) rfl 0 39 (hb hby d1_36) rfl (by rw [hml]; rfl) (Nat.le_refl _) (by decide) (by decide) (by decide) (by decide) own_pd1 ?_
    intro T203 X203 e203
    refine g_dstoreN (l' := #[.val (.ref b), .val (.double (Jvm.Native.java_lang_Math.nans.pick64 false x0 x0)), .second, .val (.double x0), .second, .val (.ref b), .val (.int (4 : Int32)), .val (.int (0 : Int32)), .val (.double x0), .second]) X203 hx 40 (hb hby d1_39) rfl rfl ?_
    refine g_dloadN X203 hx 41 (hb hby d1_40) rfl rfl ?_
    refine g_dload X203 hx 43 (hb hby d1_41) rfl rfl ?_
    refine g_maxD X203 hx hZ hown (hw _ (List.mem_of_getElem? (i := 9) rfl)) (hw _ (List.mem_of_getElem? (i := 10) rfl)) (hw _ (List.mem_of_getElem? (i := 7) rfl)) (hw _ (List.mem_of_getElem? (i := 11) rfl)) rfl e203 (own_dnn h_x0) (own_dnn h_x0) (r := (Jvm.Native.java_lang_Math.nans.pick64 true x0 x0)) rfl 0 46 (hb hby d1_43) rfl (by rw [hml]; rfl) (Nat.le_refl _) (by decide) (by decide) (by decide) (by decide) own_pd1 ?_
    intro T204 X204 e204
    refine g_dstoreN (l' := #[.val (.ref b), .val (.double (Jvm.Native.java_lang_Math.nans.pick64 false x0 x0)), .second, .val (.double (Jvm.Native.java_lang_Math.nans.pick64 true x0 x0)), .second, .val (.ref b), .val (.int (4 : Int32)), .val (.int (0 : Int32)), .val (.double x0), .second]) X204 hx 47 (hb hby d1_46) rfl rfl ?_
    generalize hgx0 : (Jvm.Native.java_lang_Math.nans.pick64 true x0 x0) = gx0
    generalize hgn0 : (Jvm.Native.java_lang_Math.nans.pick64 false x0 x0) = gn0
    rw [hgn0] at A1
    rw [hgx0] at B1
    refine g_iinc (w := (1 : Int32)) (l' := #[.val (.ref b), .val (.double gn0), .second, .val (.double gx0), .second, .val (.ref b), .val (.int (4 : Int32)), .val (.int ((0 : Int32) + (1 : Int32))), .val (.double x0), .second]) X204 hx 50 (hb hby d1_47) rfl rfl (by decide) rfl ?_
    refine g_goto X204 hx 19 (hb hby d1_50) (by decide) (by decide) ?_
    refine g_iload X204 hx 21 (hb hby d1_19) rfl rfl ?_
    refine g_iload X204 hx 23 (hb hby d1_21) rfl rfl ?_
    have ll206 : ((4 : Int32) : Int32).toInt = 4 := by decide
    have ll207 : (((0 : Int32) + (1 : Int32)) : Int32).toInt = 1 := by decide
    refine g_ic_ge X204 hx 53 26 (hb hby d1_23) (by decide) (by decide) rfl (fun c205 => ?_) (fun c205 => ?_)
    · skip
      exfalso; revert c205; decide
    · skip
      refine g_aload X204 hx 28 (hb hby d1_26) rfl rfl rfl ?_
      refine g_iload X204 hx 30 (hb hby d1_28) rfl rfl ?_
      refine g_daload X204 hx hZ e204 Vb (by decide) (by decide) (by rw [show (((0 : Int32) + (1 : Int32)) : Int32).toNatClampNeg = 1 by decide] <;> rfl) 31 (hb hby d1_30) rfl ?_
      refine g_dstore (l' := #[.val (.ref b), .val (.double gn0), .second, .val (.double gx0), .second, .val (.ref b), .val (.int (4 : Int32)), .val (.int ((0 : Int32) + (1 : Int32))), .val (.double x1), .second]) X204 hx 33 (hb hby d1_31) rfl rfl ?_
      refine g_dloadN X204 hx 34 (hb hby d1_33) rfl rfl ?_
      refine g_dload X204 hx 36 (hb hby d1_34) rfl rfl ?_
      obtain ⟨m2, A2, a1, a2, a3⟩ := own_minE A1 h_x1
      have M2 := own_minS M1 a1 a2 a3
      clear a1 a2 a3
      obtain ⟨w2, B2, a1, a2, a3⟩ := own_maxE B1 h_x1
      have W2 := own_maxS W1 a1 a2 a3
      clear a1 a2 a3
      refine g_minD X204 hx hZ hown (hw _ (List.mem_of_getElem? (i := 5) rfl)) (hw _ (List.mem_of_getElem? (i := 6) rfl)) (hw _ (List.mem_of_getElem? (i := 7) rfl)) (hw _ (List.mem_of_getElem? (i := 8) rfl)) rfl e204 (own_dnn A1) (own_dnn h_x1) (r := (Jvm.Native.java_lang_Math.nans.pick64 false gn0 x1)) rfl 0 39 (hb hby d1_36) rfl (by rw [hml]; rfl) (Nat.le_refl _) (by decide) (by decide) (by decide) (by decide) own_pd1 ?_
      intro T208 X208 e208
      refine g_dstoreN (l' := #[.val (.ref b), .val (.double (Jvm.Native.java_lang_Math.nans.pick64 false gn0 x1)), .second, .val (.double gx0), .second, .val (.ref b), .val (.int (4 : Int32)), .val (.int ((0 : Int32) + (1 : Int32))), .val (.double x1), .second]) X208 hx 40 (hb hby d1_39) rfl rfl ?_
      refine g_dloadN X208 hx 41 (hb hby d1_40) rfl rfl ?_
      refine g_dload X208 hx 43 (hb hby d1_41) rfl rfl ?_
      refine g_maxD X208 hx hZ hown (hw _ (List.mem_of_getElem? (i := 9) rfl)) (hw _ (List.mem_of_getElem? (i := 10) rfl)) (hw _ (List.mem_of_getElem? (i := 7) rfl)) (hw _ (List.mem_of_getElem? (i := 11) rfl)) rfl e208 (own_dnn B1) (own_dnn h_x1) (r := (Jvm.Native.java_lang_Math.nans.pick64 true gx0 x1)) rfl 0 46 (hb hby d1_43) rfl (by rw [hml]; rfl) (Nat.le_refl _) (by decide) (by decide) (by decide) (by decide) own_pd1 ?_
      intro T209 X209 e209
      refine g_dstoreN (l' := #[.val (.ref b), .val (.double (Jvm.Native.java_lang_Math.nans.pick64 false gn0 x1)), .second, .val (.double (Jvm.Native.java_lang_Math.nans.pick64 true gx0 x1)), .second, .val (.ref b), .val (.int (4 : Int32)), .val (.int ((0 : Int32) + (1 : Int32))), .val (.double x1), .second]) X209 hx 47 (hb hby d1_46) rfl rfl ?_
      generalize hgx1 : (Jvm.Native.java_lang_Math.nans.pick64 true gx0 x1) = gx1
      generalize hgn1 : (Jvm.Native.java_lang_Math.nans.pick64 false gn0 x1) = gn1
      rw [hgn1] at A2
      rw [hgx1] at B2
      refine g_iinc (w := (1 : Int32)) (l' := #[.val (.ref b), .val (.double gn1), .second, .val (.double gx1), .second, .val (.ref b), .val (.int (4 : Int32)), .val (.int (((0 : Int32) + (1 : Int32)) + (1 : Int32))), .val (.double x1), .second]) X209 hx 50 (hb hby d1_47) rfl rfl (by decide) rfl ?_
      refine g_goto X209 hx 19 (hb hby d1_50) (by decide) (by decide) ?_
      refine g_iload X209 hx 21 (hb hby d1_19) rfl rfl ?_
      refine g_iload X209 hx 23 (hb hby d1_21) rfl rfl ?_
      have ll211 : ((4 : Int32) : Int32).toInt = 4 := by decide
      have ll212 : ((((0 : Int32) + (1 : Int32)) + (1 : Int32)) : Int32).toInt = 2 := by decide
      refine g_ic_ge X209 hx 53 26 (hb hby d1_23) (by decide) (by decide) rfl (fun c210 => ?_) (fun c210 => ?_)
      · skip
        exfalso; revert c210; decide
      · skip
        refine g_aload X209 hx 28 (hb hby d1_26) rfl rfl rfl ?_
        refine g_iload X209 hx 30 (hb hby d1_28) rfl rfl ?_
        refine g_daload X209 hx hZ e209 Vb (by decide) (by decide) (by rw [show ((((0 : Int32) + (1 : Int32)) + (1 : Int32)) : Int32).toNatClampNeg = 2 by decide] <;> rfl) 31 (hb hby d1_30) rfl ?_
        refine g_dstore (l' := #[.val (.ref b), .val (.double gn1), .second, .val (.double gx1), .second, .val (.ref b), .val (.int (4 : Int32)), .val (.int (((0 : Int32) + (1 : Int32)) + (1 : Int32))), .val (.double x2), .second]) X209 hx 33 (hb hby d1_31) rfl rfl ?_
        refine g_dloadN X209 hx 34 (hb hby d1_33) rfl rfl ?_
        refine g_dload X209 hx 36 (hb hby d1_34) rfl rfl ?_
        obtain ⟨m3, A3, a1, a2, a3⟩ := own_minE A2 h_x2
        have M3 := own_minS M2 a1 a2 a3
        clear a1 a2 a3
        obtain ⟨w3, B3, a1, a2, a3⟩ := own_maxE B2 h_x2
        have W3 := own_maxS W2 a1 a2 a3
        clear a1 a2 a3
        refine g_minD X209 hx hZ hown (hw _ (List.mem_of_getElem? (i := 5) rfl)) (hw _ (List.mem_of_getElem? (i := 6) rfl)) (hw _ (List.mem_of_getElem? (i := 7) rfl)) (hw _ (List.mem_of_getElem? (i := 8) rfl)) rfl e209 (own_dnn A2) (own_dnn h_x2) (r := (Jvm.Native.java_lang_Math.nans.pick64 false gn1 x2)) rfl 0 39 (hb hby d1_36) rfl (by rw [hml]; rfl) (Nat.le_refl _) (by decide) (by decide) (by decide) (by decide) own_pd1 ?_
        intro T213 X213 e213
        refine g_dstoreN (l' := #[.val (.ref b), .val (.double (Jvm.Native.java_lang_Math.nans.pick64 false gn1 x2)), .second, .val (.double gx1), .second, .val (.ref b), .val (.int (4 : Int32)), .val (.int (((0 : Int32) + (1 : Int32)) + (1 : Int32))), .val (.double x2), .second]) X213 hx 40 (hb hby d1_39) rfl rfl ?_
        refine g_dloadN X213 hx 41 (hb hby d1_40) rfl rfl ?_
        refine g_dload X213 hx 43 (hb hby d1_41) rfl rfl ?_
        refine g_maxD X213 hx hZ hown (hw _ (List.mem_of_getElem? (i := 9) rfl)) (hw _ (List.mem_of_getElem? (i := 10) rfl)) (hw _ (List.mem_of_getElem? (i := 7) rfl)) (hw _ (List.mem_of_getElem? (i := 11) rfl)) rfl e213 (own_dnn B2) (own_dnn h_x2) (r := (Jvm.Native.java_lang_Math.nans.pick64 true gx1 x2)) rfl 0 46 (hb hby d1_43) rfl (by rw [hml]; rfl) (Nat.le_refl _) (by decide) (by decide) (by decide) (by decide) own_pd1 ?_
        intro T214 X214 e214
        refine g_dstoreN (l' := #[.val (.ref b), .val (.double (Jvm.Native.java_lang_Math.nans.pick64 false gn1 x2)), .second, .val (.double (Jvm.Native.java_lang_Math.nans.pick64 true gx1 x2)), .second, .val (.ref b), .val (.int (4 : Int32)), .val (.int (((0 : Int32) + (1 : Int32)) + (1 : Int32))), .val (.double x2), .second]) X214 hx 47 (hb hby d1_46) rfl rfl ?_
        generalize hgx2 : (Jvm.Native.java_lang_Math.nans.pick64 true gx1 x2) = gx2
        generalize hgn2 : (Jvm.Native.java_lang_Math.nans.pick64 false gn1 x2) = gn2
        rw [hgn2] at A3
        rw [hgx2] at B3
        refine g_iinc (w := (1 : Int32)) (l' := #[.val (.ref b), .val (.double gn2), .second, .val (.double gx2), .second, .val (.ref b), .val (.int (4 : Int32)), .val (.int ((((0 : Int32) + (1 : Int32)) + (1 : Int32)) + (1 : Int32))), .val (.double x2), .second]) X214 hx 50 (hb hby d1_47) rfl rfl (by decide) rfl ?_
        refine g_goto X214 hx 19 (hb hby d1_50) (by decide) (by decide) ?_
        refine g_iload X214 hx 21 (hb hby d1_19) rfl rfl ?_
        refine g_iload X214 hx 23 (hb hby d1_21) rfl rfl ?_
        have ll216 : ((4 : Int32) : Int32).toInt = 4 := by decide
        have ll217 : (((((0 : Int32) + (1 : Int32)) + (1 : Int32)) + (1 : Int32)) : Int32).toInt = 3 := by decide
        refine g_ic_ge X214 hx 53 26 (hb hby d1_23) (by decide) (by decide) rfl (fun c215 => ?_) (fun c215 => ?_)
        · skip
          exfalso; revert c215; decide
        · skip
          refine g_aload X214 hx 28 (hb hby d1_26) rfl rfl rfl ?_
          refine g_iload X214 hx 30 (hb hby d1_28) rfl rfl ?_
          refine g_daload X214 hx hZ e214 Vb (by decide) (by decide) (by rw [show (((((0 : Int32) + (1 : Int32)) + (1 : Int32)) + (1 : Int32)) : Int32).toNatClampNeg = 3 by decide] <;> rfl) 31 (hb hby d1_30) rfl ?_
          refine g_dstore (l' := #[.val (.ref b), .val (.double gn2), .second, .val (.double gx2), .second, .val (.ref b), .val (.int (4 : Int32)), .val (.int ((((0 : Int32) + (1 : Int32)) + (1 : Int32)) + (1 : Int32))), .val (.double x3), .second]) X214 hx 33 (hb hby d1_31) rfl rfl ?_
          refine g_dloadN X214 hx 34 (hb hby d1_33) rfl rfl ?_
          refine g_dload X214 hx 36 (hb hby d1_34) rfl rfl ?_
          obtain ⟨m4, A4, a1, a2, a3⟩ := own_minE A3 h_x3
          have M4 := own_minS M3 a1 a2 a3
          clear a1 a2 a3
          obtain ⟨w4, B4, a1, a2, a3⟩ := own_maxE B3 h_x3
          have W4 := own_maxS W3 a1 a2 a3
          clear a1 a2 a3
          refine g_minD X214 hx hZ hown (hw _ (List.mem_of_getElem? (i := 5) rfl)) (hw _ (List.mem_of_getElem? (i := 6) rfl)) (hw _ (List.mem_of_getElem? (i := 7) rfl)) (hw _ (List.mem_of_getElem? (i := 8) rfl)) rfl e214 (own_dnn A3) (own_dnn h_x3) (r := (Jvm.Native.java_lang_Math.nans.pick64 false gn2 x3)) rfl 0 39 (hb hby d1_36) rfl (by rw [hml]; rfl) (Nat.le_refl _) (by decide) (by decide) (by decide) (by decide) own_pd1 ?_
          intro T218 X218 e218
          refine g_dstoreN (l' := #[.val (.ref b), .val (.double (Jvm.Native.java_lang_Math.nans.pick64 false gn2 x3)), .second, .val (.double gx2), .second, .val (.ref b), .val (.int (4 : Int32)), .val (.int ((((0 : Int32) + (1 : Int32)) + (1 : Int32)) + (1 : Int32))), .val (.double x3), .second]) X218 hx 40 (hb hby d1_39) rfl rfl ?_
          refine g_dloadN X218 hx 41 (hb hby d1_40) rfl rfl ?_
          refine g_dload X218 hx 43 (hb hby d1_41) rfl rfl ?_
          refine g_maxD X218 hx hZ hown (hw _ (List.mem_of_getElem? (i := 9) rfl)) (hw _ (List.mem_of_getElem? (i := 10) rfl)) (hw _ (List.mem_of_getElem? (i := 7) rfl)) (hw _ (List.mem_of_getElem? (i := 11) rfl)) rfl e218 (own_dnn B3) (own_dnn h_x3) (r := (Jvm.Native.java_lang_Math.nans.pick64 true gx2 x3)) rfl 0 46 (hb hby d1_43) rfl (by rw [hml]; rfl) (Nat.le_refl _) (by decide) (by decide) (by decide) (by decide) own_pd1 ?_
          intro T219 X219 e219
          refine g_dstoreN (l' := #[.val (.ref b), .val (.double (Jvm.Native.java_lang_Math.nans.pick64 false gn2 x3)), .second, .val (.double (Jvm.Native.java_lang_Math.nans.pick64 true gx2 x3)), .second, .val (.ref b), .val (.int (4 : Int32)), .val (.int ((((0 : Int32) + (1 : Int32)) + (1 : Int32)) + (1 : Int32))), .val (.double x3), .second]) X219 hx 47 (hb hby d1_46) rfl rfl ?_
          generalize hgx3 : (Jvm.Native.java_lang_Math.nans.pick64 true gx2 x3) = gx3
          generalize hgn3 : (Jvm.Native.java_lang_Math.nans.pick64 false gn2 x3) = gn3
          rw [hgn3] at A4
          rw [hgx3] at B4
          refine g_iinc (w := (1 : Int32)) (l' := #[.val (.ref b), .val (.double gn3), .second, .val (.double gx3), .second, .val (.ref b), .val (.int (4 : Int32)), .val (.int (((((0 : Int32) + (1 : Int32)) + (1 : Int32)) + (1 : Int32)) + (1 : Int32))), .val (.double x3), .second]) X219 hx 50 (hb hby d1_47) rfl rfl (by decide) rfl ?_
          refine g_goto X219 hx 19 (hb hby d1_50) (by decide) (by decide) ?_
          refine g_iload X219 hx 21 (hb hby d1_19) rfl rfl ?_
          refine g_iload X219 hx 23 (hb hby d1_21) rfl rfl ?_
          have ll221 : ((4 : Int32) : Int32).toInt = 4 := by decide
          have ll222 : ((((((0 : Int32) + (1 : Int32)) + (1 : Int32)) + (1 : Int32)) + (1 : Int32)) : Int32).toInt = 4 := by decide
          refine g_ic_ge X219 hx 53 26 (hb hby d1_23) (by decide) (by decide) rfl (fun c220 => ?_) (fun c220 => ?_)
          · skip
            refine g_new X219 hx hZ hown (hw _ (List.mem_of_getElem? (i := 12) rfl)) (hw _ (List.mem_of_getElem? (i := 13) rfl)) (hw _ (List.mem_of_getElem? (i := 3) rfl)) e219 56 (hb hby d1_53) rfl (by decide) (by decide) ?_
            intro T223 h223 a223 g223 X223 e223 E223 A223 D223
            have ne224 : b ≠ a223 := Nat.ne_of_lt (by rw [g223]; exact Vb.lt)
            have ge225 : n0 ≤ a223 := by rw [g223]; exact Z0
            have sz226 : h0.size ≤ a223 := by rw [g223]; exact (Keep.refl h0 []).1
            have F227 := Vb.ext E223
            have K228 := (Keep.refl h0 []).ext E223
            have Z229 : n0 ≤ h223.size := Nat.le_trans Z0 E223.1
            have F230 : Fld Z h223 a223 "com/example/recolecta/recolecta/Bins" "min" "D" (.double (0 : UInt64)) := D223 (Or.inr (hw _ (List.mem_of_getElem? (i := 24) rfl))) (ty := .double) (by decide)
            have F231 : Fld Z h223 a223 "com/example/recolecta/recolecta/Bins" "max" "D" (.double (0 : UInt64)) := D223 (Or.inr (hw _ (List.mem_of_getElem? (i := 26) rfl))) (ty := .double) (by decide)
            have F232 : Fld Z h223 a223 "com/example/recolecta/recolecta/Bins" "count" "I" (.int (0 : Int32)) := D223 (Or.inr (hw _ (List.mem_of_getElem? (i := 28) rfl))) (ty := .int) (by decide)
            refine g_dup X223 hx 57 (hb hby d1_56) rfl rfl ?_
            refine g_dloadN X223 hx 58 (hb hby d1_57) rfl rfl ?_
            refine g_dloadN X223 hx 59 (hb hby d1_58) rfl rfl ?_
            refine g_aloadN X223 hx 60 (hb hby d1_59) rfl rfl rfl ?_
            refine g_len X223 hx hZ e223 F227 61 (hb hby d1_60) rfl ?_
            refine g_dloadN X223 hx 62 (hb hby d1_61) rfl rfl ?_
            refine g_dloadN X223 hx 63 (hb hby d1_62) rfl rfl ?_
            have dn := A4
            have dx := B4
            have le := own_mm M4 W4
            refine g_static X223 hx hZ hown (hw _ (List.mem_of_getElem? (i := 14) rfl)) (hw _ (List.mem_of_getElem? (i := 15) rfl)) (hw _ (List.mem_of_getElem? (i := 3) rfl)) (hw _ (List.mem_of_getElem? (i := 16) rfl)) (by decide) (rmC l Z a0 hw 4 gn3 gx3 h223 n0 Z229 m4 w4 (Jvm.FP.Core.dcmp_int dn dx) (by decide)) e223 (argsL := [(.int (4 : Int32)), (.double gn3), (.double gx3)]) (rest := [(.double gx3), (.double gn3), (.ref a223), (.ref a223)]) rfl rfl 6 66 rfl (by rw [hml]; rfl) (lenOf own_pd2 rfl) (Nat.le_refl _) (by decide) (by decide) (by decide) (by decide) (hb hby d1_63) ?_
            intro v233 T233 L233 X233 hQ233
            obtain ⟨r, rfl, N233, q233, r1, r2⟩ := hQ233
            have N234 := Fr.app N0 N233
            show Go p e below _ T233 (mkF m 66 #[.val (.ref b), .val (.double gn3), .second, .val (.double gx3), .second, .val (.ref b), .val (.int (4 : Int32)), .val (.int (((((0 : Int32) + (1 : Int32)) + (1 : Int32)) + (1 : Int32)) + (1 : Int32))), .val (.double x3), .second] [(.int r), (.double gx3), (.double gn3), (.ref a223), (.ref a223)])
            refine g_init X233 hx hZ rfl hown (hw _ (List.mem_of_getElem? (i := 17) rfl)) (hw _ (List.mem_of_getElem? (i := 18) rfl)) (hw _ (List.mem_of_getElem? (i := 3) rfl)) (hw _ (List.mem_of_getElem? (i := 19) rfl)) (by decide) (rm5 l Z a0 hw a223 gn3 gx3 r h223 n0 Z229 m4 w4 (Jvm.FP.Core.dcmp_int dn dx) le A223 ge225 F230 F231 F232) q233 (a := a223) (argsL := [(.double gn3), (.double gx3), (.int r)]) (rest := [(.ref a223)]) rfl rfl 1 69 rfl (by rw [hml]; rfl) (lenOf own_pd3 rfl) (Nat.le_refl _) (by decide) (by decide) (by decide) (by decide) (hb hby d1_66) ?_
            intro v235 T235 L235 X235 hQ235
            obtain ⟨rfl, N235, K235, F1235, F2235, F3235⟩ := hQ235
            have N236 := Fr.app N234 N235
            have F237 := F227.keep K235 (ninS ne224 nin0)
            have F238 := A223.keep K235
            have Z242 : n0 ≤ T235.heap.size := Nat.le_trans Z229 K235.1
            have K243 := K228.trans K235 (allS (Or.inr sz226) all0)
            show Go p e below _ T235 (mkF m 69 #[.val (.ref b), .val (.double gn3), .second, .val (.double gx3), .second, .val (.ref b), .val (.int (4 : Int32)), .val (.int (((((0 : Int32) + (1 : Int32)) + (1 : Int32)) + (1 : Int32)) + (1 : Int32))), .val (.double x3), .second] [(.ref a223)])
            exact g_retA X235 hx hlk hret rfl rfl rfl (hb hby d1_69) (by decide) (by decide) rfl ⟨a223, rfl, N236, ge225, K243, F238, gn3, gx3, r, m4, w4, F1235, F2235, F3235, dn, dx, M4, W4, r1, r2⟩
          · skip
            exfalso; revert c220; decide
def Q_rm1_5 (Z : State) (i_x0 : Int) (i_x1 : Int) (i_x2 : Int) (i_x3 : Int) (i_x4 : Int) (n0 : Nat) (h0 : Heap) (v : Option Value) (h : Heap) (L : List Loc) : Prop := ∃ a : Addr, v = some (.ref a) ∧ Fr n0 L ∧ n0 ≤ a ∧ Keep h0 h [] ∧ Exa Z h a "com/example/recolecta/recolecta/Bins" ∧ ∃ (lo hi : UInt64) (r : Int32) (mi ma : Int), Fld Z h a "com/example/recolecta/recolecta/Bins" "min" "D" (.double lo) ∧ Fld Z h a "com/example/recolecta/recolecta/Bins" "max" "D" (.double hi) ∧ Fld Z h a "com/example/recolecta/recolecta/Bins" "count" "I" (.int r) ∧ Jvm.FP.Core.DInt mi lo ∧ Jvm.FP.Core.DInt ma hi ∧ IsMin mi [i_x4, i_x3, i_x2, i_x1, i_x0, i_x0] ∧ IsMax ma [i_x4, i_x3, i_x2, i_x1, i_x0, i_x0] ∧ (mi = ma → r.toInt = 1) ∧ (mi ≠ ma → CntIs (5 : Int32).toInt r.toInt)
theorem ef_rm1_5 (b : Addr) (m : MethodId) : entryFrame m #[(.ref b)] 10 = mkF m 0 #[.val (.ref b), .unset, .unset, .unset, .unset, .unset, .unset, .unset, .unset, .unset] [] := by first | (simp [entryFrame, mkF, argsToLocals, Value.category]; done) | rfl
set_option maxRecDepth 65536 in
set_option maxHeartbeats 40000000 in
theorem rm1_5 (l : Launch) (Z : State) (a0 : Array Value) (hw : ∀ d ∈ tables_1, d.before a0 Z = true) (b : Addr) (h0 : Heap) (n0 : Nat) (Z0 : n0 ≤ h0.size) (kb : ClassId) (x0 : UInt64) (i_x0 : Int) (h_x0 : Jvm.FP.Core.DInt i_x0 x0) (x1 : UInt64) (i_x1 : Int) (h_x1 : Jvm.FP.Core.DInt i_x1 x1) (x2 : UInt64) (i_x2 : Int) (h_x2 : Jvm.FP.Core.DInt i_x2 x2) (x3 : UInt64) (i_x3 : Int) (h_x3 : Jvm.FP.Core.DInt i_x3 x3) (x4 : UInt64) (i_x4 : Int) (h_x4 : Jvm.FP.Core.DInt i_x4 x4) (Vb : Arv Z h0 b kb .double 5 [.double x0, .double x1, .double x2, .double x3, .double x4] (.double 0)) :
    MetFree l (⟨"com/example/recolecta/recolecta/Bins", "over", "([D)Lcom/example/recolecta/recolecta/Bins;"⟩ : MethodName) (head1 [Jvm.Cond.code (⟨"com/example/recolecta/recolecta/Bins", "over", "([D)Lcom/example/recolecta/recolecta/Bins;"⟩ : MethodName) prog_6_method_2_code 10 (some (.object "com/example/recolecta/recolecta/Bins"))] ({ frames := 2, cells := 1, slots := 3, locals := 48 } : Room)) (fun as_ U => as_ = #[(.ref b)] ∧ Z.Warmed39 U.vm ∧ U.heap = h0) (fun _ _ _ _ _ => True) (fun _ U o U' => ∃ v L, o = .returned v ∧ Q_rm1_5 Z i_x0 i_x1 i_x2 i_x3 i_x4 n0 h0 v U'.heap L ∧ FrameEnd U o U' L ({ frames := 2, cells := 1, slots := 3, locals := 48 } : Room).cells ({ frames := 2, cells := 1, slots := 3, locals := 48 } : Room).slots) := by
  refine own_met own_pf8 (ef_rm1_5 b) ?_
  intro p e s m below meth c T0 X0 hx hby hml hret hlk hnm hown hZ e0
  have N0 := Fr.nil n0
  refine g_aloadN X0 hx 1 (hb hby d1_0) rfl rfl rfl ?_
  refine g_iconst X0 hx (0 : Int32) 2 (hb hby d1_1) rfl (by decide) ?_
  refine g_daload X0 hx hZ e0 Vb (by decide) (by decide) (by rw [show ((0 : Int32) : Int32).toNatClampNeg = 0 by decide] <;> rfl) 3 (hb hby d1_2) rfl ?_
  refine g_dstoreN (l' := #[.val (.ref b), .val (.double x0), .second, .unset, .unset, .unset, .unset, .unset, .unset, .unset]) X0 hx 4 (hb hby d1_3) rfl rfl ?_
  refine g_aloadN X0 hx 5 (hb hby d1_4) rfl rfl rfl ?_
  refine g_iconst X0 hx (0 : Int32) 6 (hb hby d1_5) rfl (by decide) ?_
  refine g_daload X0 hx hZ e0 Vb (by decide) (by decide) (by rw [show ((0 : Int32) : Int32).toNatClampNeg = 0 by decide] <;> rfl) 7 (hb hby d1_6) rfl ?_
  refine g_dstoreN (l' := #[.val (.ref b), .val (.double x0), .second, .val (.double x0), .second, .unset, .unset, .unset, .unset, .unset]) X0 hx 8 (hb hby d1_7) rfl rfl ?_
  refine g_aloadN X0 hx 9 (hb hby d1_8) rfl rfl rfl ?_
  refine g_astore (l' := #[.val (.ref b), .val (.double x0), .second, .val (.double x0), .second, .val (.ref b), .unset, .unset, .unset, .unset]) X0 hx 11 (hb hby d1_9) rfl rfl rfl ?_
  refine g_aload X0 hx 13 (hb hby d1_11) rfl rfl rfl ?_
  refine g_len X0 hx hZ e0 Vb 14 (hb hby d1_13) rfl ?_
  refine g_istore (l' := #[.val (.ref b), .val (.double x0), .second, .val (.double x0), .second, .val (.ref b), .val (.int (5 : Int32)), .unset, .unset, .unset]) X0 hx 16 (hb hby d1_14) rfl rfl ?_
  refine g_iconst X0 hx (0 : Int32) 17 (hb hby d1_16) rfl (by decide) ?_
  refine g_istore (l' := #[.val (.ref b), .val (.double x0), .second, .val (.double x0), .second, .val (.ref b), .val (.int (5 : Int32)), .val (.int (0 : Int32)), .unset, .unset]) X0 hx 19 (hb hby d1_17) rfl rfl ?_
  refine g_iload X0 hx 21 (hb hby d1_19) rfl rfl ?_
  refine g_iload X0 hx 23 (hb hby d1_21) rfl rfl ?_
  have ll245 : ((5 : Int32) : Int32).toInt = 5 := by decide
  have ll246 : ((0 : Int32) : Int32).toInt = 0 := by decide
  refine g_ic_ge X0 hx 53 26 (hb hby d1_23) (by decide) (by decide) rfl (fun c244 => ?_) (fun c244 => ?_)
  · skip
    exfalso; revert c244; decide
  · skip
    refine g_aload X0 hx 28 (hb hby d1_26) rfl rfl rfl ?_
    refine g_iload X0 hx 30 (hb hby d1_28) rfl rfl ?_
    refine g_daload X0 hx hZ e0 Vb (by decide) (by decide) (by rw [show ((0 : Int32) : Int32).toNatClampNeg = 0 by decide] <;> rfl) 31 (hb hby d1_30) rfl ?_
    refine g_dstore (l' := #[.val (.ref b), .val (.double x0), .second, .val (.double x0), .second, .val (.ref b), .val (.int (5 : Int32)), .val (.int (0 : Int32)), .val (.double x0), .second]) X0 hx 33 (hb hby d1_31) rfl rfl ?_
    refine g_dloadN X0 hx 34 (hb hby d1_33) rfl rfl ?_
    refine g_dload X0 hx 36 (hb hby d1_34) rfl rfl ?_
    obtain ⟨m1, A1, a1, a2, a3⟩ := own_minE h_x0 h_x0
    have M1 := own_minS (own_min1 i_x0) a1 a2 a3
    clear a1 a2 a3
    obtain ⟨w1, B1, a1, a2, a3⟩ := own_maxE h_x0 h_x0
    have W1 := own_maxS (own_max1 i_x0) a1 a2 a3
    clear a1 a2 a3
    refine g_minD X0 hx hZ hown (hw _ (List.mem_of_getElem? (i := 5) rfl)) (hw _ (List.mem_of_getElem? (i := 6) rfl)) (hw _ (List.mem_of_getElem? (i := 7) rfl)) (hw _ (List.mem_of_getElem? (i := 8) rfl)) rfl e0 (own_dnn h_x0) (own_dnn h_x0) (r := (Jvm.Native.java_lang_Math.nans.pick64 false x0 x0)) rfl 0 39 (hb hby d1_36) rfl (by rw [hml]; rfl) (Nat.le_refl _) (by decide) (by decide) (by decide) (by decide) own_pd1 ?_
    intro T247 X247 e247
    refine g_dstoreN (l' := #[.val (.ref b), .val (.double (Jvm.Native.java_lang_Math.nans.pick64 false x0 x0)), .second, .val (.double x0), .second, .val (.ref b), .val (.int (5 : Int32)), .val (.int (0 : Int32)), .val (.double x0), .second]) X247 hx 40 (hb hby d1_39) rfl rfl ?_
    refine g_dloadN X247 hx 41 (hb hby d1_40) rfl rfl ?_
    refine g_dload X247 hx 43 (hb hby d1_41) rfl rfl ?_
    refine g_maxD X247 hx hZ hown (hw _ (List.mem_of_getElem? (i := 9) rfl)) (hw _ (List.mem_of_getElem? (i := 10) rfl)) (hw _ (List.mem_of_getElem? (i := 7) rfl)) (hw _ (List.mem_of_getElem? (i := 11) rfl)) rfl e247 (own_dnn h_x0) (own_dnn h_x0) (r := (Jvm.Native.java_lang_Math.nans.pick64 true x0 x0)) rfl 0 46 (hb hby d1_43) rfl (by rw [hml]; rfl) (Nat.le_refl _) (by decide) (by decide) (by decide) (by decide) own_pd1 ?_
    intro T248 X248 e248
    refine g_dstoreN (l' := #[.val (.ref b), .val (.double (Jvm.Native.java_lang_Math.nans.pick64 false x0 x0)), .second, .val (.double (Jvm.Native.java_lang_Math.nans.pick64 true x0 x0)), .second, .val (.ref b), .val (.int (5 : Int32)), .val (.int (0 : Int32)), .val (.double x0), .second]) X248 hx 47 (hb hby d1_46) rfl rfl ?_
    generalize hgx0 : (Jvm.Native.java_lang_Math.nans.pick64 true x0 x0) = gx0
    generalize hgn0 : (Jvm.Native.java_lang_Math.nans.pick64 false x0 x0) = gn0
    rw [hgn0] at A1
    rw [hgx0] at B1
    refine g_iinc (w := (1 : Int32)) (l' := #[.val (.ref b), .val (.double gn0), .second, .val (.double gx0), .second, .val (.ref b), .val (.int (5 : Int32)), .val (.int ((0 : Int32) + (1 : Int32))), .val (.double x0), .second]) X248 hx 50 (hb hby d1_47) rfl rfl (by decide) rfl ?_
    refine g_goto X248 hx 19 (hb hby d1_50) (by decide) (by decide) ?_
    refine g_iload X248 hx 21 (hb hby d1_19) rfl rfl ?_
    refine g_iload X248 hx 23 (hb hby d1_21) rfl rfl ?_
    have ll250 : ((5 : Int32) : Int32).toInt = 5 := by decide
    have ll251 : (((0 : Int32) + (1 : Int32)) : Int32).toInt = 1 := by decide
    refine g_ic_ge X248 hx 53 26 (hb hby d1_23) (by decide) (by decide) rfl (fun c249 => ?_) (fun c249 => ?_)
    · skip
      exfalso; revert c249; decide
    · skip
      refine g_aload X248 hx 28 (hb hby d1_26) rfl rfl rfl ?_
      refine g_iload X248 hx 30 (hb hby d1_28) rfl rfl ?_
      refine g_daload X248 hx hZ e248 Vb (by decide) (by decide) (by rw [show (((0 : Int32) + (1 : Int32)) : Int32).toNatClampNeg = 1 by decide] <;> rfl) 31 (hb hby d1_30) rfl ?_
      refine g_dstore (l' := #[.val (.ref b), .val (.double gn0), .second, .val (.double gx0), .second, .val (.ref b), .val (.int (5 : Int32)), .val (.int ((0 : Int32) + (1 : Int32))), .val (.double x1), .second]) X248 hx 33 (hb hby d1_31) rfl rfl ?_
      refine g_dloadN X248 hx 34 (hb hby d1_33) rfl rfl ?_
      refine g_dload X248 hx 36 (hb hby d1_34) rfl rfl ?_
      obtain ⟨m2, A2, a1, a2, a3⟩ := own_minE A1 h_x1
      have M2 := own_minS M1 a1 a2 a3
      clear a1 a2 a3
      obtain ⟨w2, B2, a1, a2, a3⟩ := own_maxE B1 h_x1
      have W2 := own_maxS W1 a1 a2 a3
      clear a1 a2 a3
      refine g_minD X248 hx hZ hown (hw _ (List.mem_of_getElem? (i := 5) rfl)) (hw _ (List.mem_of_getElem? (i := 6) rfl)) (hw _ (List.mem_of_getElem? (i := 7) rfl)) (hw _ (List.mem_of_getElem? (i := 8) rfl)) rfl e248 (own_dnn A1) (own_dnn h_x1) (r := (Jvm.Native.java_lang_Math.nans.pick64 false gn0 x1)) rfl 0 39 (hb hby d1_36) rfl (by rw [hml]; rfl) (Nat.le_refl _) (by decide) (by decide) (by decide) (by decide) own_pd1 ?_
      intro T252 X252 e252
      refine g_dstoreN (l' := #[.val (.ref b), .val (.double (Jvm.Native.java_lang_Math.nans.pick64 false gn0 x1)), .second, .val (.double gx0), .second, .val (.ref b), .val (.int (5 : Int32)), .val (.int ((0 : Int32) + (1 : Int32))), .val (.double x1), .second]) X252 hx 40 (hb hby d1_39) rfl rfl ?_
      refine g_dloadN X252 hx 41 (hb hby d1_40) rfl rfl ?_
      refine g_dload X252 hx 43 (hb hby d1_41) rfl rfl ?_
      refine g_maxD X252 hx hZ hown (hw _ (List.mem_of_getElem? (i := 9) rfl)) (hw _ (List.mem_of_getElem? (i := 10) rfl)) (hw _ (List.mem_of_getElem? (i := 7) rfl)) (hw _ (List.mem_of_getElem? (i := 11) rfl)) rfl e252 (own_dnn B1) (own_dnn h_x1) (r := (Jvm.Native.java_lang_Math.nans.pick64 true gx0 x1)) rfl 0 46 (hb hby d1_43) rfl (by rw [hml]; rfl) (Nat.le_refl _) (by decide) (by decide) (by decide) (by decide) own_pd1 ?_
      intro T253 X253 e253
      refine g_dstoreN (l' := #[.val (.ref b), .val (.double (Jvm.Native.java_lang_Math.nans.pick64 false gn0 x1)), .second, .val (.double (Jvm.Native.java_lang_Math.nans.pick64 true gx0 x1)), .second, .val (.ref b), .val (.int (5 : Int32)), .val (.int ((0 : Int32) + (1 : Int32))), .val (.double x1), .second]) X253 hx 47 (hb hby d1_46) rfl rfl ?_
      generalize hgx1 : (Jvm.Native.java_lang_Math.nans.pick64 true gx0 x1) = gx1
      generalize hgn1 : (Jvm.Native.java_lang_Math.nans.pick64 false gn0 x1) = gn1
      rw [hgn1] at A2
      rw [hgx1] at B2
      refine g_iinc (w := (1 : Int32)) (l' := #[.val (.ref b), .val (.double gn1), .second, .val (.double gx1), .second, .val (.ref b), .val (.int (5 : Int32)), .val (.int (((0 : Int32) + (1 : Int32)) + (1 : Int32))), .val (.double x1), .second]) X253 hx 50 (hb hby d1_47) rfl rfl (by decide) rfl ?_
      refine g_goto X253 hx 19 (hb hby d1_50) (by decide) (by decide) ?_
      refine g_iload X253 hx 21 (hb hby d1_19) rfl rfl ?_
      refine g_iload X253 hx 23 (hb hby d1_21) rfl rfl ?_
      have ll255 : ((5 : Int32) : Int32).toInt = 5 := by decide
      have ll256 : ((((0 : Int32) + (1 : Int32)) + (1 : Int32)) : Int32).toInt = 2 := by decide
      refine g_ic_ge X253 hx 53 26 (hb hby d1_23) (by decide) (by decide) rfl (fun c254 => ?_) (fun c254 => ?_)
      · skip
        exfalso; revert c254; decide
      · skip
        refine g_aload X253 hx 28 (hb hby d1_26) rfl rfl rfl ?_
        refine g_iload X253 hx 30 (hb hby d1_28) rfl rfl ?_
        refine g_daload X253 hx hZ e253 Vb (by decide) (by decide) (by rw [show ((((0 : Int32) + (1 : Int32)) + (1 : Int32)) : Int32).toNatClampNeg = 2 by decide] <;> rfl) 31 (hb hby d1_30) rfl ?_
        refine g_dstore (l' := #[.val (.ref b), .val (.double gn1), .second, .val (.double gx1), .second, .val (.ref b), .val (.int (5 : Int32)), .val (.int (((0 : Int32) + (1 : Int32)) + (1 : Int32))), .val (.double x2), .second]) X253 hx 33 (hb hby d1_31) rfl rfl ?_
        refine g_dloadN X253 hx 34 (hb hby d1_33) rfl rfl ?_
        refine g_dload X253 hx 36 (hb hby d1_34) rfl rfl ?_
        obtain ⟨m3, A3, a1, a2, a3⟩ := own_minE A2 h_x2
        have M3 := own_minS M2 a1 a2 a3
        clear a1 a2 a3
        obtain ⟨w3, B3, a1, a2, a3⟩ := own_maxE B2 h_x2
        have W3 := own_maxS W2 a1 a2 a3
        clear a1 a2 a3
        refine g_minD X253 hx hZ hown (hw _ (List.mem_of_getElem? (i := 5) rfl)) (hw _ (List.mem_of_getElem? (i := 6) rfl)) (hw _ (List.mem_of_getElem? (i := 7) rfl)) (hw _ (List.mem_of_getElem? (i := 8) rfl)) rfl e253 (own_dnn A2) (own_dnn h_x2) (r := (Jvm.Native.java_lang_Math.nans.pick64 false gn1 x2)) rfl 0 39 (hb hby d1_36) rfl (by rw [hml]; rfl) (Nat.le_refl _) (by decide) (by decide) (by decide) (by decide) own_pd1 ?_
        intro T257 X257 e257
        refine g_dstoreN (l' := #[.val (.ref b), .val (.double (Jvm.Native.java_lang_Math.nans.pick64 false gn1 x2)), .second, .val (.double gx1), .second, .val (.ref b), .val (.int (5 : Int32)), .val (.int (((0 : Int32) + (1 : Int32)) + (1 : Int32))), .val (.double x2), .second]) X257 hx 40 (hb hby d1_39) rfl rfl ?_
        refine g_dloadN X257 hx 41 (hb hby d1_40) rfl rfl ?_
        refine g_dload X257 hx 43 (hb hby d1_41) rfl rfl ?_
        refine g_maxD X257 hx hZ hown (hw _ (List.mem_of_getElem? (i := 9) rfl)) (hw _ (List.mem_of_getElem? (i := 10) rfl)) (hw _ (List.mem_of_getElem? (i := 7) rfl)) (hw _ (List.mem_of_getElem? (i := 11) rfl)) rfl e257 (own_dnn B2) (own_dnn h_x2) (r := (Jvm.Native.java_lang_Math.nans.pick64 true gx1 x2)) rfl 0 46 (hb hby d1_43) rfl (by rw [hml]; rfl) (Nat.le_refl _) (by decide) (by decide) (by decide) (by decide) own_pd1 ?_
        intro T258 X258 e258
        refine g_dstoreN (l' := #[.val (.ref b), .val (.double (Jvm.Native.java_lang_Math.nans.pick64 false gn1 x2)), .second, .val (.double (Jvm.Native.java_lang_Math.nans.pick64 true gx1 x2)), .second, .val (.ref b), .val (.int (5 : Int32)), .val (.int (((0 : Int32) + (1 : Int32)) + (1 : Int32))), .val (.double x2), .second]) X258 hx 47 (hb hby d1_46) rfl rfl ?_
        generalize hgx2 : (Jvm.Native.java_lang_Math.nans.pick64 true gx1 x2) = gx2
        generalize hgn2 : (Jvm.Native.java_lang_Math.nans.pick64 false gn1 x2) = gn2
        rw [hgn2] at A3
        rw [hgx2] at B3
        refine g_iinc (w := (1 : Int32)) (l' := #[.val (.ref b), .val (.double gn2), .second, .val (.double gx2), .second, .val (.ref b), .val (.int (5 : Int32)), .val (.int ((((0 : Int32) + (1 : Int32)) + (1 : Int32)) + (1 : Int32))), .val (.double x2), .second]) X258 hx 50 (hb hby d1_47) rfl rfl (by decide) rfl ?_
        refine g_goto X258 hx 19 (hb hby d1_50) (by decide) (by decide) ?_
        refine g_iload X258 hx 21 (hb hby d1_19) rfl rfl ?_
        refine g_iload X258 hx 23 (hb hby d1_21) rfl rfl ?_
        have ll260 : ((5 : Int32) : Int32).toInt = 5 := by decide
        have ll261 : (((((0 : Int32) + (1 : Int32)) + (1 : Int32)) + (1 : Int32)) : Int32).toInt = 3 := by decide
        refine g_ic_ge X258 hx 53 26 (hb hby d1_23) (by decide) (by decide) rfl (fun c259 => ?_) (fun c259 => ?_)
        · skip
          exfalso; revert c259; decide
        · skip
          refine g_aload X258 hx 28 (hb hby d1_26) rfl rfl rfl ?_
          refine g_iload X258 hx 30 (hb hby d1_28) rfl rfl ?_
          refine g_daload X258 hx hZ e258 Vb (by decide) (by decide) (by rw [show (((((0 : Int32) + (1 : Int32)) + (1 : Int32)) + (1 : Int32)) : Int32).toNatClampNeg = 3 by decide] <;> rfl) 31 (hb hby d1_30) rfl ?_
          refine g_dstore (l' := #[.val (.ref b), .val (.double gn2), .second, .val (.double gx2), .second, .val (.ref b), .val (.int (5 : Int32)), .val (.int ((((0 : Int32) + (1 : Int32)) + (1 : Int32)) + (1 : Int32))), .val (.double x3), .second]) X258 hx 33 (hb hby d1_31) rfl rfl ?_
          refine g_dloadN X258 hx 34 (hb hby d1_33) rfl rfl ?_
          refine g_dload X258 hx 36 (hb hby d1_34) rfl rfl ?_
          obtain ⟨m4, A4, a1, a2, a3⟩ := own_minE A3 h_x3
          have M4 := own_minS M3 a1 a2 a3
          clear a1 a2 a3
          obtain ⟨w4, B4, a1, a2, a3⟩ := own_maxE B3 h_x3
          have W4 := own_maxS W3 a1 a2 a3
          clear a1 a2 a3
          refine g_minD X258 hx hZ hown (hw _ (List.mem_of_getElem? (i := 5) rfl)) (hw _ (List.mem_of_getElem? (i := 6) rfl)) (hw _ (List.mem_of_getElem? (i := 7) rfl)) (hw _ (List.mem_of_getElem? (i := 8) rfl)) rfl e258 (own_dnn A3) (own_dnn h_x3) (r := (Jvm.Native.java_lang_Math.nans.pick64 false gn2 x3)) rfl 0 39 (hb hby d1_36) rfl (by rw [hml]; rfl) (Nat.le_refl _) (by decide) (by decide) (by decide) (by decide) own_pd1 ?_
          intro T262 X262 e262
          refine g_dstoreN (l' := #[.val (.ref b), .val (.double (Jvm.Native.java_lang_Math.nans.pick64 false gn2 x3)), .second, .val (.double gx2), .second, .val (.ref b), .val (.int (5 : Int32)), .val (.int ((((0 : Int32) + (1 : Int32)) + (1 : Int32)) + (1 : Int32))), .val (.double x3), .second]) X262 hx 40 (hb hby d1_39) rfl rfl ?_
          refine g_dloadN X262 hx 41 (hb hby d1_40) rfl rfl ?_
          refine g_dload X262 hx 43 (hb hby d1_41) rfl rfl ?_
          refine g_maxD X262 hx hZ hown (hw _ (List.mem_of_getElem? (i := 9) rfl)) (hw _ (List.mem_of_getElem? (i := 10) rfl)) (hw _ (List.mem_of_getElem? (i := 7) rfl)) (hw _ (List.mem_of_getElem? (i := 11) rfl)) rfl e262 (own_dnn B3) (own_dnn h_x3) (r := (Jvm.Native.java_lang_Math.nans.pick64 true gx2 x3)) rfl 0 46 (hb hby d1_43) rfl (by rw [hml]; rfl) (Nat.le_refl _) (by decide) (by decide) (by decide) (by decide) own_pd1 ?_
          intro T263 X263 e263
          refine g_dstoreN (l' := #[.val (.ref b), .val (.double (Jvm.Native.java_lang_Math.nans.pick64 false gn2 x3)), .second, .val (.double (Jvm.Native.java_lang_Math.nans.pick64 true gx2 x3)), .second, .val (.ref b), .val (.int (5 : Int32)), .val (.int ((((0 : Int32) + (1 : Int32)) + (1 : Int32)) + (1 : Int32))), .val (.double x3), .second]) X263 hx 47 (hb hby d1_46) rfl rfl ?_
          generalize hgx3 : (Jvm.Native.java_lang_Math.nans.pick64 true gx2 x3) = gx3
          generalize hgn3 : (Jvm.Native.java_lang_Math.nans.pick64 false gn2 x3) = gn3
          rw [hgn3] at A4
          rw [hgx3] at B4
          refine g_iinc (w := (1 : Int32)) (l' := #[.val (.ref b), .val (.double gn3), .second, .val (.double gx3), .second, .val (.ref b), .val (.int (5 : Int32)), .val (.int (((((0 : Int32) + (1 : Int32)) + (1 : Int32)) + (1 : Int32)) + (1 : Int32))), .val (.double x3), .second]) X263 hx 50 (hb hby d1_47) rfl rfl (by decide) rfl ?_
          refine g_goto X263 hx 19 (hb hby d1_50) (by decide) (by decide) ?_
          refine g_iload X263 hx 21 (hb hby d1_19) rfl rfl ?_
          refine g_iload X263 hx 23 (hb hby d1_21) rfl rfl ?_
          have ll265 : ((5 : Int32) : Int32).toInt = 5 := by decide
          have ll266 : ((((((0 : Int32) + (1 : Int32)) + (1 : Int32)) + (1 : Int32)) + (1 : Int32)) : Int32).toInt = 4 := by decide
          refine g_ic_ge X263 hx 53 26 (hb hby d1_23) (by decide) (by decide) rfl (fun c264 => ?_) (fun c264 => ?_)
          · skip
            exfalso; revert c264; decide
          · skip
            refine g_aload X263 hx 28 (hb hby d1_26) rfl rfl rfl ?_
            refine g_iload X263 hx 30 (hb hby d1_28) rfl rfl ?_
            refine g_daload X263 hx hZ e263 Vb (by decide) (by decide) (by rw [show ((((((0 : Int32) + (1 : Int32)) + (1 : Int32)) + (1 : Int32)) + (1 : Int32)) : Int32).toNatClampNeg = 4 by decide] <;> rfl) 31 (hb hby d1_30) rfl ?_
            refine g_dstore (l' := #[.val (.ref b), .val (.double gn3), .second, .val (.double gx3), .second, .val (.ref b), .val (.int (5 : Int32)), .val (.int (((((0 : Int32) + (1 : Int32)) + (1 : Int32)) + (1 : Int32)) + (1 : Int32))), .val (.double x4), .second]) X263 hx 33 (hb hby d1_31) rfl rfl ?_
            refine g_dloadN X263 hx 34 (hb hby d1_33) rfl rfl ?_
            refine g_dload X263 hx 36 (hb hby d1_34) rfl rfl ?_
            obtain ⟨m5, A5, a1, a2, a3⟩ := own_minE A4 h_x4
            have M5 := own_minS M4 a1 a2 a3
            clear a1 a2 a3
            obtain ⟨w5, B5, a1, a2, a3⟩ := own_maxE B4 h_x4
            have W5 := own_maxS W4 a1 a2 a3
            clear a1 a2 a3
            refine g_minD X263 hx hZ hown (hw _ (List.mem_of_getElem? (i := 5) rfl)) (hw _ (List.mem_of_getElem? (i := 6) rfl)) (hw _ (List.mem_of_getElem? (i := 7) rfl)) (hw _ (List.mem_of_getElem? (i := 8) rfl)) rfl e263 (own_dnn A4) (own_dnn h_x4) (r := (Jvm.Native.java_lang_Math.nans.pick64 false gn3 x4)) rfl 0 39 (hb hby d1_36) rfl (by rw [hml]; rfl) (Nat.le_refl _) (by decide) (by decide) (by decide) (by decide) own_pd1 ?_
            intro T267 X267 e267
            refine g_dstoreN (l' := #[.val (.ref b), .val (.double (Jvm.Native.java_lang_Math.nans.pick64 false gn3 x4)), .second, .val (.double gx3), .second, .val (.ref b), .val (.int (5 : Int32)), .val (.int (((((0 : Int32) + (1 : Int32)) + (1 : Int32)) + (1 : Int32)) + (1 : Int32))), .val (.double x4), .second]) X267 hx 40 (hb hby d1_39) rfl rfl ?_
            refine g_dloadN X267 hx 41 (hb hby d1_40) rfl rfl ?_
            refine g_dload X267 hx 43 (hb hby d1_41) rfl rfl ?_
            refine g_maxD X267 hx hZ hown (hw _ (List.mem_of_getElem? (i := 9) rfl)) (hw _ (List.mem_of_getElem? (i := 10) rfl)) (hw _ (List.mem_of_getElem? (i := 7) rfl)) (hw _ (List.mem_of_getElem? (i := 11) rfl)) rfl e267 (own_dnn B4) (own_dnn h_x4) (r := (Jvm.Native.java_lang_Math.nans.pick64 true gx3 x4)) rfl 0 46 (hb hby d1_43) rfl (by rw [hml]; rfl) (Nat.le_refl _) (by decide) (by decide) (by decide) (by decide) own_pd1 ?_
            intro T268 X268 e268
            refine g_dstoreN (l' := #[.val (.ref b), .val (.double (Jvm.Native.java_lang_Math.nans.pick64 false gn3 x4)), .second, .val (.double (Jvm.Native.java_lang_Math.nans.pick64 true gx3 x4)), .second, .val (.ref b), .val (.int (5 : Int32)), .val (.int (((((0 : Int32) + (1 : Int32)) + (1 : Int32)) + (1 : Int32)) + (1 : Int32))), .val (.double x4), .second]) X268 hx 47 (hb hby d1_46) rfl rfl ?_
            generalize hgx4 : (Jvm.Native.java_lang_Math.nans.pick64 true gx3 x4) = gx4
            generalize hgn4 : (Jvm.Native.java_lang_Math.nans.pick64 false gn3 x4) = gn4
            rw [hgn4] at A5
            rw [hgx4] at B5
            refine g_iinc (w := (1 : Int32)) (l' := #[.val (.ref b), .val (.double gn4), .second, .val (.double gx4), .second, .val (.ref b), .val (.int (5 : Int32)), .val (.int ((((((0 : Int32) + (1 : Int32)) + (1 : Int32)) + (1 : Int32)) + (1 : Int32)) + (1 : Int32))), .val (.double x4), .second]) X268 hx 50 (hb hby d1_47) rfl rfl (by decide) rfl ?_
            refine g_goto X268 hx 19 (hb hby d1_50) (by decide) (by decide) ?_
            refine g_iload X268 hx 21 (hb hby d1_19) rfl rfl ?_
            refine g_iload X268 hx 23 (hb hby d1_21) rfl rfl ?_
            have ll270 : ((5 : Int32) : Int32).toInt = 5 := by decide
            have ll271 : (((((((0 : Int32) + (1 : Int32)) + (1 : Int32)) + (1 : Int32)) + (1 : Int32)) + (1 : Int32)) : Int32).toInt = 5 := by decide
            refine g_ic_ge X268 hx 53 26 (hb hby d1_23) (by decide) (by decide) rfl (fun c269 => ?_) (fun c269 => ?_)
            · skip
              refine g_new X268 hx hZ hown (hw _ (List.mem_of_getElem? (i := 12) rfl)) (hw _ (List.mem_of_getElem? (i := 13) rfl)) (hw _ (List.mem_of_getElem? (i := 3) rfl)) e268 56 (hb hby d1_53) rfl (by decide) (by decide) ?_
              intro T272 h272 a272 g272 X272 e272 E272 A272 D272
              have ne273 : b ≠ a272 := Nat.ne_of_lt (by rw [g272]; exact Vb.lt)
              have ge274 : n0 ≤ a272 := by rw [g272]; exact Z0
              have sz275 : h0.size ≤ a272 := by rw [g272]; exact (Keep.refl h0 []).1
              have F276 := Vb.ext E272
              have K277 := (Keep.refl h0 []).ext E272
              have Z278 : n0 ≤ h272.size := Nat.le_trans Z0 E272.1
              have F279 : Fld Z h272 a272 "com/example/recolecta/recolecta/Bins" "min" "D" (.double (0 : UInt64)) := D272 (Or.inr (hw _ (List.mem_of_getElem? (i := 24) rfl))) (ty := .double) (by decide)
              have F280 : Fld Z h272 a272 "com/example/recolecta/recolecta/Bins" "max" "D" (.double (0 : UInt64)) := D272 (Or.inr (hw _ (List.mem_of_getElem? (i := 26) rfl))) (ty := .double) (by decide)
              have F281 : Fld Z h272 a272 "com/example/recolecta/recolecta/Bins" "count" "I" (.int (0 : Int32)) := D272 (Or.inr (hw _ (List.mem_of_getElem? (i := 28) rfl))) (ty := .int) (by decide)
              refine g_dup X272 hx 57 (hb hby d1_56) rfl rfl ?_
              refine g_dloadN X272 hx 58 (hb hby d1_57) rfl rfl ?_
              refine g_dloadN X272 hx 59 (hb hby d1_58) rfl rfl ?_
              refine g_aloadN X272 hx 60 (hb hby d1_59) rfl rfl rfl ?_
              refine g_len X272 hx hZ e272 F276 61 (hb hby d1_60) rfl ?_
              refine g_dloadN X272 hx 62 (hb hby d1_61) rfl rfl ?_
              refine g_dloadN X272 hx 63 (hb hby d1_62) rfl rfl ?_
              have dn := A5
              have dx := B5
              have le := own_mm M5 W5
              refine g_static X272 hx hZ hown (hw _ (List.mem_of_getElem? (i := 14) rfl)) (hw _ (List.mem_of_getElem? (i := 15) rfl)) (hw _ (List.mem_of_getElem? (i := 3) rfl)) (hw _ (List.mem_of_getElem? (i := 16) rfl)) (by decide) (rmC l Z a0 hw 5 gn4 gx4 h272 n0 Z278 m5 w5 (Jvm.FP.Core.dcmp_int dn dx) (by decide)) e272 (argsL := [(.int (5 : Int32)), (.double gn4), (.double gx4)]) (rest := [(.double gx4), (.double gn4), (.ref a272), (.ref a272)]) rfl rfl 6 66 rfl (by rw [hml]; rfl) (lenOf own_pd2 rfl) (Nat.le_refl _) (by decide) (by decide) (by decide) (by decide) (hb hby d1_63) ?_
              intro v282 T282 L282 X282 hQ282
              obtain ⟨r, rfl, N282, q282, r1, r2⟩ := hQ282
              have N283 := Fr.app N0 N282
              show Go p e below _ T282 (mkF m 66 #[.val (.ref b), .val (.double gn4), .second, .val (.double gx4), .second, .val (.ref b), .val (.int (5 : Int32)), .val (.int ((((((0 : Int32) + (1 : Int32)) + (1 : Int32)) + (1 : Int32)) + (1 : Int32)) + (1 : Int32))), .val (.double x4), .second] [(.int r), (.double gx4), (.double gn4), (.ref a272), (.ref a272)])
              refine g_init X282 hx hZ rfl hown (hw _ (List.mem_of_getElem? (i := 17) rfl)) (hw _ (List.mem_of_getElem? (i := 18) rfl)) (hw _ (List.mem_of_getElem? (i := 3) rfl)) (hw _ (List.mem_of_getElem? (i := 19) rfl)) (by decide) (rm5 l Z a0 hw a272 gn4 gx4 r h272 n0 Z278 m5 w5 (Jvm.FP.Core.dcmp_int dn dx) le A272 ge274 F279 F280 F281) q282 (a := a272) (argsL := [(.double gn4), (.double gx4), (.int r)]) (rest := [(.ref a272)]) rfl rfl 1 69 rfl (by rw [hml]; rfl) (lenOf own_pd3 rfl) (Nat.le_refl _) (by decide) (by decide) (by decide) (by decide) (hb hby d1_66) ?_
              intro v284 T284 L284 X284 hQ284
              obtain ⟨rfl, N284, K284, F1284, F2284, F3284⟩ := hQ284
              have N285 := Fr.app N283 N284
              have F286 := F276.keep K284 (ninS ne273 nin0)
              have F287 := A272.keep K284
              have Z291 : n0 ≤ T284.heap.size := Nat.le_trans Z278 K284.1
              have K292 := K277.trans K284 (allS (Or.inr sz275) all0)
              show Go p e below _ T284 (mkF m 69 #[.val (.ref b), .val (.double gn4), .second, .val (.double gx4), .second, .val (.ref b), .val (.int (5 : Int32)), .val (.int ((((((0 : Int32) + (1 : Int32)) + (1 : Int32)) + (1 : Int32)) + (1 : Int32)) + (1 : Int32))), .val (.double x4), .second] [(.ref a272)])
              exact g_retA X284 hx hlk hret rfl rfl rfl (hb hby d1_69) (by decide) (by decide) rfl ⟨a272, rfl, N285, ge274, K292, F287, gn4, gx4, r, m5, w5, F1284, F2284, F3284, dn, dx, M5, W5, r1, r2⟩
            · skip
              exfalso; revert c269; decide
def Q_rm1_6 (Z : State) (i_x0 : Int) (i_x1 : Int) (i_x2 : Int) (i_x3 : Int) (i_x4 : Int) (i_x5 : Int) (n0 : Nat) (h0 : Heap) (v : Option Value) (h : Heap) (L : List Loc) : Prop := ∃ a : Addr, v = some (.ref a) ∧ Fr n0 L ∧ n0 ≤ a ∧ Keep h0 h [] ∧ Exa Z h a "com/example/recolecta/recolecta/Bins" ∧ ∃ (lo hi : UInt64) (r : Int32) (mi ma : Int), Fld Z h a "com/example/recolecta/recolecta/Bins" "min" "D" (.double lo) ∧ Fld Z h a "com/example/recolecta/recolecta/Bins" "max" "D" (.double hi) ∧ Fld Z h a "com/example/recolecta/recolecta/Bins" "count" "I" (.int r) ∧ Jvm.FP.Core.DInt mi lo ∧ Jvm.FP.Core.DInt ma hi ∧ IsMin mi [i_x5, i_x4, i_x3, i_x2, i_x1, i_x0, i_x0] ∧ IsMax ma [i_x5, i_x4, i_x3, i_x2, i_x1, i_x0, i_x0] ∧ (mi = ma → r.toInt = 1) ∧ (mi ≠ ma → CntIs (6 : Int32).toInt r.toInt)
theorem ef_rm1_6 (b : Addr) (m : MethodId) : entryFrame m #[(.ref b)] 10 = mkF m 0 #[.val (.ref b), .unset, .unset, .unset, .unset, .unset, .unset, .unset, .unset, .unset] [] := by first | (simp [entryFrame, mkF, argsToLocals, Value.category]; done) | rfl
set_option maxRecDepth 65536 in
set_option maxHeartbeats 40000000 in
theorem rm1_6 (l : Launch) (Z : State) (a0 : Array Value) (hw : ∀ d ∈ tables_1, d.before a0 Z = true) (b : Addr) (h0 : Heap) (n0 : Nat) (Z0 : n0 ≤ h0.size) (kb : ClassId) (x0 : UInt64) (i_x0 : Int) (h_x0 : Jvm.FP.Core.DInt i_x0 x0) (x1 : UInt64) (i_x1 : Int) (h_x1 : Jvm.FP.Core.DInt i_x1 x1) (x2 : UInt64) (i_x2 : Int) (h_x2 : Jvm.FP.Core.DInt i_x2 x2) (x3 : UInt64) (i_x3 : Int) (h_x3 : Jvm.FP.Core.DInt i_x3 x3) (x4 : UInt64) (i_x4 : Int) (h_x4 : Jvm.FP.Core.DInt i_x4 x4) (x5 : UInt64) (i_x5 : Int) (h_x5 : Jvm.FP.Core.DInt i_x5 x5) (Vb : Arv Z h0 b kb .double 6 [.double x0, .double x1, .double x2, .double x3, .double x4, .double x5] (.double 0)) :
    MetFree l (⟨"com/example/recolecta/recolecta/Bins", "over", "([D)Lcom/example/recolecta/recolecta/Bins;"⟩ : MethodName) (head1 [Jvm.Cond.code (⟨"com/example/recolecta/recolecta/Bins", "over", "([D)Lcom/example/recolecta/recolecta/Bins;"⟩ : MethodName) prog_6_method_2_code 10 (some (.object "com/example/recolecta/recolecta/Bins"))] ({ frames := 2, cells := 1, slots := 3, locals := 48 } : Room)) (fun as_ U => as_ = #[(.ref b)] ∧ Z.Warmed39 U.vm ∧ U.heap = h0) (fun _ _ _ _ _ => True) (fun _ U o U' => ∃ v L, o = .returned v ∧ Q_rm1_6 Z i_x0 i_x1 i_x2 i_x3 i_x4 i_x5 n0 h0 v U'.heap L ∧ FrameEnd U o U' L ({ frames := 2, cells := 1, slots := 3, locals := 48 } : Room).cells ({ frames := 2, cells := 1, slots := 3, locals := 48 } : Room).slots) := by
  refine own_met own_pf8 (ef_rm1_6 b) ?_
  intro p e s m below meth c T0 X0 hx hby hml hret hlk hnm hown hZ e0
  have N0 := Fr.nil n0
  refine g_aloadN X0 hx 1 (hb hby d1_0) rfl rfl rfl ?_
  refine g_iconst X0 hx (0 : Int32) 2 (hb hby d1_1) rfl (by decide) ?_
  refine g_daload X0 hx hZ e0 Vb (by decide) (by decide) (by rw [show ((0 : Int32) : Int32).toNatClampNeg = 0 by decide] <;> rfl) 3 (hb hby d1_2) rfl ?_
  refine g_dstoreN (l' := #[.val (.ref b), .val (.double x0), .second, .unset, .unset, .unset, .unset, .unset, .unset, .unset]) X0 hx 4 (hb hby d1_3) rfl rfl ?_
  refine g_aloadN X0 hx 5 (hb hby d1_4) rfl rfl rfl ?_
  refine g_iconst X0 hx (0 : Int32) 6 (hb hby d1_5) rfl (by decide) ?_
  refine g_daload X0 hx hZ e0 Vb (by decide) (by decide) (by rw [show ((0 : Int32) : Int32).toNatClampNeg = 0 by decide] <;> rfl) 7 (hb hby d1_6) rfl ?_
  refine g_dstoreN (l' := #[.val (.ref b), .val (.double x0), .second, .val (.double x0), .second, .unset, .unset, .unset, .unset, .unset]) X0 hx 8 (hb hby d1_7) rfl rfl ?_
  refine g_aloadN X0 hx 9 (hb hby d1_8) rfl rfl rfl ?_
  refine g_astore (l' := #[.val (.ref b), .val (.double x0), .second, .val (.double x0), .second, .val (.ref b), .unset, .unset, .unset, .unset]) X0 hx 11 (hb hby d1_9) rfl rfl rfl ?_
  refine g_aload X0 hx 13 (hb hby d1_11) rfl rfl rfl ?_
  refine g_len X0 hx hZ e0 Vb 14 (hb hby d1_13) rfl ?_
  refine g_istore (l' := #[.val (.ref b), .val (.double x0), .second, .val (.double x0), .second, .val (.ref b), .val (.int (6 : Int32)), .unset, .unset, .unset]) X0 hx 16 (hb hby d1_14) rfl rfl ?_
  refine g_iconst X0 hx (0 : Int32) 17 (hb hby d1_16) rfl (by decide) ?_
  refine g_istore (l' := #[.val (.ref b), .val (.double x0), .second, .val (.double x0), .second, .val (.ref b), .val (.int (6 : Int32)), .val (.int (0 : Int32)), .unset, .unset]) X0 hx 19 (hb hby d1_17) rfl rfl ?_
  refine g_iload X0 hx 21 (hb hby d1_19) rfl rfl ?_
  refine g_iload X0 hx 23 (hb hby d1_21) rfl rfl ?_
  have ll294 : ((6 : Int32) : Int32).toInt = 6 := by decide
  have ll295 : ((0 : Int32) : Int32).toInt = 0 := by decide
  refine g_ic_ge X0 hx 53 26 (hb hby d1_23) (by decide) (by decide) rfl (fun c293 => ?_) (fun c293 => ?_)
  · skip
    exfalso; revert c293; decide
  · skip
    refine g_aload X0 hx 28 (hb hby d1_26) rfl rfl rfl ?_
    refine g_iload X0 hx 30 (hb hby d1_28) rfl rfl ?_
    refine g_daload X0 hx hZ e0 Vb (by decide) (by decide) (by rw [show ((0 : Int32) : Int32).toNatClampNeg = 0 by decide] <;> rfl) 31 (hb hby d1_30) rfl ?_
    refine g_dstore (l' := #[.val (.ref b), .val (.double x0), .second, .val (.double x0), .second, .val (.ref b), .val (.int (6 : Int32)), .val (.int (0 : Int32)), .val (.double x0), .second]) X0 hx 33 (hb hby d1_31) rfl rfl ?_
    refine g_dloadN X0 hx 34 (hb hby d1_33) rfl rfl ?_
    refine g_dload X0 hx 36 (hb hby d1_34) rfl rfl ?_
    obtain ⟨m1, A1, a1, a2, a3⟩ := own_minE h_x0 h_x0
    have M1 := own_minS (own_min1 i_x0) a1 a2 a3
    clear a1 a2 a3
    obtain ⟨w1, B1, a1, a2, a3⟩ := own_maxE h_x0 h_x0
    have W1 := own_maxS (own_max1 i_x0) a1 a2 a3
    clear a1 a2 a3
    refine g_minD X0 hx hZ hown (hw _ (List.mem_of_getElem? (i := 5) rfl)) (hw _ (List.mem_of_getElem? (i := 6) rfl)) (hw _ (List.mem_of_getElem? (i := 7) rfl)) (hw _ (List.mem_of_getElem? (i := 8) rfl)) rfl e0 (own_dnn h_x0) (own_dnn h_x0) (r := (Jvm.Native.java_lang_Math.nans.pick64 false x0 x0)) rfl 0 39 (hb hby d1_36) rfl (by rw [hml]; rfl) (Nat.le_refl _) (by decide) (by decide) (by decide) (by decide) own_pd1 ?_
    intro T296 X296 e296
    refine g_dstoreN (l' := #[.val (.ref b), .val (.double (Jvm.Native.java_lang_Math.nans.pick64 false x0 x0)), .second, .val (.double x0), .second, .val (.ref b), .val (.int (6 : Int32)), .val (.int (0 : Int32)), .val (.double x0), .second]) X296 hx 40 (hb hby d1_39) rfl rfl ?_
    refine g_dloadN X296 hx 41 (hb hby d1_40) rfl rfl ?_
    refine g_dload X296 hx 43 (hb hby d1_41) rfl rfl ?_
    refine g_maxD X296 hx hZ hown (hw _ (List.mem_of_getElem? (i := 9) rfl)) (hw _ (List.mem_of_getElem? (i := 10) rfl)) (hw _ (List.mem_of_getElem? (i := 7) rfl)) (hw _ (List.mem_of_getElem? (i := 11) rfl)) rfl e296 (own_dnn h_x0) (own_dnn h_x0) (r := (Jvm.Native.java_lang_Math.nans.pick64 true x0 x0)) rfl 0 46 (hb hby d1_43) rfl (by rw [hml]; rfl) (Nat.le_refl _) (by decide) (by decide) (by decide) (by decide) own_pd1 ?_
    intro T297 X297 e297
    refine g_dstoreN (l' := #[.val (.ref b), .val (.double (Jvm.Native.java_lang_Math.nans.pick64 false x0 x0)), .second, .val (.double (Jvm.Native.java_lang_Math.nans.pick64 true x0 x0)), .second, .val (.ref b), .val (.int (6 : Int32)), .val (.int (0 : Int32)), .val (.double x0), .second]) X297 hx 47 (hb hby d1_46) rfl rfl ?_
    generalize hgx0 : (Jvm.Native.java_lang_Math.nans.pick64 true x0 x0) = gx0
    generalize hgn0 : (Jvm.Native.java_lang_Math.nans.pick64 false x0 x0) = gn0
    rw [hgn0] at A1
    rw [hgx0] at B1
    refine g_iinc (w := (1 : Int32)) (l' := #[.val (.ref b), .val (.double gn0), .second, .val (.double gx0), .second, .val (.ref b), .val (.int (6 : Int32)), .val (.int ((0 : Int32) + (1 : Int32))), .val (.double x0), .second]) X297 hx 50 (hb hby d1_47) rfl rfl (by decide) rfl ?_
    refine g_goto X297 hx 19 (hb hby d1_50) (by decide) (by decide) ?_
    refine g_iload X297 hx 21 (hb hby d1_19) rfl rfl ?_
    refine g_iload X297 hx 23 (hb hby d1_21) rfl rfl ?_
    have ll299 : ((6 : Int32) : Int32).toInt = 6 := by decide
    have ll300 : (((0 : Int32) + (1 : Int32)) : Int32).toInt = 1 := by decide
    refine g_ic_ge X297 hx 53 26 (hb hby d1_23) (by decide) (by decide) rfl (fun c298 => ?_) (fun c298 => ?_)
    · skip
      exfalso; revert c298; decide
    · skip
      refine g_aload X297 hx 28 (hb hby d1_26) rfl rfl rfl ?_
      refine g_iload X297 hx 30 (hb hby d1_28) rfl rfl ?_
      refine g_daload X297 hx hZ e297 Vb (by decide) (by decide) (by rw [show (((0 : Int32) + (1 : Int32)) : Int32).toNatClampNeg = 1 by decide] <;> rfl) 31 (hb hby d1_30) rfl ?_
      refine g_dstore (l' := #[.val (.ref b), .val (.double gn0), .second, .val (.double gx0), .second, .val (.ref b), .val (.int (6 : Int32)), .val (.int ((0 : Int32) + (1 : Int32))), .val (.double x1), .second]) X297 hx 33 (hb hby d1_31) rfl rfl ?_
      refine g_dloadN X297 hx 34 (hb hby d1_33) rfl rfl ?_
      refine g_dload X297 hx 36 (hb hby d1_34) rfl rfl ?_
      obtain ⟨m2, A2, a1, a2, a3⟩ := own_minE A1 h_x1
      have M2 := own_minS M1 a1 a2 a3
      clear a1 a2 a3
      obtain ⟨w2, B2, a1, a2, a3⟩ := own_maxE B1 h_x1
      have W2 := own_maxS W1 a1 a2 a3
      clear a1 a2 a3
      refine g_minD X297 hx hZ hown (hw _ (List.mem_of_getElem? (i := 5) rfl)) (hw _ (List.mem_of_getElem? (i := 6) rfl)) (hw _ (List.mem_of_getElem? (i := 7) rfl)) (hw _ (List.mem_of_getElem? (i := 8) rfl)) rfl e297 (own_dnn A1) (own_dnn h_x1) (r := (Jvm.Native.java_lang_Math.nans.pick64 false gn0 x1)) rfl 0 39 (hb hby d1_36) rfl (by rw [hml]; rfl) (Nat.le_refl _) (by decide) (by decide) (by decide) (by decide) own_pd1 ?_
      intro T301 X301 e301
      refine g_dstoreN (l' := #[.val (.ref b), .val (.double (Jvm.Native.java_lang_Math.nans.pick64 false gn0 x1)), .second, .val (.double gx0), .second, .val (.ref b), .val (.int (6 : Int32)), .val (.int ((0 : Int32) + (1 : Int32))), .val (.double x1), .second]) X301 hx 40 (hb hby d1_39) rfl rfl ?_
      refine g_dloadN X301 hx 41 (hb hby d1_40) rfl rfl ?_
      refine g_dload X301 hx 43 (hb hby d1_41) rfl rfl ?_
      refine g_maxD X301 hx hZ hown (hw _ (List.mem_of_getElem? (i := 9) rfl)) (hw _ (List.mem_of_getElem? (i := 10) rfl)) (hw _ (List.mem_of_getElem? (i := 7) rfl)) (hw _ (List.mem_of_getElem? (i := 11) rfl)) rfl e301 (own_dnn B1) (own_dnn h_x1) (r := (Jvm.Native.java_lang_Math.nans.pick64 true gx0 x1)) rfl 0 46 (hb hby d1_43) rfl (by rw [hml]; rfl) (Nat.le_refl _) (by decide) (by decide) (by decide) (by decide) own_pd1 ?_
      intro T302 X302 e302
      refine g_dstoreN (l' := #[.val (.ref b), .val (.double (Jvm.Native.java_lang_Math.nans.pick64 false gn0 x1)), .second, .val (.double (Jvm.Native.java_lang_Math.nans.pick64 true gx0 x1)), .second, .val (.ref b), .val (.int (6 : Int32)), .val (.int ((0 : Int32) + (1 : Int32))), .val (.double x1), .second]) X302 hx 47 (hb hby d1_46) rfl rfl ?_
      generalize hgx1 : (Jvm.Native.java_lang_Math.nans.pick64 true gx0 x1) = gx1
      generalize hgn1 : (Jvm.Native.java_lang_Math.nans.pick64 false gn0 x1) = gn1
      rw [hgn1] at A2
      rw [hgx1] at B2
      refine g_iinc (w := (1 : Int32)) (l' := #[.val (.ref b), .val (.double gn1), .second, .val (.double gx1), .second, .val (.ref b), .val (.int (6 : Int32)), .val (.int (((0 : Int32) + (1 : Int32)) + (1 : Int32))), .val (.double x1), .second]) X302 hx 50 (hb hby d1_47) rfl rfl (by decide) rfl ?_
      refine g_goto X302 hx 19 (hb hby d1_50) (by decide) (by decide) ?_
      refine g_iload X302 hx 21 (hb hby d1_19) rfl rfl ?_
      refine g_iload X302 hx 23 (hb hby d1_21) rfl rfl ?_
      have ll304 : ((6 : Int32) : Int32).toInt = 6 := by decide
      have ll305 : ((((0 : Int32) + (1 : Int32)) + (1 : Int32)) : Int32).toInt = 2 := by decide
      refine g_ic_ge X302 hx 53 26 (hb hby d1_23) (by decide) (by decide) rfl (fun c303 => ?_) (fun c303 => ?_)
      · skip
        exfalso; revert c303; decide
      · skip
        refine g_aload X302 hx 28 (hb hby d1_26) rfl rfl rfl ?_
        refine g_iload X302 hx 30 (hb hby d1_28) rfl rfl ?_
        refine g_daload X302 hx hZ e302 Vb (by decide) (by decide) (by rw [show ((((0 : Int32) + (1 : Int32)) + (1 : Int32)) : Int32).toNatClampNeg = 2 by decide] <;> rfl) 31 (hb hby d1_30) rfl ?_
        refine g_dstore (l' := #[.val (.ref b), .val (.double gn1), .second, .val (.double gx1), .second, .val (.ref b), .val (.int (6 : Int32)), .val (.int (((0 : Int32) + (1 : Int32)) + (1 : Int32))), .val (.double x2), .second]) X302 hx 33 (hb hby d1_31) rfl rfl ?_
        refine g_dloadN X302 hx 34 (hb hby d1_33) rfl rfl ?_
        refine g_dload X302 hx 36 (hb hby d1_34) rfl rfl ?_
        obtain ⟨m3, A3, a1, a2, a3⟩ := own_minE A2 h_x2
        have M3 := own_minS M2 a1 a2 a3
        clear a1 a2 a3
        obtain ⟨w3, B3, a1, a2, a3⟩ := own_maxE B2 h_x2
        have W3 := own_maxS W2 a1 a2 a3
        clear a1 a2 a3
        refine g_minD X302 hx hZ hown (hw _ (List.mem_of_getElem? (i := 5) rfl)) (hw _ (List.mem_of_getElem? (i := 6) rfl)) (hw _ (List.mem_of_getElem? (i := 7) rfl)) (hw _ (List.mem_of_getElem? (i := 8) rfl)) rfl e302 (own_dnn A2) (own_dnn h_x2) (r := (Jvm.Native.java_lang_Math.nans.pick64 false gn1 x2)) rfl 0 39 (hb hby d1_36) rfl (by rw [hml]; rfl) (Nat.le_refl _) (by decide) (by decide) (by decide) (by decide) own_pd1 ?_
        intro T306 X306 e306
        refine g_dstoreN (l' := #[.val (.ref b), .val (.double (Jvm.Native.java_lang_Math.nans.pick64 false gn1 x2)), .second, .val (.double gx1), .second, .val (.ref b), .val (.int (6 : Int32)), .val (.int (((0 : Int32) + (1 : Int32)) + (1 : Int32))), .val (.double x2), .second]) X306 hx 40 (hb hby d1_39) rfl rfl ?_
        refine g_dloadN X306 hx 41 (hb hby d1_40) rfl rfl ?_
        refine g_dload X306 hx 43 (hb hby d1_41) rfl rfl ?_
        refine g_maxD X306 hx hZ hown (hw _ (List.mem_of_getElem? (i := 9) rfl)) (hw _ (List.mem_of_getElem? (i := 10) rfl)) (hw _ (List.mem_of_getElem? (i := 7) rfl)) (hw _ (List.mem_of_getElem? (i := 11) rfl)) rfl e306 (own_dnn B2) (own_dnn h_x2) (r := (Jvm.Native.java_lang_Math.nans.pick64 true gx1 x2)) rfl 0 46 (hb hby d1_43) rfl (by rw [hml]; rfl) (Nat.le_refl _) (by decide) (by decide) (by decide) (by decide) own_pd1 ?_
        intro T307 X307 e307
        refine g_dstoreN (l' := #[.val (.ref b), .val (.double (Jvm.Native.java_lang_Math.nans.pick64 false gn1 x2)), .second, .val (.double (Jvm.Native.java_lang_Math.nans.pick64 true gx1 x2)), .second, .val (.ref b), .val (.int (6 : Int32)), .val (.int (((0 : Int32) + (1 : Int32)) + (1 : Int32))), .val (.double x2), .second]) X307 hx 47 (hb hby d1_46) rfl rfl ?_
        generalize hgx2 : (Jvm.Native.java_lang_Math.nans.pick64 true gx1 x2) = gx2
        generalize hgn2 : (Jvm.Native.java_lang_Math.nans.pick64 false gn1 x2) = gn2
        rw [hgn2] at A3
        rw [hgx2] at B3
        refine g_iinc (w := (1 : Int32)) (l' := #[.val (.ref b), .val (.double gn2), .second, .val (.double gx2), .second, .val (.ref b), .val (.int (6 : Int32)), .val (.int ((((0 : Int32) + (1 : Int32)) + (1 : Int32)) + (1 : Int32))), .val (.double x2), .second]) X307 hx 50 (hb hby d1_47) rfl rfl (by decide) rfl ?_
        refine g_goto X307 hx 19 (hb hby d1_50) (by decide) (by decide) ?_
        refine g_iload X307 hx 21 (hb hby d1_19) rfl rfl ?_
        refine g_iload X307 hx 23 (hb hby d1_21) rfl rfl ?_
        have ll309 : ((6 : Int32) : Int32).toInt = 6 := by decide
        have ll310 : (((((0 : Int32) + (1 : Int32)) + (1 : Int32)) + (1 : Int32)) : Int32).toInt = 3 := by decide
        refine g_ic_ge X307 hx 53 26 (hb hby d1_23) (by decide) (by decide) rfl (fun c308 => ?_) (fun c308 => ?_)
        · skip
          exfalso; revert c308; decide
        · skip
          refine g_aload X307 hx 28 (hb hby d1_26) rfl rfl rfl ?_
          refine g_iload X307 hx 30 (hb hby d1_28) rfl rfl ?_
          refine g_daload X307 hx hZ e307 Vb (by decide) (by decide) (by rw [show (((((0 : Int32) + (1 : Int32)) + (1 : Int32)) + (1 : Int32)) : Int32).toNatClampNeg = 3 by decide] <;> rfl) 31 (hb hby d1_30) rfl ?_
          refine g_dstore (l' := #[.val (.ref b), .val (.double gn2), .second, .val (.double gx2), .second, .val (.ref b), .val (.int (6 : Int32)), .val (.int ((((0 : Int32) + (1 : Int32)) + (1 : Int32)) + (1 : Int32))), .val (.double x3), .second]) X307 hx 33 (hb hby d1_31) rfl rfl ?_
          refine g_dloadN X307 hx 34 (hb hby d1_33) rfl rfl ?_
          refine g_dload X307 hx 36 (hb hby d1_34) rfl rfl ?_
          obtain ⟨m4, A4, a1, a2, a3⟩ := own_minE A3 h_x3
          have M4 := own_minS M3 a1 a2 a3
          clear a1 a2 a3
          obtain ⟨w4, B4, a1, a2, a3⟩ := own_maxE B3 h_x3
          have W4 := own_maxS W3 a1 a2 a3
          clear a1 a2 a3
          refine g_minD X307 hx hZ hown (hw _ (List.mem_of_getElem? (i := 5) rfl)) (hw _ (List.mem_of_getElem? (i := 6) rfl)) (hw _ (List.mem_of_getElem? (i := 7) rfl)) (hw _ (List.mem_of_getElem? (i := 8) rfl)) rfl e307 (own_dnn A3) (own_dnn h_x3) (r := (Jvm.Native.java_lang_Math.nans.pick64 false gn2 x3)) rfl 0 39 (hb hby d1_36) rfl (by rw [hml]; rfl) (Nat.le_refl _) (by decide) (by decide) (by decide) (by decide) own_pd1 ?_
          intro T311 X311 e311
          refine g_dstoreN (l' := #[.val (.ref b), .val (.double (Jvm.Native.java_lang_Math.nans.pick64 false gn2 x3)), .second, .val (.double gx2), .second, .val (.ref b), .val (.int (6 : Int32)), .val (.int ((((0 : Int32) + (1 : Int32)) + (1 : Int32)) + (1 : Int32))), .val (.double x3), .second]) X311 hx 40 (hb hby d1_39) rfl rfl ?_
          refine g_dloadN X311 hx 41 (hb hby d1_40) rfl rfl ?_
          refine g_dload X311 hx 43 (hb hby d1_41) rfl rfl ?_
          refine g_maxD X311 hx hZ hown (hw _ (List.mem_of_getElem? (i := 9) rfl)) (hw _ (List.mem_of_getElem? (i := 10) rfl)) (hw _ (List.mem_of_getElem? (i := 7) rfl)) (hw _ (List.mem_of_getElem? (i := 11) rfl)) rfl e311 (own_dnn B3) (own_dnn h_x3) (r := (Jvm.Native.java_lang_Math.nans.pick64 true gx2 x3)) rfl 0 46 (hb hby d1_43) rfl (by rw [hml]; rfl) (Nat.le_refl _) (by decide) (by decide) (by decide) (by decide) own_pd1 ?_
          intro T312 X312 e312
          refine g_dstoreN (l' := #[.val (.ref b), .val (.double (Jvm.Native.java_lang_Math.nans.pick64 false gn2 x3)), .second, .val (.double (Jvm.Native.java_lang_Math.nans.pick64 true gx2 x3)), .second, .val (.ref b), .val (.int (6 : Int32)), .val (.int ((((0 : Int32) + (1 : Int32)) + (1 : Int32)) + (1 : Int32))), .val (.double x3), .second]) X312 hx 47 (hb hby d1_46) rfl rfl ?_
          generalize hgx3 : (Jvm.Native.java_lang_Math.nans.pick64 true gx2 x3) = gx3
          generalize hgn3 : (Jvm.Native.java_lang_Math.nans.pick64 false gn2 x3) = gn3
          rw [hgn3] at A4
          rw [hgx3] at B4
          refine g_iinc (w := (1 : Int32)) (l' := #[.val (.ref b), .val (.double gn3), .second, .val (.double gx3), .second, .val (.ref b), .val (.int (6 : Int32)), .val (.int (((((0 : Int32) + (1 : Int32)) + (1 : Int32)) + (1 : Int32)) + (1 : Int32))), .val (.double x3), .second]) X312 hx 50 (hb hby d1_47) rfl rfl (by decide) rfl ?_
          refine g_goto X312 hx 19 (hb hby d1_50) (by decide) (by decide) ?_
          refine g_iload X312 hx 21 (hb hby d1_19) rfl rfl ?_
          refine g_iload X312 hx 23 (hb hby d1_21) rfl rfl ?_
          have ll314 : ((6 : Int32) : Int32).toInt = 6 := by decide
          have ll315 : ((((((0 : Int32) + (1 : Int32)) + (1 : Int32)) + (1 : Int32)) + (1 : Int32)) : Int32).toInt = 4 := by decide
          refine g_ic_ge X312 hx 53 26 (hb hby d1_23) (by decide) (by decide) rfl (fun c313 => ?_) (fun c313 => ?_)
          · skip
            exfalso; revert c313; decide
          · skip
            refine g_aload X312 hx 28 (hb hby d1_26) rfl rfl rfl ?_
            refine g_iload X312 hx 30 (hb hby d1_28) rfl rfl ?_
            refine g_daload X312 hx hZ e312 Vb (by decide) (by decide) (by rw [show ((((((0 : Int32) + (1 : Int32)) + (1 : Int32)) + (1 : Int32)) + (1 : Int32)) : Int32).toNatClampNeg = 4 by decide] <;> rfl) 31 (hb hby d1_30) rfl ?_
            refine g_dstore (l' := #[.val (.ref b), .val (.double gn3), .second, .val (.double gx3), .second, .val (.ref b), .val (.int (6 : Int32)), .val (.int (((((0 : Int32) + (1 : Int32)) + (1 : Int32)) + (1 : Int32)) + (1 : Int32))), .val (.double x4), .second]) X312 hx 33 (hb hby d1_31) rfl rfl ?_
            refine g_dloadN X312 hx 34 (hb hby d1_33) rfl rfl ?_
            refine g_dload X312 hx 36 (hb hby d1_34) rfl rfl ?_
            obtain ⟨m5, A5, a1, a2, a3⟩ := own_minE A4 h_x4
            have M5 := own_minS M4 a1 a2 a3
            clear a1 a2 a3
            obtain ⟨w5, B5, a1, a2, a3⟩ := own_maxE B4 h_x4
            have W5 := own_maxS W4 a1 a2 a3
            clear a1 a2 a3
            refine g_minD X312 hx hZ hown (hw _ (List.mem_of_getElem? (i := 5) rfl)) (hw _ (List.mem_of_getElem? (i := 6) rfl)) (hw _ (List.mem_of_getElem? (i := 7) rfl)) (hw _ (List.mem_of_getElem? (i := 8) rfl)) rfl e312 (own_dnn A4) (own_dnn h_x4) (r := (Jvm.Native.java_lang_Math.nans.pick64 false gn3 x4)) rfl 0 39 (hb hby d1_36) rfl (by rw [hml]; rfl) (Nat.le_refl _) (by decide) (by decide) (by decide) (by decide) own_pd1 ?_
            intro T316 X316 e316
            refine g_dstoreN (l' := #[.val (.ref b), .val (.double (Jvm.Native.java_lang_Math.nans.pick64 false gn3 x4)), .second, .val (.double gx3), .second, .val (.ref b), .val (.int (6 : Int32)), .val (.int (((((0 : Int32) + (1 : Int32)) + (1 : Int32)) + (1 : Int32)) + (1 : Int32))), .val (.double x4), .second]) X316 hx 40 (hb hby d1_39) rfl rfl ?_
            refine g_dloadN X316 hx 41 (hb hby d1_40) rfl rfl ?_
            refine g_dload X316 hx 43 (hb hby d1_41) rfl rfl ?_
            refine g_maxD X316 hx hZ hown (hw _ (List.mem_of_getElem? (i := 9) rfl)) (hw _ (List.mem_of_getElem? (i := 10) rfl)) (hw _ (List.mem_of_getElem? (i := 7) rfl)) (hw _ (List.mem_of_getElem? (i := 11) rfl)) rfl e316 (own_dnn B4) (own_dnn h_x4) (r := (Jvm.Native.java_lang_Math.nans.pick64 true gx3 x4)) rfl 0 46 (hb hby d1_43) rfl (by rw [hml]; rfl) (Nat.le_refl _) (by decide) (by decide) (by decide) (by decide) own_pd1 ?_
            intro T317 X317 e317
            refine g_dstoreN (l' := #[.val (.ref b), .val (.double (Jvm.Native.java_lang_Math.nans.pick64 false gn3 x4)), .second, .val (.double (Jvm.Native.java_lang_Math.nans.pick64 true gx3 x4)), .second, .val (.ref b), .val (.int (6 : Int32)), .val (.int (((((0 : Int32) + (1 : Int32)) + (1 : Int32)) + (1 : Int32)) + (1 : Int32))), .val (.double x4), .second]) X317 hx 47 (hb hby d1_46) rfl rfl ?_
            generalize hgx4 : (Jvm.Native.java_lang_Math.nans.pick64 true gx3 x4) = gx4
            generalize hgn4 : (Jvm.Native.java_lang_Math.nans.pick64 false gn3 x4) = gn4
            rw [hgn4] at A5
            rw [hgx4] at B5
            refine g_iinc (w := (1 : Int32)) (l' := #[.val (.ref b), .val (.double gn4), .second, .val (.double gx4), .second, .val (.ref b), .val (.int (6 : Int32)), .val (.int ((((((0 : Int32) + (1 : Int32)) + (1 : Int32)) + (1 : Int32)) + (1 : Int32)) + (1 : Int32))), .val (.double x4), .second]) X317 hx 50 (hb hby d1_47) rfl rfl (by decide) rfl ?_
            refine g_goto X317 hx 19 (hb hby d1_50) (by decide) (by decide) ?_
            refine g_iload X317 hx 21 (hb hby d1_19) rfl rfl ?_
            refine g_iload X317 hx 23 (hb hby d1_21) rfl rfl ?_
            have ll319 : ((6 : Int32) : Int32).toInt = 6 := by decide
            have ll320 : (((((((0 : Int32) + (1 : Int32)) + (1 : Int32)) + (1 : Int32)) + (1 : Int32)) + (1 : Int32)) : Int32).toInt = 5 := by decide
            refine g_ic_ge X317 hx 53 26 (hb hby d1_23) (by decide) (by decide) rfl (fun c318 => ?_) (fun c318 => ?_)
            · skip
              exfalso; revert c318; decide
            · skip
              refine g_aload X317 hx 28 (hb hby d1_26) rfl rfl rfl ?_
              refine g_iload X317 hx 30 (hb hby d1_28) rfl rfl ?_
              refine g_daload X317 hx hZ e317 Vb (by decide) (by decide) (by rw [show (((((((0 : Int32) + (1 : Int32)) + (1 : Int32)) + (1 : Int32)) + (1 : Int32)) + (1 : Int32)) : Int32).toNatClampNeg = 5 by decide] <;> rfl) 31 (hb hby d1_30) rfl ?_
              refine g_dstore (l' := #[.val (.ref b), .val (.double gn4), .second, .val (.double gx4), .second, .val (.ref b), .val (.int (6 : Int32)), .val (.int ((((((0 : Int32) + (1 : Int32)) + (1 : Int32)) + (1 : Int32)) + (1 : Int32)) + (1 : Int32))), .val (.double x5), .second]) X317 hx 33 (hb hby d1_31) rfl rfl ?_
              refine g_dloadN X317 hx 34 (hb hby d1_33) rfl rfl ?_
              refine g_dload X317 hx 36 (hb hby d1_34) rfl rfl ?_
              obtain ⟨m6, A6, a1, a2, a3⟩ := own_minE A5 h_x5
              have M6 := own_minS M5 a1 a2 a3
              clear a1 a2 a3
              obtain ⟨w6, B6, a1, a2, a3⟩ := own_maxE B5 h_x5
              have W6 := own_maxS W5 a1 a2 a3
              clear a1 a2 a3
              refine g_minD X317 hx hZ hown (hw _ (List.mem_of_getElem? (i := 5) rfl)) (hw _ (List.mem_of_getElem? (i := 6) rfl)) (hw _ (List.mem_of_getElem? (i := 7) rfl)) (hw _ (List.mem_of_getElem? (i := 8) rfl)) rfl e317 (own_dnn A5) (own_dnn h_x5) (r := (Jvm.Native.java_lang_Math.nans.pick64 false gn4 x5)) rfl 0 39 (hb hby d1_36) rfl (by rw [hml]; rfl) (Nat.le_refl _) (by decide) (by decide) (by decide) (by decide) own_pd1 ?_
              intro T321 X321 e321
              refine g_dstoreN (l' := #[.val (.ref b), .val (.double (Jvm.Native.java_lang_Math.nans.pick64 false gn4 x5)), .second, .val (.double gx4), .second, .val (.ref b), .val (.int (6 : Int32)), .val (.int ((((((0 : Int32) + (1 : Int32)) + (1 : Int32)) + (1 : Int32)) + (1 : Int32)) + (1 : Int32))), .val (.double x5), .second]) X321 hx 40 (hb hby d1_39) rfl rfl ?_
              refine g_dloadN X321 hx 41 (hb hby d1_40) rfl rfl ?_
              refine g_dload X321 hx 43 (hb hby d1_41) rfl rfl ?_
              refine g_maxD X321 hx hZ hown (hw _ (List.mem_of_getElem? (i := 9) rfl)) (hw _ (List.mem_of_getElem? (i := 10) rfl)) (hw _ (List.mem_of_getElem? (i := 7) rfl)) (hw _ (List.mem_of_getElem? (i := 11) rfl)) rfl e321 (own_dnn B5) (own_dnn h_x5) (r := (Jvm.Native.java_lang_Math.nans.pick64 true gx4 x5)) rfl 0 46 (hb hby d1_43) rfl (by rw [hml]; rfl) (Nat.le_refl _) (by decide) (by decide) (by decide) (by decide) own_pd1 ?_
              intro T322 X322 e322
              refine g_dstoreN (l' := #[.val (.ref b), .val (.double (Jvm.Native.java_lang_Math.nans.pick64 false gn4 x5)), .second, .val (.double (Jvm.Native.java_lang_Math.nans.pick64 true gx4 x5)), .second, .val (.ref b), .val (.int (6 : Int32)), .val (.int ((((((0 : Int32) + (1 : Int32)) + (1 : Int32)) + (1 : Int32)) + (1 : Int32)) + (1 : Int32))), .val (.double x5), .second]) X322 hx 47 (hb hby d1_46) rfl rfl ?_
              generalize hgx5 : (Jvm.Native.java_lang_Math.nans.pick64 true gx4 x5) = gx5
              generalize hgn5 : (Jvm.Native.java_lang_Math.nans.pick64 false gn4 x5) = gn5
              rw [hgn5] at A6
              rw [hgx5] at B6
              refine g_iinc (w := (1 : Int32)) (l' := #[.val (.ref b), .val (.double gn5), .second, .val (.double gx5), .second, .val (.ref b), .val (.int (6 : Int32)), .val (.int (((((((0 : Int32) + (1 : Int32)) + (1 : Int32)) + (1 : Int32)) + (1 : Int32)) + (1 : Int32)) + (1 : Int32))), .val (.double x5), .second]) X322 hx 50 (hb hby d1_47) rfl rfl (by decide) rfl ?_
              refine g_goto X322 hx 19 (hb hby d1_50) (by decide) (by decide) ?_
              refine g_iload X322 hx 21 (hb hby d1_19) rfl rfl ?_
              refine g_iload X322 hx 23 (hb hby d1_21) rfl rfl ?_
              have ll324 : ((6 : Int32) : Int32).toInt = 6 := by decide
              have ll325 : ((((((((0 : Int32) + (1 : Int32)) + (1 : Int32)) + (1 : Int32)) + (1 : Int32)) + (1 : Int32)) + (1 : Int32)) : Int32).toInt = 6 := by decide
              refine g_ic_ge X322 hx 53 26 (hb hby d1_23) (by decide) (by decide) rfl (fun c323 => ?_) (fun c323 => ?_)
              · skip
                refine g_new X322 hx hZ hown (hw _ (List.mem_of_getElem? (i := 12) rfl)) (hw _ (List.mem_of_getElem? (i := 13) rfl)) (hw _ (List.mem_of_getElem? (i := 3) rfl)) e322 56 (hb hby d1_53) rfl (by decide) (by decide) ?_
                intro T326 h326 a326 g326 X326 e326 E326 A326 D326
                have ne327 : b ≠ a326 := Nat.ne_of_lt (by rw [g326]; exact Vb.lt)
                have ge328 : n0 ≤ a326 := by rw [g326]; exact Z0
                have sz329 : h0.size ≤ a326 := by rw [g326]; exact (Keep.refl h0 []).1
                have F330 := Vb.ext E326
                have K331 := (Keep.refl h0 []).ext E326
                have Z332 : n0 ≤ h326.size := Nat.le_trans Z0 E326.1
                have F333 : Fld Z h326 a326 "com/example/recolecta/recolecta/Bins" "min" "D" (.double (0 : UInt64)) := D326 (Or.inr (hw _ (List.mem_of_getElem? (i := 24) rfl))) (ty := .double) (by decide)
                have F334 : Fld Z h326 a326 "com/example/recolecta/recolecta/Bins" "max" "D" (.double (0 : UInt64)) := D326 (Or.inr (hw _ (List.mem_of_getElem? (i := 26) rfl))) (ty := .double) (by decide)
                have F335 : Fld Z h326 a326 "com/example/recolecta/recolecta/Bins" "count" "I" (.int (0 : Int32)) := D326 (Or.inr (hw _ (List.mem_of_getElem? (i := 28) rfl))) (ty := .int) (by decide)
                refine g_dup X326 hx 57 (hb hby d1_56) rfl rfl ?_
                refine g_dloadN X326 hx 58 (hb hby d1_57) rfl rfl ?_
                refine g_dloadN X326 hx 59 (hb hby d1_58) rfl rfl ?_
                refine g_aloadN X326 hx 60 (hb hby d1_59) rfl rfl rfl ?_
                refine g_len X326 hx hZ e326 F330 61 (hb hby d1_60) rfl ?_
                refine g_dloadN X326 hx 62 (hb hby d1_61) rfl rfl ?_
                refine g_dloadN X326 hx 63 (hb hby d1_62) rfl rfl ?_
                have dn := A6
                have dx := B6
                have le := own_mm M6 W6
                refine g_static X326 hx hZ hown (hw _ (List.mem_of_getElem? (i := 14) rfl)) (hw _ (List.mem_of_getElem? (i := 15) rfl)) (hw _ (List.mem_of_getElem? (i := 3) rfl)) (hw _ (List.mem_of_getElem? (i := 16) rfl)) (by decide) (rmC l Z a0 hw 6 gn5 gx5 h326 n0 Z332 m6 w6 (Jvm.FP.Core.dcmp_int dn dx) (by decide)) e326 (argsL := [(.int (6 : Int32)), (.double gn5), (.double gx5)]) (rest := [(.double gx5), (.double gn5), (.ref a326), (.ref a326)]) rfl rfl 6 66 rfl (by rw [hml]; rfl) (lenOf own_pd2 rfl) (Nat.le_refl _) (by decide) (by decide) (by decide) (by decide) (hb hby d1_63) ?_
                intro v336 T336 L336 X336 hQ336
                obtain ⟨r, rfl, N336, q336, r1, r2⟩ := hQ336
                have N337 := Fr.app N0 N336
                show Go p e below _ T336 (mkF m 66 #[.val (.ref b), .val (.double gn5), .second, .val (.double gx5), .second, .val (.ref b), .val (.int (6 : Int32)), .val (.int (((((((0 : Int32) + (1 : Int32)) + (1 : Int32)) + (1 : Int32)) + (1 : Int32)) + (1 : Int32)) + (1 : Int32))), .val (.double x5), .second] [(.int r), (.double gx5), (.double gn5), (.ref a326), (.ref a326)])
                refine g_init X336 hx hZ rfl hown (hw _ (List.mem_of_getElem? (i := 17) rfl)) (hw _ (List.mem_of_getElem? (i := 18) rfl)) (hw _ (List.mem_of_getElem? (i := 3) rfl)) (hw _ (List.mem_of_getElem? (i := 19) rfl)) (by decide) (rm5 l Z a0 hw a326 gn5 gx5 r h326 n0 Z332 m6 w6 (Jvm.FP.Core.dcmp_int dn dx) le A326 ge328 F333 F334 F335) q336 (a := a326) (argsL := [(.double gn5), (.double gx5), (.int r)]) (rest := [(.ref a326)]) rfl rfl 1 69 rfl (by rw [hml]; rfl) (lenOf own_pd3 rfl) (Nat.le_refl _) (by decide) (by decide) (by decide) (by decide) (hb hby d1_66) ?_
                intro v338 T338 L338 X338 hQ338
                obtain ⟨rfl, N338, K338, F1338, F2338, F3338⟩ := hQ338
                have N339 := Fr.app N337 N338
                have F340 := F330.keep K338 (ninS ne327 nin0)
                have F341 := A326.keep K338
                have Z345 : n0 ≤ T338.heap.size := Nat.le_trans Z332 K338.1
                have K346 := K331.trans K338 (allS (Or.inr sz329) all0)
                show Go p e below _ T338 (mkF m 69 #[.val (.ref b), .val (.double gn5), .second, .val (.double gx5), .second, .val (.ref b), .val (.int (6 : Int32)), .val (.int (((((((0 : Int32) + (1 : Int32)) + (1 : Int32)) + (1 : Int32)) + (1 : Int32)) + (1 : Int32)) + (1 : Int32))), .val (.double x5), .second] [(.ref a326)])
                exact g_retA X338 hx hlk hret rfl rfl rfl (hb hby d1_69) (by decide) (by decide) rfl ⟨a326, rfl, N339, ge328, K346, F341, gn5, gx5, r, m6, w6, F1338, F2338, F3338, dn, dx, M6, W6, r1, r2⟩
              · skip
                exfalso; revert c323; decide
def Q_rm1_7 (Z : State) (i_x0 : Int) (i_x1 : Int) (i_x2 : Int) (i_x3 : Int) (i_x4 : Int) (i_x5 : Int) (i_x6 : Int) (n0 : Nat) (h0 : Heap) (v : Option Value) (h : Heap) (L : List Loc) : Prop := ∃ a : Addr, v = some (.ref a) ∧ Fr n0 L ∧ n0 ≤ a ∧ Keep h0 h [] ∧ Exa Z h a "com/example/recolecta/recolecta/Bins" ∧ ∃ (lo hi : UInt64) (r : Int32) (mi ma : Int), Fld Z h a "com/example/recolecta/recolecta/Bins" "min" "D" (.double lo) ∧ Fld Z h a "com/example/recolecta/recolecta/Bins" "max" "D" (.double hi) ∧ Fld Z h a "com/example/recolecta/recolecta/Bins" "count" "I" (.int r) ∧ Jvm.FP.Core.DInt mi lo ∧ Jvm.FP.Core.DInt ma hi ∧ IsMin mi [i_x6, i_x5, i_x4, i_x3, i_x2, i_x1, i_x0, i_x0] ∧ IsMax ma [i_x6, i_x5, i_x4, i_x3, i_x2, i_x1, i_x0, i_x0] ∧ (mi = ma → r.toInt = 1) ∧ (mi ≠ ma → CntIs (7 : Int32).toInt r.toInt)
theorem ef_rm1_7 (b : Addr) (m : MethodId) : entryFrame m #[(.ref b)] 10 = mkF m 0 #[.val (.ref b), .unset, .unset, .unset, .unset, .unset, .unset, .unset, .unset, .unset] [] := by first | (simp [entryFrame, mkF, argsToLocals, Value.category]; done) | rfl
set_option maxRecDepth 65536 in
set_option maxHeartbeats 40000000 in
theorem rm1_7 (l : Launch) (Z : State) (a0 : Array Value) (hw : ∀ d ∈ tables_1, d.before a0 Z = true) (b : Addr) (h0 : Heap) (n0 : Nat) (Z0 : n0 ≤ h0.size) (kb : ClassId) (x0 : UInt64) (i_x0 : Int) (h_x0 : Jvm.FP.Core.DInt i_x0 x0) (x1 : UInt64) (i_x1 : Int) (h_x1 : Jvm.FP.Core.DInt i_x1 x1) (x2 : UInt64) (i_x2 : Int) (h_x2 : Jvm.FP.Core.DInt i_x2 x2) (x3 : UInt64) (i_x3 : Int) (h_x3 : Jvm.FP.Core.DInt i_x3 x3) (x4 : UInt64) (i_x4 : Int) (h_x4 : Jvm.FP.Core.DInt i_x4 x4) (x5 : UInt64) (i_x5 : Int) (h_x5 : Jvm.FP.Core.DInt i_x5 x5) (x6 : UInt64) (i_x6 : Int) (h_x6 : Jvm.FP.Core.DInt i_x6 x6) (Vb : Arv Z h0 b kb .double 7 [.double x0, .double x1, .double x2, .double x3, .double x4, .double x5, .double x6] (.double 0)) :
    MetFree l (⟨"com/example/recolecta/recolecta/Bins", "over", "([D)Lcom/example/recolecta/recolecta/Bins;"⟩ : MethodName) (head1 [Jvm.Cond.code (⟨"com/example/recolecta/recolecta/Bins", "over", "([D)Lcom/example/recolecta/recolecta/Bins;"⟩ : MethodName) prog_6_method_2_code 10 (some (.object "com/example/recolecta/recolecta/Bins"))] ({ frames := 2, cells := 1, slots := 3, locals := 48 } : Room)) (fun as_ U => as_ = #[(.ref b)] ∧ Z.Warmed39 U.vm ∧ U.heap = h0) (fun _ _ _ _ _ => True) (fun _ U o U' => ∃ v L, o = .returned v ∧ Q_rm1_7 Z i_x0 i_x1 i_x2 i_x3 i_x4 i_x5 i_x6 n0 h0 v U'.heap L ∧ FrameEnd U o U' L ({ frames := 2, cells := 1, slots := 3, locals := 48 } : Room).cells ({ frames := 2, cells := 1, slots := 3, locals := 48 } : Room).slots) := by
  refine own_met own_pf8 (ef_rm1_7 b) ?_
  intro p e s m below meth c T0 X0 hx hby hml hret hlk hnm hown hZ e0
  have N0 := Fr.nil n0
  refine g_aloadN X0 hx 1 (hb hby d1_0) rfl rfl rfl ?_
  refine g_iconst X0 hx (0 : Int32) 2 (hb hby d1_1) rfl (by decide) ?_
  refine g_daload X0 hx hZ e0 Vb (by decide) (by decide) (by rw [show ((0 : Int32) : Int32).toNatClampNeg = 0 by decide] <;> rfl) 3 (hb hby d1_2) rfl ?_
  refine g_dstoreN (l' := #[.val (.ref b), .val (.double x0), .second, .unset, .unset, .unset, .unset, .unset, .unset, .unset]) X0 hx 4 (hb hby d1_3) rfl rfl ?_
  refine g_aloadN X0 hx 5 (hb hby d1_4) rfl rfl rfl ?_
  refine g_iconst X0 hx (0 : Int32) 6 (hb hby d1_5) rfl (by decide) ?_
  refine g_daload X0 hx hZ e0 Vb (by decide) (by decide) (by rw [show ((0 : Int32) : Int32).toNatClampNeg = 0 by decide] <;> rfl) 7 (hb hby d1_6) rfl ?_
  refine g_dstoreN (l' := #[.val (.ref b), .val (.double x0), .second, .val (.double x0), .second, .unset, .unset, .unset, .unset, .unset]) X0 hx 8 (hb hby d1_7) rfl rfl ?_
  refine g_aloadN X0 hx 9 (hb hby d1_8) rfl rfl rfl ?_
  refine g_astore (l' := #[.val (.ref b), .val (.double x0), .second, .val (.double x0), .second, .val (.ref b), .unset, .unset, .unset, .unset]) X0 hx 11 (hb hby d1_9) rfl rfl rfl ?_
  refine g_aload X0 hx 13 (hb hby d1_11) rfl rfl rfl ?_
  refine g_len X0 hx hZ e0 Vb 14 (hb hby d1_13) rfl ?_
  refine g_istore (l' := #[.val (.ref b), .val (.double x0), .second, .val (.double x0), .second, .val (.ref b), .val (.int (7 : Int32)), .unset, .unset, .unset]) X0 hx 16 (hb hby d1_14) rfl rfl ?_
  refine g_iconst X0 hx (0 : Int32) 17 (hb hby d1_16) rfl (by decide) ?_
  refine g_istore (l' := #[.val (.ref b), .val (.double x0), .second, .val (.double x0), .second, .val (.ref b), .val (.int (7 : Int32)), .val (.int (0 : Int32)), .unset, .unset]) X0 hx 19 (hb hby d1_17) rfl rfl ?_
  refine g_iload X0 hx 21 (hb hby d1_19) rfl rfl ?_
  refine g_iload X0 hx 23 (hb hby d1_21) rfl rfl ?_
  have ll348 : ((7 : Int32) : Int32).toInt = 7 := by decide
  have ll349 : ((0 : Int32) : Int32).toInt = 0 := by decide
  refine g_ic_ge X0 hx 53 26 (hb hby d1_23) (by decide) (by decide) rfl (fun c347 => ?_) (fun c347 => ?_)
  · skip
    exfalso; revert c347; decide
  · skip
    refine g_aload X0 hx 28 (hb hby d1_26) rfl rfl rfl ?_
    refine g_iload X0 hx 30 (hb hby d1_28) rfl rfl ?_
    refine g_daload X0 hx hZ e0 Vb (by decide) (by decide) (by rw [show ((0 : Int32) : Int32).toNatClampNeg = 0 by decide] <;> rfl) 31 (hb hby d1_30) rfl ?_
    refine g_dstore (l' := #[.val (.ref b), .val (.double x0), .second, .val (.double x0), .second, .val (.ref b), .val (.int (7 : Int32)), .val (.int (0 : Int32)), .val (.double x0), .second]) X0 hx 33 (hb hby d1_31) rfl rfl ?_
    refine g_dloadN X0 hx 34 (hb hby d1_33) rfl rfl ?_
    refine g_dload X0 hx 36 (hb hby d1_34) rfl rfl ?_
    obtain ⟨m1, A1, a1, a2, a3⟩ := own_minE h_x0 h_x0
    have M1 := own_minS (own_min1 i_x0) a1 a2 a3
    clear a1 a2 a3
    obtain ⟨w1, B1, a1, a2, a3⟩ := own_maxE h_x0 h_x0
    have W1 := own_maxS (own_max1 i_x0) a1 a2 a3
    clear a1 a2 a3
    refine g_minD X0 hx hZ hown (hw _ (List.mem_of_getElem? (i := 5) rfl)) (hw _ (List.mem_of_getElem? (i := 6) rfl)) (hw _ (List.mem_of_getElem? (i := 7) rfl)) (hw _ (List.mem_of_getElem? (i := 8) rfl)) rfl e0 (own_dnn h_x0) (own_dnn h_x0) (r := (Jvm.Native.java_lang_Math.nans.pick64 false x0 x0)) rfl 0 39 (hb hby d1_36) rfl (by rw [hml]; rfl) (Nat.le_refl _) (by decide) (by decide) (by decide) (by decide) own_pd1 ?_
    intro T350 X350 e350
    refine g_dstoreN (l' := #[.val (.ref b), .val (.double (Jvm.Native.java_lang_Math.nans.pick64 false x0 x0)), .second, .val (.double x0), .second, .val (.ref b), .val (.int (7 : Int32)), .val (.int (0 : Int32)), .val (.double x0), .second]) X350 hx 40 (hb hby d1_39) rfl rfl ?_
    refine g_dloadN X350 hx 41 (hb hby d1_40) rfl rfl ?_
    refine g_dload X350 hx 43 (hb hby d1_41) rfl rfl ?_
    refine g_maxD X350 hx hZ hown (hw _ (List.mem_of_getElem? (i := 9) rfl)) (hw _ (List.mem_of_getElem? (i := 10) rfl)) (hw _ (List.mem_of_getElem? (i := 7) rfl)) (hw _ (List.mem_of_getElem? (i := 11) rfl)) rfl e350 (own_dnn h_x0) (own_dnn h_x0) (r := (Jvm.Native.java_lang_Math.nans.pick64 true x0 x0)) rfl 0 46 (hb hby d1_43) rfl (by rw [hml]; rfl) (Nat.le_refl _) (by decide) (by decide) (by decide) (by decide) own_pd1 ?_
    intro T351 X351 e351
    refine g_dstoreN (l' := #[.val (.ref b), .val (.double (Jvm.Native.java_lang_Math.nans.pick64 false x0 x0)), .second, .val (.double (Jvm.Native.java_lang_Math.nans.pick64 true x0 x0)), .second, .val (.ref b), .val (.int (7 : Int32)), .val (.int (0 : Int32)), .val (.double x0), .second]) X351 hx 47 (hb hby d1_46) rfl rfl ?_
    generalize hgx0 : (Jvm.Native.java_lang_Math.nans.pick64 true x0 x0) = gx0
    generalize hgn0 : (Jvm.Native.java_lang_Math.nans.pick64 false x0 x0) = gn0
    rw [hgn0] at A1
    rw [hgx0] at B1
    refine g_iinc (w := (1 : Int32)) (l' := #[.val (.ref b), .val (.double gn0), .second, .val (.double gx0), .second, .val (.ref b), .val (.int (7 : Int32)), .val (.int ((0 : Int32) + (1 : Int32))), .val (.double x0), .second]) X351 hx 50 (hb hby d1_47) rfl rfl (by decide) rfl ?_
    refine g_goto X351 hx 19 (hb hby d1_50) (by decide) (by decide) ?_
    refine g_iload X351 hx 21 (hb hby d1_19) rfl rfl ?_
    refine g_iload X351 hx 23 (hb hby d1_21) rfl rfl ?_
    have ll353 : ((7 : Int32) : Int32).toInt = 7 := by decide
    have ll354 : (((0 : Int32) + (1 : Int32)) : Int32).toInt = 1 := by decide
    refine g_ic_ge X351 hx 53 26 (hb hby d1_23) (by decide) (by decide) rfl (fun c352 => ?_) (fun c352 => ?_)
    · skip
      exfalso; revert c352; decide
    · skip
      refine g_aload X351 hx 28 (hb hby d1_26) rfl rfl rfl ?_
      refine g_iload X351 hx 30 (hb hby d1_28) rfl rfl ?_
      refine g_daload X351 hx hZ e351 Vb (by decide) (by decide) (by rw [show (((0 : Int32) + (1 : Int32)) : Int32).toNatClampNeg = 1 by decide] <;> rfl) 31 (hb hby d1_30) rfl ?_
      refine g_dstore (l' := #[.val (.ref b), .val (.double gn0), .second, .val (.double gx0), .second, .val (.ref b), .val (.int (7 : Int32)), .val (.int ((0 : Int32) + (1 : Int32))), .val (.double x1), .second]) X351 hx 33 (hb hby d1_31) rfl rfl ?_
      refine g_dloadN X351 hx 34 (hb hby d1_33) rfl rfl ?_
      refine g_dload X351 hx 36 (hb hby d1_34) rfl rfl ?_
      obtain ⟨m2, A2, a1, a2, a3⟩ := own_minE A1 h_x1
      have M2 := own_minS M1 a1 a2 a3
      clear a1 a2 a3
      obtain ⟨w2, B2, a1, a2, a3⟩ := own_maxE B1 h_x1
      have W2 := own_maxS W1 a1 a2 a3
      clear a1 a2 a3
      refine g_minD X351 hx hZ hown (hw _ (List.mem_of_getElem? (i := 5) rfl)) (hw _ (List.mem_of_getElem? (i := 6) rfl)) (hw _ (List.mem_of_getElem? (i := 7) rfl)) (hw _ (List.mem_of_getElem? (i := 8) rfl)) rfl e351 (own_dnn A1) (own_dnn h_x1) (r := (Jvm.Native.java_lang_Math.nans.pick64 false gn0 x1)) rfl 0 39 (hb hby d1_36) rfl (by rw [hml]; rfl) (Nat.le_refl _) (by decide) (by decide) (by decide) (by decide) own_pd1 ?_
      intro T355 X355 e355
      refine g_dstoreN (l' := #[.val (.ref b), .val (.double (Jvm.Native.java_lang_Math.nans.pick64 false gn0 x1)), .second, .val (.double gx0), .second, .val (.ref b), .val (.int (7 : Int32)), .val (.int ((0 : Int32) + (1 : Int32))), .val (.double x1), .second]) X355 hx 40 (hb hby d1_39) rfl rfl ?_
      refine g_dloadN X355 hx 41 (hb hby d1_40) rfl rfl ?_
      refine g_dload X355 hx 43 (hb hby d1_41) rfl rfl ?_
      refine g_maxD X355 hx hZ hown (hw _ (List.mem_of_getElem? (i := 9) rfl)) (hw _ (List.mem_of_getElem? (i := 10) rfl)) (hw _ (List.mem_of_getElem? (i := 7) rfl)) (hw _ (List.mem_of_getElem? (i := 11) rfl)) rfl e355 (own_dnn B1) (own_dnn h_x1) (r := (Jvm.Native.java_lang_Math.nans.pick64 true gx0 x1)) rfl 0 46 (hb hby d1_43) rfl (by rw [hml]; rfl) (Nat.le_refl _) (by decide) (by decide) (by decide) (by decide) own_pd1 ?_
      intro T356 X356 e356
      refine g_dstoreN (l' := #[.val (.ref b), .val (.double (Jvm.Native.java_lang_Math.nans.pick64 false gn0 x1)), .second, .val (.double (Jvm.Native.java_lang_Math.nans.pick64 true gx0 x1)), .second, .val (.ref b), .val (.int (7 : Int32)), .val (.int ((0 : Int32) + (1 : Int32))), .val (.double x1), .second]) X356 hx 47 (hb hby d1_46) rfl rfl ?_
      generalize hgx1 : (Jvm.Native.java_lang_Math.nans.pick64 true gx0 x1) = gx1
      generalize hgn1 : (Jvm.Native.java_lang_Math.nans.pick64 false gn0 x1) = gn1
      rw [hgn1] at A2
      rw [hgx1] at B2
      refine g_iinc (w := (1 : Int32)) (l' := #[.val (.ref b), .val (.double gn1), .second, .val (.double gx1), .second, .val (.ref b), .val (.int (7 : Int32)), .val (.int (((0 : Int32) + (1 : Int32)) + (1 : Int32))), .val (.double x1), .second]) X356 hx 50 (hb hby d1_47) rfl rfl (by decide) rfl ?_
      refine g_goto X356 hx 19 (hb hby d1_50) (by decide) (by decide) ?_
      refine g_iload X356 hx 21 (hb hby d1_19) rfl rfl ?_
      refine g_iload X356 hx 23 (hb hby d1_21) rfl rfl ?_
      have ll358 : ((7 : Int32) : Int32).toInt = 7 := by decide
      have ll359 : ((((0 : Int32) + (1 : Int32)) + (1 : Int32)) : Int32).toInt = 2 := by decide
      refine g_ic_ge X356 hx 53 26 (hb hby d1_23) (by decide) (by decide) rfl (fun c357 => ?_) (fun c357 => ?_)
      · skip
        exfalso; revert c357; decide
      · skip
        refine g_aload X356 hx 28 (hb hby d1_26) rfl rfl rfl ?_
        refine g_iload X356 hx 30 (hb hby d1_28) rfl rfl ?_
        refine g_daload X356 hx hZ e356 Vb (by decide) (by decide) (by rw [show ((((0 : Int32) + (1 : Int32)) + (1 : Int32)) : Int32).toNatClampNeg = 2 by decide] <;> rfl) 31 (hb hby d1_30) rfl ?_
        refine g_dstore (l' := #[.val (.ref b), .val (.double gn1), .second, .val (.double gx1), .second, .val (.ref b), .val (.int (7 : Int32)), .val (.int (((0 : Int32) + (1 : Int32)) + (1 : Int32))), .val (.double x2), .second]) X356 hx 33 (hb hby d1_31) rfl rfl ?_
        refine g_dloadN X356 hx 34 (hb hby d1_33) rfl rfl ?_
        refine g_dload X356 hx 36 (hb hby d1_34) rfl rfl ?_
        obtain ⟨m3, A3, a1, a2, a3⟩ := own_minE A2 h_x2
        have M3 := own_minS M2 a1 a2 a3
        clear a1 a2 a3
        obtain ⟨w3, B3, a1, a2, a3⟩ := own_maxE B2 h_x2
        have W3 := own_maxS W2 a1 a2 a3
        clear a1 a2 a3
        refine g_minD X356 hx hZ hown (hw _ (List.mem_of_getElem? (i := 5) rfl)) (hw _ (List.mem_of_getElem? (i := 6) rfl)) (hw _ (List.mem_of_getElem? (i := 7) rfl)) (hw _ (List.mem_of_getElem? (i := 8) rfl)) rfl e356 (own_dnn A2) (own_dnn h_x2) (r := (Jvm.Native.java_lang_Math.nans.pick64 false gn1 x2)) rfl 0 39 (hb hby d1_36) rfl (by rw [hml]; rfl) (Nat.le_refl _) (by decide) (by decide) (by decide) (by decide) own_pd1 ?_
        intro T360 X360 e360
        refine g_dstoreN (l' := #[.val (.ref b), .val (.double (Jvm.Native.java_lang_Math.nans.pick64 false gn1 x2)), .second, .val (.double gx1), .second, .val (.ref b), .val (.int (7 : Int32)), .val (.int (((0 : Int32) + (1 : Int32)) + (1 : Int32))), .val (.double x2), .second]) X360 hx 40 (hb hby d1_39) rfl rfl ?_
        refine g_dloadN X360 hx 41 (hb hby d1_40) rfl rfl ?_
        refine g_dload X360 hx 43 (hb hby d1_41) rfl rfl ?_
        refine g_maxD X360 hx hZ hown (hw _ (List.mem_of_getElem? (i := 9) rfl)) (hw _ (List.mem_of_getElem? (i := 10) rfl)) (hw _ (List.mem_of_getElem? (i := 7) rfl)) (hw _ (List.mem_of_getElem? (i := 11) rfl)) rfl e360 (own_dnn B2) (own_dnn h_x2) (r := (Jvm.Native.java_lang_Math.nans.pick64 true gx1 x2)) rfl 0 46 (hb hby d1_43) rfl (by rw [hml]; rfl) (Nat.le_refl _) (by decide) (by decide) (by decide) (by decide) own_pd1 ?_
        intro T361 X361 e361
        refine g_dstoreN (l' := #[.val (.ref b), .val (.double (Jvm.Native.java_lang_Math.nans.pick64 false gn1 x2)), .second, .val (.double (Jvm.Native.java_lang_Math.nans.pick64 true gx1 x2)), .second, .val (.ref b), .val (.int (7 : Int32)), .val (.int (((0 : Int32) + (1 : Int32)) + (1 : Int32))), .val (.double x2), .second]) X361 hx 47 (hb hby d1_46) rfl rfl ?_
        generalize hgx2 : (Jvm.Native.java_lang_Math.nans.pick64 true gx1 x2) = gx2
        generalize hgn2 : (Jvm.Native.java_lang_Math.nans.pick64 false gn1 x2) = gn2
        rw [hgn2] at A3
        rw [hgx2] at B3
        refine g_iinc (w := (1 : Int32)) (l' := #[.val (.ref b), .val (.double gn2), .second, .val (.double gx2), .second, .val (.ref b), .val (.int (7 : Int32)), .val (.int ((((0 : Int32) + (1 : Int32)) + (1 : Int32)) + (1 : Int32))), .val (.double x2), .second]) X361 hx 50 (hb hby d1_47) rfl rfl (by decide) rfl ?_
        refine g_goto X361 hx 19 (hb hby d1_50) (by decide) (by decide) ?_
        refine g_iload X361 hx 21 (hb hby d1_19) rfl rfl ?_
        refine g_iload X361 hx 23 (hb hby d1_21) rfl rfl ?_
        have ll363 : ((7 : Int32) : Int32).toInt = 7 := by decide
        have ll364 : (((((0 : Int32) + (1 : Int32)) + (1 : Int32)) + (1 : Int32)) : Int32).toInt = 3 := by decide
        refine g_ic_ge X361 hx 53 26 (hb hby d1_23) (by decide) (by decide) rfl (fun c362 => ?_) (fun c362 => ?_)
        · skip
          exfalso; revert c362; decide
        · skip
          refine g_aload X361 hx 28 (hb hby d1_26) rfl rfl rfl ?_
          refine g_iload X361 hx 30 (hb hby d1_28) rfl rfl ?_
          refine g_daload X361 hx hZ e361 Vb (by decide) (by decide) (by rw [show (((((0 : Int32) + (1 : Int32)) + (1 : Int32)) + (1 : Int32)) : Int32).toNatClampNeg = 3 by decide] <;> rfl) 31 (hb hby d1_30) rfl ?_
          refine g_dstore (l' := #[.val (.ref b), .val (.double gn2), .second, .val (.double gx2), .second, .val (.ref b), .val (.int (7 : Int32)), .val (.int ((((0 : Int32) + (1 : Int32)) + (1 : Int32)) + (1 : Int32))), .val (.double x3), .second]) X361 hx 33 (hb hby d1_31) rfl rfl ?_
          refine g_dloadN X361 hx 34 (hb hby d1_33) rfl rfl ?_
          refine g_dload X361 hx 36 (hb hby d1_34) rfl rfl ?_
          obtain ⟨m4, A4, a1, a2, a3⟩ := own_minE A3 h_x3
          have M4 := own_minS M3 a1 a2 a3
          clear a1 a2 a3
          obtain ⟨w4, B4, a1, a2, a3⟩ := own_maxE B3 h_x3
          have W4 := own_maxS W3 a1 a2 a3
          clear a1 a2 a3
          refine g_minD X361 hx hZ hown (hw _ (List.mem_of_getElem? (i := 5) rfl)) (hw _ (List.mem_of_getElem? (i := 6) rfl)) (hw _ (List.mem_of_getElem? (i := 7) rfl)) (hw _ (List.mem_of_getElem? (i := 8) rfl)) rfl e361 (own_dnn A3) (own_dnn h_x3) (r := (Jvm.Native.java_lang_Math.nans.pick64 false gn2 x3)) rfl 0 39 (hb hby d1_36) rfl (by rw [hml]; rfl) (Nat.le_refl _) (by decide) (by decide) (by decide) (by decide) own_pd1 ?_
          intro T365 X365 e365
          refine g_dstoreN (l' := #[.val (.ref b), .val (.double (Jvm.Native.java_lang_Math.nans.pick64 false gn2 x3)), .second, .val (.double gx2), .second, .val (.ref b), .val (.int (7 : Int32)), .val (.int ((((0 : Int32) + (1 : Int32)) + (1 : Int32)) + (1 : Int32))), .val (.double x3), .second]) X365 hx 40 (hb hby d1_39) rfl rfl ?_
          refine g_dloadN X365 hx 41 (hb hby d1_40) rfl rfl ?_
          refine g_dload X365 hx 43 (hb hby d1_41) rfl rfl ?_
          refine g_maxD X365 hx hZ hown (hw _ (List.mem_of_getElem? (i := 9) rfl)) (hw _ (List.mem_of_getElem? (i := 10) rfl)) (hw _ (List.mem_of_getElem? (i := 7) rfl)) (hw _ (List.mem_of_getElem? (i := 11) rfl)) rfl e365 (own_dnn B3) (own_dnn h_x3) (r := (Jvm.Native.java_lang_Math.nans.pick64 true gx2 x3)) rfl 0 46 (hb hby d1_43) rfl (by rw [hml]; rfl) (Nat.le_refl _) (by decide) (by decide) (by decide) (by decide) own_pd1 ?_
          intro T366 X366 e366
          refine g_dstoreN (l' := #[.val (.ref b), .val (.double (Jvm.Native.java_lang_Math.nans.pick64 false gn2 x3)), .second, .val (.double (Jvm.Native.java_lang_Math.nans.pick64 true gx2 x3)), .second, .val (.ref b), .val (.int (7 : Int32)), .val (.int ((((0 : Int32) + (1 : Int32)) + (1 : Int32)) + (1 : Int32))), .val (.double x3), .second]) X366 hx 47 (hb hby d1_46) rfl rfl ?_
          generalize hgx3 : (Jvm.Native.java_lang_Math.nans.pick64 true gx2 x3) = gx3
          generalize hgn3 : (Jvm.Native.java_lang_Math.nans.pick64 false gn2 x3) = gn3
          rw [hgn3] at A4
          rw [hgx3] at B4
          refine g_iinc (w := (1 : Int32)) (l' := #[.val (.ref b), .val (.double gn3), .second, .val (.double gx3), .second, .val (.ref b), .val (.int (7 : Int32)), .val (.int (((((0 : Int32) + (1 : Int32)) + (1 : Int32)) + (1 : Int32)) + (1 : Int32))), .val (.double x3), .second]) X366 hx 50 (hb hby d1_47) rfl rfl (by decide) rfl ?_
          refine g_goto X366 hx 19 (hb hby d1_50) (by decide) (by decide) ?_
          refine g_iload X366 hx 21 (hb hby d1_19) rfl rfl ?_
          refine g_iload X366 hx 23 (hb hby d1_21) rfl rfl ?_
          have ll368 : ((7 : Int32) : Int32).toInt = 7 := by decide
          have ll369 : ((((((0 : Int32) + (1 : Int32)) + (1 : Int32)) + (1 : Int32)) + (1 : Int32)) : Int32).toInt = 4 := by decide
          refine g_ic_ge X366 hx 53 26 (hb hby d1_23) (by decide) (by decide) rfl (fun c367 => ?_) (fun c367 => ?_)
          · skip
            exfalso; revert c367; decide
          · skip
            refine g_aload X366 hx 28 (hb hby d1_26) rfl rfl rfl ?_
            refine g_iload X366 hx 30 (hb hby d1_28) rfl rfl ?_
            refine g_daload X366 hx hZ e366 Vb (by decide) (by decide) (by rw [show ((((((0 : Int32) + (1 : Int32)) + (1 : Int32)) + (1 : Int32)) + (1 : Int32)) : Int32).toNatClampNeg = 4 by decide] <;> rfl) 31 (hb hby d1_30) rfl ?_
            refine g_dstore (l' := #[.val (.ref b), .val (.double gn3), .second, .val (.double gx3), .second, .val (.ref b), .val (.int (7 : Int32)), .val (.int (((((0 : Int32) + (1 : Int32)) + (1 : Int32)) + (1 : Int32)) + (1 : Int32))), .val (.double x4), .second]) X366 hx 33 (hb hby d1_31) rfl rfl ?_
            refine g_dloadN X366 hx 34 (hb hby d1_33) rfl rfl ?_
            refine g_dload X366 hx 36 (hb hby d1_34) rfl rfl ?_
            obtain ⟨m5, A5, a1, a2, a3⟩ := own_minE A4 h_x4
            have M5 := own_minS M4 a1 a2 a3
            clear a1 a2 a3
            obtain ⟨w5, B5, a1, a2, a3⟩ := own_maxE B4 h_x4
            have W5 := own_maxS W4 a1 a2 a3
            clear a1 a2 a3
            refine g_minD X366 hx hZ hown (hw _ (List.mem_of_getElem? (i := 5) rfl)) (hw _ (List.mem_of_getElem? (i := 6) rfl)) (hw _ (List.mem_of_getElem? (i := 7) rfl)) (hw _ (List.mem_of_getElem? (i := 8) rfl)) rfl e366 (own_dnn A4) (own_dnn h_x4) (r := (Jvm.Native.java_lang_Math.nans.pick64 false gn3 x4)) rfl 0 39 (hb hby d1_36) rfl (by rw [hml]; rfl) (Nat.le_refl _) (by decide) (by decide) (by decide) (by decide) own_pd1 ?_
            intro T370 X370 e370
            refine g_dstoreN (l' := #[.val (.ref b), .val (.double (Jvm.Native.java_lang_Math.nans.pick64 false gn3 x4)), .second, .val (.double gx3), .second, .val (.ref b), .val (.int (7 : Int32)), .val (.int (((((0 : Int32) + (1 : Int32)) + (1 : Int32)) + (1 : Int32)) + (1 : Int32))), .val (.double x4), .second]) X370 hx 40 (hb hby d1_39) rfl rfl ?_
            refine g_dloadN X370 hx 41 (hb hby d1_40) rfl rfl ?_
            refine g_dload X370 hx 43 (hb hby d1_41) rfl rfl ?_
            refine g_maxD X370 hx hZ hown (hw _ (List.mem_of_getElem? (i := 9) rfl)) (hw _ (List.mem_of_getElem? (i := 10) rfl)) (hw _ (List.mem_of_getElem? (i := 7) rfl)) (hw _ (List.mem_of_getElem? (i := 11) rfl)) rfl e370 (own_dnn B4) (own_dnn h_x4) (r := (Jvm.Native.java_lang_Math.nans.pick64 true gx3 x4)) rfl 0 46 (hb hby d1_43) rfl (by rw [hml]; rfl) (Nat.le_refl _) (by decide) (by decide) (by decide) (by decide) own_pd1 ?_
            intro T371 X371 e371
            refine g_dstoreN (l' := #[.val (.ref b), .val (.double (Jvm.Native.java_lang_Math.nans.pick64 false gn3 x4)), .second, .val (.double (Jvm.Native.java_lang_Math.nans.pick64 true gx3 x4)), .second, .val (.ref b), .val (.int (7 : Int32)), .val (.int (((((0 : Int32) + (1 : Int32)) + (1 : Int32)) + (1 : Int32)) + (1 : Int32))), .val (.double x4), .second]) X371 hx 47 (hb hby d1_46) rfl rfl ?_
            generalize hgx4 : (Jvm.Native.java_lang_Math.nans.pick64 true gx3 x4) = gx4
            generalize hgn4 : (Jvm.Native.java_lang_Math.nans.pick64 false gn3 x4) = gn4
            rw [hgn4] at A5
            rw [hgx4] at B5
            refine g_iinc (w := (1 : Int32)) (l' := #[.val (.ref b), .val (.double gn4), .second, .val (.double gx4), .second, .val (.ref b), .val (.int (7 : Int32)), .val (.int ((((((0 : Int32) + (1 : Int32)) + (1 : Int32)) + (1 : Int32)) + (1 : Int32)) + (1 : Int32))), .val (.double x4), .second]) X371 hx 50 (hb hby d1_47) rfl rfl (by decide) rfl ?_
            refine g_goto X371 hx 19 (hb hby d1_50) (by decide) (by decide) ?_
            refine g_iload X371 hx 21 (hb hby d1_19) rfl rfl ?_
            refine g_iload X371 hx 23 (hb hby d1_21) rfl rfl ?_
            have ll373 : ((7 : Int32) : Int32).toInt = 7 := by decide
            have ll374 : (((((((0 : Int32) + (1 : Int32)) + (1 : Int32)) + (1 : Int32)) + (1 : Int32)) + (1 : Int32)) : Int32).toInt = 5 := by decide
            refine g_ic_ge X371 hx 53 26 (hb hby d1_23) (by decide) (by decide) rfl (fun c372 => ?_) (fun c372 => ?_)
            · skip
              exfalso; revert c372; decide
            · skip
              refine g_aload X371 hx 28 (hb hby d1_26) rfl rfl rfl ?_
              refine g_iload X371 hx 30 (hb hby d1_28) rfl rfl ?_
              refine g_daload X371 hx hZ e371 Vb (by decide) (by decide) (by rw [show (((((((0 : Int32) + (1 : Int32)) + (1 : Int32)) + (1 : Int32)) + (1 : Int32)) + (1 : Int32)) : Int32).toNatClampNeg = 5 by decide] <;> rfl) 31 (hb hby d1_30) rfl ?_
              refine g_dstore (l' := #[.val (.ref b), .val (.double gn4), .second, .val (.double gx4), .second, .val (.ref b), .val (.int (7 : Int32)), .val (.int ((((((0 : Int32) + (1 : Int32)) + (1 : Int32)) + (1 : Int32)) + (1 : Int32)) + (1 : Int32))), .val (.double x5), .second]) X371 hx 33 (hb hby d1_31) rfl rfl ?_
              refine g_dloadN X371 hx 34 (hb hby d1_33) rfl rfl ?_
              refine g_dload X371 hx 36 (hb hby d1_34) rfl rfl ?_
              obtain ⟨m6, A6, a1, a2, a3⟩ := own_minE A5 h_x5
              have M6 := own_minS M5 a1 a2 a3
              clear a1 a2 a3
              obtain ⟨w6, B6, a1, a2, a3⟩ := own_maxE B5 h_x5
              have W6 := own_maxS W5 a1 a2 a3
              clear a1 a2 a3
              refine g_minD X371 hx hZ hown (hw _ (List.mem_of_getElem? (i := 5) rfl)) (hw _ (List.mem_of_getElem? (i := 6) rfl)) (hw _ (List.mem_of_getElem? (i := 7) rfl)) (hw _ (List.mem_of_getElem? (i := 8) rfl)) rfl e371 (own_dnn A5) (own_dnn h_x5) (r := (Jvm.Native.java_lang_Math.nans.pick64 false gn4 x5)) rfl 0 39 (hb hby d1_36) rfl (by rw [hml]; rfl) (Nat.le_refl _) (by decide) (by decide) (by decide) (by decide) own_pd1 ?_
              intro T375 X375 e375
              refine g_dstoreN (l' := #[.val (.ref b), .val (.double (Jvm.Native.java_lang_Math.nans.pick64 false gn4 x5)), .second, .val (.double gx4), .second, .val (.ref b), .val (.int (7 : Int32)), .val (.int ((((((0 : Int32) + (1 : Int32)) + (1 : Int32)) + (1 : Int32)) + (1 : Int32)) + (1 : Int32))), .val (.double x5), .second]) X375 hx 40 (hb hby d1_39) rfl rfl ?_
              refine g_dloadN X375 hx 41 (hb hby d1_40) rfl rfl ?_
              refine g_dload X375 hx 43 (hb hby d1_41) rfl rfl ?_
              refine g_maxD X375 hx hZ hown (hw _ (List.mem_of_getElem? (i := 9) rfl)) (hw _ (List.mem_of_getElem? (i := 10) rfl)) (hw _ (List.mem_of_getElem? (i := 7) rfl)) (hw _ (List.mem_of_getElem? (i := 11) rfl)) rfl e375 (own_dnn B5) (own_dnn h_x5) (r := (Jvm.Native.java_lang_Math.nans.pick64 true gx4 x5)) rfl 0 46 (hb hby d1_43) rfl (by rw [hml]; rfl) (Nat.le_refl _) (by decide) (by decide) (by decide) (by decide) own_pd1 ?_
              intro T376 X376 e376
              refine g_dstoreN (l' := #[.val (.ref b), .val (.double (Jvm.Native.java_lang_Math.nans.pick64 false gn4 x5)), .second, .val (.double (Jvm.Native.java_lang_Math.nans.pick64 true gx4 x5)), .second, .val (.ref b), .val (.int (7 : Int32)), .val (.int ((((((0 : Int32) + (1 : Int32)) + (1 : Int32)) + (1 : Int32)) + (1 : Int32)) + (1 : Int32))), .val (.double x5), .second]) X376 hx 47 (hb hby d1_46) rfl rfl ?_
              generalize hgx5 : (Jvm.Native.java_lang_Math.nans.pick64 true gx4 x5) = gx5
              generalize hgn5 : (Jvm.Native.java_lang_Math.nans.pick64 false gn4 x5) = gn5
              rw [hgn5] at A6
              rw [hgx5] at B6
              refine g_iinc (w := (1 : Int32)) (l' := #[.val (.ref b), .val (.double gn5), .second, .val (.double gx5), .second, .val (.ref b), .val (.int (7 : Int32)), .val (.int (((((((0 : Int32) + (1 : Int32)) + (1 : Int32)) + (1 : Int32)) + (1 : Int32)) + (1 : Int32)) + (1 : Int32))), .val (.double x5), .second]) X376 hx 50 (hb hby d1_47) rfl rfl (by decide) rfl ?_
              refine g_goto X376 hx 19 (hb hby d1_50) (by decide) (by decide) ?_
              refine g_iload X376 hx 21 (hb hby d1_19) rfl rfl ?_
              refine g_iload X376 hx 23 (hb hby d1_21) rfl rfl ?_
              have ll378 : ((7 : Int32) : Int32).toInt = 7 := by decide
              have ll379 : ((((((((0 : Int32) + (1 : Int32)) + (1 : Int32)) + (1 : Int32)) + (1 : Int32)) + (1 : Int32)) + (1 : Int32)) : Int32).toInt = 6 := by decide
              refine g_ic_ge X376 hx 53 26 (hb hby d1_23) (by decide) (by decide) rfl (fun c377 => ?_) (fun c377 => ?_)
              · skip
                exfalso; revert c377; decide
              · skip
                refine g_aload X376 hx 28 (hb hby d1_26) rfl rfl rfl ?_
                refine g_iload X376 hx 30 (hb hby d1_28) rfl rfl ?_
                refine g_daload X376 hx hZ e376 Vb (by decide) (by decide) (by rw [show ((((((((0 : Int32) + (1 : Int32)) + (1 : Int32)) + (1 : Int32)) + (1 : Int32)) + (1 : Int32)) + (1 : Int32)) : Int32).toNatClampNeg = 6 by decide] <;> rfl) 31 (hb hby d1_30) rfl ?_
                refine g_dstore (l' := #[.val (.ref b), .val (.double gn5), .second, .val (.double gx5), .second, .val (.ref b), .val (.int (7 : Int32)), .val (.int (((((((0 : Int32) + (1 : Int32)) + (1 : Int32)) + (1 : Int32)) + (1 : Int32)) + (1 : Int32)) + (1 : Int32))), .val (.double x6), .second]) X376 hx 33 (hb hby d1_31) rfl rfl ?_
                refine g_dloadN X376 hx 34 (hb hby d1_33) rfl rfl ?_
                refine g_dload X376 hx 36 (hb hby d1_34) rfl rfl ?_
                obtain ⟨m7, A7, a1, a2, a3⟩ := own_minE A6 h_x6
                have M7 := own_minS M6 a1 a2 a3
                clear a1 a2 a3
                obtain ⟨w7, B7, a1, a2, a3⟩ := own_maxE B6 h_x6
                have W7 := own_maxS W6 a1 a2 a3
                clear a1 a2 a3
                refine g_minD X376 hx hZ hown (hw _ (List.mem_of_getElem? (i := 5) rfl)) (hw _ (List.mem_of_getElem? (i := 6) rfl)) (hw _ (List.mem_of_getElem? (i := 7) rfl)) (hw _ (List.mem_of_getElem? (i := 8) rfl)) rfl e376 (own_dnn A6) (own_dnn h_x6) (r := (Jvm.Native.java_lang_Math.nans.pick64 false gn5 x6)) rfl 0 39 (hb hby d1_36) rfl (by rw [hml]; rfl) (Nat.le_refl _) (by decide) (by decide) (by decide) (by decide) own_pd1 ?_
                intro T380 X380 e380
                refine g_dstoreN (l' := #[.val (.ref b), .val (.double (Jvm.Native.java_lang_Math.nans.pick64 false gn5 x6)), .second, .val (.double gx5), .second, .val (.ref b), .val (.int (7 : Int32)), .val (.int (((((((0 : Int32) + (1 : Int32)) + (1 : Int32)) + (1 : Int32)) + (1 : Int32)) + (1 : Int32)) + (1 : Int32))), .val (.double x6), .second]) X380 hx 40 (hb hby d1_39) rfl rfl ?_
                refine g_dloadN X380 hx 41 (hb hby d1_40) rfl rfl ?_
                refine g_dload X380 hx 43 (hb hby d1_41) rfl rfl ?_
                refine g_maxD X380 hx hZ hown (hw _ (List.mem_of_getElem? (i := 9) rfl)) (hw _ (List.mem_of_getElem? (i := 10) rfl)) (hw _ (List.mem_of_getElem? (i := 7) rfl)) (hw _ (List.mem_of_getElem? (i := 11) rfl)) rfl e380 (own_dnn B6) (own_dnn h_x6) (r := (Jvm.Native.java_lang_Math.nans.pick64 true gx5 x6)) rfl 0 46 (hb hby d1_43) rfl (by rw [hml]; rfl) (Nat.le_refl _) (by decide) (by decide) (by decide) (by decide) own_pd1 ?_
                intro T381 X381 e381
                refine g_dstoreN (l' := #[.val (.ref b), .val (.double (Jvm.Native.java_lang_Math.nans.pick64 false gn5 x6)), .second, .val (.double (Jvm.Native.java_lang_Math.nans.pick64 true gx5 x6)), .second, .val (.ref b), .val (.int (7 : Int32)), .val (.int (((((((0 : Int32) + (1 : Int32)) + (1 : Int32)) + (1 : Int32)) + (1 : Int32)) + (1 : Int32)) + (1 : Int32))), .val (.double x6), .second]) X381 hx 47 (hb hby d1_46) rfl rfl ?_
                generalize hgx6 : (Jvm.Native.java_lang_Math.nans.pick64 true gx5 x6) = gx6
                generalize hgn6 : (Jvm.Native.java_lang_Math.nans.pick64 false gn5 x6) = gn6
                rw [hgn6] at A7
                rw [hgx6] at B7
                refine g_iinc (w := (1 : Int32)) (l' := #[.val (.ref b), .val (.double gn6), .second, .val (.double gx6), .second, .val (.ref b), .val (.int (7 : Int32)), .val (.int ((((((((0 : Int32) + (1 : Int32)) + (1 : Int32)) + (1 : Int32)) + (1 : Int32)) + (1 : Int32)) + (1 : Int32)) + (1 : Int32))), .val (.double x6), .second]) X381 hx 50 (hb hby d1_47) rfl rfl (by decide) rfl ?_
                refine g_goto X381 hx 19 (hb hby d1_50) (by decide) (by decide) ?_
                refine g_iload X381 hx 21 (hb hby d1_19) rfl rfl ?_
                refine g_iload X381 hx 23 (hb hby d1_21) rfl rfl ?_
                have ll383 : ((7 : Int32) : Int32).toInt = 7 := by decide
                have ll384 : (((((((((0 : Int32) + (1 : Int32)) + (1 : Int32)) + (1 : Int32)) + (1 : Int32)) + (1 : Int32)) + (1 : Int32)) + (1 : Int32)) : Int32).toInt = 7 := by decide
                refine g_ic_ge X381 hx 53 26 (hb hby d1_23) (by decide) (by decide) rfl (fun c382 => ?_) (fun c382 => ?_)
                · skip
                  refine g_new X381 hx hZ hown (hw _ (List.mem_of_getElem? (i := 12) rfl)) (hw _ (List.mem_of_getElem? (i := 13) rfl)) (hw _ (List.mem_of_getElem? (i := 3) rfl)) e381 56 (hb hby d1_53) rfl (by decide) (by decide) ?_
                  intro T385 h385 a385 g385 X385 e385 E385 A385 D385
                  have ne386 : b ≠ a385 := Nat.ne_of_lt (by rw [g385]; exact Vb.lt)
                  have ge387 : n0 ≤ a385 := by rw [g385]; exact Z0
                  have sz388 : h0.size ≤ a385 := by rw [g385]; exact (Keep.refl h0 []).1
                  have F389 := Vb.ext E385
                  have K390 := (Keep.refl h0 []).ext E385
                  have Z391 : n0 ≤ h385.size := Nat.le_trans Z0 E385.1
                  have F392 : Fld Z h385 a385 "com/example/recolecta/recolecta/Bins" "min" "D" (.double (0 : UInt64)) := D385 (Or.inr (hw _ (List.mem_of_getElem? (i := 24) rfl))) (ty := .double) (by decide)
                  have F393 : Fld Z h385 a385 "com/example/recolecta/recolecta/Bins" "max" "D" (.double (0 : UInt64)) := D385 (Or.inr (hw _ (List.mem_of_getElem? (i := 26) rfl))) (ty := .double) (by decide)
                  have F394 : Fld Z h385 a385 "com/example/recolecta/recolecta/Bins" "count" "I" (.int (0 : Int32)) := D385 (Or.inr (hw _ (List.mem_of_getElem? (i := 28) rfl))) (ty := .int) (by decide)
                  refine g_dup X385 hx 57 (hb hby d1_56) rfl rfl ?_
                  refine g_dloadN X385 hx 58 (hb hby d1_57) rfl rfl ?_
                  refine g_dloadN X385 hx 59 (hb hby d1_58) rfl rfl ?_
                  refine g_aloadN X385 hx 60 (hb hby d1_59) rfl rfl rfl ?_
                  refine g_len X385 hx hZ e385 F389 61 (hb hby d1_60) rfl ?_
                  refine g_dloadN X385 hx 62 (hb hby d1_61) rfl rfl ?_
                  refine g_dloadN X385 hx 63 (hb hby d1_62) rfl rfl ?_
                  have dn := A7
                  have dx := B7
                  have le := own_mm M7 W7
                  refine g_static X385 hx hZ hown (hw _ (List.mem_of_getElem? (i := 14) rfl)) (hw _ (List.mem_of_getElem? (i := 15) rfl)) (hw _ (List.mem_of_getElem? (i := 3) rfl)) (hw _ (List.mem_of_getElem? (i := 16) rfl)) (by decide) (rmC l Z a0 hw 7 gn6 gx6 h385 n0 Z391 m7 w7 (Jvm.FP.Core.dcmp_int dn dx) (by decide)) e385 (argsL := [(.int (7 : Int32)), (.double gn6), (.double gx6)]) (rest := [(.double gx6), (.double gn6), (.ref a385), (.ref a385)]) rfl rfl 6 66 rfl (by rw [hml]; rfl) (lenOf own_pd2 rfl) (Nat.le_refl _) (by decide) (by decide) (by decide) (by decide) (hb hby d1_63) ?_
                  intro v395 T395 L395 X395 hQ395
                  obtain ⟨r, rfl, N395, q395, r1, r2⟩ := hQ395
                  have N396 := Fr.app N0 N395
                  show Go p e below _ T395 (mkF m 66 #[.val (.ref b), .val (.double gn6), .second, .val (.double gx6), .second, .val (.ref b), .val (.int (7 : Int32)), .val (.int ((((((((0 : Int32) + (1 : Int32)) + (1 : Int32)) + (1 : Int32)) + (1 : Int32)) + (1 : Int32)) + (1 : Int32)) + (1 : Int32))), .val (.double x6), .second] [(.int r), (.double gx6), (.double gn6), (.ref a385), (.ref a385)])
                  refine g_init X395 hx hZ rfl hown (hw _ (List.mem_of_getElem? (i := 17) rfl)) (hw _ (List.mem_of_getElem? (i := 18) rfl)) (hw _ (List.mem_of_getElem? (i := 3) rfl)) (hw _ (List.mem_of_getElem? (i := 19) rfl)) (by decide) (rm5 l Z a0 hw a385 gn6 gx6 r h385 n0 Z391 m7 w7 (Jvm.FP.Core.dcmp_int dn dx) le A385 ge387 F392 F393 F394) q395 (a := a385) (argsL := [(.double gn6), (.double gx6), (.int r)]) (rest := [(.ref a385)]) rfl rfl 1 69 rfl (by rw [hml]; rfl) (lenOf own_pd3 rfl) (Nat.le_refl _) (by decide) (by decide) (by decide) (by decide) (hb hby d1_66) ?_
                  intro v397 T397 L397 X397 hQ397
                  obtain ⟨rfl, N397, K397, F1397, F2397, F3397⟩ := hQ397
                  have N398 := Fr.app N396 N397
                  have F399 := F389.keep K397 (ninS ne386 nin0)
                  have F400 := A385.keep K397
                  have Z404 : n0 ≤ T397.heap.size := Nat.le_trans Z391 K397.1
                  have K405 := K390.trans K397 (allS (Or.inr sz388) all0)
                  show Go p e below _ T397 (mkF m 69 #[.val (.ref b), .val (.double gn6), .second, .val (.double gx6), .second, .val (.ref b), .val (.int (7 : Int32)), .val (.int ((((((((0 : Int32) + (1 : Int32)) + (1 : Int32)) + (1 : Int32)) + (1 : Int32)) + (1 : Int32)) + (1 : Int32)) + (1 : Int32))), .val (.double x6), .second] [(.ref a385)])
                  exact g_retA X397 hx hlk hret rfl rfl rfl (hb hby d1_69) (by decide) (by decide) rfl ⟨a385, rfl, N398, ge387, K405, F400, gn6, gx6, r, m7, w7, F1397, F2397, F3397, dn, dx, M7, W7, r1, r2⟩
                · skip
                  exfalso; revert c382; decide
def Q_rm1_8 (Z : State) (i_x0 : Int) (i_x1 : Int) (i_x2 : Int) (i_x3 : Int) (i_x4 : Int) (i_x5 : Int) (i_x6 : Int) (i_x7 : Int) (n0 : Nat) (h0 : Heap) (v : Option Value) (h : Heap) (L : List Loc) : Prop := ∃ a : Addr, v = some (.ref a) ∧ Fr n0 L ∧ n0 ≤ a ∧ Keep h0 h [] ∧ Exa Z h a "com/example/recolecta/recolecta/Bins" ∧ ∃ (lo hi : UInt64) (r : Int32) (mi ma : Int), Fld Z h a "com/example/recolecta/recolecta/Bins" "min" "D" (.double lo) ∧ Fld Z h a "com/example/recolecta/recolecta/Bins" "max" "D" (.double hi) ∧ Fld Z h a "com/example/recolecta/recolecta/Bins" "count" "I" (.int r) ∧ Jvm.FP.Core.DInt mi lo ∧ Jvm.FP.Core.DInt ma hi ∧ IsMin mi [i_x7, i_x6, i_x5, i_x4, i_x3, i_x2, i_x1, i_x0, i_x0] ∧ IsMax ma [i_x7, i_x6, i_x5, i_x4, i_x3, i_x2, i_x1, i_x0, i_x0] ∧ (mi = ma → r.toInt = 1) ∧ (mi ≠ ma → CntIs (8 : Int32).toInt r.toInt)
theorem ef_rm1_8 (b : Addr) (m : MethodId) : entryFrame m #[(.ref b)] 10 = mkF m 0 #[.val (.ref b), .unset, .unset, .unset, .unset, .unset, .unset, .unset, .unset, .unset] [] := by first | (simp [entryFrame, mkF, argsToLocals, Value.category]; done) | rfl
set_option maxRecDepth 65536 in
set_option maxHeartbeats 40000000 in
theorem rm1_8 (l : Launch) (Z : State) (a0 : Array Value) (hw : ∀ d ∈ tables_1, d.before a0 Z = true) (b : Addr) (h0 : Heap) (n0 : Nat) (Z0 : n0 ≤ h0.size) (kb : ClassId) (x0 : UInt64) (i_x0 : Int) (h_x0 : Jvm.FP.Core.DInt i_x0 x0) (x1 : UInt64) (i_x1 : Int) (h_x1 : Jvm.FP.Core.DInt i_x1 x1) (x2 : UInt64) (i_x2 : Int) (h_x2 : Jvm.FP.Core.DInt i_x2 x2) (x3 : UInt64) (i_x3 : Int) (h_x3 : Jvm.FP.Core.DInt i_x3 x3) (x4 : UInt64) (i_x4 : Int) (h_x4 : Jvm.FP.Core.DInt i_x4 x4) (x5 : UInt64) (i_x5 : Int) (h_x5 : Jvm.FP.Core.DInt i_x5 x5) (x6 : UInt64) (i_x6 : Int) (h_x6 : Jvm.FP.Core.DInt i_x6 x6) (x7 : UInt64) (i_x7 : Int) (h_x7 : Jvm.FP.Core.DInt i_x7 x7) (Vb : Arv Z h0 b kb .double 8 [.double x0, .double x1, .double x2, .double x3, .double x4, .double x5, .double x6, .double x7] (.double 0)) :
    MetFree l (⟨"com/example/recolecta/recolecta/Bins", "over", "([D)Lcom/example/recolecta/recolecta/Bins;"⟩ : MethodName) (head1 [Jvm.Cond.code (⟨"com/example/recolecta/recolecta/Bins", "over", "([D)Lcom/example/recolecta/recolecta/Bins;"⟩ : MethodName) prog_6_method_2_code 10 (some (.object "com/example/recolecta/recolecta/Bins"))] ({ frames := 2, cells := 1, slots := 3, locals := 48 } : Room)) (fun as_ U => as_ = #[(.ref b)] ∧ Z.Warmed39 U.vm ∧ U.heap = h0) (fun _ _ _ _ _ => True) (fun _ U o U' => ∃ v L, o = .returned v ∧ Q_rm1_8 Z i_x0 i_x1 i_x2 i_x3 i_x4 i_x5 i_x6 i_x7 n0 h0 v U'.heap L ∧ FrameEnd U o U' L ({ frames := 2, cells := 1, slots := 3, locals := 48 } : Room).cells ({ frames := 2, cells := 1, slots := 3, locals := 48 } : Room).slots) := by
  refine own_met own_pf8 (ef_rm1_8 b) ?_
  intro p e s m below meth c T0 X0 hx hby hml hret hlk hnm hown hZ e0
  have N0 := Fr.nil n0
  refine g_aloadN X0 hx 1 (hb hby d1_0) rfl rfl rfl ?_
  refine g_iconst X0 hx (0 : Int32) 2 (hb hby d1_1) rfl (by decide) ?_
  refine g_daload X0 hx hZ e0 Vb (by decide) (by decide) (by rw [show ((0 : Int32) : Int32).toNatClampNeg = 0 by decide] <;> rfl) 3 (hb hby d1_2) rfl ?_
  refine g_dstoreN (l' := #[.val (.ref b), .val (.double x0), .second, .unset, .unset, .unset, .unset, .unset, .unset, .unset]) X0 hx 4 (hb hby d1_3) rfl rfl ?_
  refine g_aloadN X0 hx 5 (hb hby d1_4) rfl rfl rfl ?_
  refine g_iconst X0 hx (0 : Int32) 6 (hb hby d1_5) rfl (by decide) ?_
  refine g_daload X0 hx hZ e0 Vb (by decide) (by decide) (by rw [show ((0 : Int32) : Int32).toNatClampNeg = 0 by decide] <;> rfl) 7 (hb hby d1_6) rfl ?_
  refine g_dstoreN (l' := #[.val (.ref b), .val (.double x0), .second, .val (.double x0), .second, .unset, .unset, .unset, .unset, .unset]) X0 hx 8 (hb hby d1_7) rfl rfl ?_
  refine g_aloadN X0 hx 9 (hb hby d1_8) rfl rfl rfl ?_
  refine g_astore (l' := #[.val (.ref b), .val (.double x0), .second, .val (.double x0), .second, .val (.ref b), .unset, .unset, .unset, .unset]) X0 hx 11 (hb hby d1_9) rfl rfl rfl ?_
  refine g_aload X0 hx 13 (hb hby d1_11) rfl rfl rfl ?_
  refine g_len X0 hx hZ e0 Vb 14 (hb hby d1_13) rfl ?_
  refine g_istore (l' := #[.val (.ref b), .val (.double x0), .second, .val (.double x0), .second, .val (.ref b), .val (.int (8 : Int32)), .unset, .unset, .unset]) X0 hx 16 (hb hby d1_14) rfl rfl ?_
  refine g_iconst X0 hx (0 : Int32) 17 (hb hby d1_16) rfl (by decide) ?_
  refine g_istore (l' := #[.val (.ref b), .val (.double x0), .second, .val (.double x0), .second, .val (.ref b), .val (.int (8 : Int32)), .val (.int (0 : Int32)), .unset, .unset]) X0 hx 19 (hb hby d1_17) rfl rfl ?_
  refine g_iload X0 hx 21 (hb hby d1_19) rfl rfl ?_
  refine g_iload X0 hx 23 (hb hby d1_21) rfl rfl ?_
  have ll407 : ((8 : Int32) : Int32).toInt = 8 := by decide
  have ll408 : ((0 : Int32) : Int32).toInt = 0 := by decide
  refine g_ic_ge X0 hx 53 26 (hb hby d1_23) (by decide) (by decide) rfl (fun c406 => ?_) (fun c406 => ?_)
  · skip
    exfalso; revert c406; decide
  · skip
    refine g_aload X0 hx 28 (hb hby d1_26) rfl rfl rfl ?_
    refine g_iload X0 hx 30 (hb hby d1_28) rfl rfl ?_
    refine g_daload X0 hx hZ e0 Vb (by decide) (by decide) (by rw [show ((0 : Int32) : Int32).toNatClampNeg = 0 by decide] <;> rfl) 31 (hb hby d1_30) rfl ?_
    refine g_dstore (l' := #[.val (.ref b), .val (.double x0), .second, .val (.double x0), .second, .val (.ref b), .val (.int (8 : Int32)), .val (.int (0 : Int32)), .val (.double x0), .second]) X0 hx 33 (hb hby d1_31) rfl rfl ?_
    refine g_dloadN X0 hx 34 (hb hby d1_33) rfl rfl ?_
    refine g_dload X0 hx 36 (hb hby d1_34) rfl rfl ?_
    obtain ⟨m1, A1, a1, a2, a3⟩ := own_minE h_x0 h_x0
    have M1 := own_minS (own_min1 i_x0) a1 a2 a3
    clear a1 a2 a3
    obtain ⟨w1, B1, a1, a2, a3⟩ := own_maxE h_x0 h_x0
    have W1 := own_maxS (own_max1 i_x0) a1 a2 a3
    clear a1 a2 a3
    refine g_minD X0 hx hZ hown (hw _ (List.mem_of_getElem? (i := 5) rfl)) (hw _ (List.mem_of_getElem? (i := 6) rfl)) (hw _ (List.mem_of_getElem? (i := 7) rfl)) (hw _ (List.mem_of_getElem? (i := 8) rfl)) rfl e0 (own_dnn h_x0) (own_dnn h_x0) (r := (Jvm.Native.java_lang_Math.nans.pick64 false x0 x0)) rfl 0 39 (hb hby d1_36) rfl (by rw [hml]; rfl) (Nat.le_refl _) (by decide) (by decide) (by decide) (by decide) own_pd1 ?_
    intro T409 X409 e409
    refine g_dstoreN (l' := #[.val (.ref b), .val (.double (Jvm.Native.java_lang_Math.nans.pick64 false x0 x0)), .second, .val (.double x0), .second, .val (.ref b), .val (.int (8 : Int32)), .val (.int (0 : Int32)), .val (.double x0), .second]) X409 hx 40 (hb hby d1_39) rfl rfl ?_
    refine g_dloadN X409 hx 41 (hb hby d1_40) rfl rfl ?_
    refine g_dload X409 hx 43 (hb hby d1_41) rfl rfl ?_
    refine g_maxD X409 hx hZ hown (hw _ (List.mem_of_getElem? (i := 9) rfl)) (hw _ (List.mem_of_getElem? (i := 10) rfl)) (hw _ (List.mem_of_getElem? (i := 7) rfl)) (hw _ (List.mem_of_getElem? (i := 11) rfl)) rfl e409 (own_dnn h_x0) (own_dnn h_x0) (r := (Jvm.Native.java_lang_Math.nans.pick64 true x0 x0)) rfl 0 46 (hb hby d1_43) rfl (by rw [hml]; rfl) (Nat.le_refl _) (by decide) (by decide) (by decide) (by decide) own_pd1 ?_
    intro T410 X410 e410
    refine g_dstoreN (l' := #[.val (.ref b), .val (.double (Jvm.Native.java_lang_Math.nans.pick64 false x0 x0)), .second, .val (.double (Jvm.Native.java_lang_Math.nans.pick64 true x0 x0)), .second, .val (.ref b), .val (.int (8 : Int32)), .val (.int (0 : Int32)), .val (.double x0), .second]) X410 hx 47 (hb hby d1_46) rfl rfl ?_
    generalize hgx0 : (Jvm.Native.java_lang_Math.nans.pick64 true x0 x0) = gx0
    generalize hgn0 : (Jvm.Native.java_lang_Math.nans.pick64 false x0 x0) = gn0
    rw [hgn0] at A1
    rw [hgx0] at B1
    refine g_iinc (w := (1 : Int32)) (l' := #[.val (.ref b), .val (.double gn0), .second, .val (.double gx0), .second, .val (.ref b), .val (.int (8 : Int32)), .val (.int ((0 : Int32) + (1 : Int32))), .val (.double x0), .second]) X410 hx 50 (hb hby d1_47) rfl rfl (by decide) rfl ?_
    refine g_goto X410 hx 19 (hb hby d1_50) (by decide) (by decide) ?_
    refine g_iload X410 hx 21 (hb hby d1_19) rfl rfl ?_
    refine g_iload X410 hx 23 (hb hby d1_21) rfl rfl ?_
    have ll412 : ((8 : Int32) : Int32).toInt = 8 := by decide
    have ll413 : (((0 : Int32) + (1 : Int32)) : Int32).toInt = 1 := by decide
    refine g_ic_ge X410 hx 53 26 (hb hby d1_23) (by decide) (by decide) rfl (fun c411 => ?_) (fun c411 => ?_)
    · skip
      exfalso; revert c411; decide
    · skip
      refine g_aload X410 hx 28 (hb hby d1_26) rfl rfl rfl ?_
      refine g_iload X410 hx 30 (hb hby d1_28) rfl rfl ?_
      refine g_daload X410 hx hZ e410 Vb (by decide) (by decide) (by rw [show (((0 : Int32) + (1 : Int32)) : Int32).toNatClampNeg = 1 by decide] <;> rfl) 31 (hb hby d1_30) rfl ?_
      refine g_dstore (l' := #[.val (.ref b), .val (.double gn0), .second, .val (.double gx0), .second, .val (.ref b), .val (.int (8 : Int32)), .val (.int ((0 : Int32) + (1 : Int32))), .val (.double x1), .second]) X410 hx 33 (hb hby d1_31) rfl rfl ?_
      refine g_dloadN X410 hx 34 (hb hby d1_33) rfl rfl ?_
      refine g_dload X410 hx 36 (hb hby d1_34) rfl rfl ?_
      obtain ⟨m2, A2, a1, a2, a3⟩ := own_minE A1 h_x1
      have M2 := own_minS M1 a1 a2 a3
      clear a1 a2 a3
      obtain ⟨w2, B2, a1, a2, a3⟩ := own_maxE B1 h_x1
      have W2 := own_maxS W1 a1 a2 a3
      clear a1 a2 a3
      refine g_minD X410 hx hZ hown (hw _ (List.mem_of_getElem? (i := 5) rfl)) (hw _ (List.mem_of_getElem? (i := 6) rfl)) (hw _ (List.mem_of_getElem? (i := 7) rfl)) (hw _ (List.mem_of_getElem? (i := 8) rfl)) rfl e410 (own_dnn A1) (own_dnn h_x1) (r := (Jvm.Native.java_lang_Math.nans.pick64 false gn0 x1)) rfl 0 39 (hb hby d1_36) rfl (by rw [hml]; rfl) (Nat.le_refl _) (by decide) (by decide) (by decide) (by decide) own_pd1 ?_
      intro T414 X414 e414
      refine g_dstoreN (l' := #[.val (.ref b), .val (.double (Jvm.Native.java_lang_Math.nans.pick64 false gn0 x1)), .second, .val (.double gx0), .second, .val (.ref b), .val (.int (8 : Int32)), .val (.int ((0 : Int32) + (1 : Int32))), .val (.double x1), .second]) X414 hx 40 (hb hby d1_39) rfl rfl ?_
      refine g_dloadN X414 hx 41 (hb hby d1_40) rfl rfl ?_
      refine g_dload X414 hx 43 (hb hby d1_41) rfl rfl ?_
      refine g_maxD X414 hx hZ hown (hw _ (List.mem_of_getElem? (i := 9) rfl)) (hw _ (List.mem_of_getElem? (i := 10) rfl)) (hw _ (List.mem_of_getElem? (i := 7) rfl)) (hw _ (List.mem_of_getElem? (i := 11) rfl)) rfl e414 (own_dnn B1) (own_dnn h_x1) (r := (Jvm.Native.java_lang_Math.nans.pick64 true gx0 x1)) rfl 0 46 (hb hby d1_43) rfl (by rw [hml]; rfl) (Nat.le_refl _) (by decide) (by decide) (by decide) (by decide) own_pd1 ?_
      intro T415 X415 e415
      refine g_dstoreN (l' := #[.val (.ref b), .val (.double (Jvm.Native.java_lang_Math.nans.pick64 false gn0 x1)), .second, .val (.double (Jvm.Native.java_lang_Math.nans.pick64 true gx0 x1)), .second, .val (.ref b), .val (.int (8 : Int32)), .val (.int ((0 : Int32) + (1 : Int32))), .val (.double x1), .second]) X415 hx 47 (hb hby d1_46) rfl rfl ?_
      generalize hgx1 : (Jvm.Native.java_lang_Math.nans.pick64 true gx0 x1) = gx1
      generalize hgn1 : (Jvm.Native.java_lang_Math.nans.pick64 false gn0 x1) = gn1
      rw [hgn1] at A2
      rw [hgx1] at B2
      refine g_iinc (w := (1 : Int32)) (l' := #[.val (.ref b), .val (.double gn1), .second, .val (.double gx1), .second, .val (.ref b), .val (.int (8 : Int32)), .val (.int (((0 : Int32) + (1 : Int32)) + (1 : Int32))), .val (.double x1), .second]) X415 hx 50 (hb hby d1_47) rfl rfl (by decide) rfl ?_
      refine g_goto X415 hx 19 (hb hby d1_50) (by decide) (by decide) ?_
      refine g_iload X415 hx 21 (hb hby d1_19) rfl rfl ?_
      refine g_iload X415 hx 23 (hb hby d1_21) rfl rfl ?_
      have ll417 : ((8 : Int32) : Int32).toInt = 8 := by decide
      have ll418 : ((((0 : Int32) + (1 : Int32)) + (1 : Int32)) : Int32).toInt = 2 := by decide
      refine g_ic_ge X415 hx 53 26 (hb hby d1_23) (by decide) (by decide) rfl (fun c416 => ?_) (fun c416 => ?_)
      · skip
        exfalso; revert c416; decide
      · skip
        refine g_aload X415 hx 28 (hb hby d1_26) rfl rfl rfl ?_
        refine g_iload X415 hx 30 (hb hby d1_28) rfl rfl ?_
        refine g_daload X415 hx hZ e415 Vb (by decide) (by decide) (by rw [show ((((0 : Int32) + (1 : Int32)) + (1 : Int32)) : Int32).toNatClampNeg = 2 by decide] <;> rfl) 31 (hb hby d1_30) rfl ?_
        refine g_dstore (l' := #[.val (.ref b), .val (.double gn1), .second, .val (.double gx1), .second, .val (.ref b), .val (.int (8 : Int32)), .val (.int (((0 : Int32) + (1 : Int32)) + (1 : Int32))), .val (.double x2), .second]) X415 hx 33 (hb hby d1_31) rfl rfl ?_
        refine g_dloadN X415 hx 34 (hb hby d1_33) rfl rfl ?_
        refine g_dload X415 hx 36 (hb hby d1_34) rfl rfl ?_
        obtain ⟨m3, A3, a1, a2, a3⟩ := own_minE A2 h_x2
        have M3 := own_minS M2 a1 a2 a3
        clear a1 a2 a3
        obtain ⟨w3, B3, a1, a2, a3⟩ := own_maxE B2 h_x2
        have W3 := own_maxS W2 a1 a2 a3
        clear a1 a2 a3
        refine g_minD X415 hx hZ hown (hw _ (List.mem_of_getElem? (i := 5) rfl)) (hw _ (List.mem_of_getElem? (i := 6) rfl)) (hw _ (List.mem_of_getElem? (i := 7) rfl)) (hw _ (List.mem_of_getElem? (i := 8) rfl)) rfl e415 (own_dnn A2) (own_dnn h_x2) (r := (Jvm.Native.java_lang_Math.nans.pick64 false gn1 x2)) rfl 0 39 (hb hby d1_36) rfl (by rw [hml]; rfl) (Nat.le_refl _) (by decide) (by decide) (by decide) (by decide) own_pd1 ?_
        intro T419 X419 e419
        refine g_dstoreN (l' := #[.val (.ref b), .val (.double (Jvm.Native.java_lang_Math.nans.pick64 false gn1 x2)), .second, .val (.double gx1), .second, .val (.ref b), .val (.int (8 : Int32)), .val (.int (((0 : Int32) + (1 : Int32)) + (1 : Int32))), .val (.double x2), .second]) X419 hx 40 (hb hby d1_39) rfl rfl ?_
        refine g_dloadN X419 hx 41 (hb hby d1_40) rfl rfl ?_
        refine g_dload X419 hx 43 (hb hby d1_41) rfl rfl ?_
        refine g_maxD X419 hx hZ hown (hw _ (List.mem_of_getElem? (i := 9) rfl)) (hw _ (List.mem_of_getElem? (i := 10) rfl)) (hw _ (List.mem_of_getElem? (i := 7) rfl)) (hw _ (List.mem_of_getElem? (i := 11) rfl)) rfl e419 (own_dnn B2) (own_dnn h_x2) (r := (Jvm.Native.java_lang_Math.nans.pick64 true gx1 x2)) rfl 0 46 (hb hby d1_43) rfl (by rw [hml]; rfl) (Nat.le_refl _) (by decide) (by decide) (by decide) (by decide) own_pd1 ?_
        intro T420 X420 e420
        refine g_dstoreN (l' := #[.val (.ref b), .val (.double (Jvm.Native.java_lang_Math.nans.pick64 false gn1 x2)), .second, .val (.double (Jvm.Native.java_lang_Math.nans.pick64 true gx1 x2)), .second, .val (.ref b), .val (.int (8 : Int32)), .val (.int (((0 : Int32) + (1 : Int32)) + (1 : Int32))), .val (.double x2), .second]) X420 hx 47 (hb hby d1_46) rfl rfl ?_
        generalize hgx2 : (Jvm.Native.java_lang_Math.nans.pick64 true gx1 x2) = gx2
        generalize hgn2 : (Jvm.Native.java_lang_Math.nans.pick64 false gn1 x2) = gn2
        rw [hgn2] at A3
        rw [hgx2] at B3
        refine g_iinc (w := (1 : Int32)) (l' := #[.val (.ref b), .val (.double gn2), .second, .val (.double gx2), .second, .val (.ref b), .val (.int (8 : Int32)), .val (.int ((((0 : Int32) + (1 : Int32)) + (1 : Int32)) + (1 : Int32))), .val (.double x2), .second]) X420 hx 50 (hb hby d1_47) rfl rfl (by decide) rfl ?_
        refine g_goto X420 hx 19 (hb hby d1_50) (by decide) (by decide) ?_
        refine g_iload X420 hx 21 (hb hby d1_19) rfl rfl ?_
        refine g_iload X420 hx 23 (hb hby d1_21) rfl rfl ?_
        have ll422 : ((8 : Int32) : Int32).toInt = 8 := by decide
        have ll423 : (((((0 : Int32) + (1 : Int32)) + (1 : Int32)) + (1 : Int32)) : Int32).toInt = 3 := by decide
        refine g_ic_ge X420 hx 53 26 (hb hby d1_23) (by decide) (by decide) rfl (fun c421 => ?_) (fun c421 => ?_)
        · skip
          exfalso; revert c421; decide
        · skip
          refine g_aload X420 hx 28 (hb hby d1_26) rfl rfl rfl ?_
          refine g_iload X420 hx 30 (hb hby d1_28) rfl rfl ?_
          refine g_daload X420 hx hZ e420 Vb (by decide) (by decide) (by rw [show (((((0 : Int32) + (1 : Int32)) + (1 : Int32)) + (1 : Int32)) : Int32).toNatClampNeg = 3 by decide] <;> rfl) 31 (hb hby d1_30) rfl ?_
          refine g_dstore (l' := #[.val (.ref b), .val (.double gn2), .second, .val (.double gx2), .second, .val (.ref b), .val (.int (8 : Int32)), .val (.int ((((0 : Int32) + (1 : Int32)) + (1 : Int32)) + (1 : Int32))), .val (.double x3), .second]) X420 hx 33 (hb hby d1_31) rfl rfl ?_
          refine g_dloadN X420 hx 34 (hb hby d1_33) rfl rfl ?_
          refine g_dload X420 hx 36 (hb hby d1_34) rfl rfl ?_
          obtain ⟨m4, A4, a1, a2, a3⟩ := own_minE A3 h_x3
          have M4 := own_minS M3 a1 a2 a3
          clear a1 a2 a3
          obtain ⟨w4, B4, a1, a2, a3⟩ := own_maxE B3 h_x3
          have W4 := own_maxS W3 a1 a2 a3
          clear a1 a2 a3
          refine g_minD X420 hx hZ hown (hw _ (List.mem_of_getElem? (i := 5) rfl)) (hw _ (List.mem_of_getElem? (i := 6) rfl)) (hw _ (List.mem_of_getElem? (i := 7) rfl)) (hw _ (List.mem_of_getElem? (i := 8) rfl)) rfl e420 (own_dnn A3) (own_dnn h_x3) (r := (Jvm.Native.java_lang_Math.nans.pick64 false gn2 x3)) rfl 0 39 (hb hby d1_36) rfl (by rw [hml]; rfl) (Nat.le_refl _) (by decide) (by decide) (by decide) (by decide) own_pd1 ?_
          intro T424 X424 e424
          refine g_dstoreN (l' := #[.val (.ref b), .val (.double (Jvm.Native.java_lang_Math.nans.pick64 false gn2 x3)), .second, .val (.double gx2), .second, .val (.ref b), .val (.int (8 : Int32)), .val (.int ((((0 : Int32) + (1 : Int32)) + (1 : Int32)) + (1 : Int32))), .val (.double x3), .second]) X424 hx 40 (hb hby d1_39) rfl rfl ?_
          refine g_dloadN X424 hx 41 (hb hby d1_40) rfl rfl ?_
          refine g_dload X424 hx 43 (hb hby d1_41) rfl rfl ?_
          refine g_maxD X424 hx hZ hown (hw _ (List.mem_of_getElem? (i := 9) rfl)) (hw _ (List.mem_of_getElem? (i := 10) rfl)) (hw _ (List.mem_of_getElem? (i := 7) rfl)) (hw _ (List.mem_of_getElem? (i := 11) rfl)) rfl e424 (own_dnn B3) (own_dnn h_x3) (r := (Jvm.Native.java_lang_Math.nans.pick64 true gx2 x3)) rfl 0 46 (hb hby d1_43) rfl (by rw [hml]; rfl) (Nat.le_refl _) (by decide) (by decide) (by decide) (by decide) own_pd1 ?_
          intro T425 X425 e425
          refine g_dstoreN (l' := #[.val (.ref b), .val (.double (Jvm.Native.java_lang_Math.nans.pick64 false gn2 x3)), .second, .val (.double (Jvm.Native.java_lang_Math.nans.pick64 true gx2 x3)), .second, .val (.ref b), .val (.int (8 : Int32)), .val (.int ((((0 : Int32) + (1 : Int32)) + (1 : Int32)) + (1 : Int32))), .val (.double x3), .second]) X425 hx 47 (hb hby d1_46) rfl rfl ?_
          generalize hgx3 : (Jvm.Native.java_lang_Math.nans.pick64 true gx2 x3) = gx3
          generalize hgn3 : (Jvm.Native.java_lang_Math.nans.pick64 false gn2 x3) = gn3
          rw [hgn3] at A4
          rw [hgx3] at B4
          refine g_iinc (w := (1 : Int32)) (l' := #[.val (.ref b), .val (.double gn3), .second, .val (.double gx3), .second, .val (.ref b), .val (.int (8 : Int32)), .val (.int (((((0 : Int32) + (1 : Int32)) + (1 : Int32)) + (1 : Int32)) + (1 : Int32))), .val (.double x3), .second]) X425 hx 50 (hb hby d1_47) rfl rfl (by decide) rfl ?_
          refine g_goto X425 hx 19 (hb hby d1_50) (by decide) (by decide) ?_
          refine g_iload X425 hx 21 (hb hby d1_19) rfl rfl ?_
          refine g_iload X425 hx 23 (hb hby d1_21) rfl rfl ?_
          have ll427 : ((8 : Int32) : Int32).toInt = 8 := by decide
          have ll428 : ((((((0 : Int32) + (1 : Int32)) + (1 : Int32)) + (1 : Int32)) + (1 : Int32)) : Int32).toInt = 4 := by decide
          refine g_ic_ge X425 hx 53 26 (hb hby d1_23) (by decide) (by decide) rfl (fun c426 => ?_) (fun c426 => ?_)
          · skip
            exfalso; revert c426; decide
          · skip
            refine g_aload X425 hx 28 (hb hby d1_26) rfl rfl rfl ?_
            refine g_iload X425 hx 30 (hb hby d1_28) rfl rfl ?_
            refine g_daload X425 hx hZ e425 Vb (by decide) (by decide) (by rw [show ((((((0 : Int32) + (1 : Int32)) + (1 : Int32)) + (1 : Int32)) + (1 : Int32)) : Int32).toNatClampNeg = 4 by decide] <;> rfl) 31 (hb hby d1_30) rfl ?_
            refine g_dstore (l' := #[.val (.ref b), .val (.double gn3), .second, .val (.double gx3), .second, .val (.ref b), .val (.int (8 : Int32)), .val (.int (((((0 : Int32) + (1 : Int32)) + (1 : Int32)) + (1 : Int32)) + (1 : Int32))), .val (.double x4), .second]) X425 hx 33 (hb hby d1_31) rfl rfl ?_
            refine g_dloadN X425 hx 34 (hb hby d1_33) rfl rfl ?_
            refine g_dload X425 hx 36 (hb hby d1_34) rfl rfl ?_
            obtain ⟨m5, A5, a1, a2, a3⟩ := own_minE A4 h_x4
            have M5 := own_minS M4 a1 a2 a3
            clear a1 a2 a3
            obtain ⟨w5, B5, a1, a2, a3⟩ := own_maxE B4 h_x4
            have W5 := own_maxS W4 a1 a2 a3
            clear a1 a2 a3
            refine g_minD X425 hx hZ hown (hw _ (List.mem_of_getElem? (i := 5) rfl)) (hw _ (List.mem_of_getElem? (i := 6) rfl)) (hw _ (List.mem_of_getElem? (i := 7) rfl)) (hw _ (List.mem_of_getElem? (i := 8) rfl)) rfl e425 (own_dnn A4) (own_dnn h_x4) (r := (Jvm.Native.java_lang_Math.nans.pick64 false gn3 x4)) rfl 0 39 (hb hby d1_36) rfl (by rw [hml]; rfl) (Nat.le_refl _) (by decide) (by decide) (by decide) (by decide) own_pd1 ?_
            intro T429 X429 e429
            refine g_dstoreN (l' := #[.val (.ref b), .val (.double (Jvm.Native.java_lang_Math.nans.pick64 false gn3 x4)), .second, .val (.double gx3), .second, .val (.ref b), .val (.int (8 : Int32)), .val (.int (((((0 : Int32) + (1 : Int32)) + (1 : Int32)) + (1 : Int32)) + (1 : Int32))), .val (.double x4), .second]) X429 hx 40 (hb hby d1_39) rfl rfl ?_
            refine g_dloadN X429 hx 41 (hb hby d1_40) rfl rfl ?_
            refine g_dload X429 hx 43 (hb hby d1_41) rfl rfl ?_
            refine g_maxD X429 hx hZ hown (hw _ (List.mem_of_getElem? (i := 9) rfl)) (hw _ (List.mem_of_getElem? (i := 10) rfl)) (hw _ (List.mem_of_getElem? (i := 7) rfl)) (hw _ (List.mem_of_getElem? (i := 11) rfl)) rfl e429 (own_dnn B4) (own_dnn h_x4) (r := (Jvm.Native.java_lang_Math.nans.pick64 true gx3 x4)) rfl 0 46 (hb hby d1_43) rfl (by rw [hml]; rfl) (Nat.le_refl _) (by decide) (by decide) (by decide) (by decide) own_pd1 ?_
            intro T430 X430 e430
            refine g_dstoreN (l' := #[.val (.ref b), .val (.double (Jvm.Native.java_lang_Math.nans.pick64 false gn3 x4)), .second, .val (.double (Jvm.Native.java_lang_Math.nans.pick64 true gx3 x4)), .second, .val (.ref b), .val (.int (8 : Int32)), .val (.int (((((0 : Int32) + (1 : Int32)) + (1 : Int32)) + (1 : Int32)) + (1 : Int32))), .val (.double x4), .second]) X430 hx 47 (hb hby d1_46) rfl rfl ?_
            generalize hgx4 : (Jvm.Native.java_lang_Math.nans.pick64 true gx3 x4) = gx4
            generalize hgn4 : (Jvm.Native.java_lang_Math.nans.pick64 false gn3 x4) = gn4
            rw [hgn4] at A5
            rw [hgx4] at B5
            refine g_iinc (w := (1 : Int32)) (l' := #[.val (.ref b), .val (.double gn4), .second, .val (.double gx4), .second, .val (.ref b), .val (.int (8 : Int32)), .val (.int ((((((0 : Int32) + (1 : Int32)) + (1 : Int32)) + (1 : Int32)) + (1 : Int32)) + (1 : Int32))), .val (.double x4), .second]) X430 hx 50 (hb hby d1_47) rfl rfl (by decide) rfl ?_
            refine g_goto X430 hx 19 (hb hby d1_50) (by decide) (by decide) ?_
            refine g_iload X430 hx 21 (hb hby d1_19) rfl rfl ?_
            refine g_iload X430 hx 23 (hb hby d1_21) rfl rfl ?_
            have ll432 : ((8 : Int32) : Int32).toInt = 8 := by decide
            have ll433 : (((((((0 : Int32) + (1 : Int32)) + (1 : Int32)) + (1 : Int32)) + (1 : Int32)) + (1 : Int32)) : Int32).toInt = 5 := by decide
            refine g_ic_ge X430 hx 53 26 (hb hby d1_23) (by decide) (by decide) rfl (fun c431 => ?_) (fun c431 => ?_)
            · skip
              exfalso; revert c431; decide
            · skip
              refine g_aload X430 hx 28 (hb hby d1_26) rfl rfl rfl ?_
              refine g_iload X430 hx 30 (hb hby d1_28) rfl rfl ?_
              refine g_daload X430 hx hZ e430 Vb (by decide) (by decide) (by rw [show (((((((0 : Int32) + (1 : Int32)) + (1 : Int32)) + (1 : Int32)) + (1 : Int32)) + (1 : Int32)) : Int32).toNatClampNeg = 5 by decide] <;> rfl) 31 (hb hby d1_30) rfl ?_
              refine g_dstore (l' := #[.val (.ref b), .val (.double gn4), .second, .val (.double gx4), .second, .val (.ref b), .val (.int (8 : Int32)), .val (.int ((((((0 : Int32) + (1 : Int32)) + (1 : Int32)) + (1 : Int32)) + (1 : Int32)) + (1 : Int32))), .val (.double x5), .second]) X430 hx 33 (hb hby d1_31) rfl rfl ?_
              refine g_dloadN X430 hx 34 (hb hby d1_33) rfl rfl ?_
              refine g_dload X430 hx 36 (hb hby d1_34) rfl rfl ?_
              obtain ⟨m6, A6, a1, a2, a3⟩ := own_minE A5 h_x5
              have M6 := own_minS M5 a1 a2 a3
              clear a1 a2 a3
              obtain ⟨w6, B6, a1, a2, a3⟩ := own_maxE B5 h_x5
              have W6 := own_maxS W5 a1 a2 a3
              clear a1 a2 a3
              refine g_minD X430 hx hZ hown (hw _ (List.mem_of_getElem? (i := 5) rfl)) (hw _ (List.mem_of_getElem? (i := 6) rfl)) (hw _ (List.mem_of_getElem? (i := 7) rfl)) (hw _ (List.mem_of_getElem? (i := 8) rfl)) rfl e430 (own_dnn A5) (own_dnn h_x5) (r := (Jvm.Native.java_lang_Math.nans.pick64 false gn4 x5)) rfl 0 39 (hb hby d1_36) rfl (by rw [hml]; rfl) (Nat.le_refl _) (by decide) (by decide) (by decide) (by decide) own_pd1 ?_
              intro T434 X434 e434
              refine g_dstoreN (l' := #[.val (.ref b), .val (.double (Jvm.Native.java_lang_Math.nans.pick64 false gn4 x5)), .second, .val (.double gx4), .second, .val (.ref b), .val (.int (8 : Int32)), .val (.int ((((((0 : Int32) + (1 : Int32)) + (1 : Int32)) + (1 : Int32)) + (1 : Int32)) + (1 : Int32))), .val (.double x5), .second]) X434 hx 40 (hb hby d1_39) rfl rfl ?_
              refine g_dloadN X434 hx 41 (hb hby d1_40) rfl rfl ?_
              refine g_dload X434 hx 43 (hb hby d1_41) rfl rfl ?_
              refine g_maxD X434 hx hZ hown (hw _ (List.mem_of_getElem? (i := 9) rfl)) (hw _ (List.mem_of_getElem? (i := 10) rfl)) (hw _ (List.mem_of_getElem? (i := 7) rfl)) (hw _ (List.mem_of_getElem? (i := 11) rfl)) rfl e434 (own_dnn B5) (own_dnn h_x5) (r := (Jvm.Native.java_lang_Math.nans.pick64 true gx4 x5)) rfl 0 46 (hb hby d1_43) rfl (by rw [hml]; rfl) (Nat.le_refl _) (by decide) (by decide) (by decide) (by decide) own_pd1 ?_
              intro T435 X435 e435
              refine g_dstoreN (l' := #[.val (.ref b), .val (.double (Jvm.Native.java_lang_Math.nans.pick64 false gn4 x5)), .second, .val (.double (Jvm.Native.java_lang_Math.nans.pick64 true gx4 x5)), .second, .val (.ref b), .val (.int (8 : Int32)), .val (.int ((((((0 : Int32) + (1 : Int32)) + (1 : Int32)) + (1 : Int32)) + (1 : Int32)) + (1 : Int32))), .val (.double x5), .second]) X435 hx 47 (hb hby d1_46) rfl rfl ?_
              generalize hgx5 : (Jvm.Native.java_lang_Math.nans.pick64 true gx4 x5) = gx5
              generalize hgn5 : (Jvm.Native.java_lang_Math.nans.pick64 false gn4 x5) = gn5
              rw [hgn5] at A6
              rw [hgx5] at B6
              refine g_iinc (w := (1 : Int32)) (l' := #[.val (.ref b), .val (.double gn5), .second, .val (.double gx5), .second, .val (.ref b), .val (.int (8 : Int32)), .val (.int (((((((0 : Int32) + (1 : Int32)) + (1 : Int32)) + (1 : Int32)) + (1 : Int32)) + (1 : Int32)) + (1 : Int32))), .val (.double x5), .second]) X435 hx 50 (hb hby d1_47) rfl rfl (by decide) rfl ?_
              refine g_goto X435 hx 19 (hb hby d1_50) (by decide) (by decide) ?_
              refine g_iload X435 hx 21 (hb hby d1_19) rfl rfl ?_
              refine g_iload X435 hx 23 (hb hby d1_21) rfl rfl ?_
              have ll437 : ((8 : Int32) : Int32).toInt = 8 := by decide
              have ll438 : ((((((((0 : Int32) + (1 : Int32)) + (1 : Int32)) + (1 : Int32)) + (1 : Int32)) + (1 : Int32)) + (1 : Int32)) : Int32).toInt = 6 := by decide
              refine g_ic_ge X435 hx 53 26 (hb hby d1_23) (by decide) (by decide) rfl (fun c436 => ?_) (fun c436 => ?_)
              · skip
                exfalso; revert c436; decide
              · skip
                refine g_aload X435 hx 28 (hb hby d1_26) rfl rfl rfl ?_
                refine g_iload X435 hx 30 (hb hby d1_28) rfl rfl ?_
                refine g_daload X435 hx hZ e435 Vb (by decide) (by decide) (by rw [show ((((((((0 : Int32) + (1 : Int32)) + (1 : Int32)) + (1 : Int32)) + (1 : Int32)) + (1 : Int32)) + (1 : Int32)) : Int32).toNatClampNeg = 6 by decide] <;> rfl) 31 (hb hby d1_30) rfl ?_
                refine g_dstore (l' := #[.val (.ref b), .val (.double gn5), .second, .val (.double gx5), .second, .val (.ref b), .val (.int (8 : Int32)), .val (.int (((((((0 : Int32) + (1 : Int32)) + (1 : Int32)) + (1 : Int32)) + (1 : Int32)) + (1 : Int32)) + (1 : Int32))), .val (.double x6), .second]) X435 hx 33 (hb hby d1_31) rfl rfl ?_
                refine g_dloadN X435 hx 34 (hb hby d1_33) rfl rfl ?_
                refine g_dload X435 hx 36 (hb hby d1_34) rfl rfl ?_
                obtain ⟨m7, A7, a1, a2, a3⟩ := own_minE A6 h_x6
                have M7 := own_minS M6 a1 a2 a3
                clear a1 a2 a3
                obtain ⟨w7, B7, a1, a2, a3⟩ := own_maxE B6 h_x6
                have W7 := own_maxS W6 a1 a2 a3
                clear a1 a2 a3
                refine g_minD X435 hx hZ hown (hw _ (List.mem_of_getElem? (i := 5) rfl)) (hw _ (List.mem_of_getElem? (i := 6) rfl)) (hw _ (List.mem_of_getElem? (i := 7) rfl)) (hw _ (List.mem_of_getElem? (i := 8) rfl)) rfl e435 (own_dnn A6) (own_dnn h_x6) (r := (Jvm.Native.java_lang_Math.nans.pick64 false gn5 x6)) rfl 0 39 (hb hby d1_36) rfl (by rw [hml]; rfl) (Nat.le_refl _) (by decide) (by decide) (by decide) (by decide) own_pd1 ?_
                intro T439 X439 e439
                refine g_dstoreN (l' := #[.val (.ref b), .val (.double (Jvm.Native.java_lang_Math.nans.pick64 false gn5 x6)), .second, .val (.double gx5), .second, .val (.ref b), .val (.int (8 : Int32)), .val (.int (((((((0 : Int32) + (1 : Int32)) + (1 : Int32)) + (1 : Int32)) + (1 : Int32)) + (1 : Int32)) + (1 : Int32))), .val (.double x6), .second]) X439 hx 40 (hb hby d1_39) rfl rfl ?_
                refine g_dloadN X439 hx 41 (hb hby d1_40) rfl rfl ?_
                refine g_dload X439 hx 43 (hb hby d1_41) rfl rfl ?_
                refine g_maxD X439 hx hZ hown (hw _ (List.mem_of_getElem? (i := 9) rfl)) (hw _ (List.mem_of_getElem? (i := 10) rfl)) (hw _ (List.mem_of_getElem? (i := 7) rfl)) (hw _ (List.mem_of_getElem? (i := 11) rfl)) rfl e439 (own_dnn B6) (own_dnn h_x6) (r := (Jvm.Native.java_lang_Math.nans.pick64 true gx5 x6)) rfl 0 46 (hb hby d1_43) rfl (by rw [hml]; rfl) (Nat.le_refl _) (by decide) (by decide) (by decide) (by decide) own_pd1 ?_
                intro T440 X440 e440
                refine g_dstoreN (l' := #[.val (.ref b), .val (.double (Jvm.Native.java_lang_Math.nans.pick64 false gn5 x6)), .second, .val (.double (Jvm.Native.java_lang_Math.nans.pick64 true gx5 x6)), .second, .val (.ref b), .val (.int (8 : Int32)), .val (.int (((((((0 : Int32) + (1 : Int32)) + (1 : Int32)) + (1 : Int32)) + (1 : Int32)) + (1 : Int32)) + (1 : Int32))), .val (.double x6), .second]) X440 hx 47 (hb hby d1_46) rfl rfl ?_
                generalize hgx6 : (Jvm.Native.java_lang_Math.nans.pick64 true gx5 x6) = gx6
                generalize hgn6 : (Jvm.Native.java_lang_Math.nans.pick64 false gn5 x6) = gn6
                rw [hgn6] at A7
                rw [hgx6] at B7
                refine g_iinc (w := (1 : Int32)) (l' := #[.val (.ref b), .val (.double gn6), .second, .val (.double gx6), .second, .val (.ref b), .val (.int (8 : Int32)), .val (.int ((((((((0 : Int32) + (1 : Int32)) + (1 : Int32)) + (1 : Int32)) + (1 : Int32)) + (1 : Int32)) + (1 : Int32)) + (1 : Int32))), .val (.double x6), .second]) X440 hx 50 (hb hby d1_47) rfl rfl (by decide) rfl ?_
                refine g_goto X440 hx 19 (hb hby d1_50) (by decide) (by decide) ?_
                refine g_iload X440 hx 21 (hb hby d1_19) rfl rfl ?_
                refine g_iload X440 hx 23 (hb hby d1_21) rfl rfl ?_
                have ll442 : ((8 : Int32) : Int32).toInt = 8 := by decide
                have ll443 : (((((((((0 : Int32) + (1 : Int32)) + (1 : Int32)) + (1 : Int32)) + (1 : Int32)) + (1 : Int32)) + (1 : Int32)) + (1 : Int32)) : Int32).toInt = 7 := by decide
                refine g_ic_ge X440 hx 53 26 (hb hby d1_23) (by decide) (by decide) rfl (fun c441 => ?_) (fun c441 => ?_)
                · skip
                  exfalso; revert c441; decide
                · skip
                  refine g_aload X440 hx 28 (hb hby d1_26) rfl rfl rfl ?_
                  refine g_iload X440 hx 30 (hb hby d1_28) rfl rfl ?_
                  refine g_daload X440 hx hZ e440 Vb (by decide) (by decide) (by rw [show (((((((((0 : Int32) + (1 : Int32)) + (1 : Int32)) + (1 : Int32)) + (1 : Int32)) + (1 : Int32)) + (1 : Int32)) + (1 : Int32)) : Int32).toNatClampNeg = 7 by decide] <;> rfl) 31 (hb hby d1_30) rfl ?_
                  refine g_dstore (l' := #[.val (.ref b), .val (.double gn6), .second, .val (.double gx6), .second, .val (.ref b), .val (.int (8 : Int32)), .val (.int ((((((((0 : Int32) + (1 : Int32)) + (1 : Int32)) + (1 : Int32)) + (1 : Int32)) + (1 : Int32)) + (1 : Int32)) + (1 : Int32))), .val (.double x7), .second]) X440 hx 33 (hb hby d1_31) rfl rfl ?_
                  refine g_dloadN X440 hx 34 (hb hby d1_33) rfl rfl ?_
                  refine g_dload X440 hx 36 (hb hby d1_34) rfl rfl ?_
                  obtain ⟨m8, A8, a1, a2, a3⟩ := own_minE A7 h_x7
                  have M8 := own_minS M7 a1 a2 a3
                  clear a1 a2 a3
                  obtain ⟨w8, B8, a1, a2, a3⟩ := own_maxE B7 h_x7
                  have W8 := own_maxS W7 a1 a2 a3
                  clear a1 a2 a3
                  refine g_minD X440 hx hZ hown (hw _ (List.mem_of_getElem? (i := 5) rfl)) (hw _ (List.mem_of_getElem? (i := 6) rfl)) (hw _ (List.mem_of_getElem? (i := 7) rfl)) (hw _ (List.mem_of_getElem? (i := 8) rfl)) rfl e440 (own_dnn A7) (own_dnn h_x7) (r := (Jvm.Native.java_lang_Math.nans.pick64 false gn6 x7)) rfl 0 39 (hb hby d1_36) rfl (by rw [hml]; rfl) (Nat.le_refl _) (by decide) (by decide) (by decide) (by decide) own_pd1 ?_
                  intro T444 X444 e444
                  refine g_dstoreN (l' := #[.val (.ref b), .val (.double (Jvm.Native.java_lang_Math.nans.pick64 false gn6 x7)), .second, .val (.double gx6), .second, .val (.ref b), .val (.int (8 : Int32)), .val (.int ((((((((0 : Int32) + (1 : Int32)) + (1 : Int32)) + (1 : Int32)) + (1 : Int32)) + (1 : Int32)) + (1 : Int32)) + (1 : Int32))), .val (.double x7), .second]) X444 hx 40 (hb hby d1_39) rfl rfl ?_
                  refine g_dloadN X444 hx 41 (hb hby d1_40) rfl rfl ?_
                  refine g_dload X444 hx 43 (hb hby d1_41) rfl rfl ?_
                  refine g_maxD X444 hx hZ hown (hw _ (List.mem_of_getElem? (i := 9) rfl)) (hw _ (List.mem_of_getElem? (i := 10) rfl)) (hw _ (List.mem_of_getElem? (i := 7) rfl)) (hw _ (List.mem_of_getElem? (i := 11) rfl)) rfl e444 (own_dnn B7) (own_dnn h_x7) (r := (Jvm.Native.java_lang_Math.nans.pick64 true gx6 x7)) rfl 0 46 (hb hby d1_43) rfl (by rw [hml]; rfl) (Nat.le_refl _) (by decide) (by decide) (by decide) (by decide) own_pd1 ?_
                  intro T445 X445 e445
                  refine g_dstoreN (l' := #[.val (.ref b), .val (.double (Jvm.Native.java_lang_Math.nans.pick64 false gn6 x7)), .second, .val (.double (Jvm.Native.java_lang_Math.nans.pick64 true gx6 x7)), .second, .val (.ref b), .val (.int (8 : Int32)), .val (.int ((((((((0 : Int32) + (1 : Int32)) + (1 : Int32)) + (1 : Int32)) + (1 : Int32)) + (1 : Int32)) + (1 : Int32)) + (1 : Int32))), .val (.double x7), .second]) X445 hx 47 (hb hby d1_46) rfl rfl ?_
                  generalize hgx7 : (Jvm.Native.java_lang_Math.nans.pick64 true gx6 x7) = gx7
                  generalize hgn7 : (Jvm.Native.java_lang_Math.nans.pick64 false gn6 x7) = gn7
                  rw [hgn7] at A8
                  rw [hgx7] at B8
                  refine g_iinc (w := (1 : Int32)) (l' := #[.val (.ref b), .val (.double gn7), .second, .val (.double gx7), .second, .val (.ref b), .val (.int (8 : Int32)), .val (.int (((((((((0 : Int32) + (1 : Int32)) + (1 : Int32)) + (1 : Int32)) + (1 : Int32)) + (1 : Int32)) + (1 : Int32)) + (1 : Int32)) + (1 : Int32))), .val (.double x7), .second]) X445 hx 50 (hb hby d1_47) rfl rfl (by decide) rfl ?_
                  refine g_goto X445 hx 19 (hb hby d1_50) (by decide) (by decide) ?_
                  refine g_iload X445 hx 21 (hb hby d1_19) rfl rfl ?_
                  refine g_iload X445 hx 23 (hb hby d1_21) rfl rfl ?_
                  have ll447 : ((8 : Int32) : Int32).toInt = 8 := by decide
                  have ll448 : ((((((((((0 : Int32) + (1 : Int32)) + (1 : Int32)) + (1 : Int32)) + (1 : Int32)) + (1 : Int32)) + (1 : Int32)) + (1 : Int32)) + (1 : Int32)) : Int32).toInt = 8 := by decide
                  refine g_ic_ge X445 hx 53 26 (hb hby d1_23) (by decide) (by decide) rfl (fun c446 => ?_) (fun c446 => ?_)
                  · skip
                    refine g_new X445 hx hZ hown (hw _ (List.mem_of_getElem? (i := 12) rfl)) (hw _ (List.mem_of_getElem? (i := 13) rfl)) (hw _ (List.mem_of_getElem? (i := 3) rfl)) e445 56 (hb hby d1_53) rfl (by decide) (by decide) ?_
                    intro T449 h449 a449 g449 X449 e449 E449 A449 D449
                    have ne450 : b ≠ a449 := Nat.ne_of_lt (by rw [g449]; exact Vb.lt)
                    have ge451 : n0 ≤ a449 := by rw [g449]; exact Z0
                    have sz452 : h0.size ≤ a449 := by rw [g449]; exact (Keep.refl h0 []).1
                    have F453 := Vb.ext E449
                    have K454 := (Keep.refl h0 []).ext E449
                    have Z455 : n0 ≤ h449.size := Nat.le_trans Z0 E449.1
                    have F456 : Fld Z h449 a449 "com/example/recolecta/recolecta/Bins" "min" "D" (.double (0 : UInt64)) := D449 (Or.inr (hw _ (List.mem_of_getElem? (i := 24) rfl))) (ty := .double) (by decide)
                    have F457 : Fld Z h449 a449 "com/example/recolecta/recolecta/Bins" "max" "D" (.double (0 : UInt64)) := D449 (Or.inr (hw _ (List.mem_of_getElem? (i := 26) rfl))) (ty := .double) (by decide)
                    have F458 : Fld Z h449 a449 "com/example/recolecta/recolecta/Bins" "count" "I" (.int (0 : Int32)) := D449 (Or.inr (hw _ (List.mem_of_getElem? (i := 28) rfl))) (ty := .int) (by decide)
                    refine g_dup X449 hx 57 (hb hby d1_56) rfl rfl ?_
                    refine g_dloadN X449 hx 58 (hb hby d1_57) rfl rfl ?_
                    refine g_dloadN X449 hx 59 (hb hby d1_58) rfl rfl ?_
                    refine g_aloadN X449 hx 60 (hb hby d1_59) rfl rfl rfl ?_
                    refine g_len X449 hx hZ e449 F453 61 (hb hby d1_60) rfl ?_
                    refine g_dloadN X449 hx 62 (hb hby d1_61) rfl rfl ?_
                    refine g_dloadN X449 hx 63 (hb hby d1_62) rfl rfl ?_
                    have dn := A8
                    have dx := B8
                    have le := own_mm M8 W8
                    refine g_static X449 hx hZ hown (hw _ (List.mem_of_getElem? (i := 14) rfl)) (hw _ (List.mem_of_getElem? (i := 15) rfl)) (hw _ (List.mem_of_getElem? (i := 3) rfl)) (hw _ (List.mem_of_getElem? (i := 16) rfl)) (by decide) (rmC l Z a0 hw 8 gn7 gx7 h449 n0 Z455 m8 w8 (Jvm.FP.Core.dcmp_int dn dx) (by decide)) e449 (argsL := [(.int (8 : Int32)), (.double gn7), (.double gx7)]) (rest := [(.double gx7), (.double gn7), (.ref a449), (.ref a449)]) rfl rfl 6 66 rfl (by rw [hml]; rfl) (lenOf own_pd2 rfl) (Nat.le_refl _) (by decide) (by decide) (by decide) (by decide) (hb hby d1_63) ?_
                    intro v459 T459 L459 X459 hQ459
                    obtain ⟨r, rfl, N459, q459, r1, r2⟩ := hQ459
                    have N460 := Fr.app N0 N459
                    show Go p e below _ T459 (mkF m 66 #[.val (.ref b), .val (.double gn7), .second, .val (.double gx7), .second, .val (.ref b), .val (.int (8 : Int32)), .val (.int (((((((((0 : Int32) + (1 : Int32)) + (1 : Int32)) + (1 : Int32)) + (1 : Int32)) + (1 : Int32)) + (1 : Int32)) + (1 : Int32)) + (1 : Int32))), .val (.double x7), .second] [(.int r), (.double gx7), (.double gn7), (.ref a449), (.ref a449)])
                    refine g_init X459 hx hZ rfl hown (hw _ (List.mem_of_getElem? (i := 17) rfl)) (hw _ (List.mem_of_getElem? (i := 18) rfl)) (hw _ (List.mem_of_getElem? (i := 3) rfl)) (hw _ (List.mem_of_getElem? (i := 19) rfl)) (by decide) (rm5 l Z a0 hw a449 gn7 gx7 r h449 n0 Z455 m8 w8 (Jvm.FP.Core.dcmp_int dn dx) le A449 ge451 F456 F457 F458) q459 (a := a449) (argsL := [(.double gn7), (.double gx7), (.int r)]) (rest := [(.ref a449)]) rfl rfl 1 69 rfl (by rw [hml]; rfl) (lenOf own_pd3 rfl) (Nat.le_refl _) (by decide) (by decide) (by decide) (by decide) (hb hby d1_66) ?_
                    intro v461 T461 L461 X461 hQ461
                    obtain ⟨rfl, N461, K461, F1461, F2461, F3461⟩ := hQ461
                    have N462 := Fr.app N460 N461
                    have F463 := F453.keep K461 (ninS ne450 nin0)
                    have F464 := A449.keep K461
                    have Z468 : n0 ≤ T461.heap.size := Nat.le_trans Z455 K461.1
                    have K469 := K454.trans K461 (allS (Or.inr sz452) all0)
                    show Go p e below _ T461 (mkF m 69 #[.val (.ref b), .val (.double gn7), .second, .val (.double gx7), .second, .val (.ref b), .val (.int (8 : Int32)), .val (.int (((((((((0 : Int32) + (1 : Int32)) + (1 : Int32)) + (1 : Int32)) + (1 : Int32)) + (1 : Int32)) + (1 : Int32)) + (1 : Int32)) + (1 : Int32))), .val (.double x7), .second] [(.ref a449)])
                    exact g_retA X461 hx hlk hret rfl rfl rfl (hb hby d1_69) (by decide) (by decide) rfl ⟨a449, rfl, N462, ge451, K469, F464, gn7, gx7, r, m8, w8, F1461, F2461, F3461, dn, dx, M8, W8, r1, r2⟩
                  · skip
                    exfalso; revert c446; decide
theorem own_pfx : plainFor x = true := plainFor_of_name (show plainName "com/example/recolecta/recolecta/BinsOverPinLaw" = true by first | (simp [plainName, overriddenIn]; done) | decide +kernel)
theorem ef_rm0 (p0 : Int32) (p1 : Int32) (p2 : Int32) (p3 : Int32) (p4 : Int32) (p5 : Int32) (m : MethodId) : entryFrame m #[(.int p0), (.int p1), (.int p2), (.int p3), (.int p4), (.int p5)] maxLocals = mkF m 0 #[.val (.int p0), .val (.int p1), .val (.int p2), .val (.int p3), .val (.int p4), .val (.int p5), .unset, .unset, .unset, .unset, .unset, .unset] [] := by first | (simp [entryFrame, mkF, argsToLocals, Value.category, maxLocals]; done) | rfl
set_option maxRecDepth 65536 in
set_option maxHeartbeats 40000000 in
theorem rm0 (l : Launch) (Z : State) (a0 : Array Value) (hw : ∀ d ∈ tables_1, d.before a0 Z = true) (ws : List Jvm.Cond) (p0 : Int32) (p1 : Int32) (p2 : Int32) (p3 : Int32) (p4 : Int32) (p5 : Int32) (h0 : Heap) (n0 : Nat) (Z0 : n0 ≤ h0.size)  :
    MetFree l x (head1 (Jvm.Cond.code x code maxLocals ret :: ws) room_1) (fun as_ U => as_ = #[(.int p0), (.int p1), (.int p2), (.int p3), (.int p4), (.int p5)] ∧ Z.Warmed39 U.vm ∧ U.heap = h0) (fun _ _ _ _ _ => True) (fun _ U o U' => ∃ v L, o = .returned v ∧ Q_rm0 n0 v U'.heap L ∧ FrameEnd U o U' L 16 128) := by
  refine own_met own_pfx (ef_rm0 p0 p1 p2 p3 p4 p5) ?_
  intro p e s m below meth c T0 X0 hx hby hml hret hlk hnm hown hZ e0
  have N0 := Fr.nil n0
  refine g_iloadN X0 hx 1 (hb hby at_0) rfl rfl ?_
  refine g_bipush X0 hx (7 : Int32) 3 (hb hby at_1) rfl (by decide) ?_
  refine g_iand X0 hx 4 (hb hby at_3) rfl ?_
  refine g_iconst X0 hx (1 : Int32) 5 (hb hby at_4) rfl (by decide) ?_
  refine g_iadd X0 hx 6 (hb hby at_5) rfl ?_
  refine g_istore (l' := #[.val (.int p0), .val (.int p1), .val (.int p2), .val (.int p3), .val (.int p4), .val (.int p5), .val (.int ((p0 &&& (7 : Int32)) + (1 : Int32))), .unset, .unset, .unset, .unset, .unset]) X0 hx 8 (hb hby at_6) rfl rfl ?_
  generalize hn : ((p0 &&& (7 : Int32)) + (1 : Int32)) = n
  have W1 := Jvm.FP.Core.i2d_int p1
  have W2 := Jvm.FP.Core.i2d_int p2
  have W3 := Jvm.FP.Core.i2d_int p3
  have W4 := Jvm.FP.Core.i2d_int p4
  have W5 := Jvm.FP.Core.i2d_int p5
  rcases own_n8 hn with rfl | rfl | rfl | rfl | rfl | rfl | rfl | rfl
  · skip
    refine g_iload X0 hx 10 (hb hby at_8) rfl rfl ?_
    refine g_newP X0 hx hZ (aty := .double) (hw _ (List.mem_of_getElem? (i := 0) rfl)) e0 (by decide) (cap := 1) (by decide) (by decide) 12 (hb hby at_10) rfl (by decide) (by decide) (ad := "[D") (by decide) ?_
    intro T470 h470 k470 a470 g470 X470 e470 E470 V470 A470
    have ge471 : n0 ≤ a470 := by rw [g470]; exact Z0
    have Z472 : n0 ≤ h470.size := Nat.le_trans Z0 E470.1
    have V470' : Arv Z h470 a470 k470 .double (1 : Int32) [(.double (0 : UInt64))] (.double (0 : UInt64)) := V470.pad (pad_rep [] (.double (0 : UInt64)) 1)
    refine g_astore (l' := #[.val (.int p0), .val (.int p1), .val (.int p2), .val (.int p3), .val (.int p4), .val (.int p5), .val (.int (1 : Int32)), .val (.ref a470), .unset, .unset, .unset, .unset]) X470 hx 14 (hb hby at_12) rfl rfl rfl ?_
    refine g_aload X470 hx 16 (hb hby at_14) rfl rfl rfl ?_
    refine g_iconst X470 hx (0 : Int32) 17 (hb hby at_16) rfl (by decide) ?_
    refine g_iloadN X470 hx 18 (hb hby at_17) rfl rfl ?_
    refine g_i2d X470 hx 19 (hb hby at_18) rfl ?_
    refine g_dastore X470 hx hZ e470 V470' 0 (by decide) (by decide) (by show 0 < 1; decide) 20 (hb hby at_19) rfl ?_
    intro T473 h473 X473 e473 W473 V473
    have F474 := A470.wr W473
    have N476 := Fr.snoc X473 N0 ge471
    have Z477 : n0 ≤ h473.size := by rw [W473.size]; exact Z472
    have V473' : Arv Z h473 a470 k470 .double (1 : Int32) [(.double (FP.i2d p1))] (.double (0 : UInt64)) := V473
    refine g_iload X473 hx 22 (hb hby at_20) rfl rfl ?_
    refine g_iconst X473 hx (1 : Int32) 23 (hb hby at_22) rfl (by decide) ?_
    have ll479 : ((1 : Int32) : Int32).toInt = 1 := by decide
    have ll480 : ((1 : Int32) : Int32).toInt = 1 := by decide
    refine g_ic_le X473 hx 32 26 (hb hby at_23) (by decide) (by decide) rfl (fun c478 => ?_) (fun c478 => ?_)
    · skip
      refine g_iload X473 hx 34 (hb hby at_32) rfl rfl ?_
      refine g_iconst X473 hx (2 : Int32) 35 (hb hby at_34) rfl (by decide) ?_
      have ll482 : ((2 : Int32) : Int32).toInt = 2 := by decide
      have ll483 : ((1 : Int32) : Int32).toInt = 1 := by decide
      refine g_ic_le X473 hx 44 38 (hb hby at_35) (by decide) (by decide) rfl (fun c481 => ?_) (fun c481 => ?_)
      · skip
        refine g_iload X473 hx 46 (hb hby at_44) rfl rfl ?_
        refine g_iconst X473 hx (3 : Int32) 47 (hb hby at_46) rfl (by decide) ?_
        have ll485 : ((3 : Int32) : Int32).toInt = 3 := by decide
        have ll486 : ((1 : Int32) : Int32).toInt = 1 := by decide
        refine g_ic_le X473 hx 57 50 (hb hby at_47) (by decide) (by decide) rfl (fun c484 => ?_) (fun c484 => ?_)
        · skip
          refine g_iload X473 hx 59 (hb hby at_57) rfl rfl ?_
          refine g_iconst X473 hx (4 : Int32) 60 (hb hby at_59) rfl (by decide) ?_
          have ll488 : ((4 : Int32) : Int32).toInt = 4 := by decide
          have ll489 : ((1 : Int32) : Int32).toInt = 1 := by decide
          refine g_ic_le X473 hx 70 63 (hb hby at_60) (by decide) (by decide) rfl (fun c487 => ?_) (fun c487 => ?_)
          · skip
            refine g_iload X473 hx 72 (hb hby at_70) rfl rfl ?_
            refine g_iconst X473 hx (5 : Int32) 73 (hb hby at_72) rfl (by decide) ?_
            have ll491 : ((5 : Int32) : Int32).toInt = 5 := by decide
            have ll492 : ((1 : Int32) : Int32).toInt = 1 := by decide
            refine g_ic_le X473 hx 82 76 (hb hby at_73) (by decide) (by decide) rfl (fun c490 => ?_) (fun c490 => ?_)
            · skip
              refine g_iload X473 hx 84 (hb hby at_82) rfl rfl ?_
              refine g_bipush X473 hx (6 : Int32) 86 (hb hby at_84) rfl (by decide) ?_
              have ll494 : ((6 : Int32) : Int32).toInt = 6 := by decide
              have ll495 : ((1 : Int32) : Int32).toInt = 1 := by decide
              refine g_ic_le X473 hx 96 89 (hb hby at_86) (by decide) (by decide) rfl (fun c493 => ?_) (fun c493 => ?_)
              · skip
                refine g_iload X473 hx 98 (hb hby at_96) rfl rfl ?_
                refine g_bipush X473 hx (7 : Int32) 100 (hb hby at_98) rfl (by decide) ?_
                have ll497 : ((7 : Int32) : Int32).toInt = 7 := by decide
                have ll498 : ((1 : Int32) : Int32).toInt = 1 := by decide
                refine g_ic_le X473 hx 110 103 (hb hby at_100) (by decide) (by decide) rfl (fun c496 => ?_) (fun c496 => ?_)
                · skip
                  refine g_iloadN X473 hx 111 (hb hby at_110) rfl rfl ?_
                  refine g_istore (l' := #[.val (.int p0), .val (.int p1), .val (.int p2), .val (.int p3), .val (.int p4), .val (.int p5), .val (.int (1 : Int32)), .val (.ref a470), .val (.int p1), .unset, .unset, .unset]) X473 hx 113 (hb hby at_111) rfl rfl ?_
                  refine g_iloadN X473 hx 114 (hb hby at_113) rfl rfl ?_
                  refine g_istore (l' := #[.val (.int p0), .val (.int p1), .val (.int p2), .val (.int p3), .val (.int p4), .val (.int p5), .val (.int (1 : Int32)), .val (.ref a470), .val (.int p1), .val (.int p1), .unset, .unset]) X473 hx 116 (hb hby at_114) rfl rfl ?_
                  refine g_iload X473 hx 118 (hb hby at_116) rfl rfl ?_
                  refine g_iconst X473 hx (1 : Int32) 119 (hb hby at_118) rfl (by decide) ?_
                  have ll500 : ((1 : Int32) : Int32).toInt = 1 := by decide
                  have ll501 : ((1 : Int32) : Int32).toInt = 1 := by decide
                  refine g_ic_le X473 hx 138 122 (hb hby at_119) (by decide) (by decide) rfl (fun c499 => ?_) (fun c499 => ?_)
                  · skip
                    refine g_iload X473 hx 140 (hb hby at_138) rfl rfl ?_
                    refine g_iconst X473 hx (2 : Int32) 141 (hb hby at_140) rfl (by decide) ?_
                    have ll503 : ((2 : Int32) : Int32).toInt = 2 := by decide
                    have ll504 : ((1 : Int32) : Int32).toInt = 1 := by decide
                    refine g_ic_le X473 hx 160 144 (hb hby at_141) (by decide) (by decide) rfl (fun c502 => ?_) (fun c502 => ?_)
                    · skip
                      refine g_iload X473 hx 162 (hb hby at_160) rfl rfl ?_
                      refine g_iconst X473 hx (3 : Int32) 163 (hb hby at_162) rfl (by decide) ?_
                      have ll506 : ((3 : Int32) : Int32).toInt = 3 := by decide
                      have ll507 : ((1 : Int32) : Int32).toInt = 1 := by decide
                      refine g_ic_le X473 hx 184 166 (hb hby at_163) (by decide) (by decide) rfl (fun c505 => ?_) (fun c505 => ?_)
                      · skip
                        refine g_iload X473 hx 186 (hb hby at_184) rfl rfl ?_
                        refine g_iconst X473 hx (4 : Int32) 187 (hb hby at_186) rfl (by decide) ?_
                        have ll509 : ((4 : Int32) : Int32).toInt = 4 := by decide
                        have ll510 : ((1 : Int32) : Int32).toInt = 1 := by decide
                        refine g_ic_le X473 hx 208 190 (hb hby at_187) (by decide) (by decide) rfl (fun c508 => ?_) (fun c508 => ?_)
                        · skip
                          refine g_iload X473 hx 210 (hb hby at_208) rfl rfl ?_
                          refine g_iload X473 hx 212 (hb hby at_210) rfl rfl ?_
                          refine g_ic_ne X473 hx 221 215 (hb hby at_212) (by decide) (by decide) rfl (fun c511 => ?_) (fun c511 => ?_)
                          · skip
                            refine g_iload X473 hx 223 (hb hby at_221) rfl rfl ?_
                            refine g_iconst X473 hx (2 : Int32) 224 (hb hby at_223) rfl (by decide) ?_
                            have ll513 : ((2 : Int32) : Int32).toInt = 2 := by decide
                            have ll514 : ((1 : Int32) : Int32).toInt = 1 := by decide
                            refine g_ic_ne X473 hx 233 227 (hb hby at_224) (by decide) (by decide) rfl (fun c512 => ?_) (fun c512 => ?_)
                            · skip
                              refine g_iload X473 hx 235 (hb hby at_233) rfl rfl ?_
                              refine g_iconst X473 hx (4 : Int32) 236 (hb hby at_235) rfl (by decide) ?_
                              have ll516 : ((4 : Int32) : Int32).toInt = 4 := by decide
                              have ll517 : ((1 : Int32) : Int32).toInt = 1 := by decide
                              refine g_ic_gt X473 hx 245 239 (hb hby at_236) (by decide) (by decide) rfl (fun c515 => ?_) (fun c515 => ?_)
                              · skip
                                exfalso; revert c515; decide
                              · skip
                                refine g_iconst X473 hx (3 : Int32) 240 (hb hby at_239) rfl (by decide) ?_
                                refine g_istore (l' := #[.val (.int p0), .val (.int p1), .val (.int p2), .val (.int p3), .val (.int p4), .val (.int p5), .val (.int (1 : Int32)), .val (.ref a470), .val (.int p1), .val (.int p1), .val (.int (3 : Int32)), .unset]) X473 hx 242 (hb hby at_240) rfl rfl ?_
                                refine g_goto X473 hx 248 (hb hby at_242) (by decide) (by decide) ?_
                                refine g_aload X473 hx 250 (hb hby at_248) rfl rfl rfl ?_
                                refine g_static X473 hx hZ hown (hw _ (List.mem_of_getElem? (i := 1) rfl)) (hw _ (List.mem_of_getElem? (i := 2) rfl)) (hw _ (List.mem_of_getElem? (i := 3) rfl)) (hw _ (List.mem_of_getElem? (i := 4) rfl)) (by decide) (rm1_1 l Z a0 hw a470 h473 n0 Z477 k470 (FP.i2d p1) p1.toInt W1 V473') e473 (argsL := [(.ref a470)]) (rest := []) rfl rfl 0 253 rfl (by rw [hml]; rfl) (lenOf own_pd0 rfl) (Nat.le_refl _) (by decide) (by decide) (by decide) (by decide) (hb hby at_250) ?_
                                intro v518 T518 L518 X518 hQ518
                                obtain ⟨a518, rfl, N518, ga518, K518, Ea518, lo, hi, r, mi, ma, F1518, F2518, F3518, dn, dx, Mi, Ma, r1, r2⟩ := hQ518
                                have E1 := own_minEq Mi (own_min1 p1.toInt) (fun x hx => by simp only [List.mem_cons, List.not_mem_nil, or_false] at hx ⊢; omega) (fun x hx => by simp only [List.mem_cons, List.not_mem_nil, or_false] at hx ⊢; omega)
                                have E2 := own_maxEq Ma (own_max1 p1.toInt) (fun x hx => by simp only [List.mem_cons, List.not_mem_nil, or_false] at hx ⊢; omega) (fun x hx => by simp only [List.mem_cons, List.not_mem_nil, or_false] at hx ⊢; omega)
                                have N519 := Fr.app N476 N518
                                have F520 := F474.keep K518
                                have F521 := V473'.keep K518 nin0
                                have Z522 : n0 ≤ T518.heap.size := Nat.le_trans Z477 K518.1
                                show Go p e below _ T518 (mkF m 253 #[.val (.int p0), .val (.int p1), .val (.int p2), .val (.int p3), .val (.int p4), .val (.int p5), .val (.int (1 : Int32)), .val (.ref a470), .val (.int p1), .val (.int p1), .val (.int (3 : Int32)), .unset] [(.ref a518)])
                                refine g_astore (l' := #[.val (.int p0), .val (.int p1), .val (.int p2), .val (.int p3), .val (.int p4), .val (.int p5), .val (.int (1 : Int32)), .val (.ref a470), .val (.int p1), .val (.int p1), .val (.int (3 : Int32)), .val (.ref a518)]) X518 hx 255 (hb hby at_253) rfl rfl rfl ?_
                                refine g_aload X518 hx 257 (hb hby at_255) rfl rfl rfl ?_
                                refine g_virt X518 hx hZ (C := "com/example/recolecta/recolecta/Bins") hown (hw _ (List.mem_of_getElem? (i := 29) rfl)) (hw _ (List.mem_of_getElem? (i := 30) rfl)) (hw _ (List.mem_of_getElem? (i := 32) rfl)) (hw _ (List.mem_of_getElem? (i := 32) rfl)) (hw _ (List.mem_of_getElem? (i := 31) rfl)) (hw _ (List.mem_of_getElem? (i := 3) rfl)) (hw _ (List.mem_of_getElem? (i := 33) rfl)) (by decide) (rm7 l Z a0 hw a518 T518.heap n0 Z522 lo F1518) rfl (b := a518) Ea518 (argsL := []) (rest := []) rfl rfl 0 260 rfl (by rw [hml]; rfl) (lenOf own_pd5 rfl) (Nat.le_refl _) (by decide) (by decide) (by decide) (by decide) (hb hby at_257) ?_
                                intro v523 T523 L523 X523 hQ523
                                obtain ⟨rfl, N523, q523⟩ := hQ523
                                have N524 := Fr.app N519 N523
                                show Go p e below _ T523 (mkF m 260 #[.val (.int p0), .val (.int p1), .val (.int p2), .val (.int p3), .val (.int p4), .val (.int p5), .val (.int (1 : Int32)), .val (.ref a470), .val (.int p1), .val (.int p1), .val (.int (3 : Int32)), .val (.ref a518)] [(.double lo)])
                                refine g_iload X523 hx 262 (hb hby at_260) rfl rfl ?_
                                refine g_i2d X523 hx 263 (hb hby at_262) rfl ?_
                                refine g_dc_ne X523 hx 264 293 267 (hb hby at_263) rfl (hb hby at_264) (by decide) (by decide) rfl (Jvm.FP.Core.dcmp_int dn (Jvm.FP.Core.i2d_int p1)) (fun c525 => ?_) (fun c525 => ?_)
                                · skip
                                  exfalso; omega
                                · skip
                                  refine g_aload X523 hx 269 (hb hby at_267) rfl rfl rfl ?_
                                  refine g_virt X523 hx hZ (C := "com/example/recolecta/recolecta/Bins") hown (hw _ (List.mem_of_getElem? (i := 34) rfl)) (hw _ (List.mem_of_getElem? (i := 35) rfl)) (hw _ (List.mem_of_getElem? (i := 37) rfl)) (hw _ (List.mem_of_getElem? (i := 37) rfl)) (hw _ (List.mem_of_getElem? (i := 36) rfl)) (hw _ (List.mem_of_getElem? (i := 3) rfl)) (hw _ (List.mem_of_getElem? (i := 38) rfl)) (by decide) (rm8 l Z a0 hw a518 T518.heap n0 Z522 hi F2518) q523 (b := a518) Ea518 (argsL := []) (rest := []) rfl rfl 0 272 rfl (by rw [hml]; rfl) (lenOf own_pd5 rfl) (Nat.le_refl _) (by decide) (by decide) (by decide) (by decide) (hb hby at_269) ?_
                                  intro v526 T526 L526 X526 hQ526
                                  obtain ⟨rfl, N526, q526⟩ := hQ526
                                  have N527 := Fr.app N524 N526
                                  show Go p e below _ T526 (mkF m 272 #[.val (.int p0), .val (.int p1), .val (.int p2), .val (.int p3), .val (.int p4), .val (.int p5), .val (.int (1 : Int32)), .val (.ref a470), .val (.int p1), .val (.int p1), .val (.int (3 : Int32)), .val (.ref a518)] [(.double hi)])
                                  refine g_iload X526 hx 274 (hb hby at_272) rfl rfl ?_
                                  refine g_i2d X526 hx 275 (hb hby at_274) rfl ?_
                                  refine g_dc_ne X526 hx 276 293 279 (hb hby at_275) rfl (hb hby at_276) (by decide) (by decide) rfl (Jvm.FP.Core.dcmp_int dx (Jvm.FP.Core.i2d_int p1)) (fun c528 => ?_) (fun c528 => ?_)
                                  · skip
                                    exfalso; omega
                                  · skip
                                    refine g_aload X526 hx 281 (hb hby at_279) rfl rfl rfl ?_
                                    refine g_virt X526 hx hZ (C := "com/example/recolecta/recolecta/Bins") hown (hw _ (List.mem_of_getElem? (i := 39) rfl)) (hw _ (List.mem_of_getElem? (i := 40) rfl)) (hw _ (List.mem_of_getElem? (i := 42) rfl)) (hw _ (List.mem_of_getElem? (i := 42) rfl)) (hw _ (List.mem_of_getElem? (i := 41) rfl)) (hw _ (List.mem_of_getElem? (i := 3) rfl)) (hw _ (List.mem_of_getElem? (i := 43) rfl)) (by decide) (rm9 l Z a0 hw a518 T518.heap n0 Z522 r F3518) q526 (b := a518) Ea518 (argsL := []) (rest := []) rfl rfl 0 284 rfl (by rw [hml]; rfl) (lenOf own_pd6 rfl) (Nat.le_refl _) (by decide) (by decide) (by decide) (by decide) (hb hby at_281) ?_
                                    intro v529 T529 L529 X529 hQ529
                                    obtain ⟨rfl, N529, q529⟩ := hQ529
                                    have N530 := Fr.app N527 N529
                                    show Go p e below _ T529 (mkF m 284 #[.val (.int p0), .val (.int p1), .val (.int p2), .val (.int p3), .val (.int p4), .val (.int p5), .val (.int (1 : Int32)), .val (.ref a470), .val (.int p1), .val (.int p1), .val (.int (3 : Int32)), .val (.ref a518)] [(.int r)])
                                    refine g_iload X529 hx 286 (hb hby at_284) rfl rfl ?_
                                    have L := fun q => own_lit (r2 q) (by decide)
                                    have ln : (1 : Int32).toInt = 1 := by decide
                                    have ll532 : ((3 : Int32) : Int32).toInt = 3 := by decide
                                    refine g_ic_ne X529 hx 293 289 (hb hby at_286) (by decide) (by decide) rfl (fun c531 => ?_) (fun c531 => ?_)
                                    · skip
                                      have l1 : (1 : Int32).toInt = 1 := by decide
                                      have l2 : (2 : Int32).toInt = 2 := by decide
                                      have l3 : (3 : Int32).toInt = 3 := by decide
                                      have l4 : (4 : Int32).toInt = 4 := by decide
                                      have q1 := L (by omega)
                                      exfalso; omega
                                    · skip
                                      refine g_iconst X529 hx (1 : Int32) 290 (hb hby at_289) rfl (by decide) ?_
                                      refine g_goto X529 hx 294 (hb hby at_290) (by decide) (by decide) ?_
                                      exact g_retZ X529 hx hlk hret (hb hby at_294) (by decide) (by decide) q529 ⟨rfl, N530⟩
                            · skip
                              exfalso; revert c512; decide
                          · skip
                            refine g_iconst X473 hx (1 : Int32) 216 (hb hby at_215) rfl (by decide) ?_
                            refine g_istore (l' := #[.val (.int p0), .val (.int p1), .val (.int p2), .val (.int p3), .val (.int p4), .val (.int p5), .val (.int (1 : Int32)), .val (.ref a470), .val (.int p1), .val (.int p1), .val (.int (1 : Int32)), .unset]) X473 hx 218 (hb hby at_216) rfl rfl ?_
                            refine g_goto X473 hx 248 (hb hby at_218) (by decide) (by decide) ?_
                            refine g_aload X473 hx 250 (hb hby at_248) rfl rfl rfl ?_
                            refine g_static X473 hx hZ hown (hw _ (List.mem_of_getElem? (i := 1) rfl)) (hw _ (List.mem_of_getElem? (i := 2) rfl)) (hw _ (List.mem_of_getElem? (i := 3) rfl)) (hw _ (List.mem_of_getElem? (i := 4) rfl)) (by decide) (rm1_1 l Z a0 hw a470 h473 n0 Z477 k470 (FP.i2d p1) p1.toInt W1 V473') e473 (argsL := [(.ref a470)]) (rest := []) rfl rfl 0 253 rfl (by rw [hml]; rfl) (lenOf own_pd0 rfl) (Nat.le_refl _) (by decide) (by decide) (by decide) (by decide) (hb hby at_250) ?_
                            intro v533 T533 L533 X533 hQ533
                            obtain ⟨a533, rfl, N533, ga533, K533, Ea533, lo, hi, r, mi, ma, F1533, F2533, F3533, dn, dx, Mi, Ma, r1, r2⟩ := hQ533
                            have E1 := own_minEq Mi (own_min1 p1.toInt) (fun x hx => by simp only [List.mem_cons, List.not_mem_nil, or_false] at hx ⊢; omega) (fun x hx => by simp only [List.mem_cons, List.not_mem_nil, or_false] at hx ⊢; omega)
                            have E2 := own_maxEq Ma (own_max1 p1.toInt) (fun x hx => by simp only [List.mem_cons, List.not_mem_nil, or_false] at hx ⊢; omega) (fun x hx => by simp only [List.mem_cons, List.not_mem_nil, or_false] at hx ⊢; omega)
                            have N534 := Fr.app N476 N533
                            have F535 := F474.keep K533
                            have F536 := V473'.keep K533 nin0
                            have Z537 : n0 ≤ T533.heap.size := Nat.le_trans Z477 K533.1
                            show Go p e below _ T533 (mkF m 253 #[.val (.int p0), .val (.int p1), .val (.int p2), .val (.int p3), .val (.int p4), .val (.int p5), .val (.int (1 : Int32)), .val (.ref a470), .val (.int p1), .val (.int p1), .val (.int (1 : Int32)), .unset] [(.ref a533)])
                            refine g_astore (l' := #[.val (.int p0), .val (.int p1), .val (.int p2), .val (.int p3), .val (.int p4), .val (.int p5), .val (.int (1 : Int32)), .val (.ref a470), .val (.int p1), .val (.int p1), .val (.int (1 : Int32)), .val (.ref a533)]) X533 hx 255 (hb hby at_253) rfl rfl rfl ?_
                            refine g_aload X533 hx 257 (hb hby at_255) rfl rfl rfl ?_
                            refine g_virt X533 hx hZ (C := "com/example/recolecta/recolecta/Bins") hown (hw _ (List.mem_of_getElem? (i := 29) rfl)) (hw _ (List.mem_of_getElem? (i := 30) rfl)) (hw _ (List.mem_of_getElem? (i := 32) rfl)) (hw _ (List.mem_of_getElem? (i := 32) rfl)) (hw _ (List.mem_of_getElem? (i := 31) rfl)) (hw _ (List.mem_of_getElem? (i := 3) rfl)) (hw _ (List.mem_of_getElem? (i := 33) rfl)) (by decide) (rm7 l Z a0 hw a533 T533.heap n0 Z537 lo F1533) rfl (b := a533) Ea533 (argsL := []) (rest := []) rfl rfl 0 260 rfl (by rw [hml]; rfl) (lenOf own_pd5 rfl) (Nat.le_refl _) (by decide) (by decide) (by decide) (by decide) (hb hby at_257) ?_
                            intro v538 T538 L538 X538 hQ538
                            obtain ⟨rfl, N538, q538⟩ := hQ538
                            have N539 := Fr.app N534 N538
                            show Go p e below _ T538 (mkF m 260 #[.val (.int p0), .val (.int p1), .val (.int p2), .val (.int p3), .val (.int p4), .val (.int p5), .val (.int (1 : Int32)), .val (.ref a470), .val (.int p1), .val (.int p1), .val (.int (1 : Int32)), .val (.ref a533)] [(.double lo)])
                            refine g_iload X538 hx 262 (hb hby at_260) rfl rfl ?_
                            refine g_i2d X538 hx 263 (hb hby at_262) rfl ?_
                            refine g_dc_ne X538 hx 264 293 267 (hb hby at_263) rfl (hb hby at_264) (by decide) (by decide) rfl (Jvm.FP.Core.dcmp_int dn (Jvm.FP.Core.i2d_int p1)) (fun c540 => ?_) (fun c540 => ?_)
                            · skip
                              exfalso; omega
                            · skip
                              refine g_aload X538 hx 269 (hb hby at_267) rfl rfl rfl ?_
                              refine g_virt X538 hx hZ (C := "com/example/recolecta/recolecta/Bins") hown (hw _ (List.mem_of_getElem? (i := 34) rfl)) (hw _ (List.mem_of_getElem? (i := 35) rfl)) (hw _ (List.mem_of_getElem? (i := 37) rfl)) (hw _ (List.mem_of_getElem? (i := 37) rfl)) (hw _ (List.mem_of_getElem? (i := 36) rfl)) (hw _ (List.mem_of_getElem? (i := 3) rfl)) (hw _ (List.mem_of_getElem? (i := 38) rfl)) (by decide) (rm8 l Z a0 hw a533 T533.heap n0 Z537 hi F2533) q538 (b := a533) Ea533 (argsL := []) (rest := []) rfl rfl 0 272 rfl (by rw [hml]; rfl) (lenOf own_pd5 rfl) (Nat.le_refl _) (by decide) (by decide) (by decide) (by decide) (hb hby at_269) ?_
                              intro v541 T541 L541 X541 hQ541
                              obtain ⟨rfl, N541, q541⟩ := hQ541
                              have N542 := Fr.app N539 N541
                              show Go p e below _ T541 (mkF m 272 #[.val (.int p0), .val (.int p1), .val (.int p2), .val (.int p3), .val (.int p4), .val (.int p5), .val (.int (1 : Int32)), .val (.ref a470), .val (.int p1), .val (.int p1), .val (.int (1 : Int32)), .val (.ref a533)] [(.double hi)])
                              refine g_iload X541 hx 274 (hb hby at_272) rfl rfl ?_
                              refine g_i2d X541 hx 275 (hb hby at_274) rfl ?_
                              refine g_dc_ne X541 hx 276 293 279 (hb hby at_275) rfl (hb hby at_276) (by decide) (by decide) rfl (Jvm.FP.Core.dcmp_int dx (Jvm.FP.Core.i2d_int p1)) (fun c543 => ?_) (fun c543 => ?_)
                              · skip
                                exfalso; omega
                              · skip
                                refine g_aload X541 hx 281 (hb hby at_279) rfl rfl rfl ?_
                                refine g_virt X541 hx hZ (C := "com/example/recolecta/recolecta/Bins") hown (hw _ (List.mem_of_getElem? (i := 39) rfl)) (hw _ (List.mem_of_getElem? (i := 40) rfl)) (hw _ (List.mem_of_getElem? (i := 42) rfl)) (hw _ (List.mem_of_getElem? (i := 42) rfl)) (hw _ (List.mem_of_getElem? (i := 41) rfl)) (hw _ (List.mem_of_getElem? (i := 3) rfl)) (hw _ (List.mem_of_getElem? (i := 43) rfl)) (by decide) (rm9 l Z a0 hw a533 T533.heap n0 Z537 r F3533) q541 (b := a533) Ea533 (argsL := []) (rest := []) rfl rfl 0 284 rfl (by rw [hml]; rfl) (lenOf own_pd6 rfl) (Nat.le_refl _) (by decide) (by decide) (by decide) (by decide) (hb hby at_281) ?_
                                intro v544 T544 L544 X544 hQ544
                                obtain ⟨rfl, N544, q544⟩ := hQ544
                                have N545 := Fr.app N542 N544
                                show Go p e below _ T544 (mkF m 284 #[.val (.int p0), .val (.int p1), .val (.int p2), .val (.int p3), .val (.int p4), .val (.int p5), .val (.int (1 : Int32)), .val (.ref a470), .val (.int p1), .val (.int p1), .val (.int (1 : Int32)), .val (.ref a533)] [(.int r)])
                                refine g_iload X544 hx 286 (hb hby at_284) rfl rfl ?_
                                have L := fun q => own_lit (r2 q) (by decide)
                                have ln : (1 : Int32).toInt = 1 := by decide
                                have ll547 : ((1 : Int32) : Int32).toInt = 1 := by decide
                                refine g_ic_ne X544 hx 293 289 (hb hby at_286) (by decide) (by decide) rfl (fun c546 => ?_) (fun c546 => ?_)
                                · skip
                                  have l1 : (1 : Int32).toInt = 1 := by decide
                                  have l2 : (2 : Int32).toInt = 2 := by decide
                                  have l3 : (3 : Int32).toInt = 3 := by decide
                                  have l4 : (4 : Int32).toInt = 4 := by decide
                                  have q1 := r1 (by omega)
                                  exfalso; omega
                                · skip
                                  refine g_iconst X544 hx (1 : Int32) 290 (hb hby at_289) rfl (by decide) ?_
                                  refine g_goto X544 hx 294 (hb hby at_290) (by decide) (by decide) ?_
                                  exact g_retZ X544 hx hlk hret (hb hby at_294) (by decide) (by decide) q544 ⟨rfl, N545⟩
                        · skip
                          exfalso; revert c508; decide
                      · skip
                        exfalso; revert c505; decide
                    · skip
                      exfalso; revert c502; decide
                  · skip
                    exfalso; revert c499; decide
                · skip
                  exfalso; revert c496; decide
              · skip
                exfalso; revert c493; decide
            · skip
              exfalso; revert c490; decide
          · skip
            exfalso; revert c487; decide
        · skip
          exfalso; revert c484; decide
      · skip
        exfalso; revert c481; decide
    · skip
      exfalso; revert c478; decide
  · skip
    refine g_iload X0 hx 10 (hb hby at_8) rfl rfl ?_
    refine g_newP X0 hx hZ (aty := .double) (hw _ (List.mem_of_getElem? (i := 0) rfl)) e0 (by decide) (cap := 2) (by decide) (by decide) 12 (hb hby at_10) rfl (by decide) (by decide) (ad := "[D") (by decide) ?_
    intro T548 h548 k548 a548 g548 X548 e548 E548 V548 A548
    have ge549 : n0 ≤ a548 := by rw [g548]; exact Z0
    have Z550 : n0 ≤ h548.size := Nat.le_trans Z0 E548.1
    have V548' : Arv Z h548 a548 k548 .double (2 : Int32) [(.double (0 : UInt64)), (.double (0 : UInt64))] (.double (0 : UInt64)) := V548.pad (pad_rep [] (.double (0 : UInt64)) 2)
    refine g_astore (l' := #[.val (.int p0), .val (.int p1), .val (.int p2), .val (.int p3), .val (.int p4), .val (.int p5), .val (.int (2 : Int32)), .val (.ref a548), .unset, .unset, .unset, .unset]) X548 hx 14 (hb hby at_12) rfl rfl rfl ?_
    refine g_aload X548 hx 16 (hb hby at_14) rfl rfl rfl ?_
    refine g_iconst X548 hx (0 : Int32) 17 (hb hby at_16) rfl (by decide) ?_
    refine g_iloadN X548 hx 18 (hb hby at_17) rfl rfl ?_
    refine g_i2d X548 hx 19 (hb hby at_18) rfl ?_
    refine g_dastore X548 hx hZ e548 V548' 0 (by decide) (by decide) (by show 0 < 2; decide) 20 (hb hby at_19) rfl ?_
    intro T551 h551 X551 e551 W551 V551
    have F552 := A548.wr W551
    have N554 := Fr.snoc X551 N0 ge549
    have Z555 : n0 ≤ h551.size := by rw [W551.size]; exact Z550
    have V551' : Arv Z h551 a548 k548 .double (2 : Int32) [(.double (FP.i2d p1)), (.double (0 : UInt64))] (.double (0 : UInt64)) := V551
    refine g_iload X551 hx 22 (hb hby at_20) rfl rfl ?_
    refine g_iconst X551 hx (1 : Int32) 23 (hb hby at_22) rfl (by decide) ?_
    have ll557 : ((1 : Int32) : Int32).toInt = 1 := by decide
    have ll558 : ((2 : Int32) : Int32).toInt = 2 := by decide
    refine g_ic_le X551 hx 32 26 (hb hby at_23) (by decide) (by decide) rfl (fun c556 => ?_) (fun c556 => ?_)
    · skip
      exfalso; revert c556; decide
    · skip
      refine g_aload X551 hx 28 (hb hby at_26) rfl rfl rfl ?_
      refine g_iconst X551 hx (1 : Int32) 29 (hb hby at_28) rfl (by decide) ?_
      refine g_iloadN X551 hx 30 (hb hby at_29) rfl rfl ?_
      refine g_i2d X551 hx 31 (hb hby at_30) rfl ?_
      refine g_dastore X551 hx hZ e551 V551' 1 (by decide) (by decide) (by show 1 < 2; decide) 32 (hb hby at_31) rfl ?_
      intro T559 h559 X559 e559 W559 V559
      have F560 := F552.wr W559
      have N562 := Fr.snoc X559 N554 ge549
      have Z563 : n0 ≤ h559.size := by rw [W559.size]; exact Z555
      have V559' : Arv Z h559 a548 k548 .double (2 : Int32) [(.double (FP.i2d p1)), (.double (FP.i2d p2))] (.double (0 : UInt64)) := V559
      refine g_iload X559 hx 34 (hb hby at_32) rfl rfl ?_
      refine g_iconst X559 hx (2 : Int32) 35 (hb hby at_34) rfl (by decide) ?_
      have ll565 : ((2 : Int32) : Int32).toInt = 2 := by decide
      have ll566 : ((2 : Int32) : Int32).toInt = 2 := by decide
      refine g_ic_le X559 hx 44 38 (hb hby at_35) (by decide) (by decide) rfl (fun c564 => ?_) (fun c564 => ?_)
      · skip
        refine g_iload X559 hx 46 (hb hby at_44) rfl rfl ?_
        refine g_iconst X559 hx (3 : Int32) 47 (hb hby at_46) rfl (by decide) ?_
        have ll568 : ((3 : Int32) : Int32).toInt = 3 := by decide
        have ll569 : ((2 : Int32) : Int32).toInt = 2 := by decide
        refine g_ic_le X559 hx 57 50 (hb hby at_47) (by decide) (by decide) rfl (fun c567 => ?_) (fun c567 => ?_)
        · skip
          refine g_iload X559 hx 59 (hb hby at_57) rfl rfl ?_
          refine g_iconst X559 hx (4 : Int32) 60 (hb hby at_59) rfl (by decide) ?_
          have ll571 : ((4 : Int32) : Int32).toInt = 4 := by decide
          have ll572 : ((2 : Int32) : Int32).toInt = 2 := by decide
          refine g_ic_le X559 hx 70 63 (hb hby at_60) (by decide) (by decide) rfl (fun c570 => ?_) (fun c570 => ?_)
          · skip
            refine g_iload X559 hx 72 (hb hby at_70) rfl rfl ?_
            refine g_iconst X559 hx (5 : Int32) 73 (hb hby at_72) rfl (by decide) ?_
            have ll574 : ((5 : Int32) : Int32).toInt = 5 := by decide
            have ll575 : ((2 : Int32) : Int32).toInt = 2 := by decide
            refine g_ic_le X559 hx 82 76 (hb hby at_73) (by decide) (by decide) rfl (fun c573 => ?_) (fun c573 => ?_)
            · skip
              refine g_iload X559 hx 84 (hb hby at_82) rfl rfl ?_
              refine g_bipush X559 hx (6 : Int32) 86 (hb hby at_84) rfl (by decide) ?_
              have ll577 : ((6 : Int32) : Int32).toInt = 6 := by decide
              have ll578 : ((2 : Int32) : Int32).toInt = 2 := by decide
              refine g_ic_le X559 hx 96 89 (hb hby at_86) (by decide) (by decide) rfl (fun c576 => ?_) (fun c576 => ?_)
              · skip
                refine g_iload X559 hx 98 (hb hby at_96) rfl rfl ?_
                refine g_bipush X559 hx (7 : Int32) 100 (hb hby at_98) rfl (by decide) ?_
                have ll580 : ((7 : Int32) : Int32).toInt = 7 := by decide
                have ll581 : ((2 : Int32) : Int32).toInt = 2 := by decide
                refine g_ic_le X559 hx 110 103 (hb hby at_100) (by decide) (by decide) rfl (fun c579 => ?_) (fun c579 => ?_)
                · skip
                  refine g_iloadN X559 hx 111 (hb hby at_110) rfl rfl ?_
                  refine g_istore (l' := #[.val (.int p0), .val (.int p1), .val (.int p2), .val (.int p3), .val (.int p4), .val (.int p5), .val (.int (2 : Int32)), .val (.ref a548), .val (.int p1), .unset, .unset, .unset]) X559 hx 113 (hb hby at_111) rfl rfl ?_
                  refine g_iloadN X559 hx 114 (hb hby at_113) rfl rfl ?_
                  refine g_istore (l' := #[.val (.int p0), .val (.int p1), .val (.int p2), .val (.int p3), .val (.int p4), .val (.int p5), .val (.int (2 : Int32)), .val (.ref a548), .val (.int p1), .val (.int p1), .unset, .unset]) X559 hx 116 (hb hby at_114) rfl rfl ?_
                  refine g_iload X559 hx 118 (hb hby at_116) rfl rfl ?_
                  refine g_iconst X559 hx (1 : Int32) 119 (hb hby at_118) rfl (by decide) ?_
                  have ll583 : ((1 : Int32) : Int32).toInt = 1 := by decide
                  have ll584 : ((2 : Int32) : Int32).toInt = 2 := by decide
                  refine g_ic_le X559 hx 138 122 (hb hby at_119) (by decide) (by decide) rfl (fun c582 => ?_) (fun c582 => ?_)
                  · skip
                    exfalso; revert c582; decide
                  · skip
                    refine g_iload X559 hx 124 (hb hby at_122) rfl rfl ?_
                    refine g_iloadN X559 hx 125 (hb hby at_124) rfl rfl ?_
                    refine g_static X559 hx hZ hown (hw _ (List.mem_of_getElem? (i := 44) rfl)) (hw _ (List.mem_of_getElem? (i := 45) rfl)) (hw _ (List.mem_of_getElem? (i := 7) rfl)) (hw _ (List.mem_of_getElem? (i := 46) rfl)) (by decide) (rm10 l Z a0 hw p1 p2 h559 n0 Z563) e559 (argsL := [(.int p1), (.int p2)]) (rest := []) rfl rfl 0 128 rfl (by rw [hml]; rfl) (lenOf own_pd7 rfl) (Nat.le_refl _) (by decide) (by decide) (by decide) (by decide) (hb hby at_125) ?_
                    intro v586 T586 L586 X586 hQ586
                    obtain ⟨r585, rfl, ⟨a1, a2, a3⟩, N586, q586⟩ := hQ586
                    have N587 := Fr.app N562 N586
                    have Ir585 := own_minS (own_min1 p1.toInt) a1 a2 a3
                    clear a1 a2 a3
                    show Go p e below _ T586 (mkF m 128 #[.val (.int p0), .val (.int p1), .val (.int p2), .val (.int p3), .val (.int p4), .val (.int p5), .val (.int (2 : Int32)), .val (.ref a548), .val (.int p1), .val (.int p1), .unset, .unset] [(.int r585)])
                    refine g_istore (l' := #[.val (.int p0), .val (.int p1), .val (.int p2), .val (.int p3), .val (.int p4), .val (.int p5), .val (.int (2 : Int32)), .val (.ref a548), .val (.int r585), .val (.int p1), .unset, .unset]) X586 hx 130 (hb hby at_128) rfl rfl ?_
                    refine g_iload X586 hx 132 (hb hby at_130) rfl rfl ?_
                    refine g_iloadN X586 hx 133 (hb hby at_132) rfl rfl ?_
                    refine g_static X586 hx hZ hown (hw _ (List.mem_of_getElem? (i := 47) rfl)) (hw _ (List.mem_of_getElem? (i := 48) rfl)) (hw _ (List.mem_of_getElem? (i := 7) rfl)) (hw _ (List.mem_of_getElem? (i := 49) rfl)) (by decide) (rm11 l Z a0 hw p1 p2 h559 n0 Z563) q586 (argsL := [(.int p1), (.int p2)]) (rest := []) rfl rfl 0 136 rfl (by rw [hml]; rfl) (lenOf own_pd7 rfl) (Nat.le_refl _) (by decide) (by decide) (by decide) (by decide) (hb hby at_133) ?_
                    intro v589 T589 L589 X589 hQ589
                    obtain ⟨r588, rfl, ⟨a1, a2, a3⟩, N589, q589⟩ := hQ589
                    have N590 := Fr.app N587 N589
                    have Ir588 := own_maxS (own_max1 p1.toInt) a1 a2 a3
                    clear a1 a2 a3
                    show Go p e below _ T589 (mkF m 136 #[.val (.int p0), .val (.int p1), .val (.int p2), .val (.int p3), .val (.int p4), .val (.int p5), .val (.int (2 : Int32)), .val (.ref a548), .val (.int r585), .val (.int p1), .unset, .unset] [(.int r588)])
                    refine g_istore (l' := #[.val (.int p0), .val (.int p1), .val (.int p2), .val (.int p3), .val (.int p4), .val (.int p5), .val (.int (2 : Int32)), .val (.ref a548), .val (.int r585), .val (.int r588), .unset, .unset]) X589 hx 138 (hb hby at_136) rfl rfl ?_
                    refine g_iload X589 hx 140 (hb hby at_138) rfl rfl ?_
                    refine g_iconst X589 hx (2 : Int32) 141 (hb hby at_140) rfl (by decide) ?_
                    have ll592 : ((2 : Int32) : Int32).toInt = 2 := by decide
                    have ll593 : ((2 : Int32) : Int32).toInt = 2 := by decide
                    refine g_ic_le X589 hx 160 144 (hb hby at_141) (by decide) (by decide) rfl (fun c591 => ?_) (fun c591 => ?_)
                    · skip
                      refine g_iload X589 hx 162 (hb hby at_160) rfl rfl ?_
                      refine g_iconst X589 hx (3 : Int32) 163 (hb hby at_162) rfl (by decide) ?_
                      have ll595 : ((3 : Int32) : Int32).toInt = 3 := by decide
                      have ll596 : ((2 : Int32) : Int32).toInt = 2 := by decide
                      refine g_ic_le X589 hx 184 166 (hb hby at_163) (by decide) (by decide) rfl (fun c594 => ?_) (fun c594 => ?_)
                      · skip
                        refine g_iload X589 hx 186 (hb hby at_184) rfl rfl ?_
                        refine g_iconst X589 hx (4 : Int32) 187 (hb hby at_186) rfl (by decide) ?_
                        have ll598 : ((4 : Int32) : Int32).toInt = 4 := by decide
                        have ll599 : ((2 : Int32) : Int32).toInt = 2 := by decide
                        refine g_ic_le X589 hx 208 190 (hb hby at_187) (by decide) (by decide) rfl (fun c597 => ?_) (fun c597 => ?_)
                        · skip
                          refine g_iload X589 hx 210 (hb hby at_208) rfl rfl ?_
                          refine g_iload X589 hx 212 (hb hby at_210) rfl rfl ?_
                          refine g_ic_ne X589 hx 221 215 (hb hby at_212) (by decide) (by decide) rfl (fun c600 => ?_) (fun c600 => ?_)
                          · skip
                            refine g_iload X589 hx 223 (hb hby at_221) rfl rfl ?_
                            refine g_iconst X589 hx (2 : Int32) 224 (hb hby at_223) rfl (by decide) ?_
                            have ll602 : ((2 : Int32) : Int32).toInt = 2 := by decide
                            have ll603 : ((2 : Int32) : Int32).toInt = 2 := by decide
                            refine g_ic_ne X589 hx 233 227 (hb hby at_224) (by decide) (by decide) rfl (fun c601 => ?_) (fun c601 => ?_)
                            · skip
                              exfalso; revert c601; decide
                            · skip
                              refine g_iconst X589 hx (2 : Int32) 228 (hb hby at_227) rfl (by decide) ?_
                              refine g_istore (l' := #[.val (.int p0), .val (.int p1), .val (.int p2), .val (.int p3), .val (.int p4), .val (.int p5), .val (.int (2 : Int32)), .val (.ref a548), .val (.int r585), .val (.int r588), .val (.int (2 : Int32)), .unset]) X589 hx 230 (hb hby at_228) rfl rfl ?_
                              refine g_goto X589 hx 248 (hb hby at_230) (by decide) (by decide) ?_
                              refine g_aload X589 hx 250 (hb hby at_248) rfl rfl rfl ?_
                              refine g_static X589 hx hZ hown (hw _ (List.mem_of_getElem? (i := 1) rfl)) (hw _ (List.mem_of_getElem? (i := 2) rfl)) (hw _ (List.mem_of_getElem? (i := 3) rfl)) (hw _ (List.mem_of_getElem? (i := 4) rfl)) (by decide) (rm1_2 l Z a0 hw a548 h559 n0 Z563 k548 (FP.i2d p1) p1.toInt W1 (FP.i2d p2) p2.toInt W2 V559') q589 (argsL := [(.ref a548)]) (rest := []) rfl rfl 0 253 rfl (by rw [hml]; rfl) (lenOf own_pd0 rfl) (Nat.le_refl _) (by decide) (by decide) (by decide) (by decide) (hb hby at_250) ?_
                              intro v604 T604 L604 X604 hQ604
                              obtain ⟨a604, rfl, N604, ga604, K604, Ea604, lo, hi, r, mi, ma, F1604, F2604, F3604, dn, dx, Mi, Ma, r1, r2⟩ := hQ604
                              have E1 := own_minEq Mi Ir585 (fun x hx => by simp only [List.mem_cons, List.not_mem_nil, or_false] at hx ⊢; omega) (fun x hx => by simp only [List.mem_cons, List.not_mem_nil, or_false] at hx ⊢; omega)
                              have E2 := own_maxEq Ma Ir588 (fun x hx => by simp only [List.mem_cons, List.not_mem_nil, or_false] at hx ⊢; omega) (fun x hx => by simp only [List.mem_cons, List.not_mem_nil, or_false] at hx ⊢; omega)
                              have N605 := Fr.app N590 N604
                              have F606 := F560.keep K604
                              have F607 := V559'.keep K604 nin0
                              have Z608 : n0 ≤ T604.heap.size := Nat.le_trans Z563 K604.1
                              show Go p e below _ T604 (mkF m 253 #[.val (.int p0), .val (.int p1), .val (.int p2), .val (.int p3), .val (.int p4), .val (.int p5), .val (.int (2 : Int32)), .val (.ref a548), .val (.int r585), .val (.int r588), .val (.int (2 : Int32)), .unset] [(.ref a604)])
                              refine g_astore (l' := #[.val (.int p0), .val (.int p1), .val (.int p2), .val (.int p3), .val (.int p4), .val (.int p5), .val (.int (2 : Int32)), .val (.ref a548), .val (.int r585), .val (.int r588), .val (.int (2 : Int32)), .val (.ref a604)]) X604 hx 255 (hb hby at_253) rfl rfl rfl ?_
                              refine g_aload X604 hx 257 (hb hby at_255) rfl rfl rfl ?_
                              refine g_virt X604 hx hZ (C := "com/example/recolecta/recolecta/Bins") hown (hw _ (List.mem_of_getElem? (i := 29) rfl)) (hw _ (List.mem_of_getElem? (i := 30) rfl)) (hw _ (List.mem_of_getElem? (i := 32) rfl)) (hw _ (List.mem_of_getElem? (i := 32) rfl)) (hw _ (List.mem_of_getElem? (i := 31) rfl)) (hw _ (List.mem_of_getElem? (i := 3) rfl)) (hw _ (List.mem_of_getElem? (i := 33) rfl)) (by decide) (rm7 l Z a0 hw a604 T604.heap n0 Z608 lo F1604) rfl (b := a604) Ea604 (argsL := []) (rest := []) rfl rfl 0 260 rfl (by rw [hml]; rfl) (lenOf own_pd5 rfl) (Nat.le_refl _) (by decide) (by decide) (by decide) (by decide) (hb hby at_257) ?_
                              intro v609 T609 L609 X609 hQ609
                              obtain ⟨rfl, N609, q609⟩ := hQ609
                              have N610 := Fr.app N605 N609
                              show Go p e below _ T609 (mkF m 260 #[.val (.int p0), .val (.int p1), .val (.int p2), .val (.int p3), .val (.int p4), .val (.int p5), .val (.int (2 : Int32)), .val (.ref a548), .val (.int r585), .val (.int r588), .val (.int (2 : Int32)), .val (.ref a604)] [(.double lo)])
                              refine g_iload X609 hx 262 (hb hby at_260) rfl rfl ?_
                              refine g_i2d X609 hx 263 (hb hby at_262) rfl ?_
                              refine g_dc_ne X609 hx 264 293 267 (hb hby at_263) rfl (hb hby at_264) (by decide) (by decide) rfl (Jvm.FP.Core.dcmp_int dn (Jvm.FP.Core.i2d_int r585)) (fun c611 => ?_) (fun c611 => ?_)
                              · skip
                                exfalso; omega
                              · skip
                                refine g_aload X609 hx 269 (hb hby at_267) rfl rfl rfl ?_
                                refine g_virt X609 hx hZ (C := "com/example/recolecta/recolecta/Bins") hown (hw _ (List.mem_of_getElem? (i := 34) rfl)) (hw _ (List.mem_of_getElem? (i := 35) rfl)) (hw _ (List.mem_of_getElem? (i := 37) rfl)) (hw _ (List.mem_of_getElem? (i := 37) rfl)) (hw _ (List.mem_of_getElem? (i := 36) rfl)) (hw _ (List.mem_of_getElem? (i := 3) rfl)) (hw _ (List.mem_of_getElem? (i := 38) rfl)) (by decide) (rm8 l Z a0 hw a604 T604.heap n0 Z608 hi F2604) q609 (b := a604) Ea604 (argsL := []) (rest := []) rfl rfl 0 272 rfl (by rw [hml]; rfl) (lenOf own_pd5 rfl) (Nat.le_refl _) (by decide) (by decide) (by decide) (by decide) (hb hby at_269) ?_
                                intro v612 T612 L612 X612 hQ612
                                obtain ⟨rfl, N612, q612⟩ := hQ612
                                have N613 := Fr.app N610 N612
                                show Go p e below _ T612 (mkF m 272 #[.val (.int p0), .val (.int p1), .val (.int p2), .val (.int p3), .val (.int p4), .val (.int p5), .val (.int (2 : Int32)), .val (.ref a548), .val (.int r585), .val (.int r588), .val (.int (2 : Int32)), .val (.ref a604)] [(.double hi)])
                                refine g_iload X612 hx 274 (hb hby at_272) rfl rfl ?_
                                refine g_i2d X612 hx 275 (hb hby at_274) rfl ?_
                                refine g_dc_ne X612 hx 276 293 279 (hb hby at_275) rfl (hb hby at_276) (by decide) (by decide) rfl (Jvm.FP.Core.dcmp_int dx (Jvm.FP.Core.i2d_int r588)) (fun c614 => ?_) (fun c614 => ?_)
                                · skip
                                  exfalso; omega
                                · skip
                                  refine g_aload X612 hx 281 (hb hby at_279) rfl rfl rfl ?_
                                  refine g_virt X612 hx hZ (C := "com/example/recolecta/recolecta/Bins") hown (hw _ (List.mem_of_getElem? (i := 39) rfl)) (hw _ (List.mem_of_getElem? (i := 40) rfl)) (hw _ (List.mem_of_getElem? (i := 42) rfl)) (hw _ (List.mem_of_getElem? (i := 42) rfl)) (hw _ (List.mem_of_getElem? (i := 41) rfl)) (hw _ (List.mem_of_getElem? (i := 3) rfl)) (hw _ (List.mem_of_getElem? (i := 43) rfl)) (by decide) (rm9 l Z a0 hw a604 T604.heap n0 Z608 r F3604) q612 (b := a604) Ea604 (argsL := []) (rest := []) rfl rfl 0 284 rfl (by rw [hml]; rfl) (lenOf own_pd6 rfl) (Nat.le_refl _) (by decide) (by decide) (by decide) (by decide) (hb hby at_281) ?_
                                  intro v615 T615 L615 X615 hQ615
                                  obtain ⟨rfl, N615, q615⟩ := hQ615
                                  have N616 := Fr.app N613 N615
                                  show Go p e below _ T615 (mkF m 284 #[.val (.int p0), .val (.int p1), .val (.int p2), .val (.int p3), .val (.int p4), .val (.int p5), .val (.int (2 : Int32)), .val (.ref a548), .val (.int r585), .val (.int r588), .val (.int (2 : Int32)), .val (.ref a604)] [(.int r)])
                                  refine g_iload X615 hx 286 (hb hby at_284) rfl rfl ?_
                                  have L := fun q => own_lit (r2 q) (by decide)
                                  have ln : (2 : Int32).toInt = 2 := by decide
                                  have ll618 : ((2 : Int32) : Int32).toInt = 2 := by decide
                                  refine g_ic_ne X615 hx 293 289 (hb hby at_286) (by decide) (by decide) rfl (fun c617 => ?_) (fun c617 => ?_)
                                  · skip
                                    have l1 : (1 : Int32).toInt = 1 := by decide
                                    have l2 : (2 : Int32).toInt = 2 := by decide
                                    have l3 : (3 : Int32).toInt = 3 := by decide
                                    have l4 : (4 : Int32).toInt = 4 := by decide
                                    have q1 := L (by omega)
                                    exfalso; omega
                                  · skip
                                    refine g_iconst X615 hx (1 : Int32) 290 (hb hby at_289) rfl (by decide) ?_
                                    refine g_goto X615 hx 294 (hb hby at_290) (by decide) (by decide) ?_
                                    exact g_retZ X615 hx hlk hret (hb hby at_294) (by decide) (by decide) q615 ⟨rfl, N616⟩
                          · skip
                            refine g_iconst X589 hx (1 : Int32) 216 (hb hby at_215) rfl (by decide) ?_
                            refine g_istore (l' := #[.val (.int p0), .val (.int p1), .val (.int p2), .val (.int p3), .val (.int p4), .val (.int p5), .val (.int (2 : Int32)), .val (.ref a548), .val (.int r585), .val (.int r588), .val (.int (1 : Int32)), .unset]) X589 hx 218 (hb hby at_216) rfl rfl ?_
                            refine g_goto X589 hx 248 (hb hby at_218) (by decide) (by decide) ?_
                            refine g_aload X589 hx 250 (hb hby at_248) rfl rfl rfl ?_
                            refine g_static X589 hx hZ hown (hw _ (List.mem_of_getElem? (i := 1) rfl)) (hw _ (List.mem_of_getElem? (i := 2) rfl)) (hw _ (List.mem_of_getElem? (i := 3) rfl)) (hw _ (List.mem_of_getElem? (i := 4) rfl)) (by decide) (rm1_2 l Z a0 hw a548 h559 n0 Z563 k548 (FP.i2d p1) p1.toInt W1 (FP.i2d p2) p2.toInt W2 V559') q589 (argsL := [(.ref a548)]) (rest := []) rfl rfl 0 253 rfl (by rw [hml]; rfl) (lenOf own_pd0 rfl) (Nat.le_refl _) (by decide) (by decide) (by decide) (by decide) (hb hby at_250) ?_
                            intro v619 T619 L619 X619 hQ619
                            obtain ⟨a619, rfl, N619, ga619, K619, Ea619, lo, hi, r, mi, ma, F1619, F2619, F3619, dn, dx, Mi, Ma, r1, r2⟩ := hQ619
                            have E1 := own_minEq Mi Ir585 (fun x hx => by simp only [List.mem_cons, List.not_mem_nil, or_false] at hx ⊢; omega) (fun x hx => by simp only [List.mem_cons, List.not_mem_nil, or_false] at hx ⊢; omega)
                            have E2 := own_maxEq Ma Ir588 (fun x hx => by simp only [List.mem_cons, List.not_mem_nil, or_false] at hx ⊢; omega) (fun x hx => by simp only [List.mem_cons, List.not_mem_nil, or_false] at hx ⊢; omega)
                            have N620 := Fr.app N590 N619
                            have F621 := F560.keep K619
                            have F622 := V559'.keep K619 nin0
                            have Z623 : n0 ≤ T619.heap.size := Nat.le_trans Z563 K619.1
                            show Go p e below _ T619 (mkF m 253 #[.val (.int p0), .val (.int p1), .val (.int p2), .val (.int p3), .val (.int p4), .val (.int p5), .val (.int (2 : Int32)), .val (.ref a548), .val (.int r585), .val (.int r588), .val (.int (1 : Int32)), .unset] [(.ref a619)])
                            refine g_astore (l' := #[.val (.int p0), .val (.int p1), .val (.int p2), .val (.int p3), .val (.int p4), .val (.int p5), .val (.int (2 : Int32)), .val (.ref a548), .val (.int r585), .val (.int r588), .val (.int (1 : Int32)), .val (.ref a619)]) X619 hx 255 (hb hby at_253) rfl rfl rfl ?_
                            refine g_aload X619 hx 257 (hb hby at_255) rfl rfl rfl ?_
                            refine g_virt X619 hx hZ (C := "com/example/recolecta/recolecta/Bins") hown (hw _ (List.mem_of_getElem? (i := 29) rfl)) (hw _ (List.mem_of_getElem? (i := 30) rfl)) (hw _ (List.mem_of_getElem? (i := 32) rfl)) (hw _ (List.mem_of_getElem? (i := 32) rfl)) (hw _ (List.mem_of_getElem? (i := 31) rfl)) (hw _ (List.mem_of_getElem? (i := 3) rfl)) (hw _ (List.mem_of_getElem? (i := 33) rfl)) (by decide) (rm7 l Z a0 hw a619 T619.heap n0 Z623 lo F1619) rfl (b := a619) Ea619 (argsL := []) (rest := []) rfl rfl 0 260 rfl (by rw [hml]; rfl) (lenOf own_pd5 rfl) (Nat.le_refl _) (by decide) (by decide) (by decide) (by decide) (hb hby at_257) ?_
                            intro v624 T624 L624 X624 hQ624
                            obtain ⟨rfl, N624, q624⟩ := hQ624
                            have N625 := Fr.app N620 N624
                            show Go p e below _ T624 (mkF m 260 #[.val (.int p0), .val (.int p1), .val (.int p2), .val (.int p3), .val (.int p4), .val (.int p5), .val (.int (2 : Int32)), .val (.ref a548), .val (.int r585), .val (.int r588), .val (.int (1 : Int32)), .val (.ref a619)] [(.double lo)])
                            refine g_iload X624 hx 262 (hb hby at_260) rfl rfl ?_
                            refine g_i2d X624 hx 263 (hb hby at_262) rfl ?_
                            refine g_dc_ne X624 hx 264 293 267 (hb hby at_263) rfl (hb hby at_264) (by decide) (by decide) rfl (Jvm.FP.Core.dcmp_int dn (Jvm.FP.Core.i2d_int r585)) (fun c626 => ?_) (fun c626 => ?_)
                            · skip
                              exfalso; omega
                            · skip
                              refine g_aload X624 hx 269 (hb hby at_267) rfl rfl rfl ?_
                              refine g_virt X624 hx hZ (C := "com/example/recolecta/recolecta/Bins") hown (hw _ (List.mem_of_getElem? (i := 34) rfl)) (hw _ (List.mem_of_getElem? (i := 35) rfl)) (hw _ (List.mem_of_getElem? (i := 37) rfl)) (hw _ (List.mem_of_getElem? (i := 37) rfl)) (hw _ (List.mem_of_getElem? (i := 36) rfl)) (hw _ (List.mem_of_getElem? (i := 3) rfl)) (hw _ (List.mem_of_getElem? (i := 38) rfl)) (by decide) (rm8 l Z a0 hw a619 T619.heap n0 Z623 hi F2619) q624 (b := a619) Ea619 (argsL := []) (rest := []) rfl rfl 0 272 rfl (by rw [hml]; rfl) (lenOf own_pd5 rfl) (Nat.le_refl _) (by decide) (by decide) (by decide) (by decide) (hb hby at_269) ?_
                              intro v627 T627 L627 X627 hQ627
                              obtain ⟨rfl, N627, q627⟩ := hQ627
                              have N628 := Fr.app N625 N627
                              show Go p e below _ T627 (mkF m 272 #[.val (.int p0), .val (.int p1), .val (.int p2), .val (.int p3), .val (.int p4), .val (.int p5), .val (.int (2 : Int32)), .val (.ref a548), .val (.int r585), .val (.int r588), .val (.int (1 : Int32)), .val (.ref a619)] [(.double hi)])
                              refine g_iload X627 hx 274 (hb hby at_272) rfl rfl ?_
                              refine g_i2d X627 hx 275 (hb hby at_274) rfl ?_
                              refine g_dc_ne X627 hx 276 293 279 (hb hby at_275) rfl (hb hby at_276) (by decide) (by decide) rfl (Jvm.FP.Core.dcmp_int dx (Jvm.FP.Core.i2d_int r588)) (fun c629 => ?_) (fun c629 => ?_)
                              · skip
                                exfalso; omega
                              · skip
                                refine g_aload X627 hx 281 (hb hby at_279) rfl rfl rfl ?_
                                refine g_virt X627 hx hZ (C := "com/example/recolecta/recolecta/Bins") hown (hw _ (List.mem_of_getElem? (i := 39) rfl)) (hw _ (List.mem_of_getElem? (i := 40) rfl)) (hw _ (List.mem_of_getElem? (i := 42) rfl)) (hw _ (List.mem_of_getElem? (i := 42) rfl)) (hw _ (List.mem_of_getElem? (i := 41) rfl)) (hw _ (List.mem_of_getElem? (i := 3) rfl)) (hw _ (List.mem_of_getElem? (i := 43) rfl)) (by decide) (rm9 l Z a0 hw a619 T619.heap n0 Z623 r F3619) q627 (b := a619) Ea619 (argsL := []) (rest := []) rfl rfl 0 284 rfl (by rw [hml]; rfl) (lenOf own_pd6 rfl) (Nat.le_refl _) (by decide) (by decide) (by decide) (by decide) (hb hby at_281) ?_
                                intro v630 T630 L630 X630 hQ630
                                obtain ⟨rfl, N630, q630⟩ := hQ630
                                have N631 := Fr.app N628 N630
                                show Go p e below _ T630 (mkF m 284 #[.val (.int p0), .val (.int p1), .val (.int p2), .val (.int p3), .val (.int p4), .val (.int p5), .val (.int (2 : Int32)), .val (.ref a548), .val (.int r585), .val (.int r588), .val (.int (1 : Int32)), .val (.ref a619)] [(.int r)])
                                refine g_iload X630 hx 286 (hb hby at_284) rfl rfl ?_
                                have L := fun q => own_lit (r2 q) (by decide)
                                have ln : (2 : Int32).toInt = 2 := by decide
                                have ll633 : ((1 : Int32) : Int32).toInt = 1 := by decide
                                refine g_ic_ne X630 hx 293 289 (hb hby at_286) (by decide) (by decide) rfl (fun c632 => ?_) (fun c632 => ?_)
                                · skip
                                  have l1 : (1 : Int32).toInt = 1 := by decide
                                  have l2 : (2 : Int32).toInt = 2 := by decide
                                  have l3 : (3 : Int32).toInt = 3 := by decide
                                  have l4 : (4 : Int32).toInt = 4 := by decide
                                  have q1 := r1 (by omega)
                                  exfalso; omega
                                · skip
                                  refine g_iconst X630 hx (1 : Int32) 290 (hb hby at_289) rfl (by decide) ?_
                                  refine g_goto X630 hx 294 (hb hby at_290) (by decide) (by decide) ?_
                                  exact g_retZ X630 hx hlk hret (hb hby at_294) (by decide) (by decide) q630 ⟨rfl, N631⟩
                        · skip
                          exfalso; revert c597; decide
                      · skip
                        exfalso; revert c594; decide
                    · skip
                      exfalso; revert c591; decide
                · skip
                  exfalso; revert c579; decide
              · skip
                exfalso; revert c576; decide
            · skip
              exfalso; revert c573; decide
          · skip
            exfalso; revert c570; decide
        · skip
          exfalso; revert c567; decide
      · skip
        exfalso; revert c564; decide
  · skip
    refine g_iload X0 hx 10 (hb hby at_8) rfl rfl ?_
    refine g_newP X0 hx hZ (aty := .double) (hw _ (List.mem_of_getElem? (i := 0) rfl)) e0 (by decide) (cap := 3) (by decide) (by decide) 12 (hb hby at_10) rfl (by decide) (by decide) (ad := "[D") (by decide) ?_
    intro T634 h634 k634 a634 g634 X634 e634 E634 V634 A634
    have ge635 : n0 ≤ a634 := by rw [g634]; exact Z0
    have Z636 : n0 ≤ h634.size := Nat.le_trans Z0 E634.1
    have V634' : Arv Z h634 a634 k634 .double (3 : Int32) [(.double (0 : UInt64)), (.double (0 : UInt64)), (.double (0 : UInt64))] (.double (0 : UInt64)) := V634.pad (pad_rep [] (.double (0 : UInt64)) 3)
    refine g_astore (l' := #[.val (.int p0), .val (.int p1), .val (.int p2), .val (.int p3), .val (.int p4), .val (.int p5), .val (.int (3 : Int32)), .val (.ref a634), .unset, .unset, .unset, .unset]) X634 hx 14 (hb hby at_12) rfl rfl rfl ?_
    refine g_aload X634 hx 16 (hb hby at_14) rfl rfl rfl ?_
    refine g_iconst X634 hx (0 : Int32) 17 (hb hby at_16) rfl (by decide) ?_
    refine g_iloadN X634 hx 18 (hb hby at_17) rfl rfl ?_
    refine g_i2d X634 hx 19 (hb hby at_18) rfl ?_
    refine g_dastore X634 hx hZ e634 V634' 0 (by decide) (by decide) (by show 0 < 3; decide) 20 (hb hby at_19) rfl ?_
    intro T637 h637 X637 e637 W637 V637
    have F638 := A634.wr W637
    have N640 := Fr.snoc X637 N0 ge635
    have Z641 : n0 ≤ h637.size := by rw [W637.size]; exact Z636
    have V637' : Arv Z h637 a634 k634 .double (3 : Int32) [(.double (FP.i2d p1)), (.double (0 : UInt64)), (.double (0 : UInt64))] (.double (0 : UInt64)) := V637
    refine g_iload X637 hx 22 (hb hby at_20) rfl rfl ?_
    refine g_iconst X637 hx (1 : Int32) 23 (hb hby at_22) rfl (by decide) ?_
    have ll643 : ((1 : Int32) : Int32).toInt = 1 := by decide
    have ll644 : ((3 : Int32) : Int32).toInt = 3 := by decide
    refine g_ic_le X637 hx 32 26 (hb hby at_23) (by decide) (by decide) rfl (fun c642 => ?_) (fun c642 => ?_)
    · skip
      exfalso; revert c642; decide
    · skip
      refine g_aload X637 hx 28 (hb hby at_26) rfl rfl rfl ?_
      refine g_iconst X637 hx (1 : Int32) 29 (hb hby at_28) rfl (by decide) ?_
      refine g_iloadN X637 hx 30 (hb hby at_29) rfl rfl ?_
      refine g_i2d X637 hx 31 (hb hby at_30) rfl ?_
      refine g_dastore X637 hx hZ e637 V637' 1 (by decide) (by decide) (by show 1 < 3; decide) 32 (hb hby at_31) rfl ?_
      intro T645 h645 X645 e645 W645 V645
      have F646 := F638.wr W645
      have N648 := Fr.snoc X645 N640 ge635
      have Z649 : n0 ≤ h645.size := by rw [W645.size]; exact Z641
      have V645' : Arv Z h645 a634 k634 .double (3 : Int32) [(.double (FP.i2d p1)), (.double (FP.i2d p2)), (.double (0 : UInt64))] (.double (0 : UInt64)) := V645
      refine g_iload X645 hx 34 (hb hby at_32) rfl rfl ?_
      refine g_iconst X645 hx (2 : Int32) 35 (hb hby at_34) rfl (by decide) ?_
      have ll651 : ((2 : Int32) : Int32).toInt = 2 := by decide
      have ll652 : ((3 : Int32) : Int32).toInt = 3 := by decide
      refine g_ic_le X645 hx 44 38 (hb hby at_35) (by decide) (by decide) rfl (fun c650 => ?_) (fun c650 => ?_)
      · skip
        exfalso; revert c650; decide
      · skip
        refine g_aload X645 hx 40 (hb hby at_38) rfl rfl rfl ?_
        refine g_iconst X645 hx (2 : Int32) 41 (hb hby at_40) rfl (by decide) ?_
        refine g_iloadN X645 hx 42 (hb hby at_41) rfl rfl ?_
        refine g_i2d X645 hx 43 (hb hby at_42) rfl ?_
        refine g_dastore X645 hx hZ e645 V645' 2 (by decide) (by decide) (by show 2 < 3; decide) 44 (hb hby at_43) rfl ?_
        intro T653 h653 X653 e653 W653 V653
        have F654 := F646.wr W653
        have N656 := Fr.snoc X653 N648 ge635
        have Z657 : n0 ≤ h653.size := by rw [W653.size]; exact Z649
        have V653' : Arv Z h653 a634 k634 .double (3 : Int32) [(.double (FP.i2d p1)), (.double (FP.i2d p2)), (.double (FP.i2d p3))] (.double (0 : UInt64)) := V653
        refine g_iload X653 hx 46 (hb hby at_44) rfl rfl ?_
        refine g_iconst X653 hx (3 : Int32) 47 (hb hby at_46) rfl (by decide) ?_
        have ll659 : ((3 : Int32) : Int32).toInt = 3 := by decide
        have ll660 : ((3 : Int32) : Int32).toInt = 3 := by decide
        refine g_ic_le X653 hx 57 50 (hb hby at_47) (by decide) (by decide) rfl (fun c658 => ?_) (fun c658 => ?_)
        · skip
          refine g_iload X653 hx 59 (hb hby at_57) rfl rfl ?_
          refine g_iconst X653 hx (4 : Int32) 60 (hb hby at_59) rfl (by decide) ?_
          have ll662 : ((4 : Int32) : Int32).toInt = 4 := by decide
          have ll663 : ((3 : Int32) : Int32).toInt = 3 := by decide
          refine g_ic_le X653 hx 70 63 (hb hby at_60) (by decide) (by decide) rfl (fun c661 => ?_) (fun c661 => ?_)
          · skip
            refine g_iload X653 hx 72 (hb hby at_70) rfl rfl ?_
            refine g_iconst X653 hx (5 : Int32) 73 (hb hby at_72) rfl (by decide) ?_
            have ll665 : ((5 : Int32) : Int32).toInt = 5 := by decide
            have ll666 : ((3 : Int32) : Int32).toInt = 3 := by decide
            refine g_ic_le X653 hx 82 76 (hb hby at_73) (by decide) (by decide) rfl (fun c664 => ?_) (fun c664 => ?_)
            · skip
              refine g_iload X653 hx 84 (hb hby at_82) rfl rfl ?_
              refine g_bipush X653 hx (6 : Int32) 86 (hb hby at_84) rfl (by decide) ?_
              have ll668 : ((6 : Int32) : Int32).toInt = 6 := by decide
              have ll669 : ((3 : Int32) : Int32).toInt = 3 := by decide
              refine g_ic_le X653 hx 96 89 (hb hby at_86) (by decide) (by decide) rfl (fun c667 => ?_) (fun c667 => ?_)
              · skip
                refine g_iload X653 hx 98 (hb hby at_96) rfl rfl ?_
                refine g_bipush X653 hx (7 : Int32) 100 (hb hby at_98) rfl (by decide) ?_
                have ll671 : ((7 : Int32) : Int32).toInt = 7 := by decide
                have ll672 : ((3 : Int32) : Int32).toInt = 3 := by decide
                refine g_ic_le X653 hx 110 103 (hb hby at_100) (by decide) (by decide) rfl (fun c670 => ?_) (fun c670 => ?_)
                · skip
                  refine g_iloadN X653 hx 111 (hb hby at_110) rfl rfl ?_
                  refine g_istore (l' := #[.val (.int p0), .val (.int p1), .val (.int p2), .val (.int p3), .val (.int p4), .val (.int p5), .val (.int (3 : Int32)), .val (.ref a634), .val (.int p1), .unset, .unset, .unset]) X653 hx 113 (hb hby at_111) rfl rfl ?_
                  refine g_iloadN X653 hx 114 (hb hby at_113) rfl rfl ?_
                  refine g_istore (l' := #[.val (.int p0), .val (.int p1), .val (.int p2), .val (.int p3), .val (.int p4), .val (.int p5), .val (.int (3 : Int32)), .val (.ref a634), .val (.int p1), .val (.int p1), .unset, .unset]) X653 hx 116 (hb hby at_114) rfl rfl ?_
                  refine g_iload X653 hx 118 (hb hby at_116) rfl rfl ?_
                  refine g_iconst X653 hx (1 : Int32) 119 (hb hby at_118) rfl (by decide) ?_
                  have ll674 : ((1 : Int32) : Int32).toInt = 1 := by decide
                  have ll675 : ((3 : Int32) : Int32).toInt = 3 := by decide
                  refine g_ic_le X653 hx 138 122 (hb hby at_119) (by decide) (by decide) rfl (fun c673 => ?_) (fun c673 => ?_)
                  · skip
                    exfalso; revert c673; decide
                  · skip
                    refine g_iload X653 hx 124 (hb hby at_122) rfl rfl ?_
                    refine g_iloadN X653 hx 125 (hb hby at_124) rfl rfl ?_
                    refine g_static X653 hx hZ hown (hw _ (List.mem_of_getElem? (i := 44) rfl)) (hw _ (List.mem_of_getElem? (i := 45) rfl)) (hw _ (List.mem_of_getElem? (i := 7) rfl)) (hw _ (List.mem_of_getElem? (i := 46) rfl)) (by decide) (rm10 l Z a0 hw p1 p2 h653 n0 Z657) e653 (argsL := [(.int p1), (.int p2)]) (rest := []) rfl rfl 0 128 rfl (by rw [hml]; rfl) (lenOf own_pd7 rfl) (Nat.le_refl _) (by decide) (by decide) (by decide) (by decide) (hb hby at_125) ?_
                    intro v677 T677 L677 X677 hQ677
                    obtain ⟨r676, rfl, ⟨a1, a2, a3⟩, N677, q677⟩ := hQ677
                    have N678 := Fr.app N656 N677
                    have Ir676 := own_minS (own_min1 p1.toInt) a1 a2 a3
                    clear a1 a2 a3
                    show Go p e below _ T677 (mkF m 128 #[.val (.int p0), .val (.int p1), .val (.int p2), .val (.int p3), .val (.int p4), .val (.int p5), .val (.int (3 : Int32)), .val (.ref a634), .val (.int p1), .val (.int p1), .unset, .unset] [(.int r676)])
                    refine g_istore (l' := #[.val (.int p0), .val (.int p1), .val (.int p2), .val (.int p3), .val (.int p4), .val (.int p5), .val (.int (3 : Int32)), .val (.ref a634), .val (.int r676), .val (.int p1), .unset, .unset]) X677 hx 130 (hb hby at_128) rfl rfl ?_
                    refine g_iload X677 hx 132 (hb hby at_130) rfl rfl ?_
                    refine g_iloadN X677 hx 133 (hb hby at_132) rfl rfl ?_
                    refine g_static X677 hx hZ hown (hw _ (List.mem_of_getElem? (i := 47) rfl)) (hw _ (List.mem_of_getElem? (i := 48) rfl)) (hw _ (List.mem_of_getElem? (i := 7) rfl)) (hw _ (List.mem_of_getElem? (i := 49) rfl)) (by decide) (rm11 l Z a0 hw p1 p2 h653 n0 Z657) q677 (argsL := [(.int p1), (.int p2)]) (rest := []) rfl rfl 0 136 rfl (by rw [hml]; rfl) (lenOf own_pd7 rfl) (Nat.le_refl _) (by decide) (by decide) (by decide) (by decide) (hb hby at_133) ?_
                    intro v680 T680 L680 X680 hQ680
                    obtain ⟨r679, rfl, ⟨a1, a2, a3⟩, N680, q680⟩ := hQ680
                    have N681 := Fr.app N678 N680
                    have Ir679 := own_maxS (own_max1 p1.toInt) a1 a2 a3
                    clear a1 a2 a3
                    show Go p e below _ T680 (mkF m 136 #[.val (.int p0), .val (.int p1), .val (.int p2), .val (.int p3), .val (.int p4), .val (.int p5), .val (.int (3 : Int32)), .val (.ref a634), .val (.int r676), .val (.int p1), .unset, .unset] [(.int r679)])
                    refine g_istore (l' := #[.val (.int p0), .val (.int p1), .val (.int p2), .val (.int p3), .val (.int p4), .val (.int p5), .val (.int (3 : Int32)), .val (.ref a634), .val (.int r676), .val (.int r679), .unset, .unset]) X680 hx 138 (hb hby at_136) rfl rfl ?_
                    refine g_iload X680 hx 140 (hb hby at_138) rfl rfl ?_
                    refine g_iconst X680 hx (2 : Int32) 141 (hb hby at_140) rfl (by decide) ?_
                    have ll683 : ((2 : Int32) : Int32).toInt = 2 := by decide
                    have ll684 : ((3 : Int32) : Int32).toInt = 3 := by decide
                    refine g_ic_le X680 hx 160 144 (hb hby at_141) (by decide) (by decide) rfl (fun c682 => ?_) (fun c682 => ?_)
                    · skip
                      exfalso; revert c682; decide
                    · skip
                      refine g_iload X680 hx 146 (hb hby at_144) rfl rfl ?_
                      refine g_iloadN X680 hx 147 (hb hby at_146) rfl rfl ?_
                      refine g_static X680 hx hZ hown (hw _ (List.mem_of_getElem? (i := 44) rfl)) (hw _ (List.mem_of_getElem? (i := 45) rfl)) (hw _ (List.mem_of_getElem? (i := 7) rfl)) (hw _ (List.mem_of_getElem? (i := 46) rfl)) (by decide) (rm10 l Z a0 hw r676 p3 h653 n0 Z657) q680 (argsL := [(.int r676), (.int p3)]) (rest := []) rfl rfl 0 150 rfl (by rw [hml]; rfl) (lenOf own_pd7 rfl) (Nat.le_refl _) (by decide) (by decide) (by decide) (by decide) (hb hby at_147) ?_
                      intro v686 T686 L686 X686 hQ686
                      obtain ⟨r685, rfl, ⟨a1, a2, a3⟩, N686, q686⟩ := hQ686
                      have N687 := Fr.app N681 N686
                      have Ir685 := own_minS Ir676 a1 a2 a3
                      clear a1 a2 a3
                      show Go p e below _ T686 (mkF m 150 #[.val (.int p0), .val (.int p1), .val (.int p2), .val (.int p3), .val (.int p4), .val (.int p5), .val (.int (3 : Int32)), .val (.ref a634), .val (.int r676), .val (.int r679), .unset, .unset] [(.int r685)])
                      refine g_istore (l' := #[.val (.int p0), .val (.int p1), .val (.int p2), .val (.int p3), .val (.int p4), .val (.int p5), .val (.int (3 : Int32)), .val (.ref a634), .val (.int r685), .val (.int r679), .unset, .unset]) X686 hx 152 (hb hby at_150) rfl rfl ?_
                      refine g_iload X686 hx 154 (hb hby at_152) rfl rfl ?_
                      refine g_iloadN X686 hx 155 (hb hby at_154) rfl rfl ?_
                      refine g_static X686 hx hZ hown (hw _ (List.mem_of_getElem? (i := 47) rfl)) (hw _ (List.mem_of_getElem? (i := 48) rfl)) (hw _ (List.mem_of_getElem? (i := 7) rfl)) (hw _ (List.mem_of_getElem? (i := 49) rfl)) (by decide) (rm11 l Z a0 hw r679 p3 h653 n0 Z657) q686 (argsL := [(.int r679), (.int p3)]) (rest := []) rfl rfl 0 158 rfl (by rw [hml]; rfl) (lenOf own_pd7 rfl) (Nat.le_refl _) (by decide) (by decide) (by decide) (by decide) (hb hby at_155) ?_
                      intro v689 T689 L689 X689 hQ689
                      obtain ⟨r688, rfl, ⟨a1, a2, a3⟩, N689, q689⟩ := hQ689
                      have N690 := Fr.app N687 N689
                      have Ir688 := own_maxS Ir679 a1 a2 a3
                      clear a1 a2 a3
                      show Go p e below _ T689 (mkF m 158 #[.val (.int p0), .val (.int p1), .val (.int p2), .val (.int p3), .val (.int p4), .val (.int p5), .val (.int (3 : Int32)), .val (.ref a634), .val (.int r685), .val (.int r679), .unset, .unset] [(.int r688)])
                      refine g_istore (l' := #[.val (.int p0), .val (.int p1), .val (.int p2), .val (.int p3), .val (.int p4), .val (.int p5), .val (.int (3 : Int32)), .val (.ref a634), .val (.int r685), .val (.int r688), .unset, .unset]) X689 hx 160 (hb hby at_158) rfl rfl ?_
                      refine g_iload X689 hx 162 (hb hby at_160) rfl rfl ?_
                      refine g_iconst X689 hx (3 : Int32) 163 (hb hby at_162) rfl (by decide) ?_
                      have ll692 : ((3 : Int32) : Int32).toInt = 3 := by decide
                      have ll693 : ((3 : Int32) : Int32).toInt = 3 := by decide
                      refine g_ic_le X689 hx 184 166 (hb hby at_163) (by decide) (by decide) rfl (fun c691 => ?_) (fun c691 => ?_)
                      · skip
                        refine g_iload X689 hx 186 (hb hby at_184) rfl rfl ?_
                        refine g_iconst X689 hx (4 : Int32) 187 (hb hby at_186) rfl (by decide) ?_
                        have ll695 : ((4 : Int32) : Int32).toInt = 4 := by decide
                        have ll696 : ((3 : Int32) : Int32).toInt = 3 := by decide
                        refine g_ic_le X689 hx 208 190 (hb hby at_187) (by decide) (by decide) rfl (fun c694 => ?_) (fun c694 => ?_)
                        · skip
                          refine g_iload X689 hx 210 (hb hby at_208) rfl rfl ?_
                          refine g_iload X689 hx 212 (hb hby at_210) rfl rfl ?_
                          refine g_ic_ne X689 hx 221 215 (hb hby at_212) (by decide) (by decide) rfl (fun c697 => ?_) (fun c697 => ?_)
                          · skip
                            refine g_iload X689 hx 223 (hb hby at_221) rfl rfl ?_
                            refine g_iconst X689 hx (2 : Int32) 224 (hb hby at_223) rfl (by decide) ?_
                            have ll699 : ((2 : Int32) : Int32).toInt = 2 := by decide
                            have ll700 : ((3 : Int32) : Int32).toInt = 3 := by decide
                            refine g_ic_ne X689 hx 233 227 (hb hby at_224) (by decide) (by decide) rfl (fun c698 => ?_) (fun c698 => ?_)
                            · skip
                              refine g_iload X689 hx 235 (hb hby at_233) rfl rfl ?_
                              refine g_iconst X689 hx (4 : Int32) 236 (hb hby at_235) rfl (by decide) ?_
                              have ll702 : ((4 : Int32) : Int32).toInt = 4 := by decide
                              have ll703 : ((3 : Int32) : Int32).toInt = 3 := by decide
                              refine g_ic_gt X689 hx 245 239 (hb hby at_236) (by decide) (by decide) rfl (fun c701 => ?_) (fun c701 => ?_)
                              · skip
                                exfalso; revert c701; decide
                              · skip
                                refine g_iconst X689 hx (3 : Int32) 240 (hb hby at_239) rfl (by decide) ?_
                                refine g_istore (l' := #[.val (.int p0), .val (.int p1), .val (.int p2), .val (.int p3), .val (.int p4), .val (.int p5), .val (.int (3 : Int32)), .val (.ref a634), .val (.int r685), .val (.int r688), .val (.int (3 : Int32)), .unset]) X689 hx 242 (hb hby at_240) rfl rfl ?_
                                refine g_goto X689 hx 248 (hb hby at_242) (by decide) (by decide) ?_
                                refine g_aload X689 hx 250 (hb hby at_248) rfl rfl rfl ?_
                                refine g_static X689 hx hZ hown (hw _ (List.mem_of_getElem? (i := 1) rfl)) (hw _ (List.mem_of_getElem? (i := 2) rfl)) (hw _ (List.mem_of_getElem? (i := 3) rfl)) (hw _ (List.mem_of_getElem? (i := 4) rfl)) (by decide) (rm1_3 l Z a0 hw a634 h653 n0 Z657 k634 (FP.i2d p1) p1.toInt W1 (FP.i2d p2) p2.toInt W2 (FP.i2d p3) p3.toInt W3 V653') q689 (argsL := [(.ref a634)]) (rest := []) rfl rfl 0 253 rfl (by rw [hml]; rfl) (lenOf own_pd0 rfl) (Nat.le_refl _) (by decide) (by decide) (by decide) (by decide) (hb hby at_250) ?_
                                intro v704 T704 L704 X704 hQ704
                                obtain ⟨a704, rfl, N704, ga704, K704, Ea704, lo, hi, r, mi, ma, F1704, F2704, F3704, dn, dx, Mi, Ma, r1, r2⟩ := hQ704
                                have E1 := own_minEq Mi Ir685 (fun x hx => by simp only [List.mem_cons, List.not_mem_nil, or_false] at hx ⊢; omega) (fun x hx => by simp only [List.mem_cons, List.not_mem_nil, or_false] at hx ⊢; omega)
                                have E2 := own_maxEq Ma Ir688 (fun x hx => by simp only [List.mem_cons, List.not_mem_nil, or_false] at hx ⊢; omega) (fun x hx => by simp only [List.mem_cons, List.not_mem_nil, or_false] at hx ⊢; omega)
                                have N705 := Fr.app N690 N704
                                have F706 := F654.keep K704
                                have F707 := V653'.keep K704 nin0
                                have Z708 : n0 ≤ T704.heap.size := Nat.le_trans Z657 K704.1
                                show Go p e below _ T704 (mkF m 253 #[.val (.int p0), .val (.int p1), .val (.int p2), .val (.int p3), .val (.int p4), .val (.int p5), .val (.int (3 : Int32)), .val (.ref a634), .val (.int r685), .val (.int r688), .val (.int (3 : Int32)), .unset] [(.ref a704)])
                                refine g_astore (l' := #[.val (.int p0), .val (.int p1), .val (.int p2), .val (.int p3), .val (.int p4), .val (.int p5), .val (.int (3 : Int32)), .val (.ref a634), .val (.int r685), .val (.int r688), .val (.int (3 : Int32)), .val (.ref a704)]) X704 hx 255 (hb hby at_253) rfl rfl rfl ?_
                                refine g_aload X704 hx 257 (hb hby at_255) rfl rfl rfl ?_
                                refine g_virt X704 hx hZ (C := "com/example/recolecta/recolecta/Bins") hown (hw _ (List.mem_of_getElem? (i := 29) rfl)) (hw _ (List.mem_of_getElem? (i := 30) rfl)) (hw _ (List.mem_of_getElem? (i := 32) rfl)) (hw _ (List.mem_of_getElem? (i := 32) rfl)) (hw _ (List.mem_of_getElem? (i := 31) rfl)) (hw _ (List.mem_of_getElem? (i := 3) rfl)) (hw _ (List.mem_of_getElem? (i := 33) rfl)) (by decide) (rm7 l Z a0 hw a704 T704.heap n0 Z708 lo F1704) rfl (b := a704) Ea704 (argsL := []) (rest := []) rfl rfl 0 260 rfl (by rw [hml]; rfl) (lenOf own_pd5 rfl) (Nat.le_refl _) (by decide) (by decide) (by decide) (by decide) (hb hby at_257) ?_
                                intro v709 T709 L709 X709 hQ709
                                obtain ⟨rfl, N709, q709⟩ := hQ709
                                have N710 := Fr.app N705 N709
                                show Go p e below _ T709 (mkF m 260 #[.val (.int p0), .val (.int p1), .val (.int p2), .val (.int p3), .val (.int p4), .val (.int p5), .val (.int (3 : Int32)), .val (.ref a634), .val (.int r685), .val (.int r688), .val (.int (3 : Int32)), .val (.ref a704)] [(.double lo)])
                                refine g_iload X709 hx 262 (hb hby at_260) rfl rfl ?_
                                refine g_i2d X709 hx 263 (hb hby at_262) rfl ?_
                                refine g_dc_ne X709 hx 264 293 267 (hb hby at_263) rfl (hb hby at_264) (by decide) (by decide) rfl (Jvm.FP.Core.dcmp_int dn (Jvm.FP.Core.i2d_int r685)) (fun c711 => ?_) (fun c711 => ?_)
                                · skip
                                  exfalso; omega
                                · skip
                                  refine g_aload X709 hx 269 (hb hby at_267) rfl rfl rfl ?_
                                  refine g_virt X709 hx hZ (C := "com/example/recolecta/recolecta/Bins") hown (hw _ (List.mem_of_getElem? (i := 34) rfl)) (hw _ (List.mem_of_getElem? (i := 35) rfl)) (hw _ (List.mem_of_getElem? (i := 37) rfl)) (hw _ (List.mem_of_getElem? (i := 37) rfl)) (hw _ (List.mem_of_getElem? (i := 36) rfl)) (hw _ (List.mem_of_getElem? (i := 3) rfl)) (hw _ (List.mem_of_getElem? (i := 38) rfl)) (by decide) (rm8 l Z a0 hw a704 T704.heap n0 Z708 hi F2704) q709 (b := a704) Ea704 (argsL := []) (rest := []) rfl rfl 0 272 rfl (by rw [hml]; rfl) (lenOf own_pd5 rfl) (Nat.le_refl _) (by decide) (by decide) (by decide) (by decide) (hb hby at_269) ?_
                                  intro v712 T712 L712 X712 hQ712
                                  obtain ⟨rfl, N712, q712⟩ := hQ712
                                  have N713 := Fr.app N710 N712
                                  show Go p e below _ T712 (mkF m 272 #[.val (.int p0), .val (.int p1), .val (.int p2), .val (.int p3), .val (.int p4), .val (.int p5), .val (.int (3 : Int32)), .val (.ref a634), .val (.int r685), .val (.int r688), .val (.int (3 : Int32)), .val (.ref a704)] [(.double hi)])
                                  refine g_iload X712 hx 274 (hb hby at_272) rfl rfl ?_
                                  refine g_i2d X712 hx 275 (hb hby at_274) rfl ?_
                                  refine g_dc_ne X712 hx 276 293 279 (hb hby at_275) rfl (hb hby at_276) (by decide) (by decide) rfl (Jvm.FP.Core.dcmp_int dx (Jvm.FP.Core.i2d_int r688)) (fun c714 => ?_) (fun c714 => ?_)
                                  · skip
                                    exfalso; omega
                                  · skip
                                    refine g_aload X712 hx 281 (hb hby at_279) rfl rfl rfl ?_
                                    refine g_virt X712 hx hZ (C := "com/example/recolecta/recolecta/Bins") hown (hw _ (List.mem_of_getElem? (i := 39) rfl)) (hw _ (List.mem_of_getElem? (i := 40) rfl)) (hw _ (List.mem_of_getElem? (i := 42) rfl)) (hw _ (List.mem_of_getElem? (i := 42) rfl)) (hw _ (List.mem_of_getElem? (i := 41) rfl)) (hw _ (List.mem_of_getElem? (i := 3) rfl)) (hw _ (List.mem_of_getElem? (i := 43) rfl)) (by decide) (rm9 l Z a0 hw a704 T704.heap n0 Z708 r F3704) q712 (b := a704) Ea704 (argsL := []) (rest := []) rfl rfl 0 284 rfl (by rw [hml]; rfl) (lenOf own_pd6 rfl) (Nat.le_refl _) (by decide) (by decide) (by decide) (by decide) (hb hby at_281) ?_
                                    intro v715 T715 L715 X715 hQ715
                                    obtain ⟨rfl, N715, q715⟩ := hQ715
                                    have N716 := Fr.app N713 N715
                                    show Go p e below _ T715 (mkF m 284 #[.val (.int p0), .val (.int p1), .val (.int p2), .val (.int p3), .val (.int p4), .val (.int p5), .val (.int (3 : Int32)), .val (.ref a634), .val (.int r685), .val (.int r688), .val (.int (3 : Int32)), .val (.ref a704)] [(.int r)])
                                    refine g_iload X715 hx 286 (hb hby at_284) rfl rfl ?_
                                    have L := fun q => own_lit (r2 q) (by decide)
                                    have ln : (3 : Int32).toInt = 3 := by decide
                                    have ll718 : ((3 : Int32) : Int32).toInt = 3 := by decide
                                    refine g_ic_ne X715 hx 293 289 (hb hby at_286) (by decide) (by decide) rfl (fun c717 => ?_) (fun c717 => ?_)
                                    · skip
                                      have l1 : (1 : Int32).toInt = 1 := by decide
                                      have l2 : (2 : Int32).toInt = 2 := by decide
                                      have l3 : (3 : Int32).toInt = 3 := by decide
                                      have l4 : (4 : Int32).toInt = 4 := by decide
                                      have q1 := L (by omega)
                                      exfalso; omega
                                    · skip
                                      refine g_iconst X715 hx (1 : Int32) 290 (hb hby at_289) rfl (by decide) ?_
                                      refine g_goto X715 hx 294 (hb hby at_290) (by decide) (by decide) ?_
                                      exact g_retZ X715 hx hlk hret (hb hby at_294) (by decide) (by decide) q715 ⟨rfl, N716⟩
                            · skip
                              exfalso; revert c698; decide
                          · skip
                            refine g_iconst X689 hx (1 : Int32) 216 (hb hby at_215) rfl (by decide) ?_
                            refine g_istore (l' := #[.val (.int p0), .val (.int p1), .val (.int p2), .val (.int p3), .val (.int p4), .val (.int p5), .val (.int (3 : Int32)), .val (.ref a634), .val (.int r685), .val (.int r688), .val (.int (1 : Int32)), .unset]) X689 hx 218 (hb hby at_216) rfl rfl ?_
                            refine g_goto X689 hx 248 (hb hby at_218) (by decide) (by decide) ?_
                            refine g_aload X689 hx 250 (hb hby at_248) rfl rfl rfl ?_
                            refine g_static X689 hx hZ hown (hw _ (List.mem_of_getElem? (i := 1) rfl)) (hw _ (List.mem_of_getElem? (i := 2) rfl)) (hw _ (List.mem_of_getElem? (i := 3) rfl)) (hw _ (List.mem_of_getElem? (i := 4) rfl)) (by decide) (rm1_3 l Z a0 hw a634 h653 n0 Z657 k634 (FP.i2d p1) p1.toInt W1 (FP.i2d p2) p2.toInt W2 (FP.i2d p3) p3.toInt W3 V653') q689 (argsL := [(.ref a634)]) (rest := []) rfl rfl 0 253 rfl (by rw [hml]; rfl) (lenOf own_pd0 rfl) (Nat.le_refl _) (by decide) (by decide) (by decide) (by decide) (hb hby at_250) ?_
                            intro v719 T719 L719 X719 hQ719
                            obtain ⟨a719, rfl, N719, ga719, K719, Ea719, lo, hi, r, mi, ma, F1719, F2719, F3719, dn, dx, Mi, Ma, r1, r2⟩ := hQ719
                            have E1 := own_minEq Mi Ir685 (fun x hx => by simp only [List.mem_cons, List.not_mem_nil, or_false] at hx ⊢; omega) (fun x hx => by simp only [List.mem_cons, List.not_mem_nil, or_false] at hx ⊢; omega)
                            have E2 := own_maxEq Ma Ir688 (fun x hx => by simp only [List.mem_cons, List.not_mem_nil, or_false] at hx ⊢; omega) (fun x hx => by simp only [List.mem_cons, List.not_mem_nil, or_false] at hx ⊢; omega)
                            have N720 := Fr.app N690 N719
                            have F721 := F654.keep K719
                            have F722 := V653'.keep K719 nin0
                            have Z723 : n0 ≤ T719.heap.size := Nat.le_trans Z657 K719.1
                            show Go p e below _ T719 (mkF m 253 #[.val (.int p0), .val (.int p1), .val (.int p2), .val (.int p3), .val (.int p4), .val (.int p5), .val (.int (3 : Int32)), .val (.ref a634), .val (.int r685), .val (.int r688), .val (.int (1 : Int32)), .unset] [(.ref a719)])
                            refine g_astore (l' := #[.val (.int p0), .val (.int p1), .val (.int p2), .val (.int p3), .val (.int p4), .val (.int p5), .val (.int (3 : Int32)), .val (.ref a634), .val (.int r685), .val (.int r688), .val (.int (1 : Int32)), .val (.ref a719)]) X719 hx 255 (hb hby at_253) rfl rfl rfl ?_
                            refine g_aload X719 hx 257 (hb hby at_255) rfl rfl rfl ?_
                            refine g_virt X719 hx hZ (C := "com/example/recolecta/recolecta/Bins") hown (hw _ (List.mem_of_getElem? (i := 29) rfl)) (hw _ (List.mem_of_getElem? (i := 30) rfl)) (hw _ (List.mem_of_getElem? (i := 32) rfl)) (hw _ (List.mem_of_getElem? (i := 32) rfl)) (hw _ (List.mem_of_getElem? (i := 31) rfl)) (hw _ (List.mem_of_getElem? (i := 3) rfl)) (hw _ (List.mem_of_getElem? (i := 33) rfl)) (by decide) (rm7 l Z a0 hw a719 T719.heap n0 Z723 lo F1719) rfl (b := a719) Ea719 (argsL := []) (rest := []) rfl rfl 0 260 rfl (by rw [hml]; rfl) (lenOf own_pd5 rfl) (Nat.le_refl _) (by decide) (by decide) (by decide) (by decide) (hb hby at_257) ?_
                            intro v724 T724 L724 X724 hQ724
                            obtain ⟨rfl, N724, q724⟩ := hQ724
                            have N725 := Fr.app N720 N724
                            show Go p e below _ T724 (mkF m 260 #[.val (.int p0), .val (.int p1), .val (.int p2), .val (.int p3), .val (.int p4), .val (.int p5), .val (.int (3 : Int32)), .val (.ref a634), .val (.int r685), .val (.int r688), .val (.int (1 : Int32)), .val (.ref a719)] [(.double lo)])
                            refine g_iload X724 hx 262 (hb hby at_260) rfl rfl ?_
                            refine g_i2d X724 hx 263 (hb hby at_262) rfl ?_
                            refine g_dc_ne X724 hx 264 293 267 (hb hby at_263) rfl (hb hby at_264) (by decide) (by decide) rfl (Jvm.FP.Core.dcmp_int dn (Jvm.FP.Core.i2d_int r685)) (fun c726 => ?_) (fun c726 => ?_)
                            · skip
                              exfalso; omega
                            · skip
                              refine g_aload X724 hx 269 (hb hby at_267) rfl rfl rfl ?_
                              refine g_virt X724 hx hZ (C := "com/example/recolecta/recolecta/Bins") hown (hw _ (List.mem_of_getElem? (i := 34) rfl)) (hw _ (List.mem_of_getElem? (i := 35) rfl)) (hw _ (List.mem_of_getElem? (i := 37) rfl)) (hw _ (List.mem_of_getElem? (i := 37) rfl)) (hw _ (List.mem_of_getElem? (i := 36) rfl)) (hw _ (List.mem_of_getElem? (i := 3) rfl)) (hw _ (List.mem_of_getElem? (i := 38) rfl)) (by decide) (rm8 l Z a0 hw a719 T719.heap n0 Z723 hi F2719) q724 (b := a719) Ea719 (argsL := []) (rest := []) rfl rfl 0 272 rfl (by rw [hml]; rfl) (lenOf own_pd5 rfl) (Nat.le_refl _) (by decide) (by decide) (by decide) (by decide) (hb hby at_269) ?_
                              intro v727 T727 L727 X727 hQ727
                              obtain ⟨rfl, N727, q727⟩ := hQ727
                              have N728 := Fr.app N725 N727
                              show Go p e below _ T727 (mkF m 272 #[.val (.int p0), .val (.int p1), .val (.int p2), .val (.int p3), .val (.int p4), .val (.int p5), .val (.int (3 : Int32)), .val (.ref a634), .val (.int r685), .val (.int r688), .val (.int (1 : Int32)), .val (.ref a719)] [(.double hi)])
                              refine g_iload X727 hx 274 (hb hby at_272) rfl rfl ?_
                              refine g_i2d X727 hx 275 (hb hby at_274) rfl ?_
                              refine g_dc_ne X727 hx 276 293 279 (hb hby at_275) rfl (hb hby at_276) (by decide) (by decide) rfl (Jvm.FP.Core.dcmp_int dx (Jvm.FP.Core.i2d_int r688)) (fun c729 => ?_) (fun c729 => ?_)
                              · skip
                                exfalso; omega
                              · skip
                                refine g_aload X727 hx 281 (hb hby at_279) rfl rfl rfl ?_
                                refine g_virt X727 hx hZ (C := "com/example/recolecta/recolecta/Bins") hown (hw _ (List.mem_of_getElem? (i := 39) rfl)) (hw _ (List.mem_of_getElem? (i := 40) rfl)) (hw _ (List.mem_of_getElem? (i := 42) rfl)) (hw _ (List.mem_of_getElem? (i := 42) rfl)) (hw _ (List.mem_of_getElem? (i := 41) rfl)) (hw _ (List.mem_of_getElem? (i := 3) rfl)) (hw _ (List.mem_of_getElem? (i := 43) rfl)) (by decide) (rm9 l Z a0 hw a719 T719.heap n0 Z723 r F3719) q727 (b := a719) Ea719 (argsL := []) (rest := []) rfl rfl 0 284 rfl (by rw [hml]; rfl) (lenOf own_pd6 rfl) (Nat.le_refl _) (by decide) (by decide) (by decide) (by decide) (hb hby at_281) ?_
                                intro v730 T730 L730 X730 hQ730
                                obtain ⟨rfl, N730, q730⟩ := hQ730
                                have N731 := Fr.app N728 N730
                                show Go p e below _ T730 (mkF m 284 #[.val (.int p0), .val (.int p1), .val (.int p2), .val (.int p3), .val (.int p4), .val (.int p5), .val (.int (3 : Int32)), .val (.ref a634), .val (.int r685), .val (.int r688), .val (.int (1 : Int32)), .val (.ref a719)] [(.int r)])
                                refine g_iload X730 hx 286 (hb hby at_284) rfl rfl ?_
                                have L := fun q => own_lit (r2 q) (by decide)
                                have ln : (3 : Int32).toInt = 3 := by decide
                                have ll733 : ((1 : Int32) : Int32).toInt = 1 := by decide
                                refine g_ic_ne X730 hx 293 289 (hb hby at_286) (by decide) (by decide) rfl (fun c732 => ?_) (fun c732 => ?_)
                                · skip
                                  have l1 : (1 : Int32).toInt = 1 := by decide
                                  have l2 : (2 : Int32).toInt = 2 := by decide
                                  have l3 : (3 : Int32).toInt = 3 := by decide
                                  have l4 : (4 : Int32).toInt = 4 := by decide
                                  have q1 := r1 (by omega)
                                  exfalso; omega
                                · skip
                                  refine g_iconst X730 hx (1 : Int32) 290 (hb hby at_289) rfl (by decide) ?_
                                  refine g_goto X730 hx 294 (hb hby at_290) (by decide) (by decide) ?_
                                  exact g_retZ X730 hx hlk hret (hb hby at_294) (by decide) (by decide) q730 ⟨rfl, N731⟩
                        · skip
                          exfalso; revert c694; decide
                      · skip
                        exfalso; revert c691; decide
                · skip
                  exfalso; revert c670; decide
              · skip
                exfalso; revert c667; decide
            · skip
              exfalso; revert c664; decide
          · skip
            exfalso; revert c661; decide
        · skip
          exfalso; revert c658; decide
  · skip
    refine g_iload X0 hx 10 (hb hby at_8) rfl rfl ?_
    refine g_newP X0 hx hZ (aty := .double) (hw _ (List.mem_of_getElem? (i := 0) rfl)) e0 (by decide) (cap := 4) (by decide) (by decide) 12 (hb hby at_10) rfl (by decide) (by decide) (ad := "[D") (by decide) ?_
    intro T734 h734 k734 a734 g734 X734 e734 E734 V734 A734
    have ge735 : n0 ≤ a734 := by rw [g734]; exact Z0
    have Z736 : n0 ≤ h734.size := Nat.le_trans Z0 E734.1
    have V734' : Arv Z h734 a734 k734 .double (4 : Int32) [(.double (0 : UInt64)), (.double (0 : UInt64)), (.double (0 : UInt64)), (.double (0 : UInt64))] (.double (0 : UInt64)) := V734.pad (pad_rep [] (.double (0 : UInt64)) 4)
    refine g_astore (l' := #[.val (.int p0), .val (.int p1), .val (.int p2), .val (.int p3), .val (.int p4), .val (.int p5), .val (.int (4 : Int32)), .val (.ref a734), .unset, .unset, .unset, .unset]) X734 hx 14 (hb hby at_12) rfl rfl rfl ?_
    refine g_aload X734 hx 16 (hb hby at_14) rfl rfl rfl ?_
    refine g_iconst X734 hx (0 : Int32) 17 (hb hby at_16) rfl (by decide) ?_
    refine g_iloadN X734 hx 18 (hb hby at_17) rfl rfl ?_
    refine g_i2d X734 hx 19 (hb hby at_18) rfl ?_
    refine g_dastore X734 hx hZ e734 V734' 0 (by decide) (by decide) (by show 0 < 4; decide) 20 (hb hby at_19) rfl ?_
    intro T737 h737 X737 e737 W737 V737
    have F738 := A734.wr W737
    have N740 := Fr.snoc X737 N0 ge735
    have Z741 : n0 ≤ h737.size := by rw [W737.size]; exact Z736
    have V737' : Arv Z h737 a734 k734 .double (4 : Int32) [(.double (FP.i2d p1)), (.double (0 : UInt64)), (.double (0 : UInt64)), (.double (0 : UInt64))] (.double (0 : UInt64)) := V737
    refine g_iload X737 hx 22 (hb hby at_20) rfl rfl ?_
    refine g_iconst X737 hx (1 : Int32) 23 (hb hby at_22) rfl (by decide) ?_
    have ll743 : ((1 : Int32) : Int32).toInt = 1 := by decide
    have ll744 : ((4 : Int32) : Int32).toInt = 4 := by decide
    refine g_ic_le X737 hx 32 26 (hb hby at_23) (by decide) (by decide) rfl (fun c742 => ?_) (fun c742 => ?_)
    · skip
      exfalso; revert c742; decide
    · skip
      refine g_aload X737 hx 28 (hb hby at_26) rfl rfl rfl ?_
      refine g_iconst X737 hx (1 : Int32) 29 (hb hby at_28) rfl (by decide) ?_
      refine g_iloadN X737 hx 30 (hb hby at_29) rfl rfl ?_
      refine g_i2d X737 hx 31 (hb hby at_30) rfl ?_
      refine g_dastore X737 hx hZ e737 V737' 1 (by decide) (by decide) (by show 1 < 4; decide) 32 (hb hby at_31) rfl ?_
      intro T745 h745 X745 e745 W745 V745
      have F746 := F738.wr W745
      have N748 := Fr.snoc X745 N740 ge735
      have Z749 : n0 ≤ h745.size := by rw [W745.size]; exact Z741
      have V745' : Arv Z h745 a734 k734 .double (4 : Int32) [(.double (FP.i2d p1)), (.double (FP.i2d p2)), (.double (0 : UInt64)), (.double (0 : UInt64))] (.double (0 : UInt64)) := V745
      refine g_iload X745 hx 34 (hb hby at_32) rfl rfl ?_
      refine g_iconst X745 hx (2 : Int32) 35 (hb hby at_34) rfl (by decide) ?_
      have ll751 : ((2 : Int32) : Int32).toInt = 2 := by decide
      have ll752 : ((4 : Int32) : Int32).toInt = 4 := by decide
      refine g_ic_le X745 hx 44 38 (hb hby at_35) (by decide) (by decide) rfl (fun c750 => ?_) (fun c750 => ?_)
      · skip
        exfalso; revert c750; decide
      · skip
        refine g_aload X745 hx 40 (hb hby at_38) rfl rfl rfl ?_
        refine g_iconst X745 hx (2 : Int32) 41 (hb hby at_40) rfl (by decide) ?_
        refine g_iloadN X745 hx 42 (hb hby at_41) rfl rfl ?_
        refine g_i2d X745 hx 43 (hb hby at_42) rfl ?_
        refine g_dastore X745 hx hZ e745 V745' 2 (by decide) (by decide) (by show 2 < 4; decide) 44 (hb hby at_43) rfl ?_
        intro T753 h753 X753 e753 W753 V753
        have F754 := F746.wr W753
        have N756 := Fr.snoc X753 N748 ge735
        have Z757 : n0 ≤ h753.size := by rw [W753.size]; exact Z749
        have V753' : Arv Z h753 a734 k734 .double (4 : Int32) [(.double (FP.i2d p1)), (.double (FP.i2d p2)), (.double (FP.i2d p3)), (.double (0 : UInt64))] (.double (0 : UInt64)) := V753
        refine g_iload X753 hx 46 (hb hby at_44) rfl rfl ?_
        refine g_iconst X753 hx (3 : Int32) 47 (hb hby at_46) rfl (by decide) ?_
        have ll759 : ((3 : Int32) : Int32).toInt = 3 := by decide
        have ll760 : ((4 : Int32) : Int32).toInt = 4 := by decide
        refine g_ic_le X753 hx 57 50 (hb hby at_47) (by decide) (by decide) rfl (fun c758 => ?_) (fun c758 => ?_)
        · skip
          exfalso; revert c758; decide
        · skip
          refine g_aload X753 hx 52 (hb hby at_50) rfl rfl rfl ?_
          refine g_iconst X753 hx (3 : Int32) 53 (hb hby at_52) rfl (by decide) ?_
          refine g_iload X753 hx 55 (hb hby at_53) rfl rfl ?_
          refine g_i2d X753 hx 56 (hb hby at_55) rfl ?_
          refine g_dastore X753 hx hZ e753 V753' 3 (by decide) (by decide) (by show 3 < 4; decide) 57 (hb hby at_56) rfl ?_
          intro T761 h761 X761 e761 W761 V761
          have F762 := F754.wr W761
          have N764 := Fr.snoc X761 N756 ge735
          have Z765 : n0 ≤ h761.size := by rw [W761.size]; exact Z757
          have V761' : Arv Z h761 a734 k734 .double (4 : Int32) [(.double (FP.i2d p1)), (.double (FP.i2d p2)), (.double (FP.i2d p3)), (.double (FP.i2d p4))] (.double (0 : UInt64)) := V761
          refine g_iload X761 hx 59 (hb hby at_57) rfl rfl ?_
          refine g_iconst X761 hx (4 : Int32) 60 (hb hby at_59) rfl (by decide) ?_
          have ll767 : ((4 : Int32) : Int32).toInt = 4 := by decide
          have ll768 : ((4 : Int32) : Int32).toInt = 4 := by decide
          refine g_ic_le X761 hx 70 63 (hb hby at_60) (by decide) (by decide) rfl (fun c766 => ?_) (fun c766 => ?_)
          · skip
            refine g_iload X761 hx 72 (hb hby at_70) rfl rfl ?_
            refine g_iconst X761 hx (5 : Int32) 73 (hb hby at_72) rfl (by decide) ?_
            have ll770 : ((5 : Int32) : Int32).toInt = 5 := by decide
            have ll771 : ((4 : Int32) : Int32).toInt = 4 := by decide
            refine g_ic_le X761 hx 82 76 (hb hby at_73) (by decide) (by decide) rfl (fun c769 => ?_) (fun c769 => ?_)
            · skip
              refine g_iload X761 hx 84 (hb hby at_82) rfl rfl ?_
              refine g_bipush X761 hx (6 : Int32) 86 (hb hby at_84) rfl (by decide) ?_
              have ll773 : ((6 : Int32) : Int32).toInt = 6 := by decide
              have ll774 : ((4 : Int32) : Int32).toInt = 4 := by decide
              refine g_ic_le X761 hx 96 89 (hb hby at_86) (by decide) (by decide) rfl (fun c772 => ?_) (fun c772 => ?_)
              · skip
                refine g_iload X761 hx 98 (hb hby at_96) rfl rfl ?_
                refine g_bipush X761 hx (7 : Int32) 100 (hb hby at_98) rfl (by decide) ?_
                have ll776 : ((7 : Int32) : Int32).toInt = 7 := by decide
                have ll777 : ((4 : Int32) : Int32).toInt = 4 := by decide
                refine g_ic_le X761 hx 110 103 (hb hby at_100) (by decide) (by decide) rfl (fun c775 => ?_) (fun c775 => ?_)
                · skip
                  refine g_iloadN X761 hx 111 (hb hby at_110) rfl rfl ?_
                  refine g_istore (l' := #[.val (.int p0), .val (.int p1), .val (.int p2), .val (.int p3), .val (.int p4), .val (.int p5), .val (.int (4 : Int32)), .val (.ref a734), .val (.int p1), .unset, .unset, .unset]) X761 hx 113 (hb hby at_111) rfl rfl ?_
                  refine g_iloadN X761 hx 114 (hb hby at_113) rfl rfl ?_
                  refine g_istore (l' := #[.val (.int p0), .val (.int p1), .val (.int p2), .val (.int p3), .val (.int p4), .val (.int p5), .val (.int (4 : Int32)), .val (.ref a734), .val (.int p1), .val (.int p1), .unset, .unset]) X761 hx 116 (hb hby at_114) rfl rfl ?_
                  refine g_iload X761 hx 118 (hb hby at_116) rfl rfl ?_
                  refine g_iconst X761 hx (1 : Int32) 119 (hb hby at_118) rfl (by decide) ?_
                  have ll779 : ((1 : Int32) : Int32).toInt = 1 := by decide
                  have ll780 : ((4 : Int32) : Int32).toInt = 4 := by decide
                  refine g_ic_le X761 hx 138 122 (hb hby at_119) (by decide) (by decide) rfl (fun c778 => ?_) (fun c778 => ?_)
                  · skip
                    exfalso; revert c778; decide
                  · skip
                    refine g_iload X761 hx 124 (hb hby at_122) rfl rfl ?_
                    refine g_iloadN X761 hx 125 (hb hby at_124) rfl rfl ?_
                    refine g_static X761 hx hZ hown (hw _ (List.mem_of_getElem? (i := 44) rfl)) (hw _ (List.mem_of_getElem? (i := 45) rfl)) (hw _ (List.mem_of_getElem? (i := 7) rfl)) (hw _ (List.mem_of_getElem? (i := 46) rfl)) (by decide) (rm10 l Z a0 hw p1 p2 h761 n0 Z765) e761 (argsL := [(.int p1), (.int p2)]) (rest := []) rfl rfl 0 128 rfl (by rw [hml]; rfl) (lenOf own_pd7 rfl) (Nat.le_refl _) (by decide) (by decide) (by decide) (by decide) (hb hby at_125) ?_
                    intro v782 T782 L782 X782 hQ782
                    obtain ⟨r781, rfl, ⟨a1, a2, a3⟩, N782, q782⟩ := hQ782
                    have N783 := Fr.app N764 N782
                    have Ir781 := own_minS (own_min1 p1.toInt) a1 a2 a3
                    clear a1 a2 a3
                    show Go p e below _ T782 (mkF m 128 #[.val (.int p0), .val (.int p1), .val (.int p2), .val (.int p3), .val (.int p4), .val (.int p5), .val (.int (4 : Int32)), .val (.ref a734), .val (.int p1), .val (.int p1), .unset, .unset] [(.int r781)])
                    refine g_istore (l' := #[.val (.int p0), .val (.int p1), .val (.int p2), .val (.int p3), .val (.int p4), .val (.int p5), .val (.int (4 : Int32)), .val (.ref a734), .val (.int r781), .val (.int p1), .unset, .unset]) X782 hx 130 (hb hby at_128) rfl rfl ?_
                    refine g_iload X782 hx 132 (hb hby at_130) rfl rfl ?_
                    refine g_iloadN X782 hx 133 (hb hby at_132) rfl rfl ?_
                    refine g_static X782 hx hZ hown (hw _ (List.mem_of_getElem? (i := 47) rfl)) (hw _ (List.mem_of_getElem? (i := 48) rfl)) (hw _ (List.mem_of_getElem? (i := 7) rfl)) (hw _ (List.mem_of_getElem? (i := 49) rfl)) (by decide) (rm11 l Z a0 hw p1 p2 h761 n0 Z765) q782 (argsL := [(.int p1), (.int p2)]) (rest := []) rfl rfl 0 136 rfl (by rw [hml]; rfl) (lenOf own_pd7 rfl) (Nat.le_refl _) (by decide) (by decide) (by decide) (by decide) (hb hby at_133) ?_
                    intro v785 T785 L785 X785 hQ785
                    obtain ⟨r784, rfl, ⟨a1, a2, a3⟩, N785, q785⟩ := hQ785
                    have N786 := Fr.app N783 N785
                    have Ir784 := own_maxS (own_max1 p1.toInt) a1 a2 a3
                    clear a1 a2 a3
                    show Go p e below _ T785 (mkF m 136 #[.val (.int p0), .val (.int p1), .val (.int p2), .val (.int p3), .val (.int p4), .val (.int p5), .val (.int (4 : Int32)), .val (.ref a734), .val (.int r781), .val (.int p1), .unset, .unset] [(.int r784)])
                    refine g_istore (l' := #[.val (.int p0), .val (.int p1), .val (.int p2), .val (.int p3), .val (.int p4), .val (.int p5), .val (.int (4 : Int32)), .val (.ref a734), .val (.int r781), .val (.int r784), .unset, .unset]) X785 hx 138 (hb hby at_136) rfl rfl ?_
                    refine g_iload X785 hx 140 (hb hby at_138) rfl rfl ?_
                    refine g_iconst X785 hx (2 : Int32) 141 (hb hby at_140) rfl (by decide) ?_
                    have ll788 : ((2 : Int32) : Int32).toInt = 2 := by decide
                    have ll789 : ((4 : Int32) : Int32).toInt = 4 := by decide
                    refine g_ic_le X785 hx 160 144 (hb hby at_141) (by decide) (by decide) rfl (fun c787 => ?_) (fun c787 => ?_)
                    · skip
                      exfalso; revert c787; decide
                    · skip
                      refine g_iload X785 hx 146 (hb hby at_144) rfl rfl ?_
                      refine g_iloadN X785 hx 147 (hb hby at_146) rfl rfl ?_
                      refine g_static X785 hx hZ hown (hw _ (List.mem_of_getElem? (i := 44) rfl)) (hw _ (List.mem_of_getElem? (i := 45) rfl)) (hw _ (List.mem_of_getElem? (i := 7) rfl)) (hw _ (List.mem_of_getElem? (i := 46) rfl)) (by decide) (rm10 l Z a0 hw r781 p3 h761 n0 Z765) q785 (argsL := [(.int r781), (.int p3)]) (rest := []) rfl rfl 0 150 rfl (by rw [hml]; rfl) (lenOf own_pd7 rfl) (Nat.le_refl _) (by decide) (by decide) (by decide) (by decide) (hb hby at_147) ?_
                      intro v791 T791 L791 X791 hQ791
                      obtain ⟨r790, rfl, ⟨a1, a2, a3⟩, N791, q791⟩ := hQ791
                      have N792 := Fr.app N786 N791
                      have Ir790 := own_minS Ir781 a1 a2 a3
                      clear a1 a2 a3
                      show Go p e below _ T791 (mkF m 150 #[.val (.int p0), .val (.int p1), .val (.int p2), .val (.int p3), .val (.int p4), .val (.int p5), .val (.int (4 : Int32)), .val (.ref a734), .val (.int r781), .val (.int r784), .unset, .unset] [(.int r790)])
                      refine g_istore (l' := #[.val (.int p0), .val (.int p1), .val (.int p2), .val (.int p3), .val (.int p4), .val (.int p5), .val (.int (4 : Int32)), .val (.ref a734), .val (.int r790), .val (.int r784), .unset, .unset]) X791 hx 152 (hb hby at_150) rfl rfl ?_
                      refine g_iload X791 hx 154 (hb hby at_152) rfl rfl ?_
                      refine g_iloadN X791 hx 155 (hb hby at_154) rfl rfl ?_
                      refine g_static X791 hx hZ hown (hw _ (List.mem_of_getElem? (i := 47) rfl)) (hw _ (List.mem_of_getElem? (i := 48) rfl)) (hw _ (List.mem_of_getElem? (i := 7) rfl)) (hw _ (List.mem_of_getElem? (i := 49) rfl)) (by decide) (rm11 l Z a0 hw r784 p3 h761 n0 Z765) q791 (argsL := [(.int r784), (.int p3)]) (rest := []) rfl rfl 0 158 rfl (by rw [hml]; rfl) (lenOf own_pd7 rfl) (Nat.le_refl _) (by decide) (by decide) (by decide) (by decide) (hb hby at_155) ?_
                      intro v794 T794 L794 X794 hQ794
                      obtain ⟨r793, rfl, ⟨a1, a2, a3⟩, N794, q794⟩ := hQ794
                      have N795 := Fr.app N792 N794
                      have Ir793 := own_maxS Ir784 a1 a2 a3
                      clear a1 a2 a3
                      show Go p e below _ T794 (mkF m 158 #[.val (.int p0), .val (.int p1), .val (.int p2), .val (.int p3), .val (.int p4), .val (.int p5), .val (.int (4 : Int32)), .val (.ref a734), .val (.int r790), .val (.int r784), .unset, .unset] [(.int r793)])
                      refine g_istore (l' := #[.val (.int p0), .val (.int p1), .val (.int p2), .val (.int p3), .val (.int p4), .val (.int p5), .val (.int (4 : Int32)), .val (.ref a734), .val (.int r790), .val (.int r793), .unset, .unset]) X794 hx 160 (hb hby at_158) rfl rfl ?_
                      refine g_iload X794 hx 162 (hb hby at_160) rfl rfl ?_
                      refine g_iconst X794 hx (3 : Int32) 163 (hb hby at_162) rfl (by decide) ?_
                      have ll797 : ((3 : Int32) : Int32).toInt = 3 := by decide
                      have ll798 : ((4 : Int32) : Int32).toInt = 4 := by decide
                      refine g_ic_le X794 hx 184 166 (hb hby at_163) (by decide) (by decide) rfl (fun c796 => ?_) (fun c796 => ?_)
                      · skip
                        exfalso; revert c796; decide
                      · skip
                        refine g_iload X794 hx 168 (hb hby at_166) rfl rfl ?_
                        refine g_iload X794 hx 170 (hb hby at_168) rfl rfl ?_
                        refine g_static X794 hx hZ hown (hw _ (List.mem_of_getElem? (i := 44) rfl)) (hw _ (List.mem_of_getElem? (i := 45) rfl)) (hw _ (List.mem_of_getElem? (i := 7) rfl)) (hw _ (List.mem_of_getElem? (i := 46) rfl)) (by decide) (rm10 l Z a0 hw r790 p4 h761 n0 Z765) q794 (argsL := [(.int r790), (.int p4)]) (rest := []) rfl rfl 0 173 rfl (by rw [hml]; rfl) (lenOf own_pd7 rfl) (Nat.le_refl _) (by decide) (by decide) (by decide) (by decide) (hb hby at_170) ?_
                        intro v800 T800 L800 X800 hQ800
                        obtain ⟨r799, rfl, ⟨a1, a2, a3⟩, N800, q800⟩ := hQ800
                        have N801 := Fr.app N795 N800
                        have Ir799 := own_minS Ir790 a1 a2 a3
                        clear a1 a2 a3
                        show Go p e below _ T800 (mkF m 173 #[.val (.int p0), .val (.int p1), .val (.int p2), .val (.int p3), .val (.int p4), .val (.int p5), .val (.int (4 : Int32)), .val (.ref a734), .val (.int r790), .val (.int r793), .unset, .unset] [(.int r799)])
                        refine g_istore (l' := #[.val (.int p0), .val (.int p1), .val (.int p2), .val (.int p3), .val (.int p4), .val (.int p5), .val (.int (4 : Int32)), .val (.ref a734), .val (.int r799), .val (.int r793), .unset, .unset]) X800 hx 175 (hb hby at_173) rfl rfl ?_
                        refine g_iload X800 hx 177 (hb hby at_175) rfl rfl ?_
                        refine g_iload X800 hx 179 (hb hby at_177) rfl rfl ?_
                        refine g_static X800 hx hZ hown (hw _ (List.mem_of_getElem? (i := 47) rfl)) (hw _ (List.mem_of_getElem? (i := 48) rfl)) (hw _ (List.mem_of_getElem? (i := 7) rfl)) (hw _ (List.mem_of_getElem? (i := 49) rfl)) (by decide) (rm11 l Z a0 hw r793 p4 h761 n0 Z765) q800 (argsL := [(.int r793), (.int p4)]) (rest := []) rfl rfl 0 182 rfl (by rw [hml]; rfl) (lenOf own_pd7 rfl) (Nat.le_refl _) (by decide) (by decide) (by decide) (by decide) (hb hby at_179) ?_
                        intro v803 T803 L803 X803 hQ803
                        obtain ⟨r802, rfl, ⟨a1, a2, a3⟩, N803, q803⟩ := hQ803
                        have N804 := Fr.app N801 N803
                        have Ir802 := own_maxS Ir793 a1 a2 a3
                        clear a1 a2 a3
                        show Go p e below _ T803 (mkF m 182 #[.val (.int p0), .val (.int p1), .val (.int p2), .val (.int p3), .val (.int p4), .val (.int p5), .val (.int (4 : Int32)), .val (.ref a734), .val (.int r799), .val (.int r793), .unset, .unset] [(.int r802)])
                        refine g_istore (l' := #[.val (.int p0), .val (.int p1), .val (.int p2), .val (.int p3), .val (.int p4), .val (.int p5), .val (.int (4 : Int32)), .val (.ref a734), .val (.int r799), .val (.int r802), .unset, .unset]) X803 hx 184 (hb hby at_182) rfl rfl ?_
                        refine g_iload X803 hx 186 (hb hby at_184) rfl rfl ?_
                        refine g_iconst X803 hx (4 : Int32) 187 (hb hby at_186) rfl (by decide) ?_
                        have ll806 : ((4 : Int32) : Int32).toInt = 4 := by decide
                        have ll807 : ((4 : Int32) : Int32).toInt = 4 := by decide
                        refine g_ic_le X803 hx 208 190 (hb hby at_187) (by decide) (by decide) rfl (fun c805 => ?_) (fun c805 => ?_)
                        · skip
                          refine g_iload X803 hx 210 (hb hby at_208) rfl rfl ?_
                          refine g_iload X803 hx 212 (hb hby at_210) rfl rfl ?_
                          refine g_ic_ne X803 hx 221 215 (hb hby at_212) (by decide) (by decide) rfl (fun c808 => ?_) (fun c808 => ?_)
                          · skip
                            refine g_iload X803 hx 223 (hb hby at_221) rfl rfl ?_
                            refine g_iconst X803 hx (2 : Int32) 224 (hb hby at_223) rfl (by decide) ?_
                            have ll810 : ((2 : Int32) : Int32).toInt = 2 := by decide
                            have ll811 : ((4 : Int32) : Int32).toInt = 4 := by decide
                            refine g_ic_ne X803 hx 233 227 (hb hby at_224) (by decide) (by decide) rfl (fun c809 => ?_) (fun c809 => ?_)
                            · skip
                              refine g_iload X803 hx 235 (hb hby at_233) rfl rfl ?_
                              refine g_iconst X803 hx (4 : Int32) 236 (hb hby at_235) rfl (by decide) ?_
                              have ll813 : ((4 : Int32) : Int32).toInt = 4 := by decide
                              have ll814 : ((4 : Int32) : Int32).toInt = 4 := by decide
                              refine g_ic_gt X803 hx 245 239 (hb hby at_236) (by decide) (by decide) rfl (fun c812 => ?_) (fun c812 => ?_)
                              · skip
                                exfalso; revert c812; decide
                              · skip
                                refine g_iconst X803 hx (3 : Int32) 240 (hb hby at_239) rfl (by decide) ?_
                                refine g_istore (l' := #[.val (.int p0), .val (.int p1), .val (.int p2), .val (.int p3), .val (.int p4), .val (.int p5), .val (.int (4 : Int32)), .val (.ref a734), .val (.int r799), .val (.int r802), .val (.int (3 : Int32)), .unset]) X803 hx 242 (hb hby at_240) rfl rfl ?_
                                refine g_goto X803 hx 248 (hb hby at_242) (by decide) (by decide) ?_
                                refine g_aload X803 hx 250 (hb hby at_248) rfl rfl rfl ?_
                                refine g_static X803 hx hZ hown (hw _ (List.mem_of_getElem? (i := 1) rfl)) (hw _ (List.mem_of_getElem? (i := 2) rfl)) (hw _ (List.mem_of_getElem? (i := 3) rfl)) (hw _ (List.mem_of_getElem? (i := 4) rfl)) (by decide) (rm1_4 l Z a0 hw a734 h761 n0 Z765 k734 (FP.i2d p1) p1.toInt W1 (FP.i2d p2) p2.toInt W2 (FP.i2d p3) p3.toInt W3 (FP.i2d p4) p4.toInt W4 V761') q803 (argsL := [(.ref a734)]) (rest := []) rfl rfl 0 253 rfl (by rw [hml]; rfl) (lenOf own_pd0 rfl) (Nat.le_refl _) (by decide) (by decide) (by decide) (by decide) (hb hby at_250) ?_
                                intro v815 T815 L815 X815 hQ815
                                obtain ⟨a815, rfl, N815, ga815, K815, Ea815, lo, hi, r, mi, ma, F1815, F2815, F3815, dn, dx, Mi, Ma, r1, r2⟩ := hQ815
                                have E1 := own_minEq Mi Ir799 (fun x hx => by simp only [List.mem_cons, List.not_mem_nil, or_false] at hx ⊢; omega) (fun x hx => by simp only [List.mem_cons, List.not_mem_nil, or_false] at hx ⊢; omega)
                                have E2 := own_maxEq Ma Ir802 (fun x hx => by simp only [List.mem_cons, List.not_mem_nil, or_false] at hx ⊢; omega) (fun x hx => by simp only [List.mem_cons, List.not_mem_nil, or_false] at hx ⊢; omega)
                                have N816 := Fr.app N804 N815
                                have F817 := F762.keep K815
                                have F818 := V761'.keep K815 nin0
                                have Z819 : n0 ≤ T815.heap.size := Nat.le_trans Z765 K815.1
                                show Go p e below _ T815 (mkF m 253 #[.val (.int p0), .val (.int p1), .val (.int p2), .val (.int p3), .val (.int p4), .val (.int p5), .val (.int (4 : Int32)), .val (.ref a734), .val (.int r799), .val (.int r802), .val (.int (3 : Int32)), .unset] [(.ref a815)])
                                refine g_astore (l' := #[.val (.int p0), .val (.int p1), .val (.int p2), .val (.int p3), .val (.int p4), .val (.int p5), .val (.int (4 : Int32)), .val (.ref a734), .val (.int r799), .val (.int r802), .val (.int (3 : Int32)), .val (.ref a815)]) X815 hx 255 (hb hby at_253) rfl rfl rfl ?_
                                refine g_aload X815 hx 257 (hb hby at_255) rfl rfl rfl ?_
                                refine g_virt X815 hx hZ (C := "com/example/recolecta/recolecta/Bins") hown (hw _ (List.mem_of_getElem? (i := 29) rfl)) (hw _ (List.mem_of_getElem? (i := 30) rfl)) (hw _ (List.mem_of_getElem? (i := 32) rfl)) (hw _ (List.mem_of_getElem? (i := 32) rfl)) (hw _ (List.mem_of_getElem? (i := 31) rfl)) (hw _ (List.mem_of_getElem? (i := 3) rfl)) (hw _ (List.mem_of_getElem? (i := 33) rfl)) (by decide) (rm7 l Z a0 hw a815 T815.heap n0 Z819 lo F1815) rfl (b := a815) Ea815 (argsL := []) (rest := []) rfl rfl 0 260 rfl (by rw [hml]; rfl) (lenOf own_pd5 rfl) (Nat.le_refl _) (by decide) (by decide) (by decide) (by decide) (hb hby at_257) ?_
                                intro v820 T820 L820 X820 hQ820
                                obtain ⟨rfl, N820, q820⟩ := hQ820
                                have N821 := Fr.app N816 N820
                                show Go p e below _ T820 (mkF m 260 #[.val (.int p0), .val (.int p1), .val (.int p2), .val (.int p3), .val (.int p4), .val (.int p5), .val (.int (4 : Int32)), .val (.ref a734), .val (.int r799), .val (.int r802), .val (.int (3 : Int32)), .val (.ref a815)] [(.double lo)])
                                refine g_iload X820 hx 262 (hb hby at_260) rfl rfl ?_
                                refine g_i2d X820 hx 263 (hb hby at_262) rfl ?_
                                refine g_dc_ne X820 hx 264 293 267 (hb hby at_263) rfl (hb hby at_264) (by decide) (by decide) rfl (Jvm.FP.Core.dcmp_int dn (Jvm.FP.Core.i2d_int r799)) (fun c822 => ?_) (fun c822 => ?_)
                                · skip
                                  exfalso; omega
                                · skip
                                  refine g_aload X820 hx 269 (hb hby at_267) rfl rfl rfl ?_
                                  refine g_virt X820 hx hZ (C := "com/example/recolecta/recolecta/Bins") hown (hw _ (List.mem_of_getElem? (i := 34) rfl)) (hw _ (List.mem_of_getElem? (i := 35) rfl)) (hw _ (List.mem_of_getElem? (i := 37) rfl)) (hw _ (List.mem_of_getElem? (i := 37) rfl)) (hw _ (List.mem_of_getElem? (i := 36) rfl)) (hw _ (List.mem_of_getElem? (i := 3) rfl)) (hw _ (List.mem_of_getElem? (i := 38) rfl)) (by decide) (rm8 l Z a0 hw a815 T815.heap n0 Z819 hi F2815) q820 (b := a815) Ea815 (argsL := []) (rest := []) rfl rfl 0 272 rfl (by rw [hml]; rfl) (lenOf own_pd5 rfl) (Nat.le_refl _) (by decide) (by decide) (by decide) (by decide) (hb hby at_269) ?_
                                  intro v823 T823 L823 X823 hQ823
                                  obtain ⟨rfl, N823, q823⟩ := hQ823
                                  have N824 := Fr.app N821 N823
                                  show Go p e below _ T823 (mkF m 272 #[.val (.int p0), .val (.int p1), .val (.int p2), .val (.int p3), .val (.int p4), .val (.int p5), .val (.int (4 : Int32)), .val (.ref a734), .val (.int r799), .val (.int r802), .val (.int (3 : Int32)), .val (.ref a815)] [(.double hi)])
                                  refine g_iload X823 hx 274 (hb hby at_272) rfl rfl ?_
                                  refine g_i2d X823 hx 275 (hb hby at_274) rfl ?_
                                  refine g_dc_ne X823 hx 276 293 279 (hb hby at_275) rfl (hb hby at_276) (by decide) (by decide) rfl (Jvm.FP.Core.dcmp_int dx (Jvm.FP.Core.i2d_int r802)) (fun c825 => ?_) (fun c825 => ?_)
                                  · skip
                                    exfalso; omega
                                  · skip
                                    refine g_aload X823 hx 281 (hb hby at_279) rfl rfl rfl ?_
                                    refine g_virt X823 hx hZ (C := "com/example/recolecta/recolecta/Bins") hown (hw _ (List.mem_of_getElem? (i := 39) rfl)) (hw _ (List.mem_of_getElem? (i := 40) rfl)) (hw _ (List.mem_of_getElem? (i := 42) rfl)) (hw _ (List.mem_of_getElem? (i := 42) rfl)) (hw _ (List.mem_of_getElem? (i := 41) rfl)) (hw _ (List.mem_of_getElem? (i := 3) rfl)) (hw _ (List.mem_of_getElem? (i := 43) rfl)) (by decide) (rm9 l Z a0 hw a815 T815.heap n0 Z819 r F3815) q823 (b := a815) Ea815 (argsL := []) (rest := []) rfl rfl 0 284 rfl (by rw [hml]; rfl) (lenOf own_pd6 rfl) (Nat.le_refl _) (by decide) (by decide) (by decide) (by decide) (hb hby at_281) ?_
                                    intro v826 T826 L826 X826 hQ826
                                    obtain ⟨rfl, N826, q826⟩ := hQ826
                                    have N827 := Fr.app N824 N826
                                    show Go p e below _ T826 (mkF m 284 #[.val (.int p0), .val (.int p1), .val (.int p2), .val (.int p3), .val (.int p4), .val (.int p5), .val (.int (4 : Int32)), .val (.ref a734), .val (.int r799), .val (.int r802), .val (.int (3 : Int32)), .val (.ref a815)] [(.int r)])
                                    refine g_iload X826 hx 286 (hb hby at_284) rfl rfl ?_
                                    have L := fun q => own_lit (r2 q) (by decide)
                                    have ln : (4 : Int32).toInt = 4 := by decide
                                    have ll829 : ((3 : Int32) : Int32).toInt = 3 := by decide
                                    refine g_ic_ne X826 hx 293 289 (hb hby at_286) (by decide) (by decide) rfl (fun c828 => ?_) (fun c828 => ?_)
                                    · skip
                                      have l1 : (1 : Int32).toInt = 1 := by decide
                                      have l2 : (2 : Int32).toInt = 2 := by decide
                                      have l3 : (3 : Int32).toInt = 3 := by decide
                                      have l4 : (4 : Int32).toInt = 4 := by decide
                                      have q1 := L (by omega)
                                      exfalso; omega
                                    · skip
                                      refine g_iconst X826 hx (1 : Int32) 290 (hb hby at_289) rfl (by decide) ?_
                                      refine g_goto X826 hx 294 (hb hby at_290) (by decide) (by decide) ?_
                                      exact g_retZ X826 hx hlk hret (hb hby at_294) (by decide) (by decide) q826 ⟨rfl, N827⟩
                            · skip
                              exfalso; revert c809; decide
                          · skip
                            refine g_iconst X803 hx (1 : Int32) 216 (hb hby at_215) rfl (by decide) ?_
                            refine g_istore (l' := #[.val (.int p0), .val (.int p1), .val (.int p2), .val (.int p3), .val (.int p4), .val (.int p5), .val (.int (4 : Int32)), .val (.ref a734), .val (.int r799), .val (.int r802), .val (.int (1 : Int32)), .unset]) X803 hx 218 (hb hby at_216) rfl rfl ?_
                            refine g_goto X803 hx 248 (hb hby at_218) (by decide) (by decide) ?_
                            refine g_aload X803 hx 250 (hb hby at_248) rfl rfl rfl ?_
                            refine g_static X803 hx hZ hown (hw _ (List.mem_of_getElem? (i := 1) rfl)) (hw _ (List.mem_of_getElem? (i := 2) rfl)) (hw _ (List.mem_of_getElem? (i := 3) rfl)) (hw _ (List.mem_of_getElem? (i := 4) rfl)) (by decide) (rm1_4 l Z a0 hw a734 h761 n0 Z765 k734 (FP.i2d p1) p1.toInt W1 (FP.i2d p2) p2.toInt W2 (FP.i2d p3) p3.toInt W3 (FP.i2d p4) p4.toInt W4 V761') q803 (argsL := [(.ref a734)]) (rest := []) rfl rfl 0 253 rfl (by rw [hml]; rfl) (lenOf own_pd0 rfl) (Nat.le_refl _) (by decide) (by decide) (by decide) (by decide) (hb hby at_250) ?_
                            intro v830 T830 L830 X830 hQ830
                            obtain ⟨a830, rfl, N830, ga830, K830, Ea830, lo, hi, r, mi, ma, F1830, F2830, F3830, dn, dx, Mi, Ma, r1, r2⟩ := hQ830
                            have E1 := own_minEq Mi Ir799 (fun x hx => by simp only [List.mem_cons, List.not_mem_nil, or_false] at hx ⊢; omega) (fun x hx => by simp only [List.mem_cons, List.not_mem_nil, or_false] at hx ⊢; omega)
                            have E2 := own_maxEq Ma Ir802 (fun x hx => by simp only [List.mem_cons, List.not_mem_nil, or_false] at hx ⊢; omega) (fun x hx => by simp only [List.mem_cons, List.not_mem_nil, or_false] at hx ⊢; omega)
                            have N831 := Fr.app N804 N830
                            have F832 := F762.keep K830
                            have F833 := V761'.keep K830 nin0
                            have Z834 : n0 ≤ T830.heap.size := Nat.le_trans Z765 K830.1
                            show Go p e below _ T830 (mkF m 253 #[.val (.int p0), .val (.int p1), .val (.int p2), .val (.int p3), .val (.int p4), .val (.int p5), .val (.int (4 : Int32)), .val (.ref a734), .val (.int r799), .val (.int r802), .val (.int (1 : Int32)), .unset] [(.ref a830)])
                            refine g_astore (l' := #[.val (.int p0), .val (.int p1), .val (.int p2), .val (.int p3), .val (.int p4), .val (.int p5), .val (.int (4 : Int32)), .val (.ref a734), .val (.int r799), .val (.int r802), .val (.int (1 : Int32)), .val (.ref a830)]) X830 hx 255 (hb hby at_253) rfl rfl rfl ?_
                            refine g_aload X830 hx 257 (hb hby at_255) rfl rfl rfl ?_
                            refine g_virt X830 hx hZ (C := "com/example/recolecta/recolecta/Bins") hown (hw _ (List.mem_of_getElem? (i := 29) rfl)) (hw _ (List.mem_of_getElem? (i := 30) rfl)) (hw _ (List.mem_of_getElem? (i := 32) rfl)) (hw _ (List.mem_of_getElem? (i := 32) rfl)) (hw _ (List.mem_of_getElem? (i := 31) rfl)) (hw _ (List.mem_of_getElem? (i := 3) rfl)) (hw _ (List.mem_of_getElem? (i := 33) rfl)) (by decide) (rm7 l Z a0 hw a830 T830.heap n0 Z834 lo F1830) rfl (b := a830) Ea830 (argsL := []) (rest := []) rfl rfl 0 260 rfl (by rw [hml]; rfl) (lenOf own_pd5 rfl) (Nat.le_refl _) (by decide) (by decide) (by decide) (by decide) (hb hby at_257) ?_
                            intro v835 T835 L835 X835 hQ835
                            obtain ⟨rfl, N835, q835⟩ := hQ835
                            have N836 := Fr.app N831 N835
                            show Go p e below _ T835 (mkF m 260 #[.val (.int p0), .val (.int p1), .val (.int p2), .val (.int p3), .val (.int p4), .val (.int p5), .val (.int (4 : Int32)), .val (.ref a734), .val (.int r799), .val (.int r802), .val (.int (1 : Int32)), .val (.ref a830)] [(.double lo)])
                            refine g_iload X835 hx 262 (hb hby at_260) rfl rfl ?_
                            refine g_i2d X835 hx 263 (hb hby at_262) rfl ?_
                            refine g_dc_ne X835 hx 264 293 267 (hb hby at_263) rfl (hb hby at_264) (by decide) (by decide) rfl (Jvm.FP.Core.dcmp_int dn (Jvm.FP.Core.i2d_int r799)) (fun c837 => ?_) (fun c837 => ?_)
                            · skip
                              exfalso; omega
                            · skip
                              refine g_aload X835 hx 269 (hb hby at_267) rfl rfl rfl ?_
                              refine g_virt X835 hx hZ (C := "com/example/recolecta/recolecta/Bins") hown (hw _ (List.mem_of_getElem? (i := 34) rfl)) (hw _ (List.mem_of_getElem? (i := 35) rfl)) (hw _ (List.mem_of_getElem? (i := 37) rfl)) (hw _ (List.mem_of_getElem? (i := 37) rfl)) (hw _ (List.mem_of_getElem? (i := 36) rfl)) (hw _ (List.mem_of_getElem? (i := 3) rfl)) (hw _ (List.mem_of_getElem? (i := 38) rfl)) (by decide) (rm8 l Z a0 hw a830 T830.heap n0 Z834 hi F2830) q835 (b := a830) Ea830 (argsL := []) (rest := []) rfl rfl 0 272 rfl (by rw [hml]; rfl) (lenOf own_pd5 rfl) (Nat.le_refl _) (by decide) (by decide) (by decide) (by decide) (hb hby at_269) ?_
                              intro v838 T838 L838 X838 hQ838
                              obtain ⟨rfl, N838, q838⟩ := hQ838
                              have N839 := Fr.app N836 N838
                              show Go p e below _ T838 (mkF m 272 #[.val (.int p0), .val (.int p1), .val (.int p2), .val (.int p3), .val (.int p4), .val (.int p5), .val (.int (4 : Int32)), .val (.ref a734), .val (.int r799), .val (.int r802), .val (.int (1 : Int32)), .val (.ref a830)] [(.double hi)])
                              refine g_iload X838 hx 274 (hb hby at_272) rfl rfl ?_
                              refine g_i2d X838 hx 275 (hb hby at_274) rfl ?_
                              refine g_dc_ne X838 hx 276 293 279 (hb hby at_275) rfl (hb hby at_276) (by decide) (by decide) rfl (Jvm.FP.Core.dcmp_int dx (Jvm.FP.Core.i2d_int r802)) (fun c840 => ?_) (fun c840 => ?_)
                              · skip
                                exfalso; omega
                              · skip
                                refine g_aload X838 hx 281 (hb hby at_279) rfl rfl rfl ?_
                                refine g_virt X838 hx hZ (C := "com/example/recolecta/recolecta/Bins") hown (hw _ (List.mem_of_getElem? (i := 39) rfl)) (hw _ (List.mem_of_getElem? (i := 40) rfl)) (hw _ (List.mem_of_getElem? (i := 42) rfl)) (hw _ (List.mem_of_getElem? (i := 42) rfl)) (hw _ (List.mem_of_getElem? (i := 41) rfl)) (hw _ (List.mem_of_getElem? (i := 3) rfl)) (hw _ (List.mem_of_getElem? (i := 43) rfl)) (by decide) (rm9 l Z a0 hw a830 T830.heap n0 Z834 r F3830) q838 (b := a830) Ea830 (argsL := []) (rest := []) rfl rfl 0 284 rfl (by rw [hml]; rfl) (lenOf own_pd6 rfl) (Nat.le_refl _) (by decide) (by decide) (by decide) (by decide) (hb hby at_281) ?_
                                intro v841 T841 L841 X841 hQ841
                                obtain ⟨rfl, N841, q841⟩ := hQ841
                                have N842 := Fr.app N839 N841
                                show Go p e below _ T841 (mkF m 284 #[.val (.int p0), .val (.int p1), .val (.int p2), .val (.int p3), .val (.int p4), .val (.int p5), .val (.int (4 : Int32)), .val (.ref a734), .val (.int r799), .val (.int r802), .val (.int (1 : Int32)), .val (.ref a830)] [(.int r)])
                                refine g_iload X841 hx 286 (hb hby at_284) rfl rfl ?_
                                have L := fun q => own_lit (r2 q) (by decide)
                                have ln : (4 : Int32).toInt = 4 := by decide
                                have ll844 : ((1 : Int32) : Int32).toInt = 1 := by decide
                                refine g_ic_ne X841 hx 293 289 (hb hby at_286) (by decide) (by decide) rfl (fun c843 => ?_) (fun c843 => ?_)
                                · skip
                                  have l1 : (1 : Int32).toInt = 1 := by decide
                                  have l2 : (2 : Int32).toInt = 2 := by decide
                                  have l3 : (3 : Int32).toInt = 3 := by decide
                                  have l4 : (4 : Int32).toInt = 4 := by decide
                                  have q1 := r1 (by omega)
                                  exfalso; omega
                                · skip
                                  refine g_iconst X841 hx (1 : Int32) 290 (hb hby at_289) rfl (by decide) ?_
                                  refine g_goto X841 hx 294 (hb hby at_290) (by decide) (by decide) ?_
                                  exact g_retZ X841 hx hlk hret (hb hby at_294) (by decide) (by decide) q841 ⟨rfl, N842⟩
                        · skip
                          exfalso; revert c805; decide
                · skip
                  exfalso; revert c775; decide
              · skip
                exfalso; revert c772; decide
            · skip
              exfalso; revert c769; decide
          · skip
            exfalso; revert c766; decide
  · skip
    refine g_iload X0 hx 10 (hb hby at_8) rfl rfl ?_
    refine g_newP X0 hx hZ (aty := .double) (hw _ (List.mem_of_getElem? (i := 0) rfl)) e0 (by decide) (cap := 5) (by decide) (by decide) 12 (hb hby at_10) rfl (by decide) (by decide) (ad := "[D") (by decide) ?_
    intro T845 h845 k845 a845 g845 X845 e845 E845 V845 A845
    have ge846 : n0 ≤ a845 := by rw [g845]; exact Z0
    have Z847 : n0 ≤ h845.size := Nat.le_trans Z0 E845.1
    have V845' : Arv Z h845 a845 k845 .double (5 : Int32) [(.double (0 : UInt64)), (.double (0 : UInt64)), (.double (0 : UInt64)), (.double (0 : UInt64)), (.double (0 : UInt64))] (.double (0 : UInt64)) := V845.pad (pad_rep [] (.double (0 : UInt64)) 5)
    refine g_astore (l' := #[.val (.int p0), .val (.int p1), .val (.int p2), .val (.int p3), .val (.int p4), .val (.int p5), .val (.int (5 : Int32)), .val (.ref a845), .unset, .unset, .unset, .unset]) X845 hx 14 (hb hby at_12) rfl rfl rfl ?_
    refine g_aload X845 hx 16 (hb hby at_14) rfl rfl rfl ?_
    refine g_iconst X845 hx (0 : Int32) 17 (hb hby at_16) rfl (by decide) ?_
    refine g_iloadN X845 hx 18 (hb hby at_17) rfl rfl ?_
    refine g_i2d X845 hx 19 (hb hby at_18) rfl ?_
    refine g_dastore X845 hx hZ e845 V845' 0 (by decide) (by decide) (by show 0 < 5; decide) 20 (hb hby at_19) rfl ?_
    intro T848 h848 X848 e848 W848 V848
    have F849 := A845.wr W848
    have N851 := Fr.snoc X848 N0 ge846
    have Z852 : n0 ≤ h848.size := by rw [W848.size]; exact Z847
    have V848' : Arv Z h848 a845 k845 .double (5 : Int32) [(.double (FP.i2d p1)), (.double (0 : UInt64)), (.double (0 : UInt64)), (.double (0 : UInt64)), (.double (0 : UInt64))] (.double (0 : UInt64)) := V848
    refine g_iload X848 hx 22 (hb hby at_20) rfl rfl ?_
    refine g_iconst X848 hx (1 : Int32) 23 (hb hby at_22) rfl (by decide) ?_
    have ll854 : ((1 : Int32) : Int32).toInt = 1 := by decide
    have ll855 : ((5 : Int32) : Int32).toInt = 5 := by decide
    refine g_ic_le X848 hx 32 26 (hb hby at_23) (by decide) (by decide) rfl (fun c853 => ?_) (fun c853 => ?_)
    · skip
      exfalso; revert c853; decide
    · skip
      refine g_aload X848 hx 28 (hb hby at_26) rfl rfl rfl ?_
      refine g_iconst X848 hx (1 : Int32) 29 (hb hby at_28) rfl (by decide) ?_
      refine g_iloadN X848 hx 30 (hb hby at_29) rfl rfl ?_
      refine g_i2d X848 hx 31 (hb hby at_30) rfl ?_
      refine g_dastore X848 hx hZ e848 V848' 1 (by decide) (by decide) (by show 1 < 5; decide) 32 (hb hby at_31) rfl ?_
      intro T856 h856 X856 e856 W856 V856
      have F857 := F849.wr W856
      have N859 := Fr.snoc X856 N851 ge846
      have Z860 : n0 ≤ h856.size := by rw [W856.size]; exact Z852
      have V856' : Arv Z h856 a845 k845 .double (5 : Int32) [(.double (FP.i2d p1)), (.double (FP.i2d p2)), (.double (0 : UInt64)), (.double (0 : UInt64)), (.double (0 : UInt64))] (.double (0 : UInt64)) := V856
      refine g_iload X856 hx 34 (hb hby at_32) rfl rfl ?_
      refine g_iconst X856 hx (2 : Int32) 35 (hb hby at_34) rfl (by decide) ?_
      have ll862 : ((2 : Int32) : Int32).toInt = 2 := by decide
      have ll863 : ((5 : Int32) : Int32).toInt = 5 := by decide
      refine g_ic_le X856 hx 44 38 (hb hby at_35) (by decide) (by decide) rfl (fun c861 => ?_) (fun c861 => ?_)
      · skip
        exfalso; revert c861; decide
      · skip
        refine g_aload X856 hx 40 (hb hby at_38) rfl rfl rfl ?_
        refine g_iconst X856 hx (2 : Int32) 41 (hb hby at_40) rfl (by decide) ?_
        refine g_iloadN X856 hx 42 (hb hby at_41) rfl rfl ?_
        refine g_i2d X856 hx 43 (hb hby at_42) rfl ?_
        refine g_dastore X856 hx hZ e856 V856' 2 (by decide) (by decide) (by show 2 < 5; decide) 44 (hb hby at_43) rfl ?_
        intro T864 h864 X864 e864 W864 V864
        have F865 := F857.wr W864
        have N867 := Fr.snoc X864 N859 ge846
        have Z868 : n0 ≤ h864.size := by rw [W864.size]; exact Z860
        have V864' : Arv Z h864 a845 k845 .double (5 : Int32) [(.double (FP.i2d p1)), (.double (FP.i2d p2)), (.double (FP.i2d p3)), (.double (0 : UInt64)), (.double (0 : UInt64))] (.double (0 : UInt64)) := V864
        refine g_iload X864 hx 46 (hb hby at_44) rfl rfl ?_
        refine g_iconst X864 hx (3 : Int32) 47 (hb hby at_46) rfl (by decide) ?_
        have ll870 : ((3 : Int32) : Int32).toInt = 3 := by decide
        have ll871 : ((5 : Int32) : Int32).toInt = 5 := by decide
        refine g_ic_le X864 hx 57 50 (hb hby at_47) (by decide) (by decide) rfl (fun c869 => ?_) (fun c869 => ?_)
        · skip
          exfalso; revert c869; decide
        · skip
          refine g_aload X864 hx 52 (hb hby at_50) rfl rfl rfl ?_
          refine g_iconst X864 hx (3 : Int32) 53 (hb hby at_52) rfl (by decide) ?_
          refine g_iload X864 hx 55 (hb hby at_53) rfl rfl ?_
          refine g_i2d X864 hx 56 (hb hby at_55) rfl ?_
          refine g_dastore X864 hx hZ e864 V864' 3 (by decide) (by decide) (by show 3 < 5; decide) 57 (hb hby at_56) rfl ?_
          intro T872 h872 X872 e872 W872 V872
          have F873 := F865.wr W872
          have N875 := Fr.snoc X872 N867 ge846
          have Z876 : n0 ≤ h872.size := by rw [W872.size]; exact Z868
          have V872' : Arv Z h872 a845 k845 .double (5 : Int32) [(.double (FP.i2d p1)), (.double (FP.i2d p2)), (.double (FP.i2d p3)), (.double (FP.i2d p4)), (.double (0 : UInt64))] (.double (0 : UInt64)) := V872
          refine g_iload X872 hx 59 (hb hby at_57) rfl rfl ?_
          refine g_iconst X872 hx (4 : Int32) 60 (hb hby at_59) rfl (by decide) ?_
          have ll878 : ((4 : Int32) : Int32).toInt = 4 := by decide
          have ll879 : ((5 : Int32) : Int32).toInt = 5 := by decide
          refine g_ic_le X872 hx 70 63 (hb hby at_60) (by decide) (by decide) rfl (fun c877 => ?_) (fun c877 => ?_)
          · skip
            exfalso; revert c877; decide
          · skip
            refine g_aload X872 hx 65 (hb hby at_63) rfl rfl rfl ?_
            refine g_iconst X872 hx (4 : Int32) 66 (hb hby at_65) rfl (by decide) ?_
            refine g_iload X872 hx 68 (hb hby at_66) rfl rfl ?_
            refine g_i2d X872 hx 69 (hb hby at_68) rfl ?_
            refine g_dastore X872 hx hZ e872 V872' 4 (by decide) (by decide) (by show 4 < 5; decide) 70 (hb hby at_69) rfl ?_
            intro T880 h880 X880 e880 W880 V880
            have F881 := F873.wr W880
            have N883 := Fr.snoc X880 N875 ge846
            have Z884 : n0 ≤ h880.size := by rw [W880.size]; exact Z876
            have V880' : Arv Z h880 a845 k845 .double (5 : Int32) [(.double (FP.i2d p1)), (.double (FP.i2d p2)), (.double (FP.i2d p3)), (.double (FP.i2d p4)), (.double (FP.i2d p5))] (.double (0 : UInt64)) := V880
            refine g_iload X880 hx 72 (hb hby at_70) rfl rfl ?_
            refine g_iconst X880 hx (5 : Int32) 73 (hb hby at_72) rfl (by decide) ?_
            have ll886 : ((5 : Int32) : Int32).toInt = 5 := by decide
            have ll887 : ((5 : Int32) : Int32).toInt = 5 := by decide
            refine g_ic_le X880 hx 82 76 (hb hby at_73) (by decide) (by decide) rfl (fun c885 => ?_) (fun c885 => ?_)
            · skip
              refine g_iload X880 hx 84 (hb hby at_82) rfl rfl ?_
              refine g_bipush X880 hx (6 : Int32) 86 (hb hby at_84) rfl (by decide) ?_
              have ll889 : ((6 : Int32) : Int32).toInt = 6 := by decide
              have ll890 : ((5 : Int32) : Int32).toInt = 5 := by decide
              refine g_ic_le X880 hx 96 89 (hb hby at_86) (by decide) (by decide) rfl (fun c888 => ?_) (fun c888 => ?_)
              · skip
                refine g_iload X880 hx 98 (hb hby at_96) rfl rfl ?_
                refine g_bipush X880 hx (7 : Int32) 100 (hb hby at_98) rfl (by decide) ?_
                have ll892 : ((7 : Int32) : Int32).toInt = 7 := by decide
                have ll893 : ((5 : Int32) : Int32).toInt = 5 := by decide
                refine g_ic_le X880 hx 110 103 (hb hby at_100) (by decide) (by decide) rfl (fun c891 => ?_) (fun c891 => ?_)
                · skip
                  refine g_iloadN X880 hx 111 (hb hby at_110) rfl rfl ?_
                  refine g_istore (l' := #[.val (.int p0), .val (.int p1), .val (.int p2), .val (.int p3), .val (.int p4), .val (.int p5), .val (.int (5 : Int32)), .val (.ref a845), .val (.int p1), .unset, .unset, .unset]) X880 hx 113 (hb hby at_111) rfl rfl ?_
                  refine g_iloadN X880 hx 114 (hb hby at_113) rfl rfl ?_
                  refine g_istore (l' := #[.val (.int p0), .val (.int p1), .val (.int p2), .val (.int p3), .val (.int p4), .val (.int p5), .val (.int (5 : Int32)), .val (.ref a845), .val (.int p1), .val (.int p1), .unset, .unset]) X880 hx 116 (hb hby at_114) rfl rfl ?_
                  refine g_iload X880 hx 118 (hb hby at_116) rfl rfl ?_
                  refine g_iconst X880 hx (1 : Int32) 119 (hb hby at_118) rfl (by decide) ?_
                  have ll895 : ((1 : Int32) : Int32).toInt = 1 := by decide
                  have ll896 : ((5 : Int32) : Int32).toInt = 5 := by decide
                  refine g_ic_le X880 hx 138 122 (hb hby at_119) (by decide) (by decide) rfl (fun c894 => ?_) (fun c894 => ?_)
                  · skip
                    exfalso; revert c894; decide
                  · skip
                    refine g_iload X880 hx 124 (hb hby at_122) rfl rfl ?_
                    refine g_iloadN X880 hx 125 (hb hby at_124) rfl rfl ?_
                    refine g_static X880 hx hZ hown (hw _ (List.mem_of_getElem? (i := 44) rfl)) (hw _ (List.mem_of_getElem? (i := 45) rfl)) (hw _ (List.mem_of_getElem? (i := 7) rfl)) (hw _ (List.mem_of_getElem? (i := 46) rfl)) (by decide) (rm10 l Z a0 hw p1 p2 h880 n0 Z884) e880 (argsL := [(.int p1), (.int p2)]) (rest := []) rfl rfl 0 128 rfl (by rw [hml]; rfl) (lenOf own_pd7 rfl) (Nat.le_refl _) (by decide) (by decide) (by decide) (by decide) (hb hby at_125) ?_
                    intro v898 T898 L898 X898 hQ898
                    obtain ⟨r897, rfl, ⟨a1, a2, a3⟩, N898, q898⟩ := hQ898
                    have N899 := Fr.app N883 N898
                    have Ir897 := own_minS (own_min1 p1.toInt) a1 a2 a3
                    clear a1 a2 a3
                    show Go p e below _ T898 (mkF m 128 #[.val (.int p0), .val (.int p1), .val (.int p2), .val (.int p3), .val (.int p4), .val (.int p5), .val (.int (5 : Int32)), .val (.ref a845), .val (.int p1), .val (.int p1), .unset, .unset] [(.int r897)])
                    refine g_istore (l' := #[.val (.int p0), .val (.int p1), .val (.int p2), .val (.int p3), .val (.int p4), .val (.int p5), .val (.int (5 : Int32)), .val (.ref a845), .val (.int r897), .val (.int p1), .unset, .unset]) X898 hx 130 (hb hby at_128) rfl rfl ?_
                    refine g_iload X898 hx 132 (hb hby at_130) rfl rfl ?_
                    refine g_iloadN X898 hx 133 (hb hby at_132) rfl rfl ?_
                    refine g_static X898 hx hZ hown (hw _ (List.mem_of_getElem? (i := 47) rfl)) (hw _ (List.mem_of_getElem? (i := 48) rfl)) (hw _ (List.mem_of_getElem? (i := 7) rfl)) (hw _ (List.mem_of_getElem? (i := 49) rfl)) (by decide) (rm11 l Z a0 hw p1 p2 h880 n0 Z884) q898 (argsL := [(.int p1), (.int p2)]) (rest := []) rfl rfl 0 136 rfl (by rw [hml]; rfl) (lenOf own_pd7 rfl) (Nat.le_refl _) (by decide) (by decide) (by decide) (by decide) (hb hby at_133) ?_
                    intro v901 T901 L901 X901 hQ901
                    obtain ⟨r900, rfl, ⟨a1, a2, a3⟩, N901, q901⟩ := hQ901
                    have N902 := Fr.app N899 N901
                    have Ir900 := own_maxS (own_max1 p1.toInt) a1 a2 a3
                    clear a1 a2 a3
                    show Go p e below _ T901 (mkF m 136 #[.val (.int p0), .val (.int p1), .val (.int p2), .val (.int p3), .val (.int p4), .val (.int p5), .val (.int (5 : Int32)), .val (.ref a845), .val (.int r897), .val (.int p1), .unset, .unset] [(.int r900)])
                    refine g_istore (l' := #[.val (.int p0), .val (.int p1), .val (.int p2), .val (.int p3), .val (.int p4), .val (.int p5), .val (.int (5 : Int32)), .val (.ref a845), .val (.int r897), .val (.int r900), .unset, .unset]) X901 hx 138 (hb hby at_136) rfl rfl ?_
                    refine g_iload X901 hx 140 (hb hby at_138) rfl rfl ?_
                    refine g_iconst X901 hx (2 : Int32) 141 (hb hby at_140) rfl (by decide) ?_
                    have ll904 : ((2 : Int32) : Int32).toInt = 2 := by decide
                    have ll905 : ((5 : Int32) : Int32).toInt = 5 := by decide
                    refine g_ic_le X901 hx 160 144 (hb hby at_141) (by decide) (by decide) rfl (fun c903 => ?_) (fun c903 => ?_)
                    · skip
                      exfalso; revert c903; decide
                    · skip
                      refine g_iload X901 hx 146 (hb hby at_144) rfl rfl ?_
                      refine g_iloadN X901 hx 147 (hb hby at_146) rfl rfl ?_
                      refine g_static X901 hx hZ hown (hw _ (List.mem_of_getElem? (i := 44) rfl)) (hw _ (List.mem_of_getElem? (i := 45) rfl)) (hw _ (List.mem_of_getElem? (i := 7) rfl)) (hw _ (List.mem_of_getElem? (i := 46) rfl)) (by decide) (rm10 l Z a0 hw r897 p3 h880 n0 Z884) q901 (argsL := [(.int r897), (.int p3)]) (rest := []) rfl rfl 0 150 rfl (by rw [hml]; rfl) (lenOf own_pd7 rfl) (Nat.le_refl _) (by decide) (by decide) (by decide) (by decide) (hb hby at_147) ?_
                      intro v907 T907 L907 X907 hQ907
                      obtain ⟨r906, rfl, ⟨a1, a2, a3⟩, N907, q907⟩ := hQ907
                      have N908 := Fr.app N902 N907
                      have Ir906 := own_minS Ir897 a1 a2 a3
                      clear a1 a2 a3
                      show Go p e below _ T907 (mkF m 150 #[.val (.int p0), .val (.int p1), .val (.int p2), .val (.int p3), .val (.int p4), .val (.int p5), .val (.int (5 : Int32)), .val (.ref a845), .val (.int r897), .val (.int r900), .unset, .unset] [(.int r906)])
                      refine g_istore (l' := #[.val (.int p0), .val (.int p1), .val (.int p2), .val (.int p3), .val (.int p4), .val (.int p5), .val (.int (5 : Int32)), .val (.ref a845), .val (.int r906), .val (.int r900), .unset, .unset]) X907 hx 152 (hb hby at_150) rfl rfl ?_
                      refine g_iload X907 hx 154 (hb hby at_152) rfl rfl ?_
                      refine g_iloadN X907 hx 155 (hb hby at_154) rfl rfl ?_
                      refine g_static X907 hx hZ hown (hw _ (List.mem_of_getElem? (i := 47) rfl)) (hw _ (List.mem_of_getElem? (i := 48) rfl)) (hw _ (List.mem_of_getElem? (i := 7) rfl)) (hw _ (List.mem_of_getElem? (i := 49) rfl)) (by decide) (rm11 l Z a0 hw r900 p3 h880 n0 Z884) q907 (argsL := [(.int r900), (.int p3)]) (rest := []) rfl rfl 0 158 rfl (by rw [hml]; rfl) (lenOf own_pd7 rfl) (Nat.le_refl _) (by decide) (by decide) (by decide) (by decide) (hb hby at_155) ?_
                      intro v910 T910 L910 X910 hQ910
                      obtain ⟨r909, rfl, ⟨a1, a2, a3⟩, N910, q910⟩ := hQ910
                      have N911 := Fr.app N908 N910
                      have Ir909 := own_maxS Ir900 a1 a2 a3
                      clear a1 a2 a3
                      show Go p e below _ T910 (mkF m 158 #[.val (.int p0), .val (.int p1), .val (.int p2), .val (.int p3), .val (.int p4), .val (.int p5), .val (.int (5 : Int32)), .val (.ref a845), .val (.int r906), .val (.int r900), .unset, .unset] [(.int r909)])
                      refine g_istore (l' := #[.val (.int p0), .val (.int p1), .val (.int p2), .val (.int p3), .val (.int p4), .val (.int p5), .val (.int (5 : Int32)), .val (.ref a845), .val (.int r906), .val (.int r909), .unset, .unset]) X910 hx 160 (hb hby at_158) rfl rfl ?_
                      refine g_iload X910 hx 162 (hb hby at_160) rfl rfl ?_
                      refine g_iconst X910 hx (3 : Int32) 163 (hb hby at_162) rfl (by decide) ?_
                      have ll913 : ((3 : Int32) : Int32).toInt = 3 := by decide
                      have ll914 : ((5 : Int32) : Int32).toInt = 5 := by decide
                      refine g_ic_le X910 hx 184 166 (hb hby at_163) (by decide) (by decide) rfl (fun c912 => ?_) (fun c912 => ?_)
                      · skip
                        exfalso; revert c912; decide
                      · skip
                        refine g_iload X910 hx 168 (hb hby at_166) rfl rfl ?_
                        refine g_iload X910 hx 170 (hb hby at_168) rfl rfl ?_
                        refine g_static X910 hx hZ hown (hw _ (List.mem_of_getElem? (i := 44) rfl)) (hw _ (List.mem_of_getElem? (i := 45) rfl)) (hw _ (List.mem_of_getElem? (i := 7) rfl)) (hw _ (List.mem_of_getElem? (i := 46) rfl)) (by decide) (rm10 l Z a0 hw r906 p4 h880 n0 Z884) q910 (argsL := [(.int r906), (.int p4)]) (rest := []) rfl rfl 0 173 rfl (by rw [hml]; rfl) (lenOf own_pd7 rfl) (Nat.le_refl _) (by decide) (by decide) (by decide) (by decide) (hb hby at_170) ?_
                        intro v916 T916 L916 X916 hQ916
                        obtain ⟨r915, rfl, ⟨a1, a2, a3⟩, N916, q916⟩ := hQ916
                        have N917 := Fr.app N911 N916
                        have Ir915 := own_minS Ir906 a1 a2 a3
                        clear a1 a2 a3
                        show Go p e below _ T916 (mkF m 173 #[.val (.int p0), .val (.int p1), .val (.int p2), .val (.int p3), .val (.int p4), .val (.int p5), .val (.int (5 : Int32)), .val (.ref a845), .val (.int r906), .val (.int r909), .unset, .unset] [(.int r915)])
                        refine g_istore (l' := #[.val (.int p0), .val (.int p1), .val (.int p2), .val (.int p3), .val (.int p4), .val (.int p5), .val (.int (5 : Int32)), .val (.ref a845), .val (.int r915), .val (.int r909), .unset, .unset]) X916 hx 175 (hb hby at_173) rfl rfl ?_
                        refine g_iload X916 hx 177 (hb hby at_175) rfl rfl ?_
                        refine g_iload X916 hx 179 (hb hby at_177) rfl rfl ?_
                        refine g_static X916 hx hZ hown (hw _ (List.mem_of_getElem? (i := 47) rfl)) (hw _ (List.mem_of_getElem? (i := 48) rfl)) (hw _ (List.mem_of_getElem? (i := 7) rfl)) (hw _ (List.mem_of_getElem? (i := 49) rfl)) (by decide) (rm11 l Z a0 hw r909 p4 h880 n0 Z884) q916 (argsL := [(.int r909), (.int p4)]) (rest := []) rfl rfl 0 182 rfl (by rw [hml]; rfl) (lenOf own_pd7 rfl) (Nat.le_refl _) (by decide) (by decide) (by decide) (by decide) (hb hby at_179) ?_
                        intro v919 T919 L919 X919 hQ919
                        obtain ⟨r918, rfl, ⟨a1, a2, a3⟩, N919, q919⟩ := hQ919
                        have N920 := Fr.app N917 N919
                        have Ir918 := own_maxS Ir909 a1 a2 a3
                        clear a1 a2 a3
                        show Go p e below _ T919 (mkF m 182 #[.val (.int p0), .val (.int p1), .val (.int p2), .val (.int p3), .val (.int p4), .val (.int p5), .val (.int (5 : Int32)), .val (.ref a845), .val (.int r915), .val (.int r909), .unset, .unset] [(.int r918)])
                        refine g_istore (l' := #[.val (.int p0), .val (.int p1), .val (.int p2), .val (.int p3), .val (.int p4), .val (.int p5), .val (.int (5 : Int32)), .val (.ref a845), .val (.int r915), .val (.int r918), .unset, .unset]) X919 hx 184 (hb hby at_182) rfl rfl ?_
                        refine g_iload X919 hx 186 (hb hby at_184) rfl rfl ?_
                        refine g_iconst X919 hx (4 : Int32) 187 (hb hby at_186) rfl (by decide) ?_
                        have ll922 : ((4 : Int32) : Int32).toInt = 4 := by decide
                        have ll923 : ((5 : Int32) : Int32).toInt = 5 := by decide
                        refine g_ic_le X919 hx 208 190 (hb hby at_187) (by decide) (by decide) rfl (fun c921 => ?_) (fun c921 => ?_)
                        · skip
                          exfalso; revert c921; decide
                        · skip
                          refine g_iload X919 hx 192 (hb hby at_190) rfl rfl ?_
                          refine g_iload X919 hx 194 (hb hby at_192) rfl rfl ?_
                          refine g_static X919 hx hZ hown (hw _ (List.mem_of_getElem? (i := 44) rfl)) (hw _ (List.mem_of_getElem? (i := 45) rfl)) (hw _ (List.mem_of_getElem? (i := 7) rfl)) (hw _ (List.mem_of_getElem? (i := 46) rfl)) (by decide) (rm10 l Z a0 hw r915 p5 h880 n0 Z884) q919 (argsL := [(.int r915), (.int p5)]) (rest := []) rfl rfl 0 197 rfl (by rw [hml]; rfl) (lenOf own_pd7 rfl) (Nat.le_refl _) (by decide) (by decide) (by decide) (by decide) (hb hby at_194) ?_
                          intro v925 T925 L925 X925 hQ925
                          obtain ⟨r924, rfl, ⟨a1, a2, a3⟩, N925, q925⟩ := hQ925
                          have N926 := Fr.app N920 N925
                          have Ir924 := own_minS Ir915 a1 a2 a3
                          clear a1 a2 a3
                          show Go p e below _ T925 (mkF m 197 #[.val (.int p0), .val (.int p1), .val (.int p2), .val (.int p3), .val (.int p4), .val (.int p5), .val (.int (5 : Int32)), .val (.ref a845), .val (.int r915), .val (.int r918), .unset, .unset] [(.int r924)])
                          refine g_istore (l' := #[.val (.int p0), .val (.int p1), .val (.int p2), .val (.int p3), .val (.int p4), .val (.int p5), .val (.int (5 : Int32)), .val (.ref a845), .val (.int r924), .val (.int r918), .unset, .unset]) X925 hx 199 (hb hby at_197) rfl rfl ?_
                          refine g_iload X925 hx 201 (hb hby at_199) rfl rfl ?_
                          refine g_iload X925 hx 203 (hb hby at_201) rfl rfl ?_
                          refine g_static X925 hx hZ hown (hw _ (List.mem_of_getElem? (i := 47) rfl)) (hw _ (List.mem_of_getElem? (i := 48) rfl)) (hw _ (List.mem_of_getElem? (i := 7) rfl)) (hw _ (List.mem_of_getElem? (i := 49) rfl)) (by decide) (rm11 l Z a0 hw r918 p5 h880 n0 Z884) q925 (argsL := [(.int r918), (.int p5)]) (rest := []) rfl rfl 0 206 rfl (by rw [hml]; rfl) (lenOf own_pd7 rfl) (Nat.le_refl _) (by decide) (by decide) (by decide) (by decide) (hb hby at_203) ?_
                          intro v928 T928 L928 X928 hQ928
                          obtain ⟨r927, rfl, ⟨a1, a2, a3⟩, N928, q928⟩ := hQ928
                          have N929 := Fr.app N926 N928
                          have Ir927 := own_maxS Ir918 a1 a2 a3
                          clear a1 a2 a3
                          show Go p e below _ T928 (mkF m 206 #[.val (.int p0), .val (.int p1), .val (.int p2), .val (.int p3), .val (.int p4), .val (.int p5), .val (.int (5 : Int32)), .val (.ref a845), .val (.int r924), .val (.int r918), .unset, .unset] [(.int r927)])
                          refine g_istore (l' := #[.val (.int p0), .val (.int p1), .val (.int p2), .val (.int p3), .val (.int p4), .val (.int p5), .val (.int (5 : Int32)), .val (.ref a845), .val (.int r924), .val (.int r927), .unset, .unset]) X928 hx 208 (hb hby at_206) rfl rfl ?_
                          refine g_iload X928 hx 210 (hb hby at_208) rfl rfl ?_
                          refine g_iload X928 hx 212 (hb hby at_210) rfl rfl ?_
                          refine g_ic_ne X928 hx 221 215 (hb hby at_212) (by decide) (by decide) rfl (fun c930 => ?_) (fun c930 => ?_)
                          · skip
                            refine g_iload X928 hx 223 (hb hby at_221) rfl rfl ?_
                            refine g_iconst X928 hx (2 : Int32) 224 (hb hby at_223) rfl (by decide) ?_
                            have ll932 : ((2 : Int32) : Int32).toInt = 2 := by decide
                            have ll933 : ((5 : Int32) : Int32).toInt = 5 := by decide
                            refine g_ic_ne X928 hx 233 227 (hb hby at_224) (by decide) (by decide) rfl (fun c931 => ?_) (fun c931 => ?_)
                            · skip
                              refine g_iload X928 hx 235 (hb hby at_233) rfl rfl ?_
                              refine g_iconst X928 hx (4 : Int32) 236 (hb hby at_235) rfl (by decide) ?_
                              have ll935 : ((4 : Int32) : Int32).toInt = 4 := by decide
                              have ll936 : ((5 : Int32) : Int32).toInt = 5 := by decide
                              refine g_ic_gt X928 hx 245 239 (hb hby at_236) (by decide) (by decide) rfl (fun c934 => ?_) (fun c934 => ?_)
                              · skip
                                refine g_iconst X928 hx (4 : Int32) 246 (hb hby at_245) rfl (by decide) ?_
                                refine g_istore (l' := #[.val (.int p0), .val (.int p1), .val (.int p2), .val (.int p3), .val (.int p4), .val (.int p5), .val (.int (5 : Int32)), .val (.ref a845), .val (.int r924), .val (.int r927), .val (.int (4 : Int32)), .unset]) X928 hx 248 (hb hby at_246) rfl rfl ?_
                                refine g_aload X928 hx 250 (hb hby at_248) rfl rfl rfl ?_
                                refine g_static X928 hx hZ hown (hw _ (List.mem_of_getElem? (i := 1) rfl)) (hw _ (List.mem_of_getElem? (i := 2) rfl)) (hw _ (List.mem_of_getElem? (i := 3) rfl)) (hw _ (List.mem_of_getElem? (i := 4) rfl)) (by decide) (rm1_5 l Z a0 hw a845 h880 n0 Z884 k845 (FP.i2d p1) p1.toInt W1 (FP.i2d p2) p2.toInt W2 (FP.i2d p3) p3.toInt W3 (FP.i2d p4) p4.toInt W4 (FP.i2d p5) p5.toInt W5 V880') q928 (argsL := [(.ref a845)]) (rest := []) rfl rfl 0 253 rfl (by rw [hml]; rfl) (lenOf own_pd0 rfl) (Nat.le_refl _) (by decide) (by decide) (by decide) (by decide) (hb hby at_250) ?_
                                intro v937 T937 L937 X937 hQ937
                                obtain ⟨a937, rfl, N937, ga937, K937, Ea937, lo, hi, r, mi, ma, F1937, F2937, F3937, dn, dx, Mi, Ma, r1, r2⟩ := hQ937
                                have E1 := own_minEq Mi Ir924 (fun x hx => by simp only [List.mem_cons, List.not_mem_nil, or_false] at hx ⊢; omega) (fun x hx => by simp only [List.mem_cons, List.not_mem_nil, or_false] at hx ⊢; omega)
                                have E2 := own_maxEq Ma Ir927 (fun x hx => by simp only [List.mem_cons, List.not_mem_nil, or_false] at hx ⊢; omega) (fun x hx => by simp only [List.mem_cons, List.not_mem_nil, or_false] at hx ⊢; omega)
                                have N938 := Fr.app N929 N937
                                have F939 := F881.keep K937
                                have F940 := V880'.keep K937 nin0
                                have Z941 : n0 ≤ T937.heap.size := Nat.le_trans Z884 K937.1
                                show Go p e below _ T937 (mkF m 253 #[.val (.int p0), .val (.int p1), .val (.int p2), .val (.int p3), .val (.int p4), .val (.int p5), .val (.int (5 : Int32)), .val (.ref a845), .val (.int r924), .val (.int r927), .val (.int (4 : Int32)), .unset] [(.ref a937)])
                                refine g_astore (l' := #[.val (.int p0), .val (.int p1), .val (.int p2), .val (.int p3), .val (.int p4), .val (.int p5), .val (.int (5 : Int32)), .val (.ref a845), .val (.int r924), .val (.int r927), .val (.int (4 : Int32)), .val (.ref a937)]) X937 hx 255 (hb hby at_253) rfl rfl rfl ?_
                                refine g_aload X937 hx 257 (hb hby at_255) rfl rfl rfl ?_
                                refine g_virt X937 hx hZ (C := "com/example/recolecta/recolecta/Bins") hown (hw _ (List.mem_of_getElem? (i := 29) rfl)) (hw _ (List.mem_of_getElem? (i := 30) rfl)) (hw _ (List.mem_of_getElem? (i := 32) rfl)) (hw _ (List.mem_of_getElem? (i := 32) rfl)) (hw _ (List.mem_of_getElem? (i := 31) rfl)) (hw _ (List.mem_of_getElem? (i := 3) rfl)) (hw _ (List.mem_of_getElem? (i := 33) rfl)) (by decide) (rm7 l Z a0 hw a937 T937.heap n0 Z941 lo F1937) rfl (b := a937) Ea937 (argsL := []) (rest := []) rfl rfl 0 260 rfl (by rw [hml]; rfl) (lenOf own_pd5 rfl) (Nat.le_refl _) (by decide) (by decide) (by decide) (by decide) (hb hby at_257) ?_
                                intro v942 T942 L942 X942 hQ942
                                obtain ⟨rfl, N942, q942⟩ := hQ942
                                have N943 := Fr.app N938 N942
                                show Go p e below _ T942 (mkF m 260 #[.val (.int p0), .val (.int p1), .val (.int p2), .val (.int p3), .val (.int p4), .val (.int p5), .val (.int (5 : Int32)), .val (.ref a845), .val (.int r924), .val (.int r927), .val (.int (4 : Int32)), .val (.ref a937)] [(.double lo)])
                                refine g_iload X942 hx 262 (hb hby at_260) rfl rfl ?_
                                refine g_i2d X942 hx 263 (hb hby at_262) rfl ?_
                                refine g_dc_ne X942 hx 264 293 267 (hb hby at_263) rfl (hb hby at_264) (by decide) (by decide) rfl (Jvm.FP.Core.dcmp_int dn (Jvm.FP.Core.i2d_int r924)) (fun c944 => ?_) (fun c944 => ?_)
                                · skip
                                  exfalso; omega
                                · skip
                                  refine g_aload X942 hx 269 (hb hby at_267) rfl rfl rfl ?_
                                  refine g_virt X942 hx hZ (C := "com/example/recolecta/recolecta/Bins") hown (hw _ (List.mem_of_getElem? (i := 34) rfl)) (hw _ (List.mem_of_getElem? (i := 35) rfl)) (hw _ (List.mem_of_getElem? (i := 37) rfl)) (hw _ (List.mem_of_getElem? (i := 37) rfl)) (hw _ (List.mem_of_getElem? (i := 36) rfl)) (hw _ (List.mem_of_getElem? (i := 3) rfl)) (hw _ (List.mem_of_getElem? (i := 38) rfl)) (by decide) (rm8 l Z a0 hw a937 T937.heap n0 Z941 hi F2937) q942 (b := a937) Ea937 (argsL := []) (rest := []) rfl rfl 0 272 rfl (by rw [hml]; rfl) (lenOf own_pd5 rfl) (Nat.le_refl _) (by decide) (by decide) (by decide) (by decide) (hb hby at_269) ?_
                                  intro v945 T945 L945 X945 hQ945
                                  obtain ⟨rfl, N945, q945⟩ := hQ945
                                  have N946 := Fr.app N943 N945
                                  show Go p e below _ T945 (mkF m 272 #[.val (.int p0), .val (.int p1), .val (.int p2), .val (.int p3), .val (.int p4), .val (.int p5), .val (.int (5 : Int32)), .val (.ref a845), .val (.int r924), .val (.int r927), .val (.int (4 : Int32)), .val (.ref a937)] [(.double hi)])
                                  refine g_iload X945 hx 274 (hb hby at_272) rfl rfl ?_
                                  refine g_i2d X945 hx 275 (hb hby at_274) rfl ?_
                                  refine g_dc_ne X945 hx 276 293 279 (hb hby at_275) rfl (hb hby at_276) (by decide) (by decide) rfl (Jvm.FP.Core.dcmp_int dx (Jvm.FP.Core.i2d_int r927)) (fun c947 => ?_) (fun c947 => ?_)
                                  · skip
                                    exfalso; omega
                                  · skip
                                    refine g_aload X945 hx 281 (hb hby at_279) rfl rfl rfl ?_
                                    refine g_virt X945 hx hZ (C := "com/example/recolecta/recolecta/Bins") hown (hw _ (List.mem_of_getElem? (i := 39) rfl)) (hw _ (List.mem_of_getElem? (i := 40) rfl)) (hw _ (List.mem_of_getElem? (i := 42) rfl)) (hw _ (List.mem_of_getElem? (i := 42) rfl)) (hw _ (List.mem_of_getElem? (i := 41) rfl)) (hw _ (List.mem_of_getElem? (i := 3) rfl)) (hw _ (List.mem_of_getElem? (i := 43) rfl)) (by decide) (rm9 l Z a0 hw a937 T937.heap n0 Z941 r F3937) q945 (b := a937) Ea937 (argsL := []) (rest := []) rfl rfl 0 284 rfl (by rw [hml]; rfl) (lenOf own_pd6 rfl) (Nat.le_refl _) (by decide) (by decide) (by decide) (by decide) (hb hby at_281) ?_
                                    intro v948 T948 L948 X948 hQ948
                                    obtain ⟨rfl, N948, q948⟩ := hQ948
                                    have N949 := Fr.app N946 N948
                                    show Go p e below _ T948 (mkF m 284 #[.val (.int p0), .val (.int p1), .val (.int p2), .val (.int p3), .val (.int p4), .val (.int p5), .val (.int (5 : Int32)), .val (.ref a845), .val (.int r924), .val (.int r927), .val (.int (4 : Int32)), .val (.ref a937)] [(.int r)])
                                    refine g_iload X948 hx 286 (hb hby at_284) rfl rfl ?_
                                    have L := fun q => own_lit (r2 q) (by decide)
                                    have ln : (5 : Int32).toInt = 5 := by decide
                                    have ll951 : ((4 : Int32) : Int32).toInt = 4 := by decide
                                    refine g_ic_ne X948 hx 293 289 (hb hby at_286) (by decide) (by decide) rfl (fun c950 => ?_) (fun c950 => ?_)
                                    · skip
                                      have l1 : (1 : Int32).toInt = 1 := by decide
                                      have l2 : (2 : Int32).toInt = 2 := by decide
                                      have l3 : (3 : Int32).toInt = 3 := by decide
                                      have l4 : (4 : Int32).toInt = 4 := by decide
                                      have q1 := L (by omega)
                                      exfalso; omega
                                    · skip
                                      refine g_iconst X948 hx (1 : Int32) 290 (hb hby at_289) rfl (by decide) ?_
                                      refine g_goto X948 hx 294 (hb hby at_290) (by decide) (by decide) ?_
                                      exact g_retZ X948 hx hlk hret (hb hby at_294) (by decide) (by decide) q948 ⟨rfl, N949⟩
                              · skip
                                exfalso; revert c934; decide
                            · skip
                              exfalso; revert c931; decide
                          · skip
                            refine g_iconst X928 hx (1 : Int32) 216 (hb hby at_215) rfl (by decide) ?_
                            refine g_istore (l' := #[.val (.int p0), .val (.int p1), .val (.int p2), .val (.int p3), .val (.int p4), .val (.int p5), .val (.int (5 : Int32)), .val (.ref a845), .val (.int r924), .val (.int r927), .val (.int (1 : Int32)), .unset]) X928 hx 218 (hb hby at_216) rfl rfl ?_
                            refine g_goto X928 hx 248 (hb hby at_218) (by decide) (by decide) ?_
                            refine g_aload X928 hx 250 (hb hby at_248) rfl rfl rfl ?_
                            refine g_static X928 hx hZ hown (hw _ (List.mem_of_getElem? (i := 1) rfl)) (hw _ (List.mem_of_getElem? (i := 2) rfl)) (hw _ (List.mem_of_getElem? (i := 3) rfl)) (hw _ (List.mem_of_getElem? (i := 4) rfl)) (by decide) (rm1_5 l Z a0 hw a845 h880 n0 Z884 k845 (FP.i2d p1) p1.toInt W1 (FP.i2d p2) p2.toInt W2 (FP.i2d p3) p3.toInt W3 (FP.i2d p4) p4.toInt W4 (FP.i2d p5) p5.toInt W5 V880') q928 (argsL := [(.ref a845)]) (rest := []) rfl rfl 0 253 rfl (by rw [hml]; rfl) (lenOf own_pd0 rfl) (Nat.le_refl _) (by decide) (by decide) (by decide) (by decide) (hb hby at_250) ?_
                            intro v952 T952 L952 X952 hQ952
                            obtain ⟨a952, rfl, N952, ga952, K952, Ea952, lo, hi, r, mi, ma, F1952, F2952, F3952, dn, dx, Mi, Ma, r1, r2⟩ := hQ952
                            have E1 := own_minEq Mi Ir924 (fun x hx => by simp only [List.mem_cons, List.not_mem_nil, or_false] at hx ⊢; omega) (fun x hx => by simp only [List.mem_cons, List.not_mem_nil, or_false] at hx ⊢; omega)
                            have E2 := own_maxEq Ma Ir927 (fun x hx => by simp only [List.mem_cons, List.not_mem_nil, or_false] at hx ⊢; omega) (fun x hx => by simp only [List.mem_cons, List.not_mem_nil, or_false] at hx ⊢; omega)
                            have N953 := Fr.app N929 N952
                            have F954 := F881.keep K952
                            have F955 := V880'.keep K952 nin0
                            have Z956 : n0 ≤ T952.heap.size := Nat.le_trans Z884 K952.1
                            show Go p e below _ T952 (mkF m 253 #[.val (.int p0), .val (.int p1), .val (.int p2), .val (.int p3), .val (.int p4), .val (.int p5), .val (.int (5 : Int32)), .val (.ref a845), .val (.int r924), .val (.int r927), .val (.int (1 : Int32)), .unset] [(.ref a952)])
                            refine g_astore (l' := #[.val (.int p0), .val (.int p1), .val (.int p2), .val (.int p3), .val (.int p4), .val (.int p5), .val (.int (5 : Int32)), .val (.ref a845), .val (.int r924), .val (.int r927), .val (.int (1 : Int32)), .val (.ref a952)]) X952 hx 255 (hb hby at_253) rfl rfl rfl ?_
                            refine g_aload X952 hx 257 (hb hby at_255) rfl rfl rfl ?_
                            refine g_virt X952 hx hZ (C := "com/example/recolecta/recolecta/Bins") hown (hw _ (List.mem_of_getElem? (i := 29) rfl)) (hw _ (List.mem_of_getElem? (i := 30) rfl)) (hw _ (List.mem_of_getElem? (i := 32) rfl)) (hw _ (List.mem_of_getElem? (i := 32) rfl)) (hw _ (List.mem_of_getElem? (i := 31) rfl)) (hw _ (List.mem_of_getElem? (i := 3) rfl)) (hw _ (List.mem_of_getElem? (i := 33) rfl)) (by decide) (rm7 l Z a0 hw a952 T952.heap n0 Z956 lo F1952) rfl (b := a952) Ea952 (argsL := []) (rest := []) rfl rfl 0 260 rfl (by rw [hml]; rfl) (lenOf own_pd5 rfl) (Nat.le_refl _) (by decide) (by decide) (by decide) (by decide) (hb hby at_257) ?_
                            intro v957 T957 L957 X957 hQ957
                            obtain ⟨rfl, N957, q957⟩ := hQ957
                            have N958 := Fr.app N953 N957
                            show Go p e below _ T957 (mkF m 260 #[.val (.int p0), .val (.int p1), .val (.int p2), .val (.int p3), .val (.int p4), .val (.int p5), .val (.int (5 : Int32)), .val (.ref a845), .val (.int r924), .val (.int r927), .val (.int (1 : Int32)), .val (.ref a952)] [(.double lo)])
                            refine g_iload X957 hx 262 (hb hby at_260) rfl rfl ?_
                            refine g_i2d X957 hx 263 (hb hby at_262) rfl ?_
                            refine g_dc_ne X957 hx 264 293 267 (hb hby at_263) rfl (hb hby at_264) (by decide) (by decide) rfl (Jvm.FP.Core.dcmp_int dn (Jvm.FP.Core.i2d_int r924)) (fun c959 => ?_) (fun c959 => ?_)
                            · skip
                              exfalso; omega
                            · skip
                              refine g_aload X957 hx 269 (hb hby at_267) rfl rfl rfl ?_
                              refine g_virt X957 hx hZ (C := "com/example/recolecta/recolecta/Bins") hown (hw _ (List.mem_of_getElem? (i := 34) rfl)) (hw _ (List.mem_of_getElem? (i := 35) rfl)) (hw _ (List.mem_of_getElem? (i := 37) rfl)) (hw _ (List.mem_of_getElem? (i := 37) rfl)) (hw _ (List.mem_of_getElem? (i := 36) rfl)) (hw _ (List.mem_of_getElem? (i := 3) rfl)) (hw _ (List.mem_of_getElem? (i := 38) rfl)) (by decide) (rm8 l Z a0 hw a952 T952.heap n0 Z956 hi F2952) q957 (b := a952) Ea952 (argsL := []) (rest := []) rfl rfl 0 272 rfl (by rw [hml]; rfl) (lenOf own_pd5 rfl) (Nat.le_refl _) (by decide) (by decide) (by decide) (by decide) (hb hby at_269) ?_
                              intro v960 T960 L960 X960 hQ960
                              obtain ⟨rfl, N960, q960⟩ := hQ960
                              have N961 := Fr.app N958 N960
                              show Go p e below _ T960 (mkF m 272 #[.val (.int p0), .val (.int p1), .val (.int p2), .val (.int p3), .val (.int p4), .val (.int p5), .val (.int (5 : Int32)), .val (.ref a845), .val (.int r924), .val (.int r927), .val (.int (1 : Int32)), .val (.ref a952)] [(.double hi)])
                              refine g_iload X960 hx 274 (hb hby at_272) rfl rfl ?_
                              refine g_i2d X960 hx 275 (hb hby at_274) rfl ?_
                              refine g_dc_ne X960 hx 276 293 279 (hb hby at_275) rfl (hb hby at_276) (by decide) (by decide) rfl (Jvm.FP.Core.dcmp_int dx (Jvm.FP.Core.i2d_int r927)) (fun c962 => ?_) (fun c962 => ?_)
                              · skip
                                exfalso; omega
                              · skip
                                refine g_aload X960 hx 281 (hb hby at_279) rfl rfl rfl ?_
                                refine g_virt X960 hx hZ (C := "com/example/recolecta/recolecta/Bins") hown (hw _ (List.mem_of_getElem? (i := 39) rfl)) (hw _ (List.mem_of_getElem? (i := 40) rfl)) (hw _ (List.mem_of_getElem? (i := 42) rfl)) (hw _ (List.mem_of_getElem? (i := 42) rfl)) (hw _ (List.mem_of_getElem? (i := 41) rfl)) (hw _ (List.mem_of_getElem? (i := 3) rfl)) (hw _ (List.mem_of_getElem? (i := 43) rfl)) (by decide) (rm9 l Z a0 hw a952 T952.heap n0 Z956 r F3952) q960 (b := a952) Ea952 (argsL := []) (rest := []) rfl rfl 0 284 rfl (by rw [hml]; rfl) (lenOf own_pd6 rfl) (Nat.le_refl _) (by decide) (by decide) (by decide) (by decide) (hb hby at_281) ?_
                                intro v963 T963 L963 X963 hQ963
                                obtain ⟨rfl, N963, q963⟩ := hQ963
                                have N964 := Fr.app N961 N963
                                show Go p e below _ T963 (mkF m 284 #[.val (.int p0), .val (.int p1), .val (.int p2), .val (.int p3), .val (.int p4), .val (.int p5), .val (.int (5 : Int32)), .val (.ref a845), .val (.int r924), .val (.int r927), .val (.int (1 : Int32)), .val (.ref a952)] [(.int r)])
                                refine g_iload X963 hx 286 (hb hby at_284) rfl rfl ?_
                                have L := fun q => own_lit (r2 q) (by decide)
                                have ln : (5 : Int32).toInt = 5 := by decide
                                have ll966 : ((1 : Int32) : Int32).toInt = 1 := by decide
                                refine g_ic_ne X963 hx 293 289 (hb hby at_286) (by decide) (by decide) rfl (fun c965 => ?_) (fun c965 => ?_)
                                · skip
                                  have l1 : (1 : Int32).toInt = 1 := by decide
                                  have l2 : (2 : Int32).toInt = 2 := by decide
                                  have l3 : (3 : Int32).toInt = 3 := by decide
                                  have l4 : (4 : Int32).toInt = 4 := by decide
                                  have q1 := r1 (by omega)
                                  exfalso; omega
                                · skip
                                  refine g_iconst X963 hx (1 : Int32) 290 (hb hby at_289) rfl (by decide) ?_
                                  refine g_goto X963 hx 294 (hb hby at_290) (by decide) (by decide) ?_
                                  exact g_retZ X963 hx hlk hret (hb hby at_294) (by decide) (by decide) q963 ⟨rfl, N964⟩
                · skip
                  exfalso; revert c891; decide
              · skip
                exfalso; revert c888; decide
            · skip
              exfalso; revert c885; decide
  · skip
    refine g_iload X0 hx 10 (hb hby at_8) rfl rfl ?_
    refine g_newP X0 hx hZ (aty := .double) (hw _ (List.mem_of_getElem? (i := 0) rfl)) e0 (by decide) (cap := 6) (by decide) (by decide) 12 (hb hby at_10) rfl (by decide) (by decide) (ad := "[D") (by decide) ?_
    intro T967 h967 k967 a967 g967 X967 e967 E967 V967 A967
    have ge968 : n0 ≤ a967 := by rw [g967]; exact Z0
    have Z969 : n0 ≤ h967.size := Nat.le_trans Z0 E967.1
    have V967' : Arv Z h967 a967 k967 .double (6 : Int32) [(.double (0 : UInt64)), (.double (0 : UInt64)), (.double (0 : UInt64)), (.double (0 : UInt64)), (.double (0 : UInt64)), (.double (0 : UInt64))] (.double (0 : UInt64)) := V967.pad (pad_rep [] (.double (0 : UInt64)) 6)
    refine g_astore (l' := #[.val (.int p0), .val (.int p1), .val (.int p2), .val (.int p3), .val (.int p4), .val (.int p5), .val (.int (6 : Int32)), .val (.ref a967), .unset, .unset, .unset, .unset]) X967 hx 14 (hb hby at_12) rfl rfl rfl ?_
    refine g_aload X967 hx 16 (hb hby at_14) rfl rfl rfl ?_
    refine g_iconst X967 hx (0 : Int32) 17 (hb hby at_16) rfl (by decide) ?_
    refine g_iloadN X967 hx 18 (hb hby at_17) rfl rfl ?_
    refine g_i2d X967 hx 19 (hb hby at_18) rfl ?_
    refine g_dastore X967 hx hZ e967 V967' 0 (by decide) (by decide) (by show 0 < 6; decide) 20 (hb hby at_19) rfl ?_
    intro T970 h970 X970 e970 W970 V970
    have F971 := A967.wr W970
    have N973 := Fr.snoc X970 N0 ge968
    have Z974 : n0 ≤ h970.size := by rw [W970.size]; exact Z969
    have V970' : Arv Z h970 a967 k967 .double (6 : Int32) [(.double (FP.i2d p1)), (.double (0 : UInt64)), (.double (0 : UInt64)), (.double (0 : UInt64)), (.double (0 : UInt64)), (.double (0 : UInt64))] (.double (0 : UInt64)) := V970
    refine g_iload X970 hx 22 (hb hby at_20) rfl rfl ?_
    refine g_iconst X970 hx (1 : Int32) 23 (hb hby at_22) rfl (by decide) ?_
    have ll976 : ((1 : Int32) : Int32).toInt = 1 := by decide
    have ll977 : ((6 : Int32) : Int32).toInt = 6 := by decide
    refine g_ic_le X970 hx 32 26 (hb hby at_23) (by decide) (by decide) rfl (fun c975 => ?_) (fun c975 => ?_)
    · skip
      exfalso; revert c975; decide
    · skip
      refine g_aload X970 hx 28 (hb hby at_26) rfl rfl rfl ?_
      refine g_iconst X970 hx (1 : Int32) 29 (hb hby at_28) rfl (by decide) ?_
      refine g_iloadN X970 hx 30 (hb hby at_29) rfl rfl ?_
      refine g_i2d X970 hx 31 (hb hby at_30) rfl ?_
      refine g_dastore X970 hx hZ e970 V970' 1 (by decide) (by decide) (by show 1 < 6; decide) 32 (hb hby at_31) rfl ?_
      intro T978 h978 X978 e978 W978 V978
      have F979 := F971.wr W978
      have N981 := Fr.snoc X978 N973 ge968
      have Z982 : n0 ≤ h978.size := by rw [W978.size]; exact Z974
      have V978' : Arv Z h978 a967 k967 .double (6 : Int32) [(.double (FP.i2d p1)), (.double (FP.i2d p2)), (.double (0 : UInt64)), (.double (0 : UInt64)), (.double (0 : UInt64)), (.double (0 : UInt64))] (.double (0 : UInt64)) := V978
      refine g_iload X978 hx 34 (hb hby at_32) rfl rfl ?_
      refine g_iconst X978 hx (2 : Int32) 35 (hb hby at_34) rfl (by decide) ?_
      have ll984 : ((2 : Int32) : Int32).toInt = 2 := by decide
      have ll985 : ((6 : Int32) : Int32).toInt = 6 := by decide
      refine g_ic_le X978 hx 44 38 (hb hby at_35) (by decide) (by decide) rfl (fun c983 => ?_) (fun c983 => ?_)
      · skip
        exfalso; revert c983; decide
      · skip
        refine g_aload X978 hx 40 (hb hby at_38) rfl rfl rfl ?_
        refine g_iconst X978 hx (2 : Int32) 41 (hb hby at_40) rfl (by decide) ?_
        refine g_iloadN X978 hx 42 (hb hby at_41) rfl rfl ?_
        refine g_i2d X978 hx 43 (hb hby at_42) rfl ?_
        refine g_dastore X978 hx hZ e978 V978' 2 (by decide) (by decide) (by show 2 < 6; decide) 44 (hb hby at_43) rfl ?_
        intro T986 h986 X986 e986 W986 V986
        have F987 := F979.wr W986
        have N989 := Fr.snoc X986 N981 ge968
        have Z990 : n0 ≤ h986.size := by rw [W986.size]; exact Z982
        have V986' : Arv Z h986 a967 k967 .double (6 : Int32) [(.double (FP.i2d p1)), (.double (FP.i2d p2)), (.double (FP.i2d p3)), (.double (0 : UInt64)), (.double (0 : UInt64)), (.double (0 : UInt64))] (.double (0 : UInt64)) := V986
        refine g_iload X986 hx 46 (hb hby at_44) rfl rfl ?_
        refine g_iconst X986 hx (3 : Int32) 47 (hb hby at_46) rfl (by decide) ?_
        have ll992 : ((3 : Int32) : Int32).toInt = 3 := by decide
        have ll993 : ((6 : Int32) : Int32).toInt = 6 := by decide
        refine g_ic_le X986 hx 57 50 (hb hby at_47) (by decide) (by decide) rfl (fun c991 => ?_) (fun c991 => ?_)
        · skip
          exfalso; revert c991; decide
        · skip
          refine g_aload X986 hx 52 (hb hby at_50) rfl rfl rfl ?_
          refine g_iconst X986 hx (3 : Int32) 53 (hb hby at_52) rfl (by decide) ?_
          refine g_iload X986 hx 55 (hb hby at_53) rfl rfl ?_
          refine g_i2d X986 hx 56 (hb hby at_55) rfl ?_
          refine g_dastore X986 hx hZ e986 V986' 3 (by decide) (by decide) (by show 3 < 6; decide) 57 (hb hby at_56) rfl ?_
          intro T994 h994 X994 e994 W994 V994
          have F995 := F987.wr W994
          have N997 := Fr.snoc X994 N989 ge968
          have Z998 : n0 ≤ h994.size := by rw [W994.size]; exact Z990
          have V994' : Arv Z h994 a967 k967 .double (6 : Int32) [(.double (FP.i2d p1)), (.double (FP.i2d p2)), (.double (FP.i2d p3)), (.double (FP.i2d p4)), (.double (0 : UInt64)), (.double (0 : UInt64))] (.double (0 : UInt64)) := V994
          refine g_iload X994 hx 59 (hb hby at_57) rfl rfl ?_
          refine g_iconst X994 hx (4 : Int32) 60 (hb hby at_59) rfl (by decide) ?_
          have ll1000 : ((4 : Int32) : Int32).toInt = 4 := by decide
          have ll1001 : ((6 : Int32) : Int32).toInt = 6 := by decide
          refine g_ic_le X994 hx 70 63 (hb hby at_60) (by decide) (by decide) rfl (fun c999 => ?_) (fun c999 => ?_)
          · skip
            exfalso; revert c999; decide
          · skip
            refine g_aload X994 hx 65 (hb hby at_63) rfl rfl rfl ?_
            refine g_iconst X994 hx (4 : Int32) 66 (hb hby at_65) rfl (by decide) ?_
            refine g_iload X994 hx 68 (hb hby at_66) rfl rfl ?_
            refine g_i2d X994 hx 69 (hb hby at_68) rfl ?_
            refine g_dastore X994 hx hZ e994 V994' 4 (by decide) (by decide) (by show 4 < 6; decide) 70 (hb hby at_69) rfl ?_
            intro T1002 h1002 X1002 e1002 W1002 V1002
            have F1003 := F995.wr W1002
            have N1005 := Fr.snoc X1002 N997 ge968
            have Z1006 : n0 ≤ h1002.size := by rw [W1002.size]; exact Z998
            have V1002' : Arv Z h1002 a967 k967 .double (6 : Int32) [(.double (FP.i2d p1)), (.double (FP.i2d p2)), (.double (FP.i2d p3)), (.double (FP.i2d p4)), (.double (FP.i2d p5)), (.double (0 : UInt64))] (.double (0 : UInt64)) := V1002
            refine g_iload X1002 hx 72 (hb hby at_70) rfl rfl ?_
            refine g_iconst X1002 hx (5 : Int32) 73 (hb hby at_72) rfl (by decide) ?_
            have ll1008 : ((5 : Int32) : Int32).toInt = 5 := by decide
            have ll1009 : ((6 : Int32) : Int32).toInt = 6 := by decide
            refine g_ic_le X1002 hx 82 76 (hb hby at_73) (by decide) (by decide) rfl (fun c1007 => ?_) (fun c1007 => ?_)
            · skip
              exfalso; revert c1007; decide
            · skip
              refine g_aload X1002 hx 78 (hb hby at_76) rfl rfl rfl ?_
              refine g_iconst X1002 hx (5 : Int32) 79 (hb hby at_78) rfl (by decide) ?_
              refine g_iloadN X1002 hx 80 (hb hby at_79) rfl rfl ?_
              refine g_i2d X1002 hx 81 (hb hby at_80) rfl ?_
              refine g_dastore X1002 hx hZ e1002 V1002' 5 (by decide) (by decide) (by show 5 < 6; decide) 82 (hb hby at_81) rfl ?_
              intro T1010 h1010 X1010 e1010 W1010 V1010
              have F1011 := F1003.wr W1010
              have N1013 := Fr.snoc X1010 N1005 ge968
              have Z1014 : n0 ≤ h1010.size := by rw [W1010.size]; exact Z1006
              have V1010' : Arv Z h1010 a967 k967 .double (6 : Int32) [(.double (FP.i2d p1)), (.double (FP.i2d p2)), (.double (FP.i2d p3)), (.double (FP.i2d p4)), (.double (FP.i2d p5)), (.double (FP.i2d p1))] (.double (0 : UInt64)) := V1010
              refine g_iload X1010 hx 84 (hb hby at_82) rfl rfl ?_
              refine g_bipush X1010 hx (6 : Int32) 86 (hb hby at_84) rfl (by decide) ?_
              have ll1016 : ((6 : Int32) : Int32).toInt = 6 := by decide
              have ll1017 : ((6 : Int32) : Int32).toInt = 6 := by decide
              refine g_ic_le X1010 hx 96 89 (hb hby at_86) (by decide) (by decide) rfl (fun c1015 => ?_) (fun c1015 => ?_)
              · skip
                refine g_iload X1010 hx 98 (hb hby at_96) rfl rfl ?_
                refine g_bipush X1010 hx (7 : Int32) 100 (hb hby at_98) rfl (by decide) ?_
                have ll1019 : ((7 : Int32) : Int32).toInt = 7 := by decide
                have ll1020 : ((6 : Int32) : Int32).toInt = 6 := by decide
                refine g_ic_le X1010 hx 110 103 (hb hby at_100) (by decide) (by decide) rfl (fun c1018 => ?_) (fun c1018 => ?_)
                · skip
                  refine g_iloadN X1010 hx 111 (hb hby at_110) rfl rfl ?_
                  refine g_istore (l' := #[.val (.int p0), .val (.int p1), .val (.int p2), .val (.int p3), .val (.int p4), .val (.int p5), .val (.int (6 : Int32)), .val (.ref a967), .val (.int p1), .unset, .unset, .unset]) X1010 hx 113 (hb hby at_111) rfl rfl ?_
                  refine g_iloadN X1010 hx 114 (hb hby at_113) rfl rfl ?_
                  refine g_istore (l' := #[.val (.int p0), .val (.int p1), .val (.int p2), .val (.int p3), .val (.int p4), .val (.int p5), .val (.int (6 : Int32)), .val (.ref a967), .val (.int p1), .val (.int p1), .unset, .unset]) X1010 hx 116 (hb hby at_114) rfl rfl ?_
                  refine g_iload X1010 hx 118 (hb hby at_116) rfl rfl ?_
                  refine g_iconst X1010 hx (1 : Int32) 119 (hb hby at_118) rfl (by decide) ?_
                  have ll1022 : ((1 : Int32) : Int32).toInt = 1 := by decide
                  have ll1023 : ((6 : Int32) : Int32).toInt = 6 := by decide
                  refine g_ic_le X1010 hx 138 122 (hb hby at_119) (by decide) (by decide) rfl (fun c1021 => ?_) (fun c1021 => ?_)
                  · skip
                    exfalso; revert c1021; decide
                  · skip
                    refine g_iload X1010 hx 124 (hb hby at_122) rfl rfl ?_
                    refine g_iloadN X1010 hx 125 (hb hby at_124) rfl rfl ?_
                    refine g_static X1010 hx hZ hown (hw _ (List.mem_of_getElem? (i := 44) rfl)) (hw _ (List.mem_of_getElem? (i := 45) rfl)) (hw _ (List.mem_of_getElem? (i := 7) rfl)) (hw _ (List.mem_of_getElem? (i := 46) rfl)) (by decide) (rm10 l Z a0 hw p1 p2 h1010 n0 Z1014) e1010 (argsL := [(.int p1), (.int p2)]) (rest := []) rfl rfl 0 128 rfl (by rw [hml]; rfl) (lenOf own_pd7 rfl) (Nat.le_refl _) (by decide) (by decide) (by decide) (by decide) (hb hby at_125) ?_
                    intro v1025 T1025 L1025 X1025 hQ1025
                    obtain ⟨r1024, rfl, ⟨a1, a2, a3⟩, N1025, q1025⟩ := hQ1025
                    have N1026 := Fr.app N1013 N1025
                    have Ir1024 := own_minS (own_min1 p1.toInt) a1 a2 a3
                    clear a1 a2 a3
                    show Go p e below _ T1025 (mkF m 128 #[.val (.int p0), .val (.int p1), .val (.int p2), .val (.int p3), .val (.int p4), .val (.int p5), .val (.int (6 : Int32)), .val (.ref a967), .val (.int p1), .val (.int p1), .unset, .unset] [(.int r1024)])
                    refine g_istore (l' := #[.val (.int p0), .val (.int p1), .val (.int p2), .val (.int p3), .val (.int p4), .val (.int p5), .val (.int (6 : Int32)), .val (.ref a967), .val (.int r1024), .val (.int p1), .unset, .unset]) X1025 hx 130 (hb hby at_128) rfl rfl ?_
                    refine g_iload X1025 hx 132 (hb hby at_130) rfl rfl ?_
                    refine g_iloadN X1025 hx 133 (hb hby at_132) rfl rfl ?_
                    refine g_static X1025 hx hZ hown (hw _ (List.mem_of_getElem? (i := 47) rfl)) (hw _ (List.mem_of_getElem? (i := 48) rfl)) (hw _ (List.mem_of_getElem? (i := 7) rfl)) (hw _ (List.mem_of_getElem? (i := 49) rfl)) (by decide) (rm11 l Z a0 hw p1 p2 h1010 n0 Z1014) q1025 (argsL := [(.int p1), (.int p2)]) (rest := []) rfl rfl 0 136 rfl (by rw [hml]; rfl) (lenOf own_pd7 rfl) (Nat.le_refl _) (by decide) (by decide) (by decide) (by decide) (hb hby at_133) ?_
                    intro v1028 T1028 L1028 X1028 hQ1028
                    obtain ⟨r1027, rfl, ⟨a1, a2, a3⟩, N1028, q1028⟩ := hQ1028
                    have N1029 := Fr.app N1026 N1028
                    have Ir1027 := own_maxS (own_max1 p1.toInt) a1 a2 a3
                    clear a1 a2 a3
                    show Go p e below _ T1028 (mkF m 136 #[.val (.int p0), .val (.int p1), .val (.int p2), .val (.int p3), .val (.int p4), .val (.int p5), .val (.int (6 : Int32)), .val (.ref a967), .val (.int r1024), .val (.int p1), .unset, .unset] [(.int r1027)])
                    refine g_istore (l' := #[.val (.int p0), .val (.int p1), .val (.int p2), .val (.int p3), .val (.int p4), .val (.int p5), .val (.int (6 : Int32)), .val (.ref a967), .val (.int r1024), .val (.int r1027), .unset, .unset]) X1028 hx 138 (hb hby at_136) rfl rfl ?_
                    refine g_iload X1028 hx 140 (hb hby at_138) rfl rfl ?_
                    refine g_iconst X1028 hx (2 : Int32) 141 (hb hby at_140) rfl (by decide) ?_
                    have ll1031 : ((2 : Int32) : Int32).toInt = 2 := by decide
                    have ll1032 : ((6 : Int32) : Int32).toInt = 6 := by decide
                    refine g_ic_le X1028 hx 160 144 (hb hby at_141) (by decide) (by decide) rfl (fun c1030 => ?_) (fun c1030 => ?_)
                    · skip
                      exfalso; revert c1030; decide
                    · skip
                      refine g_iload X1028 hx 146 (hb hby at_144) rfl rfl ?_
                      refine g_iloadN X1028 hx 147 (hb hby at_146) rfl rfl ?_
                      refine g_static X1028 hx hZ hown (hw _ (List.mem_of_getElem? (i := 44) rfl)) (hw _ (List.mem_of_getElem? (i := 45) rfl)) (hw _ (List.mem_of_getElem? (i := 7) rfl)) (hw _ (List.mem_of_getElem? (i := 46) rfl)) (by decide) (rm10 l Z a0 hw r1024 p3 h1010 n0 Z1014) q1028 (argsL := [(.int r1024), (.int p3)]) (rest := []) rfl rfl 0 150 rfl (by rw [hml]; rfl) (lenOf own_pd7 rfl) (Nat.le_refl _) (by decide) (by decide) (by decide) (by decide) (hb hby at_147) ?_
                      intro v1034 T1034 L1034 X1034 hQ1034
                      obtain ⟨r1033, rfl, ⟨a1, a2, a3⟩, N1034, q1034⟩ := hQ1034
                      have N1035 := Fr.app N1029 N1034
                      have Ir1033 := own_minS Ir1024 a1 a2 a3
                      clear a1 a2 a3
                      show Go p e below _ T1034 (mkF m 150 #[.val (.int p0), .val (.int p1), .val (.int p2), .val (.int p3), .val (.int p4), .val (.int p5), .val (.int (6 : Int32)), .val (.ref a967), .val (.int r1024), .val (.int r1027), .unset, .unset] [(.int r1033)])
                      refine g_istore (l' := #[.val (.int p0), .val (.int p1), .val (.int p2), .val (.int p3), .val (.int p4), .val (.int p5), .val (.int (6 : Int32)), .val (.ref a967), .val (.int r1033), .val (.int r1027), .unset, .unset]) X1034 hx 152 (hb hby at_150) rfl rfl ?_
                      refine g_iload X1034 hx 154 (hb hby at_152) rfl rfl ?_
                      refine g_iloadN X1034 hx 155 (hb hby at_154) rfl rfl ?_
                      refine g_static X1034 hx hZ hown (hw _ (List.mem_of_getElem? (i := 47) rfl)) (hw _ (List.mem_of_getElem? (i := 48) rfl)) (hw _ (List.mem_of_getElem? (i := 7) rfl)) (hw _ (List.mem_of_getElem? (i := 49) rfl)) (by decide) (rm11 l Z a0 hw r1027 p3 h1010 n0 Z1014) q1034 (argsL := [(.int r1027), (.int p3)]) (rest := []) rfl rfl 0 158 rfl (by rw [hml]; rfl) (lenOf own_pd7 rfl) (Nat.le_refl _) (by decide) (by decide) (by decide) (by decide) (hb hby at_155) ?_
                      intro v1037 T1037 L1037 X1037 hQ1037
                      obtain ⟨r1036, rfl, ⟨a1, a2, a3⟩, N1037, q1037⟩ := hQ1037
                      have N1038 := Fr.app N1035 N1037
                      have Ir1036 := own_maxS Ir1027 a1 a2 a3
                      clear a1 a2 a3
                      show Go p e below _ T1037 (mkF m 158 #[.val (.int p0), .val (.int p1), .val (.int p2), .val (.int p3), .val (.int p4), .val (.int p5), .val (.int (6 : Int32)), .val (.ref a967), .val (.int r1033), .val (.int r1027), .unset, .unset] [(.int r1036)])
                      refine g_istore (l' := #[.val (.int p0), .val (.int p1), .val (.int p2), .val (.int p3), .val (.int p4), .val (.int p5), .val (.int (6 : Int32)), .val (.ref a967), .val (.int r1033), .val (.int r1036), .unset, .unset]) X1037 hx 160 (hb hby at_158) rfl rfl ?_
                      refine g_iload X1037 hx 162 (hb hby at_160) rfl rfl ?_
                      refine g_iconst X1037 hx (3 : Int32) 163 (hb hby at_162) rfl (by decide) ?_
                      have ll1040 : ((3 : Int32) : Int32).toInt = 3 := by decide
                      have ll1041 : ((6 : Int32) : Int32).toInt = 6 := by decide
                      refine g_ic_le X1037 hx 184 166 (hb hby at_163) (by decide) (by decide) rfl (fun c1039 => ?_) (fun c1039 => ?_)
                      · skip
                        exfalso; revert c1039; decide
                      · skip
                        refine g_iload X1037 hx 168 (hb hby at_166) rfl rfl ?_
                        refine g_iload X1037 hx 170 (hb hby at_168) rfl rfl ?_
                        refine g_static X1037 hx hZ hown (hw _ (List.mem_of_getElem? (i := 44) rfl)) (hw _ (List.mem_of_getElem? (i := 45) rfl)) (hw _ (List.mem_of_getElem? (i := 7) rfl)) (hw _ (List.mem_of_getElem? (i := 46) rfl)) (by decide) (rm10 l Z a0 hw r1033 p4 h1010 n0 Z1014) q1037 (argsL := [(.int r1033), (.int p4)]) (rest := []) rfl rfl 0 173 rfl (by rw [hml]; rfl) (lenOf own_pd7 rfl) (Nat.le_refl _) (by decide) (by decide) (by decide) (by decide) (hb hby at_170) ?_
                        intro v1043 T1043 L1043 X1043 hQ1043
                        obtain ⟨r1042, rfl, ⟨a1, a2, a3⟩, N1043, q1043⟩ := hQ1043
                        have N1044 := Fr.app N1038 N1043
                        have Ir1042 := own_minS Ir1033 a1 a2 a3
                        clear a1 a2 a3
                        show Go p e below _ T1043 (mkF m 173 #[.val (.int p0), .val (.int p1), .val (.int p2), .val (.int p3), .val (.int p4), .val (.int p5), .val (.int (6 : Int32)), .val (.ref a967), .val (.int r1033), .val (.int r1036), .unset, .unset] [(.int r1042)])
                        refine g_istore (l' := #[.val (.int p0), .val (.int p1), .val (.int p2), .val (.int p3), .val (.int p4), .val (.int p5), .val (.int (6 : Int32)), .val (.ref a967), .val (.int r1042), .val (.int r1036), .unset, .unset]) X1043 hx 175 (hb hby at_173) rfl rfl ?_
                        refine g_iload X1043 hx 177 (hb hby at_175) rfl rfl ?_
                        refine g_iload X1043 hx 179 (hb hby at_177) rfl rfl ?_
                        refine g_static X1043 hx hZ hown (hw _ (List.mem_of_getElem? (i := 47) rfl)) (hw _ (List.mem_of_getElem? (i := 48) rfl)) (hw _ (List.mem_of_getElem? (i := 7) rfl)) (hw _ (List.mem_of_getElem? (i := 49) rfl)) (by decide) (rm11 l Z a0 hw r1036 p4 h1010 n0 Z1014) q1043 (argsL := [(.int r1036), (.int p4)]) (rest := []) rfl rfl 0 182 rfl (by rw [hml]; rfl) (lenOf own_pd7 rfl) (Nat.le_refl _) (by decide) (by decide) (by decide) (by decide) (hb hby at_179) ?_
                        intro v1046 T1046 L1046 X1046 hQ1046
                        obtain ⟨r1045, rfl, ⟨a1, a2, a3⟩, N1046, q1046⟩ := hQ1046
                        have N1047 := Fr.app N1044 N1046
                        have Ir1045 := own_maxS Ir1036 a1 a2 a3
                        clear a1 a2 a3
                        show Go p e below _ T1046 (mkF m 182 #[.val (.int p0), .val (.int p1), .val (.int p2), .val (.int p3), .val (.int p4), .val (.int p5), .val (.int (6 : Int32)), .val (.ref a967), .val (.int r1042), .val (.int r1036), .unset, .unset] [(.int r1045)])
                        refine g_istore (l' := #[.val (.int p0), .val (.int p1), .val (.int p2), .val (.int p3), .val (.int p4), .val (.int p5), .val (.int (6 : Int32)), .val (.ref a967), .val (.int r1042), .val (.int r1045), .unset, .unset]) X1046 hx 184 (hb hby at_182) rfl rfl ?_
                        refine g_iload X1046 hx 186 (hb hby at_184) rfl rfl ?_
                        refine g_iconst X1046 hx (4 : Int32) 187 (hb hby at_186) rfl (by decide) ?_
                        have ll1049 : ((4 : Int32) : Int32).toInt = 4 := by decide
                        have ll1050 : ((6 : Int32) : Int32).toInt = 6 := by decide
                        refine g_ic_le X1046 hx 208 190 (hb hby at_187) (by decide) (by decide) rfl (fun c1048 => ?_) (fun c1048 => ?_)
                        · skip
                          exfalso; revert c1048; decide
                        · skip
                          refine g_iload X1046 hx 192 (hb hby at_190) rfl rfl ?_
                          refine g_iload X1046 hx 194 (hb hby at_192) rfl rfl ?_
                          refine g_static X1046 hx hZ hown (hw _ (List.mem_of_getElem? (i := 44) rfl)) (hw _ (List.mem_of_getElem? (i := 45) rfl)) (hw _ (List.mem_of_getElem? (i := 7) rfl)) (hw _ (List.mem_of_getElem? (i := 46) rfl)) (by decide) (rm10 l Z a0 hw r1042 p5 h1010 n0 Z1014) q1046 (argsL := [(.int r1042), (.int p5)]) (rest := []) rfl rfl 0 197 rfl (by rw [hml]; rfl) (lenOf own_pd7 rfl) (Nat.le_refl _) (by decide) (by decide) (by decide) (by decide) (hb hby at_194) ?_
                          intro v1052 T1052 L1052 X1052 hQ1052
                          obtain ⟨r1051, rfl, ⟨a1, a2, a3⟩, N1052, q1052⟩ := hQ1052
                          have N1053 := Fr.app N1047 N1052
                          have Ir1051 := own_minS Ir1042 a1 a2 a3
                          clear a1 a2 a3
                          show Go p e below _ T1052 (mkF m 197 #[.val (.int p0), .val (.int p1), .val (.int p2), .val (.int p3), .val (.int p4), .val (.int p5), .val (.int (6 : Int32)), .val (.ref a967), .val (.int r1042), .val (.int r1045), .unset, .unset] [(.int r1051)])
                          refine g_istore (l' := #[.val (.int p0), .val (.int p1), .val (.int p2), .val (.int p3), .val (.int p4), .val (.int p5), .val (.int (6 : Int32)), .val (.ref a967), .val (.int r1051), .val (.int r1045), .unset, .unset]) X1052 hx 199 (hb hby at_197) rfl rfl ?_
                          refine g_iload X1052 hx 201 (hb hby at_199) rfl rfl ?_
                          refine g_iload X1052 hx 203 (hb hby at_201) rfl rfl ?_
                          refine g_static X1052 hx hZ hown (hw _ (List.mem_of_getElem? (i := 47) rfl)) (hw _ (List.mem_of_getElem? (i := 48) rfl)) (hw _ (List.mem_of_getElem? (i := 7) rfl)) (hw _ (List.mem_of_getElem? (i := 49) rfl)) (by decide) (rm11 l Z a0 hw r1045 p5 h1010 n0 Z1014) q1052 (argsL := [(.int r1045), (.int p5)]) (rest := []) rfl rfl 0 206 rfl (by rw [hml]; rfl) (lenOf own_pd7 rfl) (Nat.le_refl _) (by decide) (by decide) (by decide) (by decide) (hb hby at_203) ?_
                          intro v1055 T1055 L1055 X1055 hQ1055
                          obtain ⟨r1054, rfl, ⟨a1, a2, a3⟩, N1055, q1055⟩ := hQ1055
                          have N1056 := Fr.app N1053 N1055
                          have Ir1054 := own_maxS Ir1045 a1 a2 a3
                          clear a1 a2 a3
                          show Go p e below _ T1055 (mkF m 206 #[.val (.int p0), .val (.int p1), .val (.int p2), .val (.int p3), .val (.int p4), .val (.int p5), .val (.int (6 : Int32)), .val (.ref a967), .val (.int r1051), .val (.int r1045), .unset, .unset] [(.int r1054)])
                          refine g_istore (l' := #[.val (.int p0), .val (.int p1), .val (.int p2), .val (.int p3), .val (.int p4), .val (.int p5), .val (.int (6 : Int32)), .val (.ref a967), .val (.int r1051), .val (.int r1054), .unset, .unset]) X1055 hx 208 (hb hby at_206) rfl rfl ?_
                          refine g_iload X1055 hx 210 (hb hby at_208) rfl rfl ?_
                          refine g_iload X1055 hx 212 (hb hby at_210) rfl rfl ?_
                          refine g_ic_ne X1055 hx 221 215 (hb hby at_212) (by decide) (by decide) rfl (fun c1057 => ?_) (fun c1057 => ?_)
                          · skip
                            refine g_iload X1055 hx 223 (hb hby at_221) rfl rfl ?_
                            refine g_iconst X1055 hx (2 : Int32) 224 (hb hby at_223) rfl (by decide) ?_
                            have ll1059 : ((2 : Int32) : Int32).toInt = 2 := by decide
                            have ll1060 : ((6 : Int32) : Int32).toInt = 6 := by decide
                            refine g_ic_ne X1055 hx 233 227 (hb hby at_224) (by decide) (by decide) rfl (fun c1058 => ?_) (fun c1058 => ?_)
                            · skip
                              refine g_iload X1055 hx 235 (hb hby at_233) rfl rfl ?_
                              refine g_iconst X1055 hx (4 : Int32) 236 (hb hby at_235) rfl (by decide) ?_
                              have ll1062 : ((4 : Int32) : Int32).toInt = 4 := by decide
                              have ll1063 : ((6 : Int32) : Int32).toInt = 6 := by decide
                              refine g_ic_gt X1055 hx 245 239 (hb hby at_236) (by decide) (by decide) rfl (fun c1061 => ?_) (fun c1061 => ?_)
                              · skip
                                refine g_iconst X1055 hx (4 : Int32) 246 (hb hby at_245) rfl (by decide) ?_
                                refine g_istore (l' := #[.val (.int p0), .val (.int p1), .val (.int p2), .val (.int p3), .val (.int p4), .val (.int p5), .val (.int (6 : Int32)), .val (.ref a967), .val (.int r1051), .val (.int r1054), .val (.int (4 : Int32)), .unset]) X1055 hx 248 (hb hby at_246) rfl rfl ?_
                                refine g_aload X1055 hx 250 (hb hby at_248) rfl rfl rfl ?_
                                refine g_static X1055 hx hZ hown (hw _ (List.mem_of_getElem? (i := 1) rfl)) (hw _ (List.mem_of_getElem? (i := 2) rfl)) (hw _ (List.mem_of_getElem? (i := 3) rfl)) (hw _ (List.mem_of_getElem? (i := 4) rfl)) (by decide) (rm1_6 l Z a0 hw a967 h1010 n0 Z1014 k967 (FP.i2d p1) p1.toInt W1 (FP.i2d p2) p2.toInt W2 (FP.i2d p3) p3.toInt W3 (FP.i2d p4) p4.toInt W4 (FP.i2d p5) p5.toInt W5 (FP.i2d p1) p1.toInt W1 V1010') q1055 (argsL := [(.ref a967)]) (rest := []) rfl rfl 0 253 rfl (by rw [hml]; rfl) (lenOf own_pd0 rfl) (Nat.le_refl _) (by decide) (by decide) (by decide) (by decide) (hb hby at_250) ?_
                                intro v1064 T1064 L1064 X1064 hQ1064
                                obtain ⟨a1064, rfl, N1064, ga1064, K1064, Ea1064, lo, hi, r, mi, ma, F11064, F21064, F31064, dn, dx, Mi, Ma, r1, r2⟩ := hQ1064
                                have E1 := own_minEq Mi Ir1051 (fun x hx => by simp only [List.mem_cons, List.not_mem_nil, or_false] at hx ⊢; omega) (fun x hx => by simp only [List.mem_cons, List.not_mem_nil, or_false] at hx ⊢; omega)
                                have E2 := own_maxEq Ma Ir1054 (fun x hx => by simp only [List.mem_cons, List.not_mem_nil, or_false] at hx ⊢; omega) (fun x hx => by simp only [List.mem_cons, List.not_mem_nil, or_false] at hx ⊢; omega)
                                have N1065 := Fr.app N1056 N1064
                                have F1066 := F1011.keep K1064
                                have F1067 := V1010'.keep K1064 nin0
                                have Z1068 : n0 ≤ T1064.heap.size := Nat.le_trans Z1014 K1064.1
                                show Go p e below _ T1064 (mkF m 253 #[.val (.int p0), .val (.int p1), .val (.int p2), .val (.int p3), .val (.int p4), .val (.int p5), .val (.int (6 : Int32)), .val (.ref a967), .val (.int r1051), .val (.int r1054), .val (.int (4 : Int32)), .unset] [(.ref a1064)])
                                refine g_astore (l' := #[.val (.int p0), .val (.int p1), .val (.int p2), .val (.int p3), .val (.int p4), .val (.int p5), .val (.int (6 : Int32)), .val (.ref a967), .val (.int r1051), .val (.int r1054), .val (.int (4 : Int32)), .val (.ref a1064)]) X1064 hx 255 (hb hby at_253) rfl rfl rfl ?_
                                refine g_aload X1064 hx 257 (hb hby at_255) rfl rfl rfl ?_
                                refine g_virt X1064 hx hZ (C := "com/example/recolecta/recolecta/Bins") hown (hw _ (List.mem_of_getElem? (i := 29) rfl)) (hw _ (List.mem_of_getElem? (i := 30) rfl)) (hw _ (List.mem_of_getElem? (i := 32) rfl)) (hw _ (List.mem_of_getElem? (i := 32) rfl)) (hw _ (List.mem_of_getElem? (i := 31) rfl)) (hw _ (List.mem_of_getElem? (i := 3) rfl)) (hw _ (List.mem_of_getElem? (i := 33) rfl)) (by decide) (rm7 l Z a0 hw a1064 T1064.heap n0 Z1068 lo F11064) rfl (b := a1064) Ea1064 (argsL := []) (rest := []) rfl rfl 0 260 rfl (by rw [hml]; rfl) (lenOf own_pd5 rfl) (Nat.le_refl _) (by decide) (by decide) (by decide) (by decide) (hb hby at_257) ?_
                                intro v1069 T1069 L1069 X1069 hQ1069
                                obtain ⟨rfl, N1069, q1069⟩ := hQ1069
                                have N1070 := Fr.app N1065 N1069
                                show Go p e below _ T1069 (mkF m 260 #[.val (.int p0), .val (.int p1), .val (.int p2), .val (.int p3), .val (.int p4), .val (.int p5), .val (.int (6 : Int32)), .val (.ref a967), .val (.int r1051), .val (.int r1054), .val (.int (4 : Int32)), .val (.ref a1064)] [(.double lo)])
                                refine g_iload X1069 hx 262 (hb hby at_260) rfl rfl ?_
                                refine g_i2d X1069 hx 263 (hb hby at_262) rfl ?_
                                refine g_dc_ne X1069 hx 264 293 267 (hb hby at_263) rfl (hb hby at_264) (by decide) (by decide) rfl (Jvm.FP.Core.dcmp_int dn (Jvm.FP.Core.i2d_int r1051)) (fun c1071 => ?_) (fun c1071 => ?_)
                                · skip
                                  exfalso; omega
                                · skip
                                  refine g_aload X1069 hx 269 (hb hby at_267) rfl rfl rfl ?_
                                  refine g_virt X1069 hx hZ (C := "com/example/recolecta/recolecta/Bins") hown (hw _ (List.mem_of_getElem? (i := 34) rfl)) (hw _ (List.mem_of_getElem? (i := 35) rfl)) (hw _ (List.mem_of_getElem? (i := 37) rfl)) (hw _ (List.mem_of_getElem? (i := 37) rfl)) (hw _ (List.mem_of_getElem? (i := 36) rfl)) (hw _ (List.mem_of_getElem? (i := 3) rfl)) (hw _ (List.mem_of_getElem? (i := 38) rfl)) (by decide) (rm8 l Z a0 hw a1064 T1064.heap n0 Z1068 hi F21064) q1069 (b := a1064) Ea1064 (argsL := []) (rest := []) rfl rfl 0 272 rfl (by rw [hml]; rfl) (lenOf own_pd5 rfl) (Nat.le_refl _) (by decide) (by decide) (by decide) (by decide) (hb hby at_269) ?_
                                  intro v1072 T1072 L1072 X1072 hQ1072
                                  obtain ⟨rfl, N1072, q1072⟩ := hQ1072
                                  have N1073 := Fr.app N1070 N1072
                                  show Go p e below _ T1072 (mkF m 272 #[.val (.int p0), .val (.int p1), .val (.int p2), .val (.int p3), .val (.int p4), .val (.int p5), .val (.int (6 : Int32)), .val (.ref a967), .val (.int r1051), .val (.int r1054), .val (.int (4 : Int32)), .val (.ref a1064)] [(.double hi)])
                                  refine g_iload X1072 hx 274 (hb hby at_272) rfl rfl ?_
                                  refine g_i2d X1072 hx 275 (hb hby at_274) rfl ?_
                                  refine g_dc_ne X1072 hx 276 293 279 (hb hby at_275) rfl (hb hby at_276) (by decide) (by decide) rfl (Jvm.FP.Core.dcmp_int dx (Jvm.FP.Core.i2d_int r1054)) (fun c1074 => ?_) (fun c1074 => ?_)
                                  · skip
                                    exfalso; omega
                                  · skip
                                    refine g_aload X1072 hx 281 (hb hby at_279) rfl rfl rfl ?_
                                    refine g_virt X1072 hx hZ (C := "com/example/recolecta/recolecta/Bins") hown (hw _ (List.mem_of_getElem? (i := 39) rfl)) (hw _ (List.mem_of_getElem? (i := 40) rfl)) (hw _ (List.mem_of_getElem? (i := 42) rfl)) (hw _ (List.mem_of_getElem? (i := 42) rfl)) (hw _ (List.mem_of_getElem? (i := 41) rfl)) (hw _ (List.mem_of_getElem? (i := 3) rfl)) (hw _ (List.mem_of_getElem? (i := 43) rfl)) (by decide) (rm9 l Z a0 hw a1064 T1064.heap n0 Z1068 r F31064) q1072 (b := a1064) Ea1064 (argsL := []) (rest := []) rfl rfl 0 284 rfl (by rw [hml]; rfl) (lenOf own_pd6 rfl) (Nat.le_refl _) (by decide) (by decide) (by decide) (by decide) (hb hby at_281) ?_
                                    intro v1075 T1075 L1075 X1075 hQ1075
                                    obtain ⟨rfl, N1075, q1075⟩ := hQ1075
                                    have N1076 := Fr.app N1073 N1075
                                    show Go p e below _ T1075 (mkF m 284 #[.val (.int p0), .val (.int p1), .val (.int p2), .val (.int p3), .val (.int p4), .val (.int p5), .val (.int (6 : Int32)), .val (.ref a967), .val (.int r1051), .val (.int r1054), .val (.int (4 : Int32)), .val (.ref a1064)] [(.int r)])
                                    refine g_iload X1075 hx 286 (hb hby at_284) rfl rfl ?_
                                    have L := fun q => own_lit (r2 q) (by decide)
                                    have ln : (6 : Int32).toInt = 6 := by decide
                                    have ll1078 : ((4 : Int32) : Int32).toInt = 4 := by decide
                                    refine g_ic_ne X1075 hx 293 289 (hb hby at_286) (by decide) (by decide) rfl (fun c1077 => ?_) (fun c1077 => ?_)
                                    · skip
                                      have l1 : (1 : Int32).toInt = 1 := by decide
                                      have l2 : (2 : Int32).toInt = 2 := by decide
                                      have l3 : (3 : Int32).toInt = 3 := by decide
                                      have l4 : (4 : Int32).toInt = 4 := by decide
                                      have q1 := L (by omega)
                                      exfalso; omega
                                    · skip
                                      refine g_iconst X1075 hx (1 : Int32) 290 (hb hby at_289) rfl (by decide) ?_
                                      refine g_goto X1075 hx 294 (hb hby at_290) (by decide) (by decide) ?_
                                      exact g_retZ X1075 hx hlk hret (hb hby at_294) (by decide) (by decide) q1075 ⟨rfl, N1076⟩
                              · skip
                                exfalso; revert c1061; decide
                            · skip
                              exfalso; revert c1058; decide
                          · skip
                            refine g_iconst X1055 hx (1 : Int32) 216 (hb hby at_215) rfl (by decide) ?_
                            refine g_istore (l' := #[.val (.int p0), .val (.int p1), .val (.int p2), .val (.int p3), .val (.int p4), .val (.int p5), .val (.int (6 : Int32)), .val (.ref a967), .val (.int r1051), .val (.int r1054), .val (.int (1 : Int32)), .unset]) X1055 hx 218 (hb hby at_216) rfl rfl ?_
                            refine g_goto X1055 hx 248 (hb hby at_218) (by decide) (by decide) ?_
                            refine g_aload X1055 hx 250 (hb hby at_248) rfl rfl rfl ?_
                            refine g_static X1055 hx hZ hown (hw _ (List.mem_of_getElem? (i := 1) rfl)) (hw _ (List.mem_of_getElem? (i := 2) rfl)) (hw _ (List.mem_of_getElem? (i := 3) rfl)) (hw _ (List.mem_of_getElem? (i := 4) rfl)) (by decide) (rm1_6 l Z a0 hw a967 h1010 n0 Z1014 k967 (FP.i2d p1) p1.toInt W1 (FP.i2d p2) p2.toInt W2 (FP.i2d p3) p3.toInt W3 (FP.i2d p4) p4.toInt W4 (FP.i2d p5) p5.toInt W5 (FP.i2d p1) p1.toInt W1 V1010') q1055 (argsL := [(.ref a967)]) (rest := []) rfl rfl 0 253 rfl (by rw [hml]; rfl) (lenOf own_pd0 rfl) (Nat.le_refl _) (by decide) (by decide) (by decide) (by decide) (hb hby at_250) ?_
                            intro v1079 T1079 L1079 X1079 hQ1079
                            obtain ⟨a1079, rfl, N1079, ga1079, K1079, Ea1079, lo, hi, r, mi, ma, F11079, F21079, F31079, dn, dx, Mi, Ma, r1, r2⟩ := hQ1079
                            have E1 := own_minEq Mi Ir1051 (fun x hx => by simp only [List.mem_cons, List.not_mem_nil, or_false] at hx ⊢; omega) (fun x hx => by simp only [List.mem_cons, List.not_mem_nil, or_false] at hx ⊢; omega)
                            have E2 := own_maxEq Ma Ir1054 (fun x hx => by simp only [List.mem_cons, List.not_mem_nil, or_false] at hx ⊢; omega) (fun x hx => by simp only [List.mem_cons, List.not_mem_nil, or_false] at hx ⊢; omega)
                            have N1080 := Fr.app N1056 N1079
                            have F1081 := F1011.keep K1079
                            have F1082 := V1010'.keep K1079 nin0
                            have Z1083 : n0 ≤ T1079.heap.size := Nat.le_trans Z1014 K1079.1
                            show Go p e below _ T1079 (mkF m 253 #[.val (.int p0), .val (.int p1), .val (.int p2), .val (.int p3), .val (.int p4), .val (.int p5), .val (.int (6 : Int32)), .val (.ref a967), .val (.int r1051), .val (.int r1054), .val (.int (1 : Int32)), .unset] [(.ref a1079)])
                            refine g_astore (l' := #[.val (.int p0), .val (.int p1), .val (.int p2), .val (.int p3), .val (.int p4), .val (.int p5), .val (.int (6 : Int32)), .val (.ref a967), .val (.int r1051), .val (.int r1054), .val (.int (1 : Int32)), .val (.ref a1079)]) X1079 hx 255 (hb hby at_253) rfl rfl rfl ?_
                            refine g_aload X1079 hx 257 (hb hby at_255) rfl rfl rfl ?_
                            refine g_virt X1079 hx hZ (C := "com/example/recolecta/recolecta/Bins") hown (hw _ (List.mem_of_getElem? (i := 29) rfl)) (hw _ (List.mem_of_getElem? (i := 30) rfl)) (hw _ (List.mem_of_getElem? (i := 32) rfl)) (hw _ (List.mem_of_getElem? (i := 32) rfl)) (hw _ (List.mem_of_getElem? (i := 31) rfl)) (hw _ (List.mem_of_getElem? (i := 3) rfl)) (hw _ (List.mem_of_getElem? (i := 33) rfl)) (by decide) (rm7 l Z a0 hw a1079 T1079.heap n0 Z1083 lo F11079) rfl (b := a1079) Ea1079 (argsL := []) (rest := []) rfl rfl 0 260 rfl (by rw [hml]; rfl) (lenOf own_pd5 rfl) (Nat.le_refl _) (by decide) (by decide) (by decide) (by decide) (hb hby at_257) ?_
                            intro v1084 T1084 L1084 X1084 hQ1084
                            obtain ⟨rfl, N1084, q1084⟩ := hQ1084
                            have N1085 := Fr.app N1080 N1084
                            show Go p e below _ T1084 (mkF m 260 #[.val (.int p0), .val (.int p1), .val (.int p2), .val (.int p3), .val (.int p4), .val (.int p5), .val (.int (6 : Int32)), .val (.ref a967), .val (.int r1051), .val (.int r1054), .val (.int (1 : Int32)), .val (.ref a1079)] [(.double lo)])
                            refine g_iload X1084 hx 262 (hb hby at_260) rfl rfl ?_
                            refine g_i2d X1084 hx 263 (hb hby at_262) rfl ?_
                            refine g_dc_ne X1084 hx 264 293 267 (hb hby at_263) rfl (hb hby at_264) (by decide) (by decide) rfl (Jvm.FP.Core.dcmp_int dn (Jvm.FP.Core.i2d_int r1051)) (fun c1086 => ?_) (fun c1086 => ?_)
                            · skip
                              exfalso; omega
                            · skip
                              refine g_aload X1084 hx 269 (hb hby at_267) rfl rfl rfl ?_
                              refine g_virt X1084 hx hZ (C := "com/example/recolecta/recolecta/Bins") hown (hw _ (List.mem_of_getElem? (i := 34) rfl)) (hw _ (List.mem_of_getElem? (i := 35) rfl)) (hw _ (List.mem_of_getElem? (i := 37) rfl)) (hw _ (List.mem_of_getElem? (i := 37) rfl)) (hw _ (List.mem_of_getElem? (i := 36) rfl)) (hw _ (List.mem_of_getElem? (i := 3) rfl)) (hw _ (List.mem_of_getElem? (i := 38) rfl)) (by decide) (rm8 l Z a0 hw a1079 T1079.heap n0 Z1083 hi F21079) q1084 (b := a1079) Ea1079 (argsL := []) (rest := []) rfl rfl 0 272 rfl (by rw [hml]; rfl) (lenOf own_pd5 rfl) (Nat.le_refl _) (by decide) (by decide) (by decide) (by decide) (hb hby at_269) ?_
                              intro v1087 T1087 L1087 X1087 hQ1087
                              obtain ⟨rfl, N1087, q1087⟩ := hQ1087
                              have N1088 := Fr.app N1085 N1087
                              show Go p e below _ T1087 (mkF m 272 #[.val (.int p0), .val (.int p1), .val (.int p2), .val (.int p3), .val (.int p4), .val (.int p5), .val (.int (6 : Int32)), .val (.ref a967), .val (.int r1051), .val (.int r1054), .val (.int (1 : Int32)), .val (.ref a1079)] [(.double hi)])
                              refine g_iload X1087 hx 274 (hb hby at_272) rfl rfl ?_
                              refine g_i2d X1087 hx 275 (hb hby at_274) rfl ?_
                              refine g_dc_ne X1087 hx 276 293 279 (hb hby at_275) rfl (hb hby at_276) (by decide) (by decide) rfl (Jvm.FP.Core.dcmp_int dx (Jvm.FP.Core.i2d_int r1054)) (fun c1089 => ?_) (fun c1089 => ?_)
                              · skip
                                exfalso; omega
                              · skip
                                refine g_aload X1087 hx 281 (hb hby at_279) rfl rfl rfl ?_
                                refine g_virt X1087 hx hZ (C := "com/example/recolecta/recolecta/Bins") hown (hw _ (List.mem_of_getElem? (i := 39) rfl)) (hw _ (List.mem_of_getElem? (i := 40) rfl)) (hw _ (List.mem_of_getElem? (i := 42) rfl)) (hw _ (List.mem_of_getElem? (i := 42) rfl)) (hw _ (List.mem_of_getElem? (i := 41) rfl)) (hw _ (List.mem_of_getElem? (i := 3) rfl)) (hw _ (List.mem_of_getElem? (i := 43) rfl)) (by decide) (rm9 l Z a0 hw a1079 T1079.heap n0 Z1083 r F31079) q1087 (b := a1079) Ea1079 (argsL := []) (rest := []) rfl rfl 0 284 rfl (by rw [hml]; rfl) (lenOf own_pd6 rfl) (Nat.le_refl _) (by decide) (by decide) (by decide) (by decide) (hb hby at_281) ?_
                                intro v1090 T1090 L1090 X1090 hQ1090
                                obtain ⟨rfl, N1090, q1090⟩ := hQ1090
                                have N1091 := Fr.app N1088 N1090
                                show Go p e below _ T1090 (mkF m 284 #[.val (.int p0), .val (.int p1), .val (.int p2), .val (.int p3), .val (.int p4), .val (.int p5), .val (.int (6 : Int32)), .val (.ref a967), .val (.int r1051), .val (.int r1054), .val (.int (1 : Int32)), .val (.ref a1079)] [(.int r)])
                                refine g_iload X1090 hx 286 (hb hby at_284) rfl rfl ?_
                                have L := fun q => own_lit (r2 q) (by decide)
                                have ln : (6 : Int32).toInt = 6 := by decide
                                have ll1093 : ((1 : Int32) : Int32).toInt = 1 := by decide
                                refine g_ic_ne X1090 hx 293 289 (hb hby at_286) (by decide) (by decide) rfl (fun c1092 => ?_) (fun c1092 => ?_)
                                · skip
                                  have l1 : (1 : Int32).toInt = 1 := by decide
                                  have l2 : (2 : Int32).toInt = 2 := by decide
                                  have l3 : (3 : Int32).toInt = 3 := by decide
                                  have l4 : (4 : Int32).toInt = 4 := by decide
                                  have q1 := r1 (by omega)
                                  exfalso; omega
                                · skip
                                  refine g_iconst X1090 hx (1 : Int32) 290 (hb hby at_289) rfl (by decide) ?_
                                  refine g_goto X1090 hx 294 (hb hby at_290) (by decide) (by decide) ?_
                                  exact g_retZ X1090 hx hlk hret (hb hby at_294) (by decide) (by decide) q1090 ⟨rfl, N1091⟩
                · skip
                  exfalso; revert c1018; decide
              · skip
                exfalso; revert c1015; decide
  · skip
    refine g_iload X0 hx 10 (hb hby at_8) rfl rfl ?_
    refine g_newP X0 hx hZ (aty := .double) (hw _ (List.mem_of_getElem? (i := 0) rfl)) e0 (by decide) (cap := 7) (by decide) (by decide) 12 (hb hby at_10) rfl (by decide) (by decide) (ad := "[D") (by decide) ?_
    intro T1094 h1094 k1094 a1094 g1094 X1094 e1094 E1094 V1094 A1094
    have ge1095 : n0 ≤ a1094 := by rw [g1094]; exact Z0
    have Z1096 : n0 ≤ h1094.size := Nat.le_trans Z0 E1094.1
    have V1094' : Arv Z h1094 a1094 k1094 .double (7 : Int32) [(.double (0 : UInt64)), (.double (0 : UInt64)), (.double (0 : UInt64)), (.double (0 : UInt64)), (.double (0 : UInt64)), (.double (0 : UInt64)), (.double (0 : UInt64))] (.double (0 : UInt64)) := V1094.pad (pad_rep [] (.double (0 : UInt64)) 7)
    refine g_astore (l' := #[.val (.int p0), .val (.int p1), .val (.int p2), .val (.int p3), .val (.int p4), .val (.int p5), .val (.int (7 : Int32)), .val (.ref a1094), .unset, .unset, .unset, .unset]) X1094 hx 14 (hb hby at_12) rfl rfl rfl ?_
    refine g_aload X1094 hx 16 (hb hby at_14) rfl rfl rfl ?_
    refine g_iconst X1094 hx (0 : Int32) 17 (hb hby at_16) rfl (by decide) ?_
    refine g_iloadN X1094 hx 18 (hb hby at_17) rfl rfl ?_
    refine g_i2d X1094 hx 19 (hb hby at_18) rfl ?_
    refine g_dastore X1094 hx hZ e1094 V1094' 0 (by decide) (by decide) (by show 0 < 7; decide) 20 (hb hby at_19) rfl ?_
    intro T1097 h1097 X1097 e1097 W1097 V1097
    have F1098 := A1094.wr W1097
    have N1100 := Fr.snoc X1097 N0 ge1095
    have Z1101 : n0 ≤ h1097.size := by rw [W1097.size]; exact Z1096
    have V1097' : Arv Z h1097 a1094 k1094 .double (7 : Int32) [(.double (FP.i2d p1)), (.double (0 : UInt64)), (.double (0 : UInt64)), (.double (0 : UInt64)), (.double (0 : UInt64)), (.double (0 : UInt64)), (.double (0 : UInt64))] (.double (0 : UInt64)) := V1097
    refine g_iload X1097 hx 22 (hb hby at_20) rfl rfl ?_
    refine g_iconst X1097 hx (1 : Int32) 23 (hb hby at_22) rfl (by decide) ?_
    have ll1103 : ((1 : Int32) : Int32).toInt = 1 := by decide
    have ll1104 : ((7 : Int32) : Int32).toInt = 7 := by decide
    refine g_ic_le X1097 hx 32 26 (hb hby at_23) (by decide) (by decide) rfl (fun c1102 => ?_) (fun c1102 => ?_)
    · skip
      exfalso; revert c1102; decide
    · skip
      refine g_aload X1097 hx 28 (hb hby at_26) rfl rfl rfl ?_
      refine g_iconst X1097 hx (1 : Int32) 29 (hb hby at_28) rfl (by decide) ?_
      refine g_iloadN X1097 hx 30 (hb hby at_29) rfl rfl ?_
      refine g_i2d X1097 hx 31 (hb hby at_30) rfl ?_
      refine g_dastore X1097 hx hZ e1097 V1097' 1 (by decide) (by decide) (by show 1 < 7; decide) 32 (hb hby at_31) rfl ?_
      intro T1105 h1105 X1105 e1105 W1105 V1105
      have F1106 := F1098.wr W1105
      have N1108 := Fr.snoc X1105 N1100 ge1095
      have Z1109 : n0 ≤ h1105.size := by rw [W1105.size]; exact Z1101
      have V1105' : Arv Z h1105 a1094 k1094 .double (7 : Int32) [(.double (FP.i2d p1)), (.double (FP.i2d p2)), (.double (0 : UInt64)), (.double (0 : UInt64)), (.double (0 : UInt64)), (.double (0 : UInt64)), (.double (0 : UInt64))] (.double (0 : UInt64)) := V1105
      refine g_iload X1105 hx 34 (hb hby at_32) rfl rfl ?_
      refine g_iconst X1105 hx (2 : Int32) 35 (hb hby at_34) rfl (by decide) ?_
      have ll1111 : ((2 : Int32) : Int32).toInt = 2 := by decide
      have ll1112 : ((7 : Int32) : Int32).toInt = 7 := by decide
      refine g_ic_le X1105 hx 44 38 (hb hby at_35) (by decide) (by decide) rfl (fun c1110 => ?_) (fun c1110 => ?_)
      · skip
        exfalso; revert c1110; decide
      · skip
        refine g_aload X1105 hx 40 (hb hby at_38) rfl rfl rfl ?_
        refine g_iconst X1105 hx (2 : Int32) 41 (hb hby at_40) rfl (by decide) ?_
        refine g_iloadN X1105 hx 42 (hb hby at_41) rfl rfl ?_
        refine g_i2d X1105 hx 43 (hb hby at_42) rfl ?_
        refine g_dastore X1105 hx hZ e1105 V1105' 2 (by decide) (by decide) (by show 2 < 7; decide) 44 (hb hby at_43) rfl ?_
        intro T1113 h1113 X1113 e1113 W1113 V1113
        have F1114 := F1106.wr W1113
        have N1116 := Fr.snoc X1113 N1108 ge1095
        have Z1117 : n0 ≤ h1113.size := by rw [W1113.size]; exact Z1109
        have V1113' : Arv Z h1113 a1094 k1094 .double (7 : Int32) [(.double (FP.i2d p1)), (.double (FP.i2d p2)), (.double (FP.i2d p3)), (.double (0 : UInt64)), (.double (0 : UInt64)), (.double (0 : UInt64)), (.double (0 : UInt64))] (.double (0 : UInt64)) := V1113
        refine g_iload X1113 hx 46 (hb hby at_44) rfl rfl ?_
        refine g_iconst X1113 hx (3 : Int32) 47 (hb hby at_46) rfl (by decide) ?_
        have ll1119 : ((3 : Int32) : Int32).toInt = 3 := by decide
        have ll1120 : ((7 : Int32) : Int32).toInt = 7 := by decide
        refine g_ic_le X1113 hx 57 50 (hb hby at_47) (by decide) (by decide) rfl (fun c1118 => ?_) (fun c1118 => ?_)
        · skip
          exfalso; revert c1118; decide
        · skip
          refine g_aload X1113 hx 52 (hb hby at_50) rfl rfl rfl ?_
          refine g_iconst X1113 hx (3 : Int32) 53 (hb hby at_52) rfl (by decide) ?_
          refine g_iload X1113 hx 55 (hb hby at_53) rfl rfl ?_
          refine g_i2d X1113 hx 56 (hb hby at_55) rfl ?_
          refine g_dastore X1113 hx hZ e1113 V1113' 3 (by decide) (by decide) (by show 3 < 7; decide) 57 (hb hby at_56) rfl ?_
          intro T1121 h1121 X1121 e1121 W1121 V1121
          have F1122 := F1114.wr W1121
          have N1124 := Fr.snoc X1121 N1116 ge1095
          have Z1125 : n0 ≤ h1121.size := by rw [W1121.size]; exact Z1117
          have V1121' : Arv Z h1121 a1094 k1094 .double (7 : Int32) [(.double (FP.i2d p1)), (.double (FP.i2d p2)), (.double (FP.i2d p3)), (.double (FP.i2d p4)), (.double (0 : UInt64)), (.double (0 : UInt64)), (.double (0 : UInt64))] (.double (0 : UInt64)) := V1121
          refine g_iload X1121 hx 59 (hb hby at_57) rfl rfl ?_
          refine g_iconst X1121 hx (4 : Int32) 60 (hb hby at_59) rfl (by decide) ?_
          have ll1127 : ((4 : Int32) : Int32).toInt = 4 := by decide
          have ll1128 : ((7 : Int32) : Int32).toInt = 7 := by decide
          refine g_ic_le X1121 hx 70 63 (hb hby at_60) (by decide) (by decide) rfl (fun c1126 => ?_) (fun c1126 => ?_)
          · skip
            exfalso; revert c1126; decide
          · skip
            refine g_aload X1121 hx 65 (hb hby at_63) rfl rfl rfl ?_
            refine g_iconst X1121 hx (4 : Int32) 66 (hb hby at_65) rfl (by decide) ?_
            refine g_iload X1121 hx 68 (hb hby at_66) rfl rfl ?_
            refine g_i2d X1121 hx 69 (hb hby at_68) rfl ?_
            refine g_dastore X1121 hx hZ e1121 V1121' 4 (by decide) (by decide) (by show 4 < 7; decide) 70 (hb hby at_69) rfl ?_
            intro T1129 h1129 X1129 e1129 W1129 V1129
            have F1130 := F1122.wr W1129
            have N1132 := Fr.snoc X1129 N1124 ge1095
            have Z1133 : n0 ≤ h1129.size := by rw [W1129.size]; exact Z1125
            have V1129' : Arv Z h1129 a1094 k1094 .double (7 : Int32) [(.double (FP.i2d p1)), (.double (FP.i2d p2)), (.double (FP.i2d p3)), (.double (FP.i2d p4)), (.double (FP.i2d p5)), (.double (0 : UInt64)), (.double (0 : UInt64))] (.double (0 : UInt64)) := V1129
            refine g_iload X1129 hx 72 (hb hby at_70) rfl rfl ?_
            refine g_iconst X1129 hx (5 : Int32) 73 (hb hby at_72) rfl (by decide) ?_
            have ll1135 : ((5 : Int32) : Int32).toInt = 5 := by decide
            have ll1136 : ((7 : Int32) : Int32).toInt = 7 := by decide
            refine g_ic_le X1129 hx 82 76 (hb hby at_73) (by decide) (by decide) rfl (fun c1134 => ?_) (fun c1134 => ?_)
            · skip
              exfalso; revert c1134; decide
            · skip
              refine g_aload X1129 hx 78 (hb hby at_76) rfl rfl rfl ?_
              refine g_iconst X1129 hx (5 : Int32) 79 (hb hby at_78) rfl (by decide) ?_
              refine g_iloadN X1129 hx 80 (hb hby at_79) rfl rfl ?_
              refine g_i2d X1129 hx 81 (hb hby at_80) rfl ?_
              refine g_dastore X1129 hx hZ e1129 V1129' 5 (by decide) (by decide) (by show 5 < 7; decide) 82 (hb hby at_81) rfl ?_
              intro T1137 h1137 X1137 e1137 W1137 V1137
              have F1138 := F1130.wr W1137
              have N1140 := Fr.snoc X1137 N1132 ge1095
              have Z1141 : n0 ≤ h1137.size := by rw [W1137.size]; exact Z1133
              have V1137' : Arv Z h1137 a1094 k1094 .double (7 : Int32) [(.double (FP.i2d p1)), (.double (FP.i2d p2)), (.double (FP.i2d p3)), (.double (FP.i2d p4)), (.double (FP.i2d p5)), (.double (FP.i2d p1)), (.double (0 : UInt64))] (.double (0 : UInt64)) := V1137
              refine g_iload X1137 hx 84 (hb hby at_82) rfl rfl ?_
              refine g_bipush X1137 hx (6 : Int32) 86 (hb hby at_84) rfl (by decide) ?_
              have ll1143 : ((6 : Int32) : Int32).toInt = 6 := by decide
              have ll1144 : ((7 : Int32) : Int32).toInt = 7 := by decide
              refine g_ic_le X1137 hx 96 89 (hb hby at_86) (by decide) (by decide) rfl (fun c1142 => ?_) (fun c1142 => ?_)
              · skip
                exfalso; revert c1142; decide
              · skip
                refine g_aload X1137 hx 91 (hb hby at_89) rfl rfl rfl ?_
                refine g_bipush X1137 hx (6 : Int32) 93 (hb hby at_91) rfl (by decide) ?_
                refine g_iloadN X1137 hx 94 (hb hby at_93) rfl rfl ?_
                refine g_i2d X1137 hx 95 (hb hby at_94) rfl ?_
                refine g_dastore X1137 hx hZ e1137 V1137' 6 (by decide) (by decide) (by show 6 < 7; decide) 96 (hb hby at_95) rfl ?_
                intro T1145 h1145 X1145 e1145 W1145 V1145
                have F1146 := F1138.wr W1145
                have N1148 := Fr.snoc X1145 N1140 ge1095
                have Z1149 : n0 ≤ h1145.size := by rw [W1145.size]; exact Z1141
                have V1145' : Arv Z h1145 a1094 k1094 .double (7 : Int32) [(.double (FP.i2d p1)), (.double (FP.i2d p2)), (.double (FP.i2d p3)), (.double (FP.i2d p4)), (.double (FP.i2d p5)), (.double (FP.i2d p1)), (.double (FP.i2d p2))] (.double (0 : UInt64)) := V1145
                refine g_iload X1145 hx 98 (hb hby at_96) rfl rfl ?_
                refine g_bipush X1145 hx (7 : Int32) 100 (hb hby at_98) rfl (by decide) ?_
                have ll1151 : ((7 : Int32) : Int32).toInt = 7 := by decide
                have ll1152 : ((7 : Int32) : Int32).toInt = 7 := by decide
                refine g_ic_le X1145 hx 110 103 (hb hby at_100) (by decide) (by decide) rfl (fun c1150 => ?_) (fun c1150 => ?_)
                · skip
                  refine g_iloadN X1145 hx 111 (hb hby at_110) rfl rfl ?_
                  refine g_istore (l' := #[.val (.int p0), .val (.int p1), .val (.int p2), .val (.int p3), .val (.int p4), .val (.int p5), .val (.int (7 : Int32)), .val (.ref a1094), .val (.int p1), .unset, .unset, .unset]) X1145 hx 113 (hb hby at_111) rfl rfl ?_
                  refine g_iloadN X1145 hx 114 (hb hby at_113) rfl rfl ?_
                  refine g_istore (l' := #[.val (.int p0), .val (.int p1), .val (.int p2), .val (.int p3), .val (.int p4), .val (.int p5), .val (.int (7 : Int32)), .val (.ref a1094), .val (.int p1), .val (.int p1), .unset, .unset]) X1145 hx 116 (hb hby at_114) rfl rfl ?_
                  refine g_iload X1145 hx 118 (hb hby at_116) rfl rfl ?_
                  refine g_iconst X1145 hx (1 : Int32) 119 (hb hby at_118) rfl (by decide) ?_
                  have ll1154 : ((1 : Int32) : Int32).toInt = 1 := by decide
                  have ll1155 : ((7 : Int32) : Int32).toInt = 7 := by decide
                  refine g_ic_le X1145 hx 138 122 (hb hby at_119) (by decide) (by decide) rfl (fun c1153 => ?_) (fun c1153 => ?_)
                  · skip
                    exfalso; revert c1153; decide
                  · skip
                    refine g_iload X1145 hx 124 (hb hby at_122) rfl rfl ?_
                    refine g_iloadN X1145 hx 125 (hb hby at_124) rfl rfl ?_
                    refine g_static X1145 hx hZ hown (hw _ (List.mem_of_getElem? (i := 44) rfl)) (hw _ (List.mem_of_getElem? (i := 45) rfl)) (hw _ (List.mem_of_getElem? (i := 7) rfl)) (hw _ (List.mem_of_getElem? (i := 46) rfl)) (by decide) (rm10 l Z a0 hw p1 p2 h1145 n0 Z1149) e1145 (argsL := [(.int p1), (.int p2)]) (rest := []) rfl rfl 0 128 rfl (by rw [hml]; rfl) (lenOf own_pd7 rfl) (Nat.le_refl _) (by decide) (by decide) (by decide) (by decide) (hb hby at_125) ?_
                    intro v1157 T1157 L1157 X1157 hQ1157
                    obtain ⟨r1156, rfl, ⟨a1, a2, a3⟩, N1157, q1157⟩ := hQ1157
                    have N1158 := Fr.app N1148 N1157
                    have Ir1156 := own_minS (own_min1 p1.toInt) a1 a2 a3
                    clear a1 a2 a3
                    show Go p e below _ T1157 (mkF m 128 #[.val (.int p0), .val (.int p1), .val (.int p2), .val (.int p3), .val (.int p4), .val (.int p5), .val (.int (7 : Int32)), .val (.ref a1094), .val (.int p1), .val (.int p1), .unset, .unset] [(.int r1156)])
                    refine g_istore (l' := #[.val (.int p0), .val (.int p1), .val (.int p2), .val (.int p3), .val (.int p4), .val (.int p5), .val (.int (7 : Int32)), .val (.ref a1094), .val (.int r1156), .val (.int p1), .unset, .unset]) X1157 hx 130 (hb hby at_128) rfl rfl ?_
                    refine g_iload X1157 hx 132 (hb hby at_130) rfl rfl ?_
                    refine g_iloadN X1157 hx 133 (hb hby at_132) rfl rfl ?_
                    refine g_static X1157 hx hZ hown (hw _ (List.mem_of_getElem? (i := 47) rfl)) (hw _ (List.mem_of_getElem? (i := 48) rfl)) (hw _ (List.mem_of_getElem? (i := 7) rfl)) (hw _ (List.mem_of_getElem? (i := 49) rfl)) (by decide) (rm11 l Z a0 hw p1 p2 h1145 n0 Z1149) q1157 (argsL := [(.int p1), (.int p2)]) (rest := []) rfl rfl 0 136 rfl (by rw [hml]; rfl) (lenOf own_pd7 rfl) (Nat.le_refl _) (by decide) (by decide) (by decide) (by decide) (hb hby at_133) ?_
                    intro v1160 T1160 L1160 X1160 hQ1160
                    obtain ⟨r1159, rfl, ⟨a1, a2, a3⟩, N1160, q1160⟩ := hQ1160
                    have N1161 := Fr.app N1158 N1160
                    have Ir1159 := own_maxS (own_max1 p1.toInt) a1 a2 a3
                    clear a1 a2 a3
                    show Go p e below _ T1160 (mkF m 136 #[.val (.int p0), .val (.int p1), .val (.int p2), .val (.int p3), .val (.int p4), .val (.int p5), .val (.int (7 : Int32)), .val (.ref a1094), .val (.int r1156), .val (.int p1), .unset, .unset] [(.int r1159)])
                    refine g_istore (l' := #[.val (.int p0), .val (.int p1), .val (.int p2), .val (.int p3), .val (.int p4), .val (.int p5), .val (.int (7 : Int32)), .val (.ref a1094), .val (.int r1156), .val (.int r1159), .unset, .unset]) X1160 hx 138 (hb hby at_136) rfl rfl ?_
                    refine g_iload X1160 hx 140 (hb hby at_138) rfl rfl ?_
                    refine g_iconst X1160 hx (2 : Int32) 141 (hb hby at_140) rfl (by decide) ?_
                    have ll1163 : ((2 : Int32) : Int32).toInt = 2 := by decide
                    have ll1164 : ((7 : Int32) : Int32).toInt = 7 := by decide
                    refine g_ic_le X1160 hx 160 144 (hb hby at_141) (by decide) (by decide) rfl (fun c1162 => ?_) (fun c1162 => ?_)
                    · skip
                      exfalso; revert c1162; decide
                    · skip
                      refine g_iload X1160 hx 146 (hb hby at_144) rfl rfl ?_
                      refine g_iloadN X1160 hx 147 (hb hby at_146) rfl rfl ?_
                      refine g_static X1160 hx hZ hown (hw _ (List.mem_of_getElem? (i := 44) rfl)) (hw _ (List.mem_of_getElem? (i := 45) rfl)) (hw _ (List.mem_of_getElem? (i := 7) rfl)) (hw _ (List.mem_of_getElem? (i := 46) rfl)) (by decide) (rm10 l Z a0 hw r1156 p3 h1145 n0 Z1149) q1160 (argsL := [(.int r1156), (.int p3)]) (rest := []) rfl rfl 0 150 rfl (by rw [hml]; rfl) (lenOf own_pd7 rfl) (Nat.le_refl _) (by decide) (by decide) (by decide) (by decide) (hb hby at_147) ?_
                      intro v1166 T1166 L1166 X1166 hQ1166
                      obtain ⟨r1165, rfl, ⟨a1, a2, a3⟩, N1166, q1166⟩ := hQ1166
                      have N1167 := Fr.app N1161 N1166
                      have Ir1165 := own_minS Ir1156 a1 a2 a3
                      clear a1 a2 a3
                      show Go p e below _ T1166 (mkF m 150 #[.val (.int p0), .val (.int p1), .val (.int p2), .val (.int p3), .val (.int p4), .val (.int p5), .val (.int (7 : Int32)), .val (.ref a1094), .val (.int r1156), .val (.int r1159), .unset, .unset] [(.int r1165)])
                      refine g_istore (l' := #[.val (.int p0), .val (.int p1), .val (.int p2), .val (.int p3), .val (.int p4), .val (.int p5), .val (.int (7 : Int32)), .val (.ref a1094), .val (.int r1165), .val (.int r1159), .unset, .unset]) X1166 hx 152 (hb hby at_150) rfl rfl ?_
                      refine g_iload X1166 hx 154 (hb hby at_152) rfl rfl ?_
                      refine g_iloadN X1166 hx 155 (hb hby at_154) rfl rfl ?_
                      refine g_static X1166 hx hZ hown (hw _ (List.mem_of_getElem? (i := 47) rfl)) (hw _ (List.mem_of_getElem? (i := 48) rfl)) (hw _ (List.mem_of_getElem? (i := 7) rfl)) (hw _ (List.mem_of_getElem? (i := 49) rfl)) (by decide) (rm11 l Z a0 hw r1159 p3 h1145 n0 Z1149) q1166 (argsL := [(.int r1159), (.int p3)]) (rest := []) rfl rfl 0 158 rfl (by rw [hml]; rfl) (lenOf own_pd7 rfl) (Nat.le_refl _) (by decide) (by decide) (by decide) (by decide) (hb hby at_155) ?_
                      intro v1169 T1169 L1169 X1169 hQ1169
                      obtain ⟨r1168, rfl, ⟨a1, a2, a3⟩, N1169, q1169⟩ := hQ1169
                      have N1170 := Fr.app N1167 N1169
                      have Ir1168 := own_maxS Ir1159 a1 a2 a3
                      clear a1 a2 a3
                      show Go p e below _ T1169 (mkF m 158 #[.val (.int p0), .val (.int p1), .val (.int p2), .val (.int p3), .val (.int p4), .val (.int p5), .val (.int (7 : Int32)), .val (.ref a1094), .val (.int r1165), .val (.int r1159), .unset, .unset] [(.int r1168)])
                      refine g_istore (l' := #[.val (.int p0), .val (.int p1), .val (.int p2), .val (.int p3), .val (.int p4), .val (.int p5), .val (.int (7 : Int32)), .val (.ref a1094), .val (.int r1165), .val (.int r1168), .unset, .unset]) X1169 hx 160 (hb hby at_158) rfl rfl ?_
                      refine g_iload X1169 hx 162 (hb hby at_160) rfl rfl ?_
                      refine g_iconst X1169 hx (3 : Int32) 163 (hb hby at_162) rfl (by decide) ?_
                      have ll1172 : ((3 : Int32) : Int32).toInt = 3 := by decide
                      have ll1173 : ((7 : Int32) : Int32).toInt = 7 := by decide
                      refine g_ic_le X1169 hx 184 166 (hb hby at_163) (by decide) (by decide) rfl (fun c1171 => ?_) (fun c1171 => ?_)
                      · skip
                        exfalso; revert c1171; decide
                      · skip
                        refine g_iload X1169 hx 168 (hb hby at_166) rfl rfl ?_
                        refine g_iload X1169 hx 170 (hb hby at_168) rfl rfl ?_
                        refine g_static X1169 hx hZ hown (hw _ (List.mem_of_getElem? (i := 44) rfl)) (hw _ (List.mem_of_getElem? (i := 45) rfl)) (hw _ (List.mem_of_getElem? (i := 7) rfl)) (hw _ (List.mem_of_getElem? (i := 46) rfl)) (by decide) (rm10 l Z a0 hw r1165 p4 h1145 n0 Z1149) q1169 (argsL := [(.int r1165), (.int p4)]) (rest := []) rfl rfl 0 173 rfl (by rw [hml]; rfl) (lenOf own_pd7 rfl) (Nat.le_refl _) (by decide) (by decide) (by decide) (by decide) (hb hby at_170) ?_
                        intro v1175 T1175 L1175 X1175 hQ1175
                        obtain ⟨r1174, rfl, ⟨a1, a2, a3⟩, N1175, q1175⟩ := hQ1175
                        have N1176 := Fr.app N1170 N1175
                        have Ir1174 := own_minS Ir1165 a1 a2 a3
                        clear a1 a2 a3
                        show Go p e below _ T1175 (mkF m 173 #[.val (.int p0), .val (.int p1), .val (.int p2), .val (.int p3), .val (.int p4), .val (.int p5), .val (.int (7 : Int32)), .val (.ref a1094), .val (.int r1165), .val (.int r1168), .unset, .unset] [(.int r1174)])
                        refine g_istore (l' := #[.val (.int p0), .val (.int p1), .val (.int p2), .val (.int p3), .val (.int p4), .val (.int p5), .val (.int (7 : Int32)), .val (.ref a1094), .val (.int r1174), .val (.int r1168), .unset, .unset]) X1175 hx 175 (hb hby at_173) rfl rfl ?_
                        refine g_iload X1175 hx 177 (hb hby at_175) rfl rfl ?_
                        refine g_iload X1175 hx 179 (hb hby at_177) rfl rfl ?_
                        refine g_static X1175 hx hZ hown (hw _ (List.mem_of_getElem? (i := 47) rfl)) (hw _ (List.mem_of_getElem? (i := 48) rfl)) (hw _ (List.mem_of_getElem? (i := 7) rfl)) (hw _ (List.mem_of_getElem? (i := 49) rfl)) (by decide) (rm11 l Z a0 hw r1168 p4 h1145 n0 Z1149) q1175 (argsL := [(.int r1168), (.int p4)]) (rest := []) rfl rfl 0 182 rfl (by rw [hml]; rfl) (lenOf own_pd7 rfl) (Nat.le_refl _) (by decide) (by decide) (by decide) (by decide) (hb hby at_179) ?_
                        intro v1178 T1178 L1178 X1178 hQ1178
                        obtain ⟨r1177, rfl, ⟨a1, a2, a3⟩, N1178, q1178⟩ := hQ1178
                        have N1179 := Fr.app N1176 N1178
                        have Ir1177 := own_maxS Ir1168 a1 a2 a3
                        clear a1 a2 a3
                        show Go p e below _ T1178 (mkF m 182 #[.val (.int p0), .val (.int p1), .val (.int p2), .val (.int p3), .val (.int p4), .val (.int p5), .val (.int (7 : Int32)), .val (.ref a1094), .val (.int r1174), .val (.int r1168), .unset, .unset] [(.int r1177)])
                        refine g_istore (l' := #[.val (.int p0), .val (.int p1), .val (.int p2), .val (.int p3), .val (.int p4), .val (.int p5), .val (.int (7 : Int32)), .val (.ref a1094), .val (.int r1174), .val (.int r1177), .unset, .unset]) X1178 hx 184 (hb hby at_182) rfl rfl ?_
                        refine g_iload X1178 hx 186 (hb hby at_184) rfl rfl ?_
                        refine g_iconst X1178 hx (4 : Int32) 187 (hb hby at_186) rfl (by decide) ?_
                        have ll1181 : ((4 : Int32) : Int32).toInt = 4 := by decide
                        have ll1182 : ((7 : Int32) : Int32).toInt = 7 := by decide
                        refine g_ic_le X1178 hx 208 190 (hb hby at_187) (by decide) (by decide) rfl (fun c1180 => ?_) (fun c1180 => ?_)
                        · skip
                          exfalso; revert c1180; decide
                        · skip
                          refine g_iload X1178 hx 192 (hb hby at_190) rfl rfl ?_
                          refine g_iload X1178 hx 194 (hb hby at_192) rfl rfl ?_
                          refine g_static X1178 hx hZ hown (hw _ (List.mem_of_getElem? (i := 44) rfl)) (hw _ (List.mem_of_getElem? (i := 45) rfl)) (hw _ (List.mem_of_getElem? (i := 7) rfl)) (hw _ (List.mem_of_getElem? (i := 46) rfl)) (by decide) (rm10 l Z a0 hw r1174 p5 h1145 n0 Z1149) q1178 (argsL := [(.int r1174), (.int p5)]) (rest := []) rfl rfl 0 197 rfl (by rw [hml]; rfl) (lenOf own_pd7 rfl) (Nat.le_refl _) (by decide) (by decide) (by decide) (by decide) (hb hby at_194) ?_
                          intro v1184 T1184 L1184 X1184 hQ1184
                          obtain ⟨r1183, rfl, ⟨a1, a2, a3⟩, N1184, q1184⟩ := hQ1184
                          have N1185 := Fr.app N1179 N1184
                          have Ir1183 := own_minS Ir1174 a1 a2 a3
                          clear a1 a2 a3
                          show Go p e below _ T1184 (mkF m 197 #[.val (.int p0), .val (.int p1), .val (.int p2), .val (.int p3), .val (.int p4), .val (.int p5), .val (.int (7 : Int32)), .val (.ref a1094), .val (.int r1174), .val (.int r1177), .unset, .unset] [(.int r1183)])
                          refine g_istore (l' := #[.val (.int p0), .val (.int p1), .val (.int p2), .val (.int p3), .val (.int p4), .val (.int p5), .val (.int (7 : Int32)), .val (.ref a1094), .val (.int r1183), .val (.int r1177), .unset, .unset]) X1184 hx 199 (hb hby at_197) rfl rfl ?_
                          refine g_iload X1184 hx 201 (hb hby at_199) rfl rfl ?_
                          refine g_iload X1184 hx 203 (hb hby at_201) rfl rfl ?_
                          refine g_static X1184 hx hZ hown (hw _ (List.mem_of_getElem? (i := 47) rfl)) (hw _ (List.mem_of_getElem? (i := 48) rfl)) (hw _ (List.mem_of_getElem? (i := 7) rfl)) (hw _ (List.mem_of_getElem? (i := 49) rfl)) (by decide) (rm11 l Z a0 hw r1177 p5 h1145 n0 Z1149) q1184 (argsL := [(.int r1177), (.int p5)]) (rest := []) rfl rfl 0 206 rfl (by rw [hml]; rfl) (lenOf own_pd7 rfl) (Nat.le_refl _) (by decide) (by decide) (by decide) (by decide) (hb hby at_203) ?_
                          intro v1187 T1187 L1187 X1187 hQ1187
                          obtain ⟨r1186, rfl, ⟨a1, a2, a3⟩, N1187, q1187⟩ := hQ1187
                          have N1188 := Fr.app N1185 N1187
                          have Ir1186 := own_maxS Ir1177 a1 a2 a3
                          clear a1 a2 a3
                          show Go p e below _ T1187 (mkF m 206 #[.val (.int p0), .val (.int p1), .val (.int p2), .val (.int p3), .val (.int p4), .val (.int p5), .val (.int (7 : Int32)), .val (.ref a1094), .val (.int r1183), .val (.int r1177), .unset, .unset] [(.int r1186)])
                          refine g_istore (l' := #[.val (.int p0), .val (.int p1), .val (.int p2), .val (.int p3), .val (.int p4), .val (.int p5), .val (.int (7 : Int32)), .val (.ref a1094), .val (.int r1183), .val (.int r1186), .unset, .unset]) X1187 hx 208 (hb hby at_206) rfl rfl ?_
                          refine g_iload X1187 hx 210 (hb hby at_208) rfl rfl ?_
                          refine g_iload X1187 hx 212 (hb hby at_210) rfl rfl ?_
                          refine g_ic_ne X1187 hx 221 215 (hb hby at_212) (by decide) (by decide) rfl (fun c1189 => ?_) (fun c1189 => ?_)
                          · skip
                            refine g_iload X1187 hx 223 (hb hby at_221) rfl rfl ?_
                            refine g_iconst X1187 hx (2 : Int32) 224 (hb hby at_223) rfl (by decide) ?_
                            have ll1191 : ((2 : Int32) : Int32).toInt = 2 := by decide
                            have ll1192 : ((7 : Int32) : Int32).toInt = 7 := by decide
                            refine g_ic_ne X1187 hx 233 227 (hb hby at_224) (by decide) (by decide) rfl (fun c1190 => ?_) (fun c1190 => ?_)
                            · skip
                              refine g_iload X1187 hx 235 (hb hby at_233) rfl rfl ?_
                              refine g_iconst X1187 hx (4 : Int32) 236 (hb hby at_235) rfl (by decide) ?_
                              have ll1194 : ((4 : Int32) : Int32).toInt = 4 := by decide
                              have ll1195 : ((7 : Int32) : Int32).toInt = 7 := by decide
                              refine g_ic_gt X1187 hx 245 239 (hb hby at_236) (by decide) (by decide) rfl (fun c1193 => ?_) (fun c1193 => ?_)
                              · skip
                                refine g_iconst X1187 hx (4 : Int32) 246 (hb hby at_245) rfl (by decide) ?_
                                refine g_istore (l' := #[.val (.int p0), .val (.int p1), .val (.int p2), .val (.int p3), .val (.int p4), .val (.int p5), .val (.int (7 : Int32)), .val (.ref a1094), .val (.int r1183), .val (.int r1186), .val (.int (4 : Int32)), .unset]) X1187 hx 248 (hb hby at_246) rfl rfl ?_
                                refine g_aload X1187 hx 250 (hb hby at_248) rfl rfl rfl ?_
                                refine g_static X1187 hx hZ hown (hw _ (List.mem_of_getElem? (i := 1) rfl)) (hw _ (List.mem_of_getElem? (i := 2) rfl)) (hw _ (List.mem_of_getElem? (i := 3) rfl)) (hw _ (List.mem_of_getElem? (i := 4) rfl)) (by decide) (rm1_7 l Z a0 hw a1094 h1145 n0 Z1149 k1094 (FP.i2d p1) p1.toInt W1 (FP.i2d p2) p2.toInt W2 (FP.i2d p3) p3.toInt W3 (FP.i2d p4) p4.toInt W4 (FP.i2d p5) p5.toInt W5 (FP.i2d p1) p1.toInt W1 (FP.i2d p2) p2.toInt W2 V1145') q1187 (argsL := [(.ref a1094)]) (rest := []) rfl rfl 0 253 rfl (by rw [hml]; rfl) (lenOf own_pd0 rfl) (Nat.le_refl _) (by decide) (by decide) (by decide) (by decide) (hb hby at_250) ?_
                                intro v1196 T1196 L1196 X1196 hQ1196
                                obtain ⟨a1196, rfl, N1196, ga1196, K1196, Ea1196, lo, hi, r, mi, ma, F11196, F21196, F31196, dn, dx, Mi, Ma, r1, r2⟩ := hQ1196
                                have E1 := own_minEq Mi Ir1183 (fun x hx => by simp only [List.mem_cons, List.not_mem_nil, or_false] at hx ⊢; omega) (fun x hx => by simp only [List.mem_cons, List.not_mem_nil, or_false] at hx ⊢; omega)
                                have E2 := own_maxEq Ma Ir1186 (fun x hx => by simp only [List.mem_cons, List.not_mem_nil, or_false] at hx ⊢; omega) (fun x hx => by simp only [List.mem_cons, List.not_mem_nil, or_false] at hx ⊢; omega)
                                have N1197 := Fr.app N1188 N1196
                                have F1198 := F1146.keep K1196
                                have F1199 := V1145'.keep K1196 nin0
                                have Z1200 : n0 ≤ T1196.heap.size := Nat.le_trans Z1149 K1196.1
                                show Go p e below _ T1196 (mkF m 253 #[.val (.int p0), .val (.int p1), .val (.int p2), .val (.int p3), .val (.int p4), .val (.int p5), .val (.int (7 : Int32)), .val (.ref a1094), .val (.int r1183), .val (.int r1186), .val (.int (4 : Int32)), .unset] [(.ref a1196)])
                                refine g_astore (l' := #[.val (.int p0), .val (.int p1), .val (.int p2), .val (.int p3), .val (.int p4), .val (.int p5), .val (.int (7 : Int32)), .val (.ref a1094), .val (.int r1183), .val (.int r1186), .val (.int (4 : Int32)), .val (.ref a1196)]) X1196 hx 255 (hb hby at_253) rfl rfl rfl ?_
                                refine g_aload X1196 hx 257 (hb hby at_255) rfl rfl rfl ?_
                                refine g_virt X1196 hx hZ (C := "com/example/recolecta/recolecta/Bins") hown (hw _ (List.mem_of_getElem? (i := 29) rfl)) (hw _ (List.mem_of_getElem? (i := 30) rfl)) (hw _ (List.mem_of_getElem? (i := 32) rfl)) (hw _ (List.mem_of_getElem? (i := 32) rfl)) (hw _ (List.mem_of_getElem? (i := 31) rfl)) (hw _ (List.mem_of_getElem? (i := 3) rfl)) (hw _ (List.mem_of_getElem? (i := 33) rfl)) (by decide) (rm7 l Z a0 hw a1196 T1196.heap n0 Z1200 lo F11196) rfl (b := a1196) Ea1196 (argsL := []) (rest := []) rfl rfl 0 260 rfl (by rw [hml]; rfl) (lenOf own_pd5 rfl) (Nat.le_refl _) (by decide) (by decide) (by decide) (by decide) (hb hby at_257) ?_
                                intro v1201 T1201 L1201 X1201 hQ1201
                                obtain ⟨rfl, N1201, q1201⟩ := hQ1201
                                have N1202 := Fr.app N1197 N1201
                                show Go p e below _ T1201 (mkF m 260 #[.val (.int p0), .val (.int p1), .val (.int p2), .val (.int p3), .val (.int p4), .val (.int p5), .val (.int (7 : Int32)), .val (.ref a1094), .val (.int r1183), .val (.int r1186), .val (.int (4 : Int32)), .val (.ref a1196)] [(.double lo)])
                                refine g_iload X1201 hx 262 (hb hby at_260) rfl rfl ?_
                                refine g_i2d X1201 hx 263 (hb hby at_262) rfl ?_
                                refine g_dc_ne X1201 hx 264 293 267 (hb hby at_263) rfl (hb hby at_264) (by decide) (by decide) rfl (Jvm.FP.Core.dcmp_int dn (Jvm.FP.Core.i2d_int r1183)) (fun c1203 => ?_) (fun c1203 => ?_)
                                · skip
                                  exfalso; omega
                                · skip
                                  refine g_aload X1201 hx 269 (hb hby at_267) rfl rfl rfl ?_
                                  refine g_virt X1201 hx hZ (C := "com/example/recolecta/recolecta/Bins") hown (hw _ (List.mem_of_getElem? (i := 34) rfl)) (hw _ (List.mem_of_getElem? (i := 35) rfl)) (hw _ (List.mem_of_getElem? (i := 37) rfl)) (hw _ (List.mem_of_getElem? (i := 37) rfl)) (hw _ (List.mem_of_getElem? (i := 36) rfl)) (hw _ (List.mem_of_getElem? (i := 3) rfl)) (hw _ (List.mem_of_getElem? (i := 38) rfl)) (by decide) (rm8 l Z a0 hw a1196 T1196.heap n0 Z1200 hi F21196) q1201 (b := a1196) Ea1196 (argsL := []) (rest := []) rfl rfl 0 272 rfl (by rw [hml]; rfl) (lenOf own_pd5 rfl) (Nat.le_refl _) (by decide) (by decide) (by decide) (by decide) (hb hby at_269) ?_
                                  intro v1204 T1204 L1204 X1204 hQ1204
                                  obtain ⟨rfl, N1204, q1204⟩ := hQ1204
                                  have N1205 := Fr.app N1202 N1204
                                  show Go p e below _ T1204 (mkF m 272 #[.val (.int p0), .val (.int p1), .val (.int p2), .val (.int p3), .val (.int p4), .val (.int p5), .val (.int (7 : Int32)), .val (.ref a1094), .val (.int r1183), .val (.int r1186), .val (.int (4 : Int32)), .val (.ref a1196)] [(.double hi)])
                                  refine g_iload X1204 hx 274 (hb hby at_272) rfl rfl ?_
                                  refine g_i2d X1204 hx 275 (hb hby at_274) rfl ?_
                                  refine g_dc_ne X1204 hx 276 293 279 (hb hby at_275) rfl (hb hby at_276) (by decide) (by decide) rfl (Jvm.FP.Core.dcmp_int dx (Jvm.FP.Core.i2d_int r1186)) (fun c1206 => ?_) (fun c1206 => ?_)
                                  · skip
                                    exfalso; omega
                                  · skip
                                    refine g_aload X1204 hx 281 (hb hby at_279) rfl rfl rfl ?_
                                    refine g_virt X1204 hx hZ (C := "com/example/recolecta/recolecta/Bins") hown (hw _ (List.mem_of_getElem? (i := 39) rfl)) (hw _ (List.mem_of_getElem? (i := 40) rfl)) (hw _ (List.mem_of_getElem? (i := 42) rfl)) (hw _ (List.mem_of_getElem? (i := 42) rfl)) (hw _ (List.mem_of_getElem? (i := 41) rfl)) (hw _ (List.mem_of_getElem? (i := 3) rfl)) (hw _ (List.mem_of_getElem? (i := 43) rfl)) (by decide) (rm9 l Z a0 hw a1196 T1196.heap n0 Z1200 r F31196) q1204 (b := a1196) Ea1196 (argsL := []) (rest := []) rfl rfl 0 284 rfl (by rw [hml]; rfl) (lenOf own_pd6 rfl) (Nat.le_refl _) (by decide) (by decide) (by decide) (by decide) (hb hby at_281) ?_
                                    intro v1207 T1207 L1207 X1207 hQ1207
                                    obtain ⟨rfl, N1207, q1207⟩ := hQ1207
                                    have N1208 := Fr.app N1205 N1207
                                    show Go p e below _ T1207 (mkF m 284 #[.val (.int p0), .val (.int p1), .val (.int p2), .val (.int p3), .val (.int p4), .val (.int p5), .val (.int (7 : Int32)), .val (.ref a1094), .val (.int r1183), .val (.int r1186), .val (.int (4 : Int32)), .val (.ref a1196)] [(.int r)])
                                    refine g_iload X1207 hx 286 (hb hby at_284) rfl rfl ?_
                                    have L := fun q => own_lit (r2 q) (by decide)
                                    have ln : (7 : Int32).toInt = 7 := by decide
                                    have ll1210 : ((4 : Int32) : Int32).toInt = 4 := by decide
                                    refine g_ic_ne X1207 hx 293 289 (hb hby at_286) (by decide) (by decide) rfl (fun c1209 => ?_) (fun c1209 => ?_)
                                    · skip
                                      have l1 : (1 : Int32).toInt = 1 := by decide
                                      have l2 : (2 : Int32).toInt = 2 := by decide
                                      have l3 : (3 : Int32).toInt = 3 := by decide
                                      have l4 : (4 : Int32).toInt = 4 := by decide
                                      have q1 := L (by omega)
                                      exfalso; omega
                                    · skip
                                      refine g_iconst X1207 hx (1 : Int32) 290 (hb hby at_289) rfl (by decide) ?_
                                      refine g_goto X1207 hx 294 (hb hby at_290) (by decide) (by decide) ?_
                                      exact g_retZ X1207 hx hlk hret (hb hby at_294) (by decide) (by decide) q1207 ⟨rfl, N1208⟩
                              · skip
                                exfalso; revert c1193; decide
                            · skip
                              exfalso; revert c1190; decide
                          · skip
                            refine g_iconst X1187 hx (1 : Int32) 216 (hb hby at_215) rfl (by decide) ?_
                            refine g_istore (l' := #[.val (.int p0), .val (.int p1), .val (.int p2), .val (.int p3), .val (.int p4), .val (.int p5), .val (.int (7 : Int32)), .val (.ref a1094), .val (.int r1183), .val (.int r1186), .val (.int (1 : Int32)), .unset]) X1187 hx 218 (hb hby at_216) rfl rfl ?_
                            refine g_goto X1187 hx 248 (hb hby at_218) (by decide) (by decide) ?_
                            refine g_aload X1187 hx 250 (hb hby at_248) rfl rfl rfl ?_
                            refine g_static X1187 hx hZ hown (hw _ (List.mem_of_getElem? (i := 1) rfl)) (hw _ (List.mem_of_getElem? (i := 2) rfl)) (hw _ (List.mem_of_getElem? (i := 3) rfl)) (hw _ (List.mem_of_getElem? (i := 4) rfl)) (by decide) (rm1_7 l Z a0 hw a1094 h1145 n0 Z1149 k1094 (FP.i2d p1) p1.toInt W1 (FP.i2d p2) p2.toInt W2 (FP.i2d p3) p3.toInt W3 (FP.i2d p4) p4.toInt W4 (FP.i2d p5) p5.toInt W5 (FP.i2d p1) p1.toInt W1 (FP.i2d p2) p2.toInt W2 V1145') q1187 (argsL := [(.ref a1094)]) (rest := []) rfl rfl 0 253 rfl (by rw [hml]; rfl) (lenOf own_pd0 rfl) (Nat.le_refl _) (by decide) (by decide) (by decide) (by decide) (hb hby at_250) ?_
                            intro v1211 T1211 L1211 X1211 hQ1211
                            obtain ⟨a1211, rfl, N1211, ga1211, K1211, Ea1211, lo, hi, r, mi, ma, F11211, F21211, F31211, dn, dx, Mi, Ma, r1, r2⟩ := hQ1211
                            have E1 := own_minEq Mi Ir1183 (fun x hx => by simp only [List.mem_cons, List.not_mem_nil, or_false] at hx ⊢; omega) (fun x hx => by simp only [List.mem_cons, List.not_mem_nil, or_false] at hx ⊢; omega)
                            have E2 := own_maxEq Ma Ir1186 (fun x hx => by simp only [List.mem_cons, List.not_mem_nil, or_false] at hx ⊢; omega) (fun x hx => by simp only [List.mem_cons, List.not_mem_nil, or_false] at hx ⊢; omega)
                            have N1212 := Fr.app N1188 N1211
                            have F1213 := F1146.keep K1211
                            have F1214 := V1145'.keep K1211 nin0
                            have Z1215 : n0 ≤ T1211.heap.size := Nat.le_trans Z1149 K1211.1
                            show Go p e below _ T1211 (mkF m 253 #[.val (.int p0), .val (.int p1), .val (.int p2), .val (.int p3), .val (.int p4), .val (.int p5), .val (.int (7 : Int32)), .val (.ref a1094), .val (.int r1183), .val (.int r1186), .val (.int (1 : Int32)), .unset] [(.ref a1211)])
                            refine g_astore (l' := #[.val (.int p0), .val (.int p1), .val (.int p2), .val (.int p3), .val (.int p4), .val (.int p5), .val (.int (7 : Int32)), .val (.ref a1094), .val (.int r1183), .val (.int r1186), .val (.int (1 : Int32)), .val (.ref a1211)]) X1211 hx 255 (hb hby at_253) rfl rfl rfl ?_
                            refine g_aload X1211 hx 257 (hb hby at_255) rfl rfl rfl ?_
                            refine g_virt X1211 hx hZ (C := "com/example/recolecta/recolecta/Bins") hown (hw _ (List.mem_of_getElem? (i := 29) rfl)) (hw _ (List.mem_of_getElem? (i := 30) rfl)) (hw _ (List.mem_of_getElem? (i := 32) rfl)) (hw _ (List.mem_of_getElem? (i := 32) rfl)) (hw _ (List.mem_of_getElem? (i := 31) rfl)) (hw _ (List.mem_of_getElem? (i := 3) rfl)) (hw _ (List.mem_of_getElem? (i := 33) rfl)) (by decide) (rm7 l Z a0 hw a1211 T1211.heap n0 Z1215 lo F11211) rfl (b := a1211) Ea1211 (argsL := []) (rest := []) rfl rfl 0 260 rfl (by rw [hml]; rfl) (lenOf own_pd5 rfl) (Nat.le_refl _) (by decide) (by decide) (by decide) (by decide) (hb hby at_257) ?_
                            intro v1216 T1216 L1216 X1216 hQ1216
                            obtain ⟨rfl, N1216, q1216⟩ := hQ1216
                            have N1217 := Fr.app N1212 N1216
                            show Go p e below _ T1216 (mkF m 260 #[.val (.int p0), .val (.int p1), .val (.int p2), .val (.int p3), .val (.int p4), .val (.int p5), .val (.int (7 : Int32)), .val (.ref a1094), .val (.int r1183), .val (.int r1186), .val (.int (1 : Int32)), .val (.ref a1211)] [(.double lo)])
                            refine g_iload X1216 hx 262 (hb hby at_260) rfl rfl ?_
                            refine g_i2d X1216 hx 263 (hb hby at_262) rfl ?_
                            refine g_dc_ne X1216 hx 264 293 267 (hb hby at_263) rfl (hb hby at_264) (by decide) (by decide) rfl (Jvm.FP.Core.dcmp_int dn (Jvm.FP.Core.i2d_int r1183)) (fun c1218 => ?_) (fun c1218 => ?_)
                            · skip
                              exfalso; omega
                            · skip
                              refine g_aload X1216 hx 269 (hb hby at_267) rfl rfl rfl ?_
                              refine g_virt X1216 hx hZ (C := "com/example/recolecta/recolecta/Bins") hown (hw _ (List.mem_of_getElem? (i := 34) rfl)) (hw _ (List.mem_of_getElem? (i := 35) rfl)) (hw _ (List.mem_of_getElem? (i := 37) rfl)) (hw _ (List.mem_of_getElem? (i := 37) rfl)) (hw _ (List.mem_of_getElem? (i := 36) rfl)) (hw _ (List.mem_of_getElem? (i := 3) rfl)) (hw _ (List.mem_of_getElem? (i := 38) rfl)) (by decide) (rm8 l Z a0 hw a1211 T1211.heap n0 Z1215 hi F21211) q1216 (b := a1211) Ea1211 (argsL := []) (rest := []) rfl rfl 0 272 rfl (by rw [hml]; rfl) (lenOf own_pd5 rfl) (Nat.le_refl _) (by decide) (by decide) (by decide) (by decide) (hb hby at_269) ?_
                              intro v1219 T1219 L1219 X1219 hQ1219
                              obtain ⟨rfl, N1219, q1219⟩ := hQ1219
                              have N1220 := Fr.app N1217 N1219
                              show Go p e below _ T1219 (mkF m 272 #[.val (.int p0), .val (.int p1), .val (.int p2), .val (.int p3), .val (.int p4), .val (.int p5), .val (.int (7 : Int32)), .val (.ref a1094), .val (.int r1183), .val (.int r1186), .val (.int (1 : Int32)), .val (.ref a1211)] [(.double hi)])
                              refine g_iload X1219 hx 274 (hb hby at_272) rfl rfl ?_
                              refine g_i2d X1219 hx 275 (hb hby at_274) rfl ?_
                              refine g_dc_ne X1219 hx 276 293 279 (hb hby at_275) rfl (hb hby at_276) (by decide) (by decide) rfl (Jvm.FP.Core.dcmp_int dx (Jvm.FP.Core.i2d_int r1186)) (fun c1221 => ?_) (fun c1221 => ?_)
                              · skip
                                exfalso; omega
                              · skip
                                refine g_aload X1219 hx 281 (hb hby at_279) rfl rfl rfl ?_
                                refine g_virt X1219 hx hZ (C := "com/example/recolecta/recolecta/Bins") hown (hw _ (List.mem_of_getElem? (i := 39) rfl)) (hw _ (List.mem_of_getElem? (i := 40) rfl)) (hw _ (List.mem_of_getElem? (i := 42) rfl)) (hw _ (List.mem_of_getElem? (i := 42) rfl)) (hw _ (List.mem_of_getElem? (i := 41) rfl)) (hw _ (List.mem_of_getElem? (i := 3) rfl)) (hw _ (List.mem_of_getElem? (i := 43) rfl)) (by decide) (rm9 l Z a0 hw a1211 T1211.heap n0 Z1215 r F31211) q1219 (b := a1211) Ea1211 (argsL := []) (rest := []) rfl rfl 0 284 rfl (by rw [hml]; rfl) (lenOf own_pd6 rfl) (Nat.le_refl _) (by decide) (by decide) (by decide) (by decide) (hb hby at_281) ?_
                                intro v1222 T1222 L1222 X1222 hQ1222
                                obtain ⟨rfl, N1222, q1222⟩ := hQ1222
                                have N1223 := Fr.app N1220 N1222
                                show Go p e below _ T1222 (mkF m 284 #[.val (.int p0), .val (.int p1), .val (.int p2), .val (.int p3), .val (.int p4), .val (.int p5), .val (.int (7 : Int32)), .val (.ref a1094), .val (.int r1183), .val (.int r1186), .val (.int (1 : Int32)), .val (.ref a1211)] [(.int r)])
                                refine g_iload X1222 hx 286 (hb hby at_284) rfl rfl ?_
                                have L := fun q => own_lit (r2 q) (by decide)
                                have ln : (7 : Int32).toInt = 7 := by decide
                                have ll1225 : ((1 : Int32) : Int32).toInt = 1 := by decide
                                refine g_ic_ne X1222 hx 293 289 (hb hby at_286) (by decide) (by decide) rfl (fun c1224 => ?_) (fun c1224 => ?_)
                                · skip
                                  have l1 : (1 : Int32).toInt = 1 := by decide
                                  have l2 : (2 : Int32).toInt = 2 := by decide
                                  have l3 : (3 : Int32).toInt = 3 := by decide
                                  have l4 : (4 : Int32).toInt = 4 := by decide
                                  have q1 := r1 (by omega)
                                  exfalso; omega
                                · skip
                                  refine g_iconst X1222 hx (1 : Int32) 290 (hb hby at_289) rfl (by decide) ?_
                                  refine g_goto X1222 hx 294 (hb hby at_290) (by decide) (by decide) ?_
                                  exact g_retZ X1222 hx hlk hret (hb hby at_294) (by decide) (by decide) q1222 ⟨rfl, N1223⟩
                · skip
                  exfalso; revert c1150; decide
  · skip
    refine g_iload X0 hx 10 (hb hby at_8) rfl rfl ?_
    refine g_newP X0 hx hZ (aty := .double) (hw _ (List.mem_of_getElem? (i := 0) rfl)) e0 (by decide) (cap := 8) (by decide) (by decide) 12 (hb hby at_10) rfl (by decide) (by decide) (ad := "[D") (by decide) ?_
    intro T1226 h1226 k1226 a1226 g1226 X1226 e1226 E1226 V1226 A1226
    have ge1227 : n0 ≤ a1226 := by rw [g1226]; exact Z0
    have Z1228 : n0 ≤ h1226.size := Nat.le_trans Z0 E1226.1
    have V1226' : Arv Z h1226 a1226 k1226 .double (8 : Int32) [(.double (0 : UInt64)), (.double (0 : UInt64)), (.double (0 : UInt64)), (.double (0 : UInt64)), (.double (0 : UInt64)), (.double (0 : UInt64)), (.double (0 : UInt64)), (.double (0 : UInt64))] (.double (0 : UInt64)) := V1226.pad (pad_rep [] (.double (0 : UInt64)) 8)
    refine g_astore (l' := #[.val (.int p0), .val (.int p1), .val (.int p2), .val (.int p3), .val (.int p4), .val (.int p5), .val (.int (8 : Int32)), .val (.ref a1226), .unset, .unset, .unset, .unset]) X1226 hx 14 (hb hby at_12) rfl rfl rfl ?_
    refine g_aload X1226 hx 16 (hb hby at_14) rfl rfl rfl ?_
    refine g_iconst X1226 hx (0 : Int32) 17 (hb hby at_16) rfl (by decide) ?_
    refine g_iloadN X1226 hx 18 (hb hby at_17) rfl rfl ?_
    refine g_i2d X1226 hx 19 (hb hby at_18) rfl ?_
    refine g_dastore X1226 hx hZ e1226 V1226' 0 (by decide) (by decide) (by show 0 < 8; decide) 20 (hb hby at_19) rfl ?_
    intro T1229 h1229 X1229 e1229 W1229 V1229
    have F1230 := A1226.wr W1229
    have N1232 := Fr.snoc X1229 N0 ge1227
    have Z1233 : n0 ≤ h1229.size := by rw [W1229.size]; exact Z1228
    have V1229' : Arv Z h1229 a1226 k1226 .double (8 : Int32) [(.double (FP.i2d p1)), (.double (0 : UInt64)), (.double (0 : UInt64)), (.double (0 : UInt64)), (.double (0 : UInt64)), (.double (0 : UInt64)), (.double (0 : UInt64)), (.double (0 : UInt64))] (.double (0 : UInt64)) := V1229
    refine g_iload X1229 hx 22 (hb hby at_20) rfl rfl ?_
    refine g_iconst X1229 hx (1 : Int32) 23 (hb hby at_22) rfl (by decide) ?_
    have ll1235 : ((1 : Int32) : Int32).toInt = 1 := by decide
    have ll1236 : ((8 : Int32) : Int32).toInt = 8 := by decide
    refine g_ic_le X1229 hx 32 26 (hb hby at_23) (by decide) (by decide) rfl (fun c1234 => ?_) (fun c1234 => ?_)
    · skip
      exfalso; revert c1234; decide
    · skip
      refine g_aload X1229 hx 28 (hb hby at_26) rfl rfl rfl ?_
      refine g_iconst X1229 hx (1 : Int32) 29 (hb hby at_28) rfl (by decide) ?_
      refine g_iloadN X1229 hx 30 (hb hby at_29) rfl rfl ?_
      refine g_i2d X1229 hx 31 (hb hby at_30) rfl ?_
      refine g_dastore X1229 hx hZ e1229 V1229' 1 (by decide) (by decide) (by show 1 < 8; decide) 32 (hb hby at_31) rfl ?_
      intro T1237 h1237 X1237 e1237 W1237 V1237
      have F1238 := F1230.wr W1237
      have N1240 := Fr.snoc X1237 N1232 ge1227
      have Z1241 : n0 ≤ h1237.size := by rw [W1237.size]; exact Z1233
      have V1237' : Arv Z h1237 a1226 k1226 .double (8 : Int32) [(.double (FP.i2d p1)), (.double (FP.i2d p2)), (.double (0 : UInt64)), (.double (0 : UInt64)), (.double (0 : UInt64)), (.double (0 : UInt64)), (.double (0 : UInt64)), (.double (0 : UInt64))] (.double (0 : UInt64)) := V1237
      refine g_iload X1237 hx 34 (hb hby at_32) rfl rfl ?_
      refine g_iconst X1237 hx (2 : Int32) 35 (hb hby at_34) rfl (by decide) ?_
      have ll1243 : ((2 : Int32) : Int32).toInt = 2 := by decide
      have ll1244 : ((8 : Int32) : Int32).toInt = 8 := by decide
      refine g_ic_le X1237 hx 44 38 (hb hby at_35) (by decide) (by decide) rfl (fun c1242 => ?_) (fun c1242 => ?_)
      · skip
        exfalso; revert c1242; decide
      · skip
        refine g_aload X1237 hx 40 (hb hby at_38) rfl rfl rfl ?_
        refine g_iconst X1237 hx (2 : Int32) 41 (hb hby at_40) rfl (by decide) ?_
        refine g_iloadN X1237 hx 42 (hb hby at_41) rfl rfl ?_
        refine g_i2d X1237 hx 43 (hb hby at_42) rfl ?_
        refine g_dastore X1237 hx hZ e1237 V1237' 2 (by decide) (by decide) (by show 2 < 8; decide) 44 (hb hby at_43) rfl ?_
        intro T1245 h1245 X1245 e1245 W1245 V1245
        have F1246 := F1238.wr W1245
        have N1248 := Fr.snoc X1245 N1240 ge1227
        have Z1249 : n0 ≤ h1245.size := by rw [W1245.size]; exact Z1241
        have V1245' : Arv Z h1245 a1226 k1226 .double (8 : Int32) [(.double (FP.i2d p1)), (.double (FP.i2d p2)), (.double (FP.i2d p3)), (.double (0 : UInt64)), (.double (0 : UInt64)), (.double (0 : UInt64)), (.double (0 : UInt64)), (.double (0 : UInt64))] (.double (0 : UInt64)) := V1245
        refine g_iload X1245 hx 46 (hb hby at_44) rfl rfl ?_
        refine g_iconst X1245 hx (3 : Int32) 47 (hb hby at_46) rfl (by decide) ?_
        have ll1251 : ((3 : Int32) : Int32).toInt = 3 := by decide
        have ll1252 : ((8 : Int32) : Int32).toInt = 8 := by decide
        refine g_ic_le X1245 hx 57 50 (hb hby at_47) (by decide) (by decide) rfl (fun c1250 => ?_) (fun c1250 => ?_)
        · skip
          exfalso; revert c1250; decide
        · skip
          refine g_aload X1245 hx 52 (hb hby at_50) rfl rfl rfl ?_
          refine g_iconst X1245 hx (3 : Int32) 53 (hb hby at_52) rfl (by decide) ?_
          refine g_iload X1245 hx 55 (hb hby at_53) rfl rfl ?_
          refine g_i2d X1245 hx 56 (hb hby at_55) rfl ?_
          refine g_dastore X1245 hx hZ e1245 V1245' 3 (by decide) (by decide) (by show 3 < 8; decide) 57 (hb hby at_56) rfl ?_
          intro T1253 h1253 X1253 e1253 W1253 V1253
          have F1254 := F1246.wr W1253
          have N1256 := Fr.snoc X1253 N1248 ge1227
          have Z1257 : n0 ≤ h1253.size := by rw [W1253.size]; exact Z1249
          have V1253' : Arv Z h1253 a1226 k1226 .double (8 : Int32) [(.double (FP.i2d p1)), (.double (FP.i2d p2)), (.double (FP.i2d p3)), (.double (FP.i2d p4)), (.double (0 : UInt64)), (.double (0 : UInt64)), (.double (0 : UInt64)), (.double (0 : UInt64))] (.double (0 : UInt64)) := V1253
          refine g_iload X1253 hx 59 (hb hby at_57) rfl rfl ?_
          refine g_iconst X1253 hx (4 : Int32) 60 (hb hby at_59) rfl (by decide) ?_
          have ll1259 : ((4 : Int32) : Int32).toInt = 4 := by decide
          have ll1260 : ((8 : Int32) : Int32).toInt = 8 := by decide
          refine g_ic_le X1253 hx 70 63 (hb hby at_60) (by decide) (by decide) rfl (fun c1258 => ?_) (fun c1258 => ?_)
          · skip
            exfalso; revert c1258; decide
          · skip
            refine g_aload X1253 hx 65 (hb hby at_63) rfl rfl rfl ?_
            refine g_iconst X1253 hx (4 : Int32) 66 (hb hby at_65) rfl (by decide) ?_
            refine g_iload X1253 hx 68 (hb hby at_66) rfl rfl ?_
            refine g_i2d X1253 hx 69 (hb hby at_68) rfl ?_
            refine g_dastore X1253 hx hZ e1253 V1253' 4 (by decide) (by decide) (by show 4 < 8; decide) 70 (hb hby at_69) rfl ?_
            intro T1261 h1261 X1261 e1261 W1261 V1261
            have F1262 := F1254.wr W1261
            have N1264 := Fr.snoc X1261 N1256 ge1227
            have Z1265 : n0 ≤ h1261.size := by rw [W1261.size]; exact Z1257
            have V1261' : Arv Z h1261 a1226 k1226 .double (8 : Int32) [(.double (FP.i2d p1)), (.double (FP.i2d p2)), (.double (FP.i2d p3)), (.double (FP.i2d p4)), (.double (FP.i2d p5)), (.double (0 : UInt64)), (.double (0 : UInt64)), (.double (0 : UInt64))] (.double (0 : UInt64)) := V1261
            refine g_iload X1261 hx 72 (hb hby at_70) rfl rfl ?_
            refine g_iconst X1261 hx (5 : Int32) 73 (hb hby at_72) rfl (by decide) ?_
            have ll1267 : ((5 : Int32) : Int32).toInt = 5 := by decide
            have ll1268 : ((8 : Int32) : Int32).toInt = 8 := by decide
            refine g_ic_le X1261 hx 82 76 (hb hby at_73) (by decide) (by decide) rfl (fun c1266 => ?_) (fun c1266 => ?_)
            · skip
              exfalso; revert c1266; decide
            · skip
              refine g_aload X1261 hx 78 (hb hby at_76) rfl rfl rfl ?_
              refine g_iconst X1261 hx (5 : Int32) 79 (hb hby at_78) rfl (by decide) ?_
              refine g_iloadN X1261 hx 80 (hb hby at_79) rfl rfl ?_
              refine g_i2d X1261 hx 81 (hb hby at_80) rfl ?_
              refine g_dastore X1261 hx hZ e1261 V1261' 5 (by decide) (by decide) (by show 5 < 8; decide) 82 (hb hby at_81) rfl ?_
              intro T1269 h1269 X1269 e1269 W1269 V1269
              have F1270 := F1262.wr W1269
              have N1272 := Fr.snoc X1269 N1264 ge1227
              have Z1273 : n0 ≤ h1269.size := by rw [W1269.size]; exact Z1265
              have V1269' : Arv Z h1269 a1226 k1226 .double (8 : Int32) [(.double (FP.i2d p1)), (.double (FP.i2d p2)), (.double (FP.i2d p3)), (.double (FP.i2d p4)), (.double (FP.i2d p5)), (.double (FP.i2d p1)), (.double (0 : UInt64)), (.double (0 : UInt64))] (.double (0 : UInt64)) := V1269
              refine g_iload X1269 hx 84 (hb hby at_82) rfl rfl ?_
              refine g_bipush X1269 hx (6 : Int32) 86 (hb hby at_84) rfl (by decide) ?_
              have ll1275 : ((6 : Int32) : Int32).toInt = 6 := by decide
              have ll1276 : ((8 : Int32) : Int32).toInt = 8 := by decide
              refine g_ic_le X1269 hx 96 89 (hb hby at_86) (by decide) (by decide) rfl (fun c1274 => ?_) (fun c1274 => ?_)
              · skip
                exfalso; revert c1274; decide
              · skip
                refine g_aload X1269 hx 91 (hb hby at_89) rfl rfl rfl ?_
                refine g_bipush X1269 hx (6 : Int32) 93 (hb hby at_91) rfl (by decide) ?_
                refine g_iloadN X1269 hx 94 (hb hby at_93) rfl rfl ?_
                refine g_i2d X1269 hx 95 (hb hby at_94) rfl ?_
                refine g_dastore X1269 hx hZ e1269 V1269' 6 (by decide) (by decide) (by show 6 < 8; decide) 96 (hb hby at_95) rfl ?_
                intro T1277 h1277 X1277 e1277 W1277 V1277
                have F1278 := F1270.wr W1277
                have N1280 := Fr.snoc X1277 N1272 ge1227
                have Z1281 : n0 ≤ h1277.size := by rw [W1277.size]; exact Z1273
                have V1277' : Arv Z h1277 a1226 k1226 .double (8 : Int32) [(.double (FP.i2d p1)), (.double (FP.i2d p2)), (.double (FP.i2d p3)), (.double (FP.i2d p4)), (.double (FP.i2d p5)), (.double (FP.i2d p1)), (.double (FP.i2d p2)), (.double (0 : UInt64))] (.double (0 : UInt64)) := V1277
                refine g_iload X1277 hx 98 (hb hby at_96) rfl rfl ?_
                refine g_bipush X1277 hx (7 : Int32) 100 (hb hby at_98) rfl (by decide) ?_
                have ll1283 : ((7 : Int32) : Int32).toInt = 7 := by decide
                have ll1284 : ((8 : Int32) : Int32).toInt = 8 := by decide
                refine g_ic_le X1277 hx 110 103 (hb hby at_100) (by decide) (by decide) rfl (fun c1282 => ?_) (fun c1282 => ?_)
                · skip
                  exfalso; revert c1282; decide
                · skip
                  refine g_aload X1277 hx 105 (hb hby at_103) rfl rfl rfl ?_
                  refine g_bipush X1277 hx (7 : Int32) 107 (hb hby at_105) rfl (by decide) ?_
                  refine g_iloadN X1277 hx 108 (hb hby at_107) rfl rfl ?_
                  refine g_i2d X1277 hx 109 (hb hby at_108) rfl ?_
                  refine g_dastore X1277 hx hZ e1277 V1277' 7 (by decide) (by decide) (by show 7 < 8; decide) 110 (hb hby at_109) rfl ?_
                  intro T1285 h1285 X1285 e1285 W1285 V1285
                  have F1286 := F1278.wr W1285
                  have N1288 := Fr.snoc X1285 N1280 ge1227
                  have Z1289 : n0 ≤ h1285.size := by rw [W1285.size]; exact Z1281
                  have V1285' : Arv Z h1285 a1226 k1226 .double (8 : Int32) [(.double (FP.i2d p1)), (.double (FP.i2d p2)), (.double (FP.i2d p3)), (.double (FP.i2d p4)), (.double (FP.i2d p5)), (.double (FP.i2d p1)), (.double (FP.i2d p2)), (.double (FP.i2d p3))] (.double (0 : UInt64)) := V1285
                  refine g_iloadN X1285 hx 111 (hb hby at_110) rfl rfl ?_
                  refine g_istore (l' := #[.val (.int p0), .val (.int p1), .val (.int p2), .val (.int p3), .val (.int p4), .val (.int p5), .val (.int (8 : Int32)), .val (.ref a1226), .val (.int p1), .unset, .unset, .unset]) X1285 hx 113 (hb hby at_111) rfl rfl ?_
                  refine g_iloadN X1285 hx 114 (hb hby at_113) rfl rfl ?_
                  refine g_istore (l' := #[.val (.int p0), .val (.int p1), .val (.int p2), .val (.int p3), .val (.int p4), .val (.int p5), .val (.int (8 : Int32)), .val (.ref a1226), .val (.int p1), .val (.int p1), .unset, .unset]) X1285 hx 116 (hb hby at_114) rfl rfl ?_
                  refine g_iload X1285 hx 118 (hb hby at_116) rfl rfl ?_
                  refine g_iconst X1285 hx (1 : Int32) 119 (hb hby at_118) rfl (by decide) ?_
                  have ll1291 : ((1 : Int32) : Int32).toInt = 1 := by decide
                  have ll1292 : ((8 : Int32) : Int32).toInt = 8 := by decide
                  refine g_ic_le X1285 hx 138 122 (hb hby at_119) (by decide) (by decide) rfl (fun c1290 => ?_) (fun c1290 => ?_)
                  · skip
                    exfalso; revert c1290; decide
                  · skip
                    refine g_iload X1285 hx 124 (hb hby at_122) rfl rfl ?_
                    refine g_iloadN X1285 hx 125 (hb hby at_124) rfl rfl ?_
                    refine g_static X1285 hx hZ hown (hw _ (List.mem_of_getElem? (i := 44) rfl)) (hw _ (List.mem_of_getElem? (i := 45) rfl)) (hw _ (List.mem_of_getElem? (i := 7) rfl)) (hw _ (List.mem_of_getElem? (i := 46) rfl)) (by decide) (rm10 l Z a0 hw p1 p2 h1285 n0 Z1289) e1285 (argsL := [(.int p1), (.int p2)]) (rest := []) rfl rfl 0 128 rfl (by rw [hml]; rfl) (lenOf own_pd7 rfl) (Nat.le_refl _) (by decide) (by decide) (by decide) (by decide) (hb hby at_125) ?_
                    intro v1294 T1294 L1294 X1294 hQ1294
                    obtain ⟨r1293, rfl, ⟨a1, a2, a3⟩, N1294, q1294⟩ := hQ1294
                    have N1295 := Fr.app N1288 N1294
                    have Ir1293 := own_minS (own_min1 p1.toInt) a1 a2 a3
                    clear a1 a2 a3
                    show Go p e below _ T1294 (mkF m 128 #[.val (.int p0), .val (.int p1), .val (.int p2), .val (.int p3), .val (.int p4), .val (.int p5), .val (.int (8 : Int32)), .val (.ref a1226), .val (.int p1), .val (.int p1), .unset, .unset] [(.int r1293)])
                    refine g_istore (l' := #[.val (.int p0), .val (.int p1), .val (.int p2), .val (.int p3), .val (.int p4), .val (.int p5), .val (.int (8 : Int32)), .val (.ref a1226), .val (.int r1293), .val (.int p1), .unset, .unset]) X1294 hx 130 (hb hby at_128) rfl rfl ?_
                    refine g_iload X1294 hx 132 (hb hby at_130) rfl rfl ?_
                    refine g_iloadN X1294 hx 133 (hb hby at_132) rfl rfl ?_
                    refine g_static X1294 hx hZ hown (hw _ (List.mem_of_getElem? (i := 47) rfl)) (hw _ (List.mem_of_getElem? (i := 48) rfl)) (hw _ (List.mem_of_getElem? (i := 7) rfl)) (hw _ (List.mem_of_getElem? (i := 49) rfl)) (by decide) (rm11 l Z a0 hw p1 p2 h1285 n0 Z1289) q1294 (argsL := [(.int p1), (.int p2)]) (rest := []) rfl rfl 0 136 rfl (by rw [hml]; rfl) (lenOf own_pd7 rfl) (Nat.le_refl _) (by decide) (by decide) (by decide) (by decide) (hb hby at_133) ?_
                    intro v1297 T1297 L1297 X1297 hQ1297
                    obtain ⟨r1296, rfl, ⟨a1, a2, a3⟩, N1297, q1297⟩ := hQ1297
                    have N1298 := Fr.app N1295 N1297
                    have Ir1296 := own_maxS (own_max1 p1.toInt) a1 a2 a3
                    clear a1 a2 a3
                    show Go p e below _ T1297 (mkF m 136 #[.val (.int p0), .val (.int p1), .val (.int p2), .val (.int p3), .val (.int p4), .val (.int p5), .val (.int (8 : Int32)), .val (.ref a1226), .val (.int r1293), .val (.int p1), .unset, .unset] [(.int r1296)])
                    refine g_istore (l' := #[.val (.int p0), .val (.int p1), .val (.int p2), .val (.int p3), .val (.int p4), .val (.int p5), .val (.int (8 : Int32)), .val (.ref a1226), .val (.int r1293), .val (.int r1296), .unset, .unset]) X1297 hx 138 (hb hby at_136) rfl rfl ?_
                    refine g_iload X1297 hx 140 (hb hby at_138) rfl rfl ?_
                    refine g_iconst X1297 hx (2 : Int32) 141 (hb hby at_140) rfl (by decide) ?_
                    have ll1300 : ((2 : Int32) : Int32).toInt = 2 := by decide
                    have ll1301 : ((8 : Int32) : Int32).toInt = 8 := by decide
                    refine g_ic_le X1297 hx 160 144 (hb hby at_141) (by decide) (by decide) rfl (fun c1299 => ?_) (fun c1299 => ?_)
                    · skip
                      exfalso; revert c1299; decide
                    · skip
                      refine g_iload X1297 hx 146 (hb hby at_144) rfl rfl ?_
                      refine g_iloadN X1297 hx 147 (hb hby at_146) rfl rfl ?_
                      refine g_static X1297 hx hZ hown (hw _ (List.mem_of_getElem? (i := 44) rfl)) (hw _ (List.mem_of_getElem? (i := 45) rfl)) (hw _ (List.mem_of_getElem? (i := 7) rfl)) (hw _ (List.mem_of_getElem? (i := 46) rfl)) (by decide) (rm10 l Z a0 hw r1293 p3 h1285 n0 Z1289) q1297 (argsL := [(.int r1293), (.int p3)]) (rest := []) rfl rfl 0 150 rfl (by rw [hml]; rfl) (lenOf own_pd7 rfl) (Nat.le_refl _) (by decide) (by decide) (by decide) (by decide) (hb hby at_147) ?_
                      intro v1303 T1303 L1303 X1303 hQ1303
                      obtain ⟨r1302, rfl, ⟨a1, a2, a3⟩, N1303, q1303⟩ := hQ1303
                      have N1304 := Fr.app N1298 N1303
                      have Ir1302 := own_minS Ir1293 a1 a2 a3
                      clear a1 a2 a3
                      show Go p e below _ T1303 (mkF m 150 #[.val (.int p0), .val (.int p1), .val (.int p2), .val (.int p3), .val (.int p4), .val (.int p5), .val (.int (8 : Int32)), .val (.ref a1226), .val (.int r1293), .val (.int r1296), .unset, .unset] [(.int r1302)])
                      refine g_istore (l' := #[.val (.int p0), .val (.int p1), .val (.int p2), .val (.int p3), .val (.int p4), .val (.int p5), .val (.int (8 : Int32)), .val (.ref a1226), .val (.int r1302), .val (.int r1296), .unset, .unset]) X1303 hx 152 (hb hby at_150) rfl rfl ?_
                      refine g_iload X1303 hx 154 (hb hby at_152) rfl rfl ?_
                      refine g_iloadN X1303 hx 155 (hb hby at_154) rfl rfl ?_
                      refine g_static X1303 hx hZ hown (hw _ (List.mem_of_getElem? (i := 47) rfl)) (hw _ (List.mem_of_getElem? (i := 48) rfl)) (hw _ (List.mem_of_getElem? (i := 7) rfl)) (hw _ (List.mem_of_getElem? (i := 49) rfl)) (by decide) (rm11 l Z a0 hw r1296 p3 h1285 n0 Z1289) q1303 (argsL := [(.int r1296), (.int p3)]) (rest := []) rfl rfl 0 158 rfl (by rw [hml]; rfl) (lenOf own_pd7 rfl) (Nat.le_refl _) (by decide) (by decide) (by decide) (by decide) (hb hby at_155) ?_
                      intro v1306 T1306 L1306 X1306 hQ1306
                      obtain ⟨r1305, rfl, ⟨a1, a2, a3⟩, N1306, q1306⟩ := hQ1306
                      have N1307 := Fr.app N1304 N1306
                      have Ir1305 := own_maxS Ir1296 a1 a2 a3
                      clear a1 a2 a3
                      show Go p e below _ T1306 (mkF m 158 #[.val (.int p0), .val (.int p1), .val (.int p2), .val (.int p3), .val (.int p4), .val (.int p5), .val (.int (8 : Int32)), .val (.ref a1226), .val (.int r1302), .val (.int r1296), .unset, .unset] [(.int r1305)])
                      refine g_istore (l' := #[.val (.int p0), .val (.int p1), .val (.int p2), .val (.int p3), .val (.int p4), .val (.int p5), .val (.int (8 : Int32)), .val (.ref a1226), .val (.int r1302), .val (.int r1305), .unset, .unset]) X1306 hx 160 (hb hby at_158) rfl rfl ?_
                      refine g_iload X1306 hx 162 (hb hby at_160) rfl rfl ?_
                      refine g_iconst X1306 hx (3 : Int32) 163 (hb hby at_162) rfl (by decide) ?_
                      have ll1309 : ((3 : Int32) : Int32).toInt = 3 := by decide
                      have ll1310 : ((8 : Int32) : Int32).toInt = 8 := by decide
                      refine g_ic_le X1306 hx 184 166 (hb hby at_163) (by decide) (by decide) rfl (fun c1308 => ?_) (fun c1308 => ?_)
                      · skip
                        exfalso; revert c1308; decide
                      · skip
                        refine g_iload X1306 hx 168 (hb hby at_166) rfl rfl ?_
                        refine g_iload X1306 hx 170 (hb hby at_168) rfl rfl ?_
                        refine g_static X1306 hx hZ hown (hw _ (List.mem_of_getElem? (i := 44) rfl)) (hw _ (List.mem_of_getElem? (i := 45) rfl)) (hw _ (List.mem_of_getElem? (i := 7) rfl)) (hw _ (List.mem_of_getElem? (i := 46) rfl)) (by decide) (rm10 l Z a0 hw r1302 p4 h1285 n0 Z1289) q1306 (argsL := [(.int r1302), (.int p4)]) (rest := []) rfl rfl 0 173 rfl (by rw [hml]; rfl) (lenOf own_pd7 rfl) (Nat.le_refl _) (by decide) (by decide) (by decide) (by decide) (hb hby at_170) ?_
                        intro v1312 T1312 L1312 X1312 hQ1312
                        obtain ⟨r1311, rfl, ⟨a1, a2, a3⟩, N1312, q1312⟩ := hQ1312
                        have N1313 := Fr.app N1307 N1312
                        have Ir1311 := own_minS Ir1302 a1 a2 a3
                        clear a1 a2 a3
                        show Go p e below _ T1312 (mkF m 173 #[.val (.int p0), .val (.int p1), .val (.int p2), .val (.int p3), .val (.int p4), .val (.int p5), .val (.int (8 : Int32)), .val (.ref a1226), .val (.int r1302), .val (.int r1305), .unset, .unset] [(.int r1311)])
                        refine g_istore (l' := #[.val (.int p0), .val (.int p1), .val (.int p2), .val (.int p3), .val (.int p4), .val (.int p5), .val (.int (8 : Int32)), .val (.ref a1226), .val (.int r1311), .val (.int r1305), .unset, .unset]) X1312 hx 175 (hb hby at_173) rfl rfl ?_
                        refine g_iload X1312 hx 177 (hb hby at_175) rfl rfl ?_
                        refine g_iload X1312 hx 179 (hb hby at_177) rfl rfl ?_
                        refine g_static X1312 hx hZ hown (hw _ (List.mem_of_getElem? (i := 47) rfl)) (hw _ (List.mem_of_getElem? (i := 48) rfl)) (hw _ (List.mem_of_getElem? (i := 7) rfl)) (hw _ (List.mem_of_getElem? (i := 49) rfl)) (by decide) (rm11 l Z a0 hw r1305 p4 h1285 n0 Z1289) q1312 (argsL := [(.int r1305), (.int p4)]) (rest := []) rfl rfl 0 182 rfl (by rw [hml]; rfl) (lenOf own_pd7 rfl) (Nat.le_refl _) (by decide) (by decide) (by decide) (by decide) (hb hby at_179) ?_
                        intro v1315 T1315 L1315 X1315 hQ1315
                        obtain ⟨r1314, rfl, ⟨a1, a2, a3⟩, N1315, q1315⟩ := hQ1315
                        have N1316 := Fr.app N1313 N1315
                        have Ir1314 := own_maxS Ir1305 a1 a2 a3
                        clear a1 a2 a3
                        show Go p e below _ T1315 (mkF m 182 #[.val (.int p0), .val (.int p1), .val (.int p2), .val (.int p3), .val (.int p4), .val (.int p5), .val (.int (8 : Int32)), .val (.ref a1226), .val (.int r1311), .val (.int r1305), .unset, .unset] [(.int r1314)])
                        refine g_istore (l' := #[.val (.int p0), .val (.int p1), .val (.int p2), .val (.int p3), .val (.int p4), .val (.int p5), .val (.int (8 : Int32)), .val (.ref a1226), .val (.int r1311), .val (.int r1314), .unset, .unset]) X1315 hx 184 (hb hby at_182) rfl rfl ?_
                        refine g_iload X1315 hx 186 (hb hby at_184) rfl rfl ?_
                        refine g_iconst X1315 hx (4 : Int32) 187 (hb hby at_186) rfl (by decide) ?_
                        have ll1318 : ((4 : Int32) : Int32).toInt = 4 := by decide
                        have ll1319 : ((8 : Int32) : Int32).toInt = 8 := by decide
                        refine g_ic_le X1315 hx 208 190 (hb hby at_187) (by decide) (by decide) rfl (fun c1317 => ?_) (fun c1317 => ?_)
                        · skip
                          exfalso; revert c1317; decide
                        · skip
                          refine g_iload X1315 hx 192 (hb hby at_190) rfl rfl ?_
                          refine g_iload X1315 hx 194 (hb hby at_192) rfl rfl ?_
                          refine g_static X1315 hx hZ hown (hw _ (List.mem_of_getElem? (i := 44) rfl)) (hw _ (List.mem_of_getElem? (i := 45) rfl)) (hw _ (List.mem_of_getElem? (i := 7) rfl)) (hw _ (List.mem_of_getElem? (i := 46) rfl)) (by decide) (rm10 l Z a0 hw r1311 p5 h1285 n0 Z1289) q1315 (argsL := [(.int r1311), (.int p5)]) (rest := []) rfl rfl 0 197 rfl (by rw [hml]; rfl) (lenOf own_pd7 rfl) (Nat.le_refl _) (by decide) (by decide) (by decide) (by decide) (hb hby at_194) ?_
                          intro v1321 T1321 L1321 X1321 hQ1321
                          obtain ⟨r1320, rfl, ⟨a1, a2, a3⟩, N1321, q1321⟩ := hQ1321
                          have N1322 := Fr.app N1316 N1321
                          have Ir1320 := own_minS Ir1311 a1 a2 a3
                          clear a1 a2 a3
                          show Go p e below _ T1321 (mkF m 197 #[.val (.int p0), .val (.int p1), .val (.int p2), .val (.int p3), .val (.int p4), .val (.int p5), .val (.int (8 : Int32)), .val (.ref a1226), .val (.int r1311), .val (.int r1314), .unset, .unset] [(.int r1320)])
                          refine g_istore (l' := #[.val (.int p0), .val (.int p1), .val (.int p2), .val (.int p3), .val (.int p4), .val (.int p5), .val (.int (8 : Int32)), .val (.ref a1226), .val (.int r1320), .val (.int r1314), .unset, .unset]) X1321 hx 199 (hb hby at_197) rfl rfl ?_
                          refine g_iload X1321 hx 201 (hb hby at_199) rfl rfl ?_
                          refine g_iload X1321 hx 203 (hb hby at_201) rfl rfl ?_
                          refine g_static X1321 hx hZ hown (hw _ (List.mem_of_getElem? (i := 47) rfl)) (hw _ (List.mem_of_getElem? (i := 48) rfl)) (hw _ (List.mem_of_getElem? (i := 7) rfl)) (hw _ (List.mem_of_getElem? (i := 49) rfl)) (by decide) (rm11 l Z a0 hw r1314 p5 h1285 n0 Z1289) q1321 (argsL := [(.int r1314), (.int p5)]) (rest := []) rfl rfl 0 206 rfl (by rw [hml]; rfl) (lenOf own_pd7 rfl) (Nat.le_refl _) (by decide) (by decide) (by decide) (by decide) (hb hby at_203) ?_
                          intro v1324 T1324 L1324 X1324 hQ1324
                          obtain ⟨r1323, rfl, ⟨a1, a2, a3⟩, N1324, q1324⟩ := hQ1324
                          have N1325 := Fr.app N1322 N1324
                          have Ir1323 := own_maxS Ir1314 a1 a2 a3
                          clear a1 a2 a3
                          show Go p e below _ T1324 (mkF m 206 #[.val (.int p0), .val (.int p1), .val (.int p2), .val (.int p3), .val (.int p4), .val (.int p5), .val (.int (8 : Int32)), .val (.ref a1226), .val (.int r1320), .val (.int r1314), .unset, .unset] [(.int r1323)])
                          refine g_istore (l' := #[.val (.int p0), .val (.int p1), .val (.int p2), .val (.int p3), .val (.int p4), .val (.int p5), .val (.int (8 : Int32)), .val (.ref a1226), .val (.int r1320), .val (.int r1323), .unset, .unset]) X1324 hx 208 (hb hby at_206) rfl rfl ?_
                          refine g_iload X1324 hx 210 (hb hby at_208) rfl rfl ?_
                          refine g_iload X1324 hx 212 (hb hby at_210) rfl rfl ?_
                          refine g_ic_ne X1324 hx 221 215 (hb hby at_212) (by decide) (by decide) rfl (fun c1326 => ?_) (fun c1326 => ?_)
                          · skip
                            refine g_iload X1324 hx 223 (hb hby at_221) rfl rfl ?_
                            refine g_iconst X1324 hx (2 : Int32) 224 (hb hby at_223) rfl (by decide) ?_
                            have ll1328 : ((2 : Int32) : Int32).toInt = 2 := by decide
                            have ll1329 : ((8 : Int32) : Int32).toInt = 8 := by decide
                            refine g_ic_ne X1324 hx 233 227 (hb hby at_224) (by decide) (by decide) rfl (fun c1327 => ?_) (fun c1327 => ?_)
                            · skip
                              refine g_iload X1324 hx 235 (hb hby at_233) rfl rfl ?_
                              refine g_iconst X1324 hx (4 : Int32) 236 (hb hby at_235) rfl (by decide) ?_
                              have ll1331 : ((4 : Int32) : Int32).toInt = 4 := by decide
                              have ll1332 : ((8 : Int32) : Int32).toInt = 8 := by decide
                              refine g_ic_gt X1324 hx 245 239 (hb hby at_236) (by decide) (by decide) rfl (fun c1330 => ?_) (fun c1330 => ?_)
                              · skip
                                refine g_iconst X1324 hx (4 : Int32) 246 (hb hby at_245) rfl (by decide) ?_
                                refine g_istore (l' := #[.val (.int p0), .val (.int p1), .val (.int p2), .val (.int p3), .val (.int p4), .val (.int p5), .val (.int (8 : Int32)), .val (.ref a1226), .val (.int r1320), .val (.int r1323), .val (.int (4 : Int32)), .unset]) X1324 hx 248 (hb hby at_246) rfl rfl ?_
                                refine g_aload X1324 hx 250 (hb hby at_248) rfl rfl rfl ?_
                                refine g_static X1324 hx hZ hown (hw _ (List.mem_of_getElem? (i := 1) rfl)) (hw _ (List.mem_of_getElem? (i := 2) rfl)) (hw _ (List.mem_of_getElem? (i := 3) rfl)) (hw _ (List.mem_of_getElem? (i := 4) rfl)) (by decide) (rm1_8 l Z a0 hw a1226 h1285 n0 Z1289 k1226 (FP.i2d p1) p1.toInt W1 (FP.i2d p2) p2.toInt W2 (FP.i2d p3) p3.toInt W3 (FP.i2d p4) p4.toInt W4 (FP.i2d p5) p5.toInt W5 (FP.i2d p1) p1.toInt W1 (FP.i2d p2) p2.toInt W2 (FP.i2d p3) p3.toInt W3 V1285') q1324 (argsL := [(.ref a1226)]) (rest := []) rfl rfl 0 253 rfl (by rw [hml]; rfl) (lenOf own_pd0 rfl) (Nat.le_refl _) (by decide) (by decide) (by decide) (by decide) (hb hby at_250) ?_
                                intro v1333 T1333 L1333 X1333 hQ1333
                                obtain ⟨a1333, rfl, N1333, ga1333, K1333, Ea1333, lo, hi, r, mi, ma, F11333, F21333, F31333, dn, dx, Mi, Ma, r1, r2⟩ := hQ1333
                                have E1 := own_minEq Mi Ir1320 (fun x hx => by simp only [List.mem_cons, List.not_mem_nil, or_false] at hx ⊢; omega) (fun x hx => by simp only [List.mem_cons, List.not_mem_nil, or_false] at hx ⊢; omega)
                                have E2 := own_maxEq Ma Ir1323 (fun x hx => by simp only [List.mem_cons, List.not_mem_nil, or_false] at hx ⊢; omega) (fun x hx => by simp only [List.mem_cons, List.not_mem_nil, or_false] at hx ⊢; omega)
                                have N1334 := Fr.app N1325 N1333
                                have F1335 := F1286.keep K1333
                                have F1336 := V1285'.keep K1333 nin0
                                have Z1337 : n0 ≤ T1333.heap.size := Nat.le_trans Z1289 K1333.1
                                show Go p e below _ T1333 (mkF m 253 #[.val (.int p0), .val (.int p1), .val (.int p2), .val (.int p3), .val (.int p4), .val (.int p5), .val (.int (8 : Int32)), .val (.ref a1226), .val (.int r1320), .val (.int r1323), .val (.int (4 : Int32)), .unset] [(.ref a1333)])
                                refine g_astore (l' := #[.val (.int p0), .val (.int p1), .val (.int p2), .val (.int p3), .val (.int p4), .val (.int p5), .val (.int (8 : Int32)), .val (.ref a1226), .val (.int r1320), .val (.int r1323), .val (.int (4 : Int32)), .val (.ref a1333)]) X1333 hx 255 (hb hby at_253) rfl rfl rfl ?_
                                refine g_aload X1333 hx 257 (hb hby at_255) rfl rfl rfl ?_
                                refine g_virt X1333 hx hZ (C := "com/example/recolecta/recolecta/Bins") hown (hw _ (List.mem_of_getElem? (i := 29) rfl)) (hw _ (List.mem_of_getElem? (i := 30) rfl)) (hw _ (List.mem_of_getElem? (i := 32) rfl)) (hw _ (List.mem_of_getElem? (i := 32) rfl)) (hw _ (List.mem_of_getElem? (i := 31) rfl)) (hw _ (List.mem_of_getElem? (i := 3) rfl)) (hw _ (List.mem_of_getElem? (i := 33) rfl)) (by decide) (rm7 l Z a0 hw a1333 T1333.heap n0 Z1337 lo F11333) rfl (b := a1333) Ea1333 (argsL := []) (rest := []) rfl rfl 0 260 rfl (by rw [hml]; rfl) (lenOf own_pd5 rfl) (Nat.le_refl _) (by decide) (by decide) (by decide) (by decide) (hb hby at_257) ?_
                                intro v1338 T1338 L1338 X1338 hQ1338
                                obtain ⟨rfl, N1338, q1338⟩ := hQ1338
                                have N1339 := Fr.app N1334 N1338
                                show Go p e below _ T1338 (mkF m 260 #[.val (.int p0), .val (.int p1), .val (.int p2), .val (.int p3), .val (.int p4), .val (.int p5), .val (.int (8 : Int32)), .val (.ref a1226), .val (.int r1320), .val (.int r1323), .val (.int (4 : Int32)), .val (.ref a1333)] [(.double lo)])
                                refine g_iload X1338 hx 262 (hb hby at_260) rfl rfl ?_
                                refine g_i2d X1338 hx 263 (hb hby at_262) rfl ?_
                                refine g_dc_ne X1338 hx 264 293 267 (hb hby at_263) rfl (hb hby at_264) (by decide) (by decide) rfl (Jvm.FP.Core.dcmp_int dn (Jvm.FP.Core.i2d_int r1320)) (fun c1340 => ?_) (fun c1340 => ?_)
                                · skip
                                  exfalso; omega
                                · skip
                                  refine g_aload X1338 hx 269 (hb hby at_267) rfl rfl rfl ?_
                                  refine g_virt X1338 hx hZ (C := "com/example/recolecta/recolecta/Bins") hown (hw _ (List.mem_of_getElem? (i := 34) rfl)) (hw _ (List.mem_of_getElem? (i := 35) rfl)) (hw _ (List.mem_of_getElem? (i := 37) rfl)) (hw _ (List.mem_of_getElem? (i := 37) rfl)) (hw _ (List.mem_of_getElem? (i := 36) rfl)) (hw _ (List.mem_of_getElem? (i := 3) rfl)) (hw _ (List.mem_of_getElem? (i := 38) rfl)) (by decide) (rm8 l Z a0 hw a1333 T1333.heap n0 Z1337 hi F21333) q1338 (b := a1333) Ea1333 (argsL := []) (rest := []) rfl rfl 0 272 rfl (by rw [hml]; rfl) (lenOf own_pd5 rfl) (Nat.le_refl _) (by decide) (by decide) (by decide) (by decide) (hb hby at_269) ?_
                                  intro v1341 T1341 L1341 X1341 hQ1341
                                  obtain ⟨rfl, N1341, q1341⟩ := hQ1341
                                  have N1342 := Fr.app N1339 N1341
                                  show Go p e below _ T1341 (mkF m 272 #[.val (.int p0), .val (.int p1), .val (.int p2), .val (.int p3), .val (.int p4), .val (.int p5), .val (.int (8 : Int32)), .val (.ref a1226), .val (.int r1320), .val (.int r1323), .val (.int (4 : Int32)), .val (.ref a1333)] [(.double hi)])
                                  refine g_iload X1341 hx 274 (hb hby at_272) rfl rfl ?_
                                  refine g_i2d X1341 hx 275 (hb hby at_274) rfl ?_
                                  refine g_dc_ne X1341 hx 276 293 279 (hb hby at_275) rfl (hb hby at_276) (by decide) (by decide) rfl (Jvm.FP.Core.dcmp_int dx (Jvm.FP.Core.i2d_int r1323)) (fun c1343 => ?_) (fun c1343 => ?_)
                                  · skip
                                    exfalso; omega
                                  · skip
                                    refine g_aload X1341 hx 281 (hb hby at_279) rfl rfl rfl ?_
                                    refine g_virt X1341 hx hZ (C := "com/example/recolecta/recolecta/Bins") hown (hw _ (List.mem_of_getElem? (i := 39) rfl)) (hw _ (List.mem_of_getElem? (i := 40) rfl)) (hw _ (List.mem_of_getElem? (i := 42) rfl)) (hw _ (List.mem_of_getElem? (i := 42) rfl)) (hw _ (List.mem_of_getElem? (i := 41) rfl)) (hw _ (List.mem_of_getElem? (i := 3) rfl)) (hw _ (List.mem_of_getElem? (i := 43) rfl)) (by decide) (rm9 l Z a0 hw a1333 T1333.heap n0 Z1337 r F31333) q1341 (b := a1333) Ea1333 (argsL := []) (rest := []) rfl rfl 0 284 rfl (by rw [hml]; rfl) (lenOf own_pd6 rfl) (Nat.le_refl _) (by decide) (by decide) (by decide) (by decide) (hb hby at_281) ?_
                                    intro v1344 T1344 L1344 X1344 hQ1344
                                    obtain ⟨rfl, N1344, q1344⟩ := hQ1344
                                    have N1345 := Fr.app N1342 N1344
                                    show Go p e below _ T1344 (mkF m 284 #[.val (.int p0), .val (.int p1), .val (.int p2), .val (.int p3), .val (.int p4), .val (.int p5), .val (.int (8 : Int32)), .val (.ref a1226), .val (.int r1320), .val (.int r1323), .val (.int (4 : Int32)), .val (.ref a1333)] [(.int r)])
                                    refine g_iload X1344 hx 286 (hb hby at_284) rfl rfl ?_
                                    have L := fun q => own_lit (r2 q) (by decide)
                                    have ln : (8 : Int32).toInt = 8 := by decide
                                    have ll1347 : ((4 : Int32) : Int32).toInt = 4 := by decide
                                    refine g_ic_ne X1344 hx 293 289 (hb hby at_286) (by decide) (by decide) rfl (fun c1346 => ?_) (fun c1346 => ?_)
                                    · skip
                                      have l1 : (1 : Int32).toInt = 1 := by decide
                                      have l2 : (2 : Int32).toInt = 2 := by decide
                                      have l3 : (3 : Int32).toInt = 3 := by decide
                                      have l4 : (4 : Int32).toInt = 4 := by decide
                                      have q1 := L (by omega)
                                      exfalso; omega
                                    · skip
                                      refine g_iconst X1344 hx (1 : Int32) 290 (hb hby at_289) rfl (by decide) ?_
                                      refine g_goto X1344 hx 294 (hb hby at_290) (by decide) (by decide) ?_
                                      exact g_retZ X1344 hx hlk hret (hb hby at_294) (by decide) (by decide) q1344 ⟨rfl, N1345⟩
                              · skip
                                exfalso; revert c1330; decide
                            · skip
                              exfalso; revert c1327; decide
                          · skip
                            refine g_iconst X1324 hx (1 : Int32) 216 (hb hby at_215) rfl (by decide) ?_
                            refine g_istore (l' := #[.val (.int p0), .val (.int p1), .val (.int p2), .val (.int p3), .val (.int p4), .val (.int p5), .val (.int (8 : Int32)), .val (.ref a1226), .val (.int r1320), .val (.int r1323), .val (.int (1 : Int32)), .unset]) X1324 hx 218 (hb hby at_216) rfl rfl ?_
                            refine g_goto X1324 hx 248 (hb hby at_218) (by decide) (by decide) ?_
                            refine g_aload X1324 hx 250 (hb hby at_248) rfl rfl rfl ?_
                            refine g_static X1324 hx hZ hown (hw _ (List.mem_of_getElem? (i := 1) rfl)) (hw _ (List.mem_of_getElem? (i := 2) rfl)) (hw _ (List.mem_of_getElem? (i := 3) rfl)) (hw _ (List.mem_of_getElem? (i := 4) rfl)) (by decide) (rm1_8 l Z a0 hw a1226 h1285 n0 Z1289 k1226 (FP.i2d p1) p1.toInt W1 (FP.i2d p2) p2.toInt W2 (FP.i2d p3) p3.toInt W3 (FP.i2d p4) p4.toInt W4 (FP.i2d p5) p5.toInt W5 (FP.i2d p1) p1.toInt W1 (FP.i2d p2) p2.toInt W2 (FP.i2d p3) p3.toInt W3 V1285') q1324 (argsL := [(.ref a1226)]) (rest := []) rfl rfl 0 253 rfl (by rw [hml]; rfl) (lenOf own_pd0 rfl) (Nat.le_refl _) (by decide) (by decide) (by decide) (by decide) (hb hby at_250) ?_
                            intro v1348 T1348 L1348 X1348 hQ1348
                            obtain ⟨a1348, rfl, N1348, ga1348, K1348, Ea1348, lo, hi, r, mi, ma, F11348, F21348, F31348, dn, dx, Mi, Ma, r1, r2⟩ := hQ1348
                            have E1 := own_minEq Mi Ir1320 (fun x hx => by simp only [List.mem_cons, List.not_mem_nil, or_false] at hx ⊢; omega) (fun x hx => by simp only [List.mem_cons, List.not_mem_nil, or_false] at hx ⊢; omega)
                            have E2 := own_maxEq Ma Ir1323 (fun x hx => by simp only [List.mem_cons, List.not_mem_nil, or_false] at hx ⊢; omega) (fun x hx => by simp only [List.mem_cons, List.not_mem_nil, or_false] at hx ⊢; omega)
                            have N1349 := Fr.app N1325 N1348
                            have F1350 := F1286.keep K1348
                            have F1351 := V1285'.keep K1348 nin0
                            have Z1352 : n0 ≤ T1348.heap.size := Nat.le_trans Z1289 K1348.1
                            show Go p e below _ T1348 (mkF m 253 #[.val (.int p0), .val (.int p1), .val (.int p2), .val (.int p3), .val (.int p4), .val (.int p5), .val (.int (8 : Int32)), .val (.ref a1226), .val (.int r1320), .val (.int r1323), .val (.int (1 : Int32)), .unset] [(.ref a1348)])
                            refine g_astore (l' := #[.val (.int p0), .val (.int p1), .val (.int p2), .val (.int p3), .val (.int p4), .val (.int p5), .val (.int (8 : Int32)), .val (.ref a1226), .val (.int r1320), .val (.int r1323), .val (.int (1 : Int32)), .val (.ref a1348)]) X1348 hx 255 (hb hby at_253) rfl rfl rfl ?_
                            refine g_aload X1348 hx 257 (hb hby at_255) rfl rfl rfl ?_
                            refine g_virt X1348 hx hZ (C := "com/example/recolecta/recolecta/Bins") hown (hw _ (List.mem_of_getElem? (i := 29) rfl)) (hw _ (List.mem_of_getElem? (i := 30) rfl)) (hw _ (List.mem_of_getElem? (i := 32) rfl)) (hw _ (List.mem_of_getElem? (i := 32) rfl)) (hw _ (List.mem_of_getElem? (i := 31) rfl)) (hw _ (List.mem_of_getElem? (i := 3) rfl)) (hw _ (List.mem_of_getElem? (i := 33) rfl)) (by decide) (rm7 l Z a0 hw a1348 T1348.heap n0 Z1352 lo F11348) rfl (b := a1348) Ea1348 (argsL := []) (rest := []) rfl rfl 0 260 rfl (by rw [hml]; rfl) (lenOf own_pd5 rfl) (Nat.le_refl _) (by decide) (by decide) (by decide) (by decide) (hb hby at_257) ?_
                            intro v1353 T1353 L1353 X1353 hQ1353
                            obtain ⟨rfl, N1353, q1353⟩ := hQ1353
                            have N1354 := Fr.app N1349 N1353
                            show Go p e below _ T1353 (mkF m 260 #[.val (.int p0), .val (.int p1), .val (.int p2), .val (.int p3), .val (.int p4), .val (.int p5), .val (.int (8 : Int32)), .val (.ref a1226), .val (.int r1320), .val (.int r1323), .val (.int (1 : Int32)), .val (.ref a1348)] [(.double lo)])
                            refine g_iload X1353 hx 262 (hb hby at_260) rfl rfl ?_
                            refine g_i2d X1353 hx 263 (hb hby at_262) rfl ?_
                            refine g_dc_ne X1353 hx 264 293 267 (hb hby at_263) rfl (hb hby at_264) (by decide) (by decide) rfl (Jvm.FP.Core.dcmp_int dn (Jvm.FP.Core.i2d_int r1320)) (fun c1355 => ?_) (fun c1355 => ?_)
                            · skip
                              exfalso; omega
                            · skip
                              refine g_aload X1353 hx 269 (hb hby at_267) rfl rfl rfl ?_
                              refine g_virt X1353 hx hZ (C := "com/example/recolecta/recolecta/Bins") hown (hw _ (List.mem_of_getElem? (i := 34) rfl)) (hw _ (List.mem_of_getElem? (i := 35) rfl)) (hw _ (List.mem_of_getElem? (i := 37) rfl)) (hw _ (List.mem_of_getElem? (i := 37) rfl)) (hw _ (List.mem_of_getElem? (i := 36) rfl)) (hw _ (List.mem_of_getElem? (i := 3) rfl)) (hw _ (List.mem_of_getElem? (i := 38) rfl)) (by decide) (rm8 l Z a0 hw a1348 T1348.heap n0 Z1352 hi F21348) q1353 (b := a1348) Ea1348 (argsL := []) (rest := []) rfl rfl 0 272 rfl (by rw [hml]; rfl) (lenOf own_pd5 rfl) (Nat.le_refl _) (by decide) (by decide) (by decide) (by decide) (hb hby at_269) ?_
                              intro v1356 T1356 L1356 X1356 hQ1356
                              obtain ⟨rfl, N1356, q1356⟩ := hQ1356
                              have N1357 := Fr.app N1354 N1356
                              show Go p e below _ T1356 (mkF m 272 #[.val (.int p0), .val (.int p1), .val (.int p2), .val (.int p3), .val (.int p4), .val (.int p5), .val (.int (8 : Int32)), .val (.ref a1226), .val (.int r1320), .val (.int r1323), .val (.int (1 : Int32)), .val (.ref a1348)] [(.double hi)])
                              refine g_iload X1356 hx 274 (hb hby at_272) rfl rfl ?_
                              refine g_i2d X1356 hx 275 (hb hby at_274) rfl ?_
                              refine g_dc_ne X1356 hx 276 293 279 (hb hby at_275) rfl (hb hby at_276) (by decide) (by decide) rfl (Jvm.FP.Core.dcmp_int dx (Jvm.FP.Core.i2d_int r1323)) (fun c1358 => ?_) (fun c1358 => ?_)
                              · skip
                                exfalso; omega
                              · skip
                                refine g_aload X1356 hx 281 (hb hby at_279) rfl rfl rfl ?_
                                refine g_virt X1356 hx hZ (C := "com/example/recolecta/recolecta/Bins") hown (hw _ (List.mem_of_getElem? (i := 39) rfl)) (hw _ (List.mem_of_getElem? (i := 40) rfl)) (hw _ (List.mem_of_getElem? (i := 42) rfl)) (hw _ (List.mem_of_getElem? (i := 42) rfl)) (hw _ (List.mem_of_getElem? (i := 41) rfl)) (hw _ (List.mem_of_getElem? (i := 3) rfl)) (hw _ (List.mem_of_getElem? (i := 43) rfl)) (by decide) (rm9 l Z a0 hw a1348 T1348.heap n0 Z1352 r F31348) q1356 (b := a1348) Ea1348 (argsL := []) (rest := []) rfl rfl 0 284 rfl (by rw [hml]; rfl) (lenOf own_pd6 rfl) (Nat.le_refl _) (by decide) (by decide) (by decide) (by decide) (hb hby at_281) ?_
                                intro v1359 T1359 L1359 X1359 hQ1359
                                obtain ⟨rfl, N1359, q1359⟩ := hQ1359
                                have N1360 := Fr.app N1357 N1359
                                show Go p e below _ T1359 (mkF m 284 #[.val (.int p0), .val (.int p1), .val (.int p2), .val (.int p3), .val (.int p4), .val (.int p5), .val (.int (8 : Int32)), .val (.ref a1226), .val (.int r1320), .val (.int r1323), .val (.int (1 : Int32)), .val (.ref a1348)] [(.int r)])
                                refine g_iload X1359 hx 286 (hb hby at_284) rfl rfl ?_
                                have L := fun q => own_lit (r2 q) (by decide)
                                have ln : (8 : Int32).toInt = 8 := by decide
                                have ll1362 : ((1 : Int32) : Int32).toInt = 1 := by decide
                                refine g_ic_ne X1359 hx 293 289 (hb hby at_286) (by decide) (by decide) rfl (fun c1361 => ?_) (fun c1361 => ?_)
                                · skip
                                  have l1 : (1 : Int32).toInt = 1 := by decide
                                  have l2 : (2 : Int32).toInt = 2 := by decide
                                  have l3 : (3 : Int32).toInt = 3 := by decide
                                  have l4 : (4 : Int32).toInt = 4 := by decide
                                  have q1 := r1 (by omega)
                                  exfalso; omega
                                · skip
                                  refine g_iconst X1359 hx (1 : Int32) 290 (hb hby at_289) rfl (by decide) ?_
                                  refine g_goto X1359 hx 294 (hb hby at_290) (by decide) (by decide) ?_
                                  exact g_retZ X1359 hx hlk hret (hb hby at_294) (by decide) (by decide) q1359 ⟨rfl, N1360⟩
set_option maxRecDepth 65536 in
set_option maxHeartbeats 40000000 in
theorem comes_1 {Post : Tables → Env → Array Value → State → Outcome → State → Prop} (hpost : ∀ tb e args s v u, (limb_1_1.after args s (.returned v) u = true ∧ limb_1_2.after args s (.returned v) u = true ∧ True) → FrameEnd s (.returned v) u (Jvm.fieldLocs frame_1_writes args s ++ Jvm.arrayLocs frame_1_arrays args s ++ Jvm.staticLocs frame_1_statics s) 16 128 → Post tb e args s (.returned v) u) :
    ArmFor flags0 classFile x code maxLocals ret World_1 tables_1 room_1 Calls_1 rest_1 Pre_1 Post := by
  intro l hfl _ _ p e ha hc hk s m args below hf hA hF happ hP
  obtain ⟨hcalls, hrest, hpre⟩ := hP
  obtain ⟨-, -, -, hnamed, -, -, -, hat⟩ := (Spec.applies_iff hf).mp happ
  obtain ⟨hg, hn⟩ := and_e (Cond.before_iff.mp (show (Jvm.Cond.and given_1 narrow_1).before args s = true from hpre))
  obtain ⟨h1, g0⟩ := and_e hg
  obtain ⟨t0, g1⟩ := and_e g0
  obtain ⟨t1, g2⟩ := and_e g1
  obtain ⟨t2, g3⟩ := and_e g2
  obtain ⟨t3, g4⟩ := and_e g3
  obtain ⟨t4, g5⟩ := and_e g4
  have t5 := g5
  obtain ⟨w0, w1, w2, w3, w4, w5, rfl⟩ : ∃ w0 w1 w2 w3 w4 w5 : Value, args = #[w0, w1, w2, w3, w4, w5] := by
    have hs : args.size = 6 := by simpa [Cond.value, given_1] using h1
    obtain ⟨L⟩ := args
    match L, hs with
    | [w0, w1, w2, w3, w4, w5], _ => exact ⟨w0, w1, w2, w3, w4, w5, rfl⟩
  have hw := fun d (hd : d ∈ tables_1) => atoms_spec (ws := Jvm.Cond.code x code maxLocals ret :: tables_1) hat d (List.mem_cons_of_mem _ hd)
  obtain ⟨i0, e0⟩ := is_v t0
  obtain rfl : w0 = (.int i0) := Option.some.inj e0
  obtain ⟨i1, e1⟩ := is_v t1
  obtain rfl : w1 = (.int i1) := Option.some.inj e1
  obtain ⟨i2, e2⟩ := is_v t2
  obtain rfl : w2 = (.int i2) := Option.some.inj e2
  obtain ⟨i3, e3⟩ := is_v t3
  obtain rfl : w3 = (.int i3) := Option.some.inj e3
  obtain ⟨i4, e4⟩ := is_v t4
  obtain rfl : w4 = (.int i4) := Option.some.inj e4
  obtain ⟨i5, e5⟩ := is_v t5
  obtain rfl : w5 = (.int i5) := Option.some.inj e5
  obtain ⟨n, o, h1, h2, h3, _, L, rfl, ⟨rfl, N⟩, hq⟩ := rm0 l s _ hw tables_1 i0 i1 i2 i3 i4 i5 s.heap s.heap.size (Nat.le_refl _)  p e ha hc hk s m _ below hf ((Spec.applies_iff_loose hf).mp happ).1 ⟨rfl, State.Warmed39.refl s, rfl⟩ trivial
  refine ⟨n, _, h1, h2, h3, hpost _ _ _ _ _ _ ⟨Cond.after_iff.mpr rfl, Cond.after_iff.mpr (eq_i res_at (Term.int_eval (1)) rfl), trivial⟩ ⟨hq.1, hq.2.1, (hq.2.2.sift fun y hy => Or.inr (N y hy)).mono (by decide) (by decide)⟩⟩
theorem main_1_1 : Claimed_1_1 := comes_1 fun _ _ _ _ _ _ h hF => ⟨h.1, hF⟩
theorem main_1_2 : Claimed_1_2 := comes_1 fun _ _ _ _ _ _ h hF => ⟨h.2.1, hF⟩
end Jvm.Pilot.@@N@@
namespace Jvm.Pilot.@@N@@
open Jvm Jvm.ClassFile Sem Op Lib Jvm.Free Jvm.Stand Jvm.Pilot.@@N@@.Jvm.D
/-! MADE BY PROGRAM (witnessworld.py) out of the Statement's table words and the real class files: 17 classes; the members and pool entries that the words name. The judged class is class 1, her method 1. -/
namespace start1
open Jvm.ClassFile
def u (s : String) : CpInfo := .utf8 (stringToUtf16 s)
/-- a pool by its gaps: so many unusable entries, then the entry; so many at the end -/
def gap : Nat → List CpInfo → List CpInfo
  | 0, r => r
  | n + 1, r => .unusable :: gap n r
def poolList (es : List (Nat × CpInfo)) (last : Nat) : List CpInfo := es.foldr (fun e r => gap e.1 (e.2 :: r)) (gap last [])
def pool (es : List (Nat × CpInfo)) (last : Nat) : Array CpInfo := ⟨poolList es last⟩
def fileOf (pool : Array CpInfo) (this : Nat) (attrs : Array Attribute := #[]) (ms : Array MethodInfo := #[]) (fl : Nat := 33) (sup : Nat := 0) (ifs : Array Nat := #[]) (fds : Array FieldInfo := #[]) : ClassFile where
  minorVersion := 0
  majorVersion := 65
  constantPool := pool
  accessFlags := fl
  thisClass := this
  superClass := sup
  interfaces := ifs
  fields := fds
  methods := ms
  attributes := attrs
def plain (name : String) (sup : Option ClassId) : Class where
  name := name
  kind := .ordinary
  loader := none
  accessFlags := 33
  super := sup
  interfaces := #[]
  cf := none
  fields := #[]
  methods := #[]
  instanceTypes := #[]
  staticTypes := #[]
  resolved := #[]
  callSites := []
  init := .initialized
  statics := none
  mirror := none

def pool0 : Array CpInfo := pool [(5, u "<init>"), (0, u "()V"), (1, .class_ 10), (1, u "java/lang/Object")] 113

def k0c0 : Code := { maxStack := 0, maxLocals := 1, code := object_method_1_code, exceptionTable := #[], attributes := #[] }
def k0m0 : Method := { name := "<init>", desc := "()V", sig := { parameters := [], returnType := none }, accessFlags := 1, code := some k0c0 }
/-- java/lang/Object -/
def k0 : Class := { plain "java/lang/Object" none with
  accessFlags := 33
  interfaces := #[]
  cf := some (fileOf pool0 8 #[] #[{ accessFlags := 1, nameIndex := 5, descriptorIndex := 6, attributes := #[] }] 33 0 #[] #[])
  fields := #[]
  methods := #[k0m0]
  instanceTypes := #[]
  staticTypes := #[]
  resolved := Array.replicate 124 none
  statics := none }

def pool1 : Array CpInfo := pool [(2, .class_ 4), (1, u "java/lang/Object"), (0, u "<init>"), (0, u "()V"), (0, .methodref 8 9), (0, .class_ 10), (0, .nameAndType 11 12), (0, u "java/lang/Math"), (0, u "min"), (0, u "(II)I"), (0, .methodref 8 14), (0, .nameAndType 15 12), (0, u "max"), (0, .methodref 17 18), (0, .class_ 19), (0, .nameAndType 20 21), (0, u "com/example/recolecta/recolecta/Bins"), (0, u "over"), (0, u "([D)Lcom/example/recolecta/recolecta/Bins;"), (0, .methodref 17 23), (0, .nameAndType 11 24), (0, u "()D"), (0, .methodref 17 26), (0, .nameAndType 15 24), (0, .methodref 17 28), (0, .nameAndType 29 30), (0, u "count"), (0, u "()I"), (0, .class_ 32), (0, u "com/example/recolecta/recolecta/BinsOverPinLaw"), (2, u "law"), (0, u "(IIIIII)Z")] 5

def k1m0 : Method := { name := "<init>", desc := "()V", sig := { parameters := [], returnType := none }, accessFlags := 1, code := none }
def k1c1 : Code := { maxStack := 4, maxLocals := 12, code := code, exceptionTable := #[], attributes := #[] }
def k1m1 : Method := { name := "law", desc := "(IIIIII)Z", sig := { parameters := [.int, .int, .int, .int, .int, .int], returnType := some .boolean }, accessFlags := 9, code := some k1c1 }
/-- com/example/recolecta/recolecta/BinsOverPinLaw -/
def k1 : Class := { plain "com/example/recolecta/recolecta/BinsOverPinLaw" (some 0) with
  accessFlags := 49
  interfaces := #[]
  cf := some (fileOf pool1 31 #[] #[{ accessFlags := 1, nameIndex := 5, descriptorIndex := 6, attributes := #[] }, { accessFlags := 9, nameIndex := 35, descriptorIndex := 36, attributes := #[] }] 49 2 #[] #[])
  fields := #[]
  methods := #[k1m0, k1m1]
  instanceTypes := #[]
  staticTypes := #[]
  resolved := Array.replicate 42 none
  statics := none }

def pool2 : Array CpInfo := pool [(1, .methodref 2 3), (0, .class_ 4), (0, .nameAndType 5 6), (0, u "java/lang/Object"), (0, u "<init>"), (0, u "()V"), (9, .fieldref 17 18), (0, .class_ 19), (0, .nameAndType 20 21), (0, u "com/example/recolecta/recolecta/Bins"), (0, u "min"), (0, u "D"), (0, .fieldref 17 23), (0, .nameAndType 24 21), (0, u "max"), (0, .fieldref 17 26), (0, .nameAndType 27 28), (0, u "count"), (0, u "I"), (0, .methodref 30 31), (0, .class_ 32), (0, .nameAndType 20 33), (0, u "java/lang/Math"), (0, u "(DD)D"), (0, .methodref 30 35), (0, .nameAndType 24 33), (0, .methodref 17 37), (0, .nameAndType 38 39), (0, u "countFor"), (0, u "(IDD)I"), (0, .methodref 17 41), (0, .nameAndType 5 42), (0, u "(DDI)V"), (0, .class_ 44), (0, u "java/lang/Integer"), (0, .methodref 43 46), (0, .nameAndType 47 48), (0, u "numberOfLeadingZeros"), (0, u "(I)I"), (15, u "over"), (0, u "([D)Lcom/example/recolecta/recolecta/Bins;"), (4, u "()D"), (0, u "()I")] 17

def k2c0 : Code := { maxStack := 6, maxLocals := 6, code := prog_6_method_1_code, exceptionTable := #[], attributes := #[] }
def k2m0 : Method := { name := "<init>", desc := "(DDI)V", sig := { parameters := [.double, .double, .int], returnType := none }, accessFlags := 0, code := some k2c0 }
def k2c1 : Code := { maxStack := 11, maxLocals := 10, code := prog_6_method_2_code, exceptionTable := #[], attributes := #[] }
def k2m1 : Method := { name := "over", desc := "([D)Lcom/example/recolecta/recolecta/Bins;", sig := { parameters := [(.array .double)], returnType := some (.object "com/example/recolecta/recolecta/Bins") }, accessFlags := 8, code := some k2c1 }
def k2c2 : Code := { maxStack := 4, maxLocals := 5, code := prog_6_method_3_code, exceptionTable := #[], attributes := #[] }
def k2m2 : Method := { name := "countFor", desc := "(IDD)I", sig := { parameters := [.int, .double, .double], returnType := some .int }, accessFlags := 8, code := some k2c2 }
def k2c3 : Code := { maxStack := 2, maxLocals := 1, code := prog_6_method_5_code, exceptionTable := #[], attributes := #[] }
def k2m3 : Method := { name := "min", desc := "()D", sig := { parameters := [], returnType := some .double }, accessFlags := 0, code := some k2c3 }
def k2c4 : Code := { maxStack := 2, maxLocals := 1, code := prog_6_method_6_code, exceptionTable := #[], attributes := #[] }
def k2m4 : Method := { name := "max", desc := "()D", sig := { parameters := [], returnType := some .double }, accessFlags := 0, code := some k2c4 }
def k2c5 : Code := { maxStack := 1, maxLocals := 1, code := prog_6_method_7_code, exceptionTable := #[], attributes := #[] }
def k2m5 : Method := { name := "count", desc := "()I", sig := { parameters := [], returnType := some .int }, accessFlags := 0, code := some k2c5 }
/-- com/example/recolecta/recolecta/Bins -/
def k2 : Class := { plain "com/example/recolecta/recolecta/Bins" (some 0) with
  accessFlags := 48
  interfaces := #[]
  cf := some (fileOf pool2 17 #[] #[{ accessFlags := 0, nameIndex := 5, descriptorIndex := 42, attributes := #[] }, { accessFlags := 8, nameIndex := 64, descriptorIndex := 65, attributes := #[] }, { accessFlags := 8, nameIndex := 38, descriptorIndex := 39, attributes := #[] }, { accessFlags := 0, nameIndex := 20, descriptorIndex := 70, attributes := #[] }, { accessFlags := 0, nameIndex := 24, descriptorIndex := 70, attributes := #[] }, { accessFlags := 0, nameIndex := 27, descriptorIndex := 71, attributes := #[] }] 48 2 #[] #[{ accessFlags := 18, nameIndex := 20, descriptorIndex := 21, attributes := #[] }, { accessFlags := 18, nameIndex := 24, descriptorIndex := 21, attributes := #[] }, { accessFlags := 18, nameIndex := 27, descriptorIndex := 28, attributes := #[] }])
  fields := #[{ name := "min", type := .double, accessFlags := 18, slot := 0, constantValue := 0 }, { name := "max", type := .double, accessFlags := 18, slot := 1, constantValue := 0 }, { name := "count", type := .int, accessFlags := 18, slot := 2, constantValue := 0 }]
  methods := #[k2m0, k2m1, k2m2, k2m3, k2m4, k2m5]
  instanceTypes := #[.double, .double, .int]
  staticTypes := #[]
  resolved := Array.replicate 89 none
  statics := none }

def pool3 : Array CpInfo := pool [(1, .class_ 2), (0, u "java/lang/Math"), (1, .class_ 6), (1, u "java/lang/Object"), (0, u "<init>"), (0, u "()V"), (43, u "(DD)D"), (45, .class_ 100), (1, u "java/lang/Math$RandomNumberGeneratorHolder"), (71, u "negativeZeroFloatBits"), (0, u "J"), (2, u "negativeZeroDoubleBits"), (21, u "max"), (2, u "min"), (43, u "$assertionsDisabled"), (0, u "Z"), (88, u "(II)I"), (2, u "twoToTheDoubleScaleDown"), (0, u "D"), (4, u "twoToTheDoubleScaleUp"), (9, u "E"), (3, u "PI"), (2, u "TAU"), (2, u "DEGREES_TO_RADIANS"), (0, u "RADIANS_TO_DEGREES")] 94

def k3m0 : Method := { name := "<init>", desc := "()V", sig := { parameters := [], returnType := none }, accessFlags := 2, code := none }
def k3c1 : Code := { maxStack := 2, maxLocals := 2, code := jdk_29_method_65_code, exceptionTable := #[], attributes := #[] }
def k3m1 : Method := { name := "max", desc := "(II)I", sig := { parameters := [.int, .int], returnType := some .int }, accessFlags := 9, code := some k3c1 }
def k3c2 : Code := { maxStack := 4, maxLocals := 4, code := jdk_29_method_68_code, exceptionTable := #[], attributes := #[] }
def k3m2 : Method := { name := "max", desc := "(DD)D", sig := { parameters := [.double, .double], returnType := some .double }, accessFlags := 9, code := some k3c2 }
def k3c3 : Code := { maxStack := 2, maxLocals := 2, code := jdk_29_method_69_code, exceptionTable := #[], attributes := #[] }
def k3m3 : Method := { name := "min", desc := "(II)I", sig := { parameters := [.int, .int], returnType := some .int }, accessFlags := 9, code := some k3c3 }
def k3c4 : Code := { maxStack := 4, maxLocals := 4, code := jdk_29_method_72_code, exceptionTable := #[], attributes := #[] }
def k3m4 : Method := { name := "min", desc := "(DD)D", sig := { parameters := [.double, .double], returnType := some .double }, accessFlags := 9, code := some k3c4 }
/-- java/lang/Math -/
def k3 : Class := { plain "java/lang/Math" (some 0) with
  accessFlags := 49
  interfaces := #[]
  cf := some (fileOf pool3 1 #[.nestMembers #[98]] #[{ accessFlags := 2, nameIndex := 7, descriptorIndex := 8, attributes := #[] }, { accessFlags := 9, nameIndex := 198, descriptorIndex := 335, attributes := #[] }, { accessFlags := 9, nameIndex := 198, descriptorIndex := 52, attributes := #[] }, { accessFlags := 9, nameIndex := 201, descriptorIndex := 335, attributes := #[] }, { accessFlags := 9, nameIndex := 201, descriptorIndex := 52, attributes := #[] }] 49 4 #[] #[{ accessFlags := 25, nameIndex := 354, descriptorIndex := 339, attributes := #[] }, { accessFlags := 25, nameIndex := 358, descriptorIndex := 339, attributes := #[] }, { accessFlags := 25, nameIndex := 361, descriptorIndex := 339, attributes := #[] }, { accessFlags := 26, nameIndex := 364, descriptorIndex := 339, attributes := #[] }, { accessFlags := 26, nameIndex := 365, descriptorIndex := 339, attributes := #[] }, { accessFlags := 26, nameIndex := 172, descriptorIndex := 173, attributes := #[] }, { accessFlags := 26, nameIndex := 176, descriptorIndex := 173, attributes := #[] }, { accessFlags := 8, nameIndex := 344, descriptorIndex := 339, attributes := #[] }, { accessFlags := 8, nameIndex := 338, descriptorIndex := 339, attributes := #[] }, { accessFlags := 4120, nameIndex := 245, descriptorIndex := 246, attributes := #[] }])
  fields := #[{ name := "E", type := .double, accessFlags := 25, slot := 0, constantValue := 0 }, { name := "PI", type := .double, accessFlags := 25, slot := 1, constantValue := 0 }, { name := "TAU", type := .double, accessFlags := 25, slot := 2, constantValue := 0 }, { name := "DEGREES_TO_RADIANS", type := .double, accessFlags := 26, slot := 3, constantValue := 0 }, { name := "RADIANS_TO_DEGREES", type := .double, accessFlags := 26, slot := 4, constantValue := 0 }, { name := "negativeZeroFloatBits", type := .long, accessFlags := 26, slot := 5, constantValue := 0 }, { name := "negativeZeroDoubleBits", type := .long, accessFlags := 26, slot := 6, constantValue := 0 }, { name := "twoToTheDoubleScaleUp", type := .double, accessFlags := 8, slot := 7, constantValue := 0 }, { name := "twoToTheDoubleScaleDown", type := .double, accessFlags := 8, slot := 8, constantValue := 0 }, { name := "$assertionsDisabled", type := .boolean, accessFlags := 4120, slot := 9, constantValue := 0 }]
  methods := #[k3m0, k3m1, k3m2, k3m3, k3m4]
  instanceTypes := #[]
  staticTypes := #[.double, .double, .double, .double, .double, .long, .long, .double, .double, .boolean]
  resolved := Array.replicate 460 none
  statics := none }

def pool4 : Array CpInfo := pool [(1, .class_ 2), (0, u "java/io/Serializable"), (0, .class_ 4), (0, u "java/lang/Object")] 2

/-- java/io/Serializable -/
def k4 : Class := { plain "java/io/Serializable" (some 0) with
  accessFlags := 1537
  interfaces := #[]
  cf := some (fileOf pool4 1 #[] #[] 1537 3 #[] #[])
  fields := #[]
  methods := #[]
  instanceTypes := #[]
  staticTypes := #[]
  resolved := Array.replicate 7 none
  statics := none }

def pool5 : Array CpInfo := pool [(2, .class_ 4), (1, u "java/lang/Object"), (0, u "<init>"), (0, u "()V"), (1, .class_ 10), (1, u "java/lang/Number"), (2, .class_ 14), (0, u "java/io/Serializable"), (0, u "serialVersionUID"), (0, u "J")] 20

def k5m0 : Method := { name := "<init>", desc := "()V", sig := { parameters := [], returnType := none }, accessFlags := 1, code := none }
/-- java/lang/Number -/
def k5 : Class := { plain "java/lang/Number" (some 0) with
  accessFlags := 1057
  interfaces := #[4]
  cf := some (fileOf pool5 8 #[] #[{ accessFlags := 1, nameIndex := 5, descriptorIndex := 6, attributes := #[] }] 1057 2 #[13] #[{ accessFlags := 26, nameIndex := 15, descriptorIndex := 16, attributes := #[] }])
  fields := #[{ name := "serialVersionUID", type := .long, accessFlags := 26, slot := 0, constantValue := 0 }]
  methods := #[k5m0]
  instanceTypes := #[]
  staticTypes := #[.long]
  resolved := Array.replicate 37 none
  statics := none }

def pool6 : Array CpInfo := pool [(1, .class_ 2), (0, u "java/lang/Comparable"), (0, .class_ 4), (0, u "java/lang/Object")] 7

/-- java/lang/Comparable -/
def k6 : Class := { plain "java/lang/Comparable" (some 0) with
  accessFlags := 1537
  interfaces := #[]
  cf := some (fileOf pool6 1 #[] #[] 1537 3 #[] #[])
  fields := #[]
  methods := #[]
  instanceTypes := #[]
  staticTypes := #[]
  resolved := Array.replicate 12 none
  statics := none }

def pool7 : Array CpInfo := pool [(1, .class_ 2), (0, u "java/lang/constant/Constable"), (0, .class_ 4), (0, u "java/lang/Object")] 6

/-- java/lang/constant/Constable -/
def k7 : Class := { plain "java/lang/constant/Constable" (some 0) with
  accessFlags := 1537
  interfaces := #[]
  cf := some (fileOf pool7 1 #[] #[] 1537 3 #[] #[])
  fields := #[]
  methods := #[]
  instanceTypes := #[]
  staticTypes := #[]
  resolved := Array.replicate 11 none
  statics := none }

def pool8 : Array CpInfo := pool [(1, .class_ 2), (0, u "java/lang/constant/ConstantDesc"), (0, .class_ 4), (0, u "java/lang/Object")] 32

/-- java/lang/constant/ConstantDesc -/
def k8 : Class := { plain "java/lang/constant/ConstantDesc" (some 0) with
  accessFlags := 1537
  interfaces := #[]
  cf := some (fileOf pool8 1 #[] #[] 1537 3 #[] #[])
  fields := #[]
  methods := #[]
  instanceTypes := #[]
  staticTypes := #[]
  resolved := Array.replicate 37 none
  statics := none }

def pool9 : Array CpInfo := pool [(1, .class_ 2), (0, u "java/lang/Integer"), (16, u "digits"), (0, u "[C"), (32, u "numberOfLeadingZeros"), (0, u "(I)I"), (30, u "DigitOnes"), (0, u "[B"), (2, u "DigitTens"), (99, .class_ 190), (0, u "java/lang/Integer$IntegerCache"), (3, u "I"), (8, .class_ 204), (0, u "java/lang/Number"), (2, u "value"), (56, .integer 65536), (37, u "TYPE"), (0, u "Ljava/lang/Class;"), (0, .class_ 305), (0, u "java/lang/Comparable"), (0, .class_ 307), (0, u "java/lang/constant/Constable"), (0, .class_ 309), (0, u "java/lang/constant/ConstantDesc"), (0, u "MIN_VALUE"), (1, u "MAX_VALUE"), (3, u "SIZE"), (1, u "BYTES"), (1, u "serialVersionUID"), (0, u "J")] 131

def k9c0 : Code := { maxStack := 3, maxLocals := 2, code := jdk_33_method_47_code, exceptionTable := #[], attributes := #[] }
def k9m0 : Method := { name := "numberOfLeadingZeros", desc := "(I)I", sig := { parameters := [.int], returnType := some .int }, accessFlags := 9, code := some k9c0 }
/-- java/lang/Integer -/
def k9 : Class := { plain "java/lang/Integer" (some 5) with
  accessFlags := 49
  interfaces := #[6, 7, 8]
  cf := some (fileOf pool9 1 #[.nestMembers #[189]] #[{ accessFlags := 9, nameIndex := 53, descriptorIndex := 54, attributes := #[] }] 49 203 #[304, 306, 308] #[{ accessFlags := 25, nameIndex := 310, descriptorIndex := 194, attributes := #[] }, { accessFlags := 25, nameIndex := 312, descriptorIndex := 194, attributes := #[] }, { accessFlags := 25, nameIndex := 302, descriptorIndex := 303, attributes := #[] }, { accessFlags := 24, nameIndex := 19, descriptorIndex := 20, attributes := #[] }, { accessFlags := 24, nameIndex := 89, descriptorIndex := 86, attributes := #[] }, { accessFlags := 24, nameIndex := 85, descriptorIndex := 86, attributes := #[] }, { accessFlags := 18, nameIndex := 207, descriptorIndex := 194, attributes := #[] }, { accessFlags := 25, nameIndex := 316, descriptorIndex := 194, attributes := #[] }, { accessFlags := 25, nameIndex := 318, descriptorIndex := 194, attributes := #[] }, { accessFlags := 26, nameIndex := 320, descriptorIndex := 321, attributes := #[] }])
  fields := #[{ name := "MIN_VALUE", type := .int, accessFlags := 25, slot := 0, constantValue := 0 }, { name := "MAX_VALUE", type := .int, accessFlags := 25, slot := 1, constantValue := 0 }, { name := "TYPE", type := (.object "java/lang/Class"), accessFlags := 25, slot := 2, constantValue := 0 }, { name := "digits", type := (.array .char), accessFlags := 24, slot := 3, constantValue := 0 }, { name := "DigitTens", type := (.array .byte), accessFlags := 24, slot := 4, constantValue := 0 }, { name := "DigitOnes", type := (.array .byte), accessFlags := 24, slot := 5, constantValue := 0 }, { name := "value", type := .int, accessFlags := 18, slot := 0, constantValue := 0 }, { name := "SIZE", type := .int, accessFlags := 25, slot := 6, constantValue := 0 }, { name := "BYTES", type := .int, accessFlags := 25, slot := 7, constantValue := 0 }, { name := "serialVersionUID", type := .long, accessFlags := 26, slot := 8, constantValue := 0 }]
  methods := #[k9m0]
  instanceTypes := #[.int]
  staticTypes := #[.int, .int, (.object "java/lang/Class"), (.array .char), (.array .byte), (.array .byte), .int, .int, .long]
  resolved := Array.replicate 453 none
  statics := none }

def pool10 : Array CpInfo := pool [(1, u "java/lang/Cloneable"), (0, .class_ 1), (0, u "java/lang/Object"), (0, .class_ 3)] 3

/-- java/lang/Cloneable -/
def k10 : Class := { plain "java/lang/Cloneable" (some 0) with
  accessFlags := 1537
  interfaces := #[]
  cf := some (fileOf pool10 2 #[] #[] 1537 4 #[] #[])
  fields := #[]
  methods := #[]
  instanceTypes := #[]
  staticTypes := #[]
  resolved := Array.replicate 8 none
  statics := none }

/-- the primitive byte -/
def k11 : Class := { plain "byte" none with kind := .primitive 'B', accessFlags := 0x411 }
/-- [B -/
def k12 : Class := { plain "[B" (some 0) with kind := .array 11 .byte, interfaces := #[10, 4], accessFlags := 1041 }

/-- the primitive double -/
def k13 : Class := { plain "double" none with kind := .primitive 'D', accessFlags := 0x411 }
/-- [D -/
def k14 : Class := { plain "[D" (some 0) with kind := .array 13 .double, interfaces := #[10, 4], accessFlags := 1041 }

/-- the primitive int -/
def k15 : Class := { plain "int" none with kind := .primitive 'I', accessFlags := 0x411 }
/-- [I -/
def k16 : Class := { plain "[I" (some 0) with kind := .array 15 .int, interfaces := #[10, 4], accessFlags := 1041 }

def heap : Heap := #[]
def classes : Array Class := #[k0, k1, k2, k3, k4, k5, k6, k7, k8, k9, k10, k11, k12, k13, k14, k15, k16]
def interned : List (Array UInt16 × Addr) := []
def slotsUsed : Nat := 0
def theMethod : MethodId := ⟨1, 1⟩
def args0 : Array Value := #[.int 5, .int 3, .int 4, .int 7, .int 2, .int 9]
def aboutOver (below : List Frame) : State where
  vm := { classes := classes, interned := interned.toArray }
  heap := heap
  slotsUsed := slotsUsed
  threads := #[{ frames := .invoking theMethod args0 :: below }]
def below0 : List Frame := [.native { method := ⟨0, 0⟩, args := #[] }]
def about1 : State := aboutOver below0
def p0 : Program := .bare "" "" ""
def e0 : Env := launch0.env 0 0 0
theorem w_frames : about1.frames = Frame.invoking theMethod args0 :: below0 := rfl
set_option maxRecDepth 65536 in
theorem w_args : argsFit about1.vm theMethod args0 = true := by decide +kernel
set_option maxRecDepth 65536 in
theorem w_heap : heapFits about1 = true := by decide +kernel
set_option maxRecDepth 65536 in
theorem w_runnable : about1.curStatus? = some .runnable := by decide +kernel
set_option maxRecDepth 65536 in
theorem w_alone : about1.alone = true := by decide +kernel
set_option maxRecDepth 65536 in
theorem w_named : about1.methodNamed? x = some theMethod := by decide +kernel
set_option maxRecDepth 65536 in
theorem w_hears : about1.hears theMethod below0 = true := by decide +kernel
set_option maxRecDepth 65536 in
theorem w_ripe : about1.ripe theMethod args0 below0 = true := by decide +kernel
theorem w_running : about1.status = .running := rfl
set_option maxRecDepth 65536 in
theorem w_room : about1.hasRoom e0.platform room_1 = true :=
  launch0.hasRoom_least _ room_1 (by decide +kernel) (by decide +kernel) (by decide +kernel) (by decide +kernel) (by decide +kernel) (by decide +kernel)
theorem allAtoms_all (ts : List Jvm.Cond) (a : Array Jvm.Value) (st : Jvm.State) : (allAtoms ts).before a st = ts.all (fun c => c.before a st) := by
  induction ts with
  | nil => rfl
  | cons c t ih =>
    show (Jvm.Cond.and c (allAtoms t)).before a st = _
    rw [Jvm.Cond.before_and, ih, List.all_cons]
def words1 : List Jvm.Cond := Jvm.Cond.code x code maxLocals ret :: tables_1
/-- a 'code' word, met by the world's own term for the bytes: nothing is compared byte by byte -/
theorem code_word {y : MethodName} {bytes : ByteArray} {mx : Nat} {rt : Option FieldType} {a : Array Value} {s : State} {m : MethodId} {meth : Method} {c : Code} (h1 : s.methodNamed? y = some m) (h2 : s.vm.method? m = some meth) (h3 : meth.code = some c) (h4 : c.code = bytes)
    (h5 : (c.maxLocals == mx && c.exceptionTable.isEmpty && decide (c.maxStack ≤ mostOperands) && decide (meth.sig.returnType = rt) && !meth.locks && decide (parseMethodDescriptor y.desc = some meth.sig)) = true) : (Jvm.Cond.code y bytes mx rt).before a s = true := by
  simp only [Bool.and_eq_true, beq_iff_eq, Bool.not_eq_true', decide_eq_true_eq] at h5
  obtain ⟨⟨⟨⟨⟨g1, g2⟩, g3⟩, g4⟩, g5⟩, g6⟩ := h5
  simp [Cond.before, Cond.holds, Cond.value, h1, h2, h3, h4, g1, g2, g3, g4, g5, g6]
def isCode : Jvm.Cond → Bool
  | .code _ _ _ _ => true
  | _ => false
theorem all_split {L : List Jvm.Cond} {P : Jvm.Cond → Bool} (h1 : L.all (fun c => isCode c || P c) = true) (h2 : ∀ c ∈ L.filter isCode, P c = true) : L.all P = true := by
  refine List.all_eq_true.mpr fun c hc => ?_
  have h := List.all_eq_true.mp h1 c hc
  rcases Bool.eq_false_or_eq_true (isCode c) with hi | hi
  · exact h2 c (List.mem_filter.mpr ⟨hc, hi⟩)
  · simpa [hi] using h
set_option maxRecDepth 65536 in
theorem w_c0 : (Jvm.Cond.code x code maxLocals ret).before args0 about1 = true := code_word (m := ⟨1, 1⟩) (meth := k1m1) (c := k1c1) (by decide +kernel) rfl rfl rfl (by decide +kernel)
set_option maxRecDepth 65536 in
theorem w_c1 : (Jvm.Cond.code ({ cls := "com/example/recolecta/recolecta/Bins", name := "over", desc := "([D)Lcom/example/recolecta/recolecta/Bins;" } : Jvm.MethodName) prog_6_method_2_code (10 : Nat) (Option.some (Jvm.ClassFile.FieldType.object "com/example/recolecta/recolecta/Bins"))).before args0 about1 = true := code_word (m := ⟨2, 1⟩) (meth := k2m1) (c := k2c1) (by decide +kernel) rfl rfl rfl (by decide +kernel)
set_option maxRecDepth 65536 in
theorem w_c2 : (Jvm.Cond.code ({ cls := "java/lang/Math", name := "min", desc := "(DD)D" } : Jvm.MethodName) jdk_29_method_72_code (4 : Nat) (Option.some Jvm.ClassFile.FieldType.double)).before args0 about1 = true := code_word (m := ⟨3, 4⟩) (meth := k3m4) (c := k3c4) (by decide +kernel) rfl rfl rfl (by decide +kernel)
set_option maxRecDepth 65536 in
theorem w_c3 : (Jvm.Cond.code ({ cls := "java/lang/Math", name := "max", desc := "(DD)D" } : Jvm.MethodName) jdk_29_method_68_code (4 : Nat) (Option.some Jvm.ClassFile.FieldType.double)).before args0 about1 = true := code_word (m := ⟨3, 2⟩) (meth := k3m2) (c := k3c2) (by decide +kernel) rfl rfl rfl (by decide +kernel)
set_option maxRecDepth 65536 in
theorem w_c4 : (Jvm.Cond.code ({ cls := "com/example/recolecta/recolecta/Bins", name := "countFor", desc := "(IDD)I" } : Jvm.MethodName) prog_6_method_3_code (5 : Nat) (Option.some Jvm.ClassFile.FieldType.int)).before args0 about1 = true := code_word (m := ⟨2, 2⟩) (meth := k2m2) (c := k2c2) (by decide +kernel) rfl rfl rfl (by decide +kernel)
set_option maxRecDepth 65536 in
theorem w_c5 : (Jvm.Cond.code ({ cls := "com/example/recolecta/recolecta/Bins", name := "<init>", desc := "(DDI)V" } : Jvm.MethodName) prog_6_method_1_code (6 : Nat) (Option.none : Option Jvm.ClassFile.FieldType)).before args0 about1 = true := code_word (m := ⟨2, 0⟩) (meth := k2m0) (c := k2c0) (by decide +kernel) rfl rfl rfl (by decide +kernel)
set_option maxRecDepth 65536 in
theorem w_c6 : (Jvm.Cond.code ({ cls := "java/lang/Object", name := "<init>", desc := "()V" } : Jvm.MethodName) object_method_1_code (1 : Nat) (Option.none : Option Jvm.ClassFile.FieldType)).before args0 about1 = true := code_word (m := ⟨0, 0⟩) (meth := k0m0) (c := k0c0) (by decide +kernel) rfl rfl rfl (by decide +kernel)
set_option maxRecDepth 65536 in
theorem w_c7 : (Jvm.Cond.code ({ cls := "com/example/recolecta/recolecta/Bins", name := "min", desc := "()D" } : Jvm.MethodName) prog_6_method_5_code (1 : Nat) (Option.some Jvm.ClassFile.FieldType.double)).before args0 about1 = true := code_word (m := ⟨2, 3⟩) (meth := k2m3) (c := k2c3) (by decide +kernel) rfl rfl rfl (by decide +kernel)
set_option maxRecDepth 65536 in
theorem w_c8 : (Jvm.Cond.code ({ cls := "com/example/recolecta/recolecta/Bins", name := "max", desc := "()D" } : Jvm.MethodName) prog_6_method_6_code (1 : Nat) (Option.some Jvm.ClassFile.FieldType.double)).before args0 about1 = true := code_word (m := ⟨2, 4⟩) (meth := k2m4) (c := k2c4) (by decide +kernel) rfl rfl rfl (by decide +kernel)
set_option maxRecDepth 65536 in
theorem w_c9 : (Jvm.Cond.code ({ cls := "com/example/recolecta/recolecta/Bins", name := "count", desc := "()I" } : Jvm.MethodName) prog_6_method_7_code (1 : Nat) (Option.some Jvm.ClassFile.FieldType.int)).before args0 about1 = true := code_word (m := ⟨2, 5⟩) (meth := k2m5) (c := k2c5) (by decide +kernel) rfl rfl rfl (by decide +kernel)
set_option maxRecDepth 65536 in
theorem w_c10 : (Jvm.Cond.code ({ cls := "java/lang/Math", name := "min", desc := "(II)I" } : Jvm.MethodName) jdk_29_method_69_code (2 : Nat) (Option.some Jvm.ClassFile.FieldType.int)).before args0 about1 = true := code_word (m := ⟨3, 3⟩) (meth := k3m3) (c := k3c3) (by decide +kernel) rfl rfl rfl (by decide +kernel)
set_option maxRecDepth 65536 in
theorem w_c11 : (Jvm.Cond.code ({ cls := "java/lang/Math", name := "max", desc := "(II)I" } : Jvm.MethodName) jdk_29_method_65_code (2 : Nat) (Option.some Jvm.ClassFile.FieldType.int)).before args0 about1 = true := code_word (m := ⟨3, 1⟩) (meth := k3m1) (c := k3c1) (by decide +kernel) rfl rfl rfl (by decide +kernel)
set_option maxRecDepth 65536 in
theorem w_c12 : (Jvm.Cond.code ({ cls := "java/lang/Integer", name := "numberOfLeadingZeros", desc := "(I)I" } : Jvm.MethodName) jdk_33_method_47_code (2 : Nat) (Option.some Jvm.ClassFile.FieldType.int)).before args0 about1 = true := code_word (m := ⟨9, 0⟩) (meth := k9m0) (c := k9c0) (by decide +kernel) rfl rfl rfl (by decide +kernel)
def codes1 : List Jvm.Cond := [Jvm.Cond.code x code maxLocals ret, Jvm.Cond.code ({ cls := "com/example/recolecta/recolecta/Bins", name := "over", desc := "([D)Lcom/example/recolecta/recolecta/Bins;" } : Jvm.MethodName) prog_6_method_2_code (10 : Nat) (Option.some (Jvm.ClassFile.FieldType.object "com/example/recolecta/recolecta/Bins")), Jvm.Cond.code ({ cls := "java/lang/Math", name := "min", desc := "(DD)D" } : Jvm.MethodName) jdk_29_method_72_code (4 : Nat) (Option.some Jvm.ClassFile.FieldType.double), Jvm.Cond.code ({ cls := "java/lang/Math", name := "max", desc := "(DD)D" } : Jvm.MethodName) jdk_29_method_68_code (4 : Nat) (Option.some Jvm.ClassFile.FieldType.double), Jvm.Cond.code ({ cls := "com/example/recolecta/recolecta/Bins", name := "countFor", desc := "(IDD)I" } : Jvm.MethodName) prog_6_method_3_code (5 : Nat) (Option.some Jvm.ClassFile.FieldType.int), Jvm.Cond.code ({ cls := "com/example/recolecta/recolecta/Bins", name := "<init>", desc := "(DDI)V" } : Jvm.MethodName) prog_6_method_1_code (6 : Nat) (Option.none : Option Jvm.ClassFile.FieldType), Jvm.Cond.code ({ cls := "java/lang/Object", name := "<init>", desc := "()V" } : Jvm.MethodName) object_method_1_code (1 : Nat) (Option.none : Option Jvm.ClassFile.FieldType), Jvm.Cond.code ({ cls := "com/example/recolecta/recolecta/Bins", name := "min", desc := "()D" } : Jvm.MethodName) prog_6_method_5_code (1 : Nat) (Option.some Jvm.ClassFile.FieldType.double), Jvm.Cond.code ({ cls := "com/example/recolecta/recolecta/Bins", name := "max", desc := "()D" } : Jvm.MethodName) prog_6_method_6_code (1 : Nat) (Option.some Jvm.ClassFile.FieldType.double), Jvm.Cond.code ({ cls := "com/example/recolecta/recolecta/Bins", name := "count", desc := "()I" } : Jvm.MethodName) prog_6_method_7_code (1 : Nat) (Option.some Jvm.ClassFile.FieldType.int), Jvm.Cond.code ({ cls := "java/lang/Math", name := "min", desc := "(II)I" } : Jvm.MethodName) jdk_29_method_69_code (2 : Nat) (Option.some Jvm.ClassFile.FieldType.int), Jvm.Cond.code ({ cls := "java/lang/Math", name := "max", desc := "(II)I" } : Jvm.MethodName) jdk_29_method_65_code (2 : Nat) (Option.some Jvm.ClassFile.FieldType.int), Jvm.Cond.code ({ cls := "java/lang/Integer", name := "numberOfLeadingZeros", desc := "(I)I" } : Jvm.MethodName) jdk_33_method_47_code (2 : Nat) (Option.some Jvm.ClassFile.FieldType.int)]
set_option maxRecDepth 65536 in
theorem codes_eq : words1.filter isCode = codes1 := rfl
theorem w_codes : ∀ c ∈ words1.filter isCode, c.before args0 about1 = true := by
  rw [codes_eq]
  intro c hc
  simp only [codes1, List.mem_cons, List.not_mem_nil, or_false] at hc
  rcases hc with rfl | rfl | rfl | rfl | rfl | rfl | rfl | rfl | rfl | rfl | rfl | rfl | rfl
  · exact w_c0
  · exact w_c1
  · exact w_c2
  · exact w_c3
  · exact w_c4
  · exact w_c5
  · exact w_c6
  · exact w_c7
  · exact w_c8
  · exact w_c9
  · exact w_c10
  · exact w_c11
  · exact w_c12
set_option maxRecDepth 65536 in
theorem w_t1 : (words1.take 24).all (fun c => isCode c || c.before args0 about1) = true := by decide +kernel
set_option maxRecDepth 65536 in
theorem w_t2 : ((words1.drop 24).take 24).all (fun c => isCode c || c.before args0 about1) = true := by decide +kernel
set_option maxRecDepth 65536 in
theorem w_t3 : ((words1.drop 24).drop 24).all (fun c => isCode c || c.before args0 about1) = true := by decide +kernel
theorem w_tables : (allAtoms (Jvm.Cond.code x code maxLocals ret :: tables_1)).before args0 about1 = true := by
  rw [allAtoms_all]
  show words1.all (fun c => c.before args0 about1) = true
  refine all_split ?_ w_codes
  rw [← List.take_append_drop 24 words1, List.all_append, w_t1, ← List.take_append_drop 24 (words1.drop 24), List.all_append, w_t2, w_t3]
  rfl
set_option maxRecDepth 65536 in
theorem w_case : (Jvm.Cond.and given_1 narrow_1).before args0 about1 = true := by decide +kernel
theorem w_applies : (headSpec (Jvm.Cond.code x code maxLocals ret :: tables_1) room_1).applies x e0.platform about1 = true :=
  (Spec.applies_iff w_frames).mpr ⟨w_running, w_runnable, w_alone, w_named, w_hears, w_ripe, w_room, w_tables⟩
theorem atStart : AtStart classFile x code maxLocals ret World_1 tables_1 room_1 Calls_1 rest_1 Pre_1 launch0 p0 e0 about1 theMethod args0 below0 :=
  ⟨lists_1, trivial, launch0.admits_env _ _ _, launch0.least_env, fairChoices_fair.cas, fairChoices_fair.clock, w_frames, w_args, w_heap, w_applies, trivial, trivial, w_case⟩
end start1
theorem witness_1 : WitnessClaimed_1 := ⟨start1.p0, start1.e0, start1.about1, start1.theMethod, start1.args0, start1.below0, start1.atStart⟩
end Jvm.Pilot.@@N@@
