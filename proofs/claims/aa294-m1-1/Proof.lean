import JvmDerived
import JvmDerived.Pilot.@@N@@Statement
import JvmDerived.Pilot.@@N@@Code
set_option linter.unusedVariables false
set_option linter.unusedSimpArgs false
namespace Jvm.Pilot.@@N@@
open Jvm Jvm.ClassFile Sem Op Lib Jvm.Free Jvm.Stand Jvm.LawKit Jvm.RoadKit Bundle Jvm.Pilot.@@N@@.Jvm.D
section OwnKit
variable {p : Program} {l : Launch} {e : Env} {R : Room} {s : State} {m : MethodId} {args : Array Value} {below : List Frame} {meth : Method} {c : Code} {T : State} {locs : List Loc} {cells slots : Nat} {Z : State} {a0 : Array Value} {h h' : Heap} {Ev : State → Outcome → Prop}
def Go (p : Program) (e : Env) (below : List Frame) (Ev : State → Outcome → Prop) (T : State) (g : JFrame) : Prop :=
  ∃ (U : State) (o : Outcome), Steps p.tables e below (T.setTop g) U ∧ U.status = .running ∧ Ended U below o ∧ Ev U o
theorem Go.on {T T' : State} {g g' : JFrame} (K : Go p e below Ev T' g') (st : ∀ t, Steps p.tables e below (T'.setTop g') t → Steps p.tables e below (T.setTop g) t) : Go p e below Ev T g := by
  obtain ⟨U, o, h1, h2⟩ := K
  exact ⟨U, o, st _ h1, h2⟩
/-- what a body leaves -/
abbrev EndQ (s : State) (Q : Option Value → Heap → List Loc → Prop) (K N : Nat) : State → Outcome → Prop := fun U o => ∃ (v : Option Value) (L : List Loc), o = .returned v ∧ Q v U.heap L ∧ FrameEnd s o U L K N
theorem own_met {x : MethodName} {code : ByteArray} {ml : Nat} {ret : Option FieldType} {ws : List Jvm.Cond} {rm : Room} {as : Array Value} {h0 : Heap} {Q : Option Value → Heap → List Loc → Prop} {K N : Nat} {Ls : Array Slot} (hpn : plainFor x = true) (hef : ∀ m, entryFrame m as ml = mkF m 0 Ls [])
    (body : ∀ (p : Program) (e : Env) (s : State) (m : MethodId) (below : List Frame) (meth : Method) (c : Code) (T : State), Stand p l e rm s m as below meth c T [] 0 0 → p.tables.exec = Jvm.exec → c.code = code → c.maxLocals = ml → meth.sig.returnType = ret → meth.locks = false → meth.name = x.name → s.vm.findClass x.cls = some m.cls → Z.Warmed39 s.vm → T.heap = h0 → Go p e below (EndQ s Q K N) T (mkF m 0 Ls [])) :
    MetFree l x (head1 (Jvm.Cond.code x code ml ret :: ws) rm) (fun a U => a = as ∧ Z.Warmed39 U.vm ∧ U.heap = h0) (fun _ _ _ _ _ => True) (fun _ U o U' => ∃ v L, o = .returned v ∧ Q v U'.heap L ∧ FrameEnd U o U' L K N) := by
  refine MetFree.of_bodySF hpn hisR ?_
  intro p e s m args below meth c s₁ Bd hml0 hP hK
  obtain ⟨rfl, hZ, hh⟩ := hP
  have e0 : s₁.heap = h0 := by rw [← hh, Bd.state]; rfl
  obtain ⟨U, o, h1, h2, h3, h4⟩ := body p e s m below meth c s₁ (Stand.of_body Bd) Bd.exec Bd.bytes hml0 Bd.returns (BodyLoose.notSynchronized Bd) (name_of_methodNamed Bd.named Bd.method).1 (findClass_of_methodNamed Bd.named) hZ e0
  rw [← hef m] at h1
  exact ⟨U, o, h1, h2, h3, h4⟩
theorem g_leave (X : Stand p l e R s m args below meth c T locs cells slots) (hlk : meth.locks = false) {Q : Option Value → Heap → List Loc → Prop} {K N : Nat} {g : JFrame} {v : Option Value} (hv : meth.sig.returnType = none → v = none) (hK : cells ≤ K) (hN : slots ≤ N) (eT : T.heap = h) (hQ : Q v h locs)
    (hst : ∀ fs, (∀ (f : JFrame) (acts : List Action), f.method = m → f.locked = none → f.entered = [] → (doReturn e (T.setTop f) acts v).1 = T.setFrames fs) → Steps p.tables e below (T.setTop g) (T.setFrames fs)) : Go p e below (EndQ s Q K N) T g := by
  obtain ⟨fs, hr, hrun, hended, hW, hsame⟩ := X.leave (v := v) hv hlk
  exact ⟨_, _, hst fs hr, hrun, hended, _, _, rfl, by rw [show (T.setFrames fs).heap = T.heap from rfl, eT]; exact hQ, ⟨_, rfl⟩, hW, hsame.mono hK hN⟩
theorem g_retI (X : Stand p l e R s m args below meth c T locs cells slots) (hx : p.tables.exec = Jvm.exec) (hlk : meth.locks = false) {Q : Option Value → Heap → List Loc → Prop} {K N : Nat} {pc : Nat} {Ls : Array Slot} {z : Int32} {rest : List Value} (hret : meth.sig.returnType = some .int) (hd : decode c.code pc = .ok (.ireturn, 1)) (hK : cells ≤ K) (hN : slots ≤ N) (eT : T.heap = h) (hQ : Q (some (.int z)) h locs) : Go p e below (EndQ s Q K N) T (mkF m pc Ls (.int z :: rest)) :=
  g_leave X hlk (fun q => by rw [hret] at q; cases q) hK hN eT hQ (fun fs hr => retOut X hx hret rfl (Or.inl ⟨rfl, Or.inl rfl, _, rfl⟩) hd hr)
theorem g_retZ (X : Stand p l e R s m args below meth c T locs cells slots) (hx : p.tables.exec = Jvm.exec) (hlk : meth.locks = false) {Q : Option Value → Heap → List Loc → Prop} {K N : Nat} {pc : Nat} {Ls : Array Slot} {z : Int32} {rest : List Value} (hret : meth.sig.returnType = some .boolean) (hd : decode c.code pc = .ok (.ireturn, 1)) (hK : cells ≤ K) (hN : slots ≤ N) (eT : T.heap = h) (hQ : Q (some (.int (nar .boolean z))) h locs) : Go p e below (EndQ s Q K N) T (mkF m pc Ls (.int z :: rest)) :=
  g_leave X hlk (fun q => by rw [hret] at q; cases q) hK hN eT hQ (fun fs hr => retN X hx (t := .boolean) hret (by simp) hd hr)
theorem g_retD (X : Stand p l e R s m args below meth c T locs cells slots) (hx : p.tables.exec = Jvm.exec) (hlk : meth.locks = false) {Q : Option Value → Heap → List Loc → Prop} {K N : Nat} {pc : Nat} {Ls : Array Slot} {z : UInt64} {rest : List Value} (hret : meth.sig.returnType = some .double) (hd : decode c.code pc = .ok (.dreturn, 1)) (hK : cells ≤ K) (hN : slots ≤ N) (eT : T.heap = h) (hQ : Q (some (.double z)) h locs) : Go p e below (EndQ s Q K N) T (mkF m pc Ls (.double z :: rest)) :=
  g_leave X hlk (fun q => by rw [hret] at q; cases q) hK hN eT hQ (fun fs hr => retOut X hx hret rfl (Or.inr (Or.inr (Or.inl ⟨rfl, rfl, _, rfl⟩))) hd hr)
theorem g_retJ (X : Stand p l e R s m args below meth c T locs cells slots) (hx : p.tables.exec = Jvm.exec) (hlk : meth.locks = false) {Q : Option Value → Heap → List Loc → Prop} {K N : Nat} {pc : Nat} {Ls : Array Slot} {z : Int64} {rest : List Value} (hret : meth.sig.returnType = some .long) (hd : decode c.code pc = .ok (.lreturn, 1)) (hK : cells ≤ K) (hN : slots ≤ N) (eT : T.heap = h) (hQ : Q (some (.long z)) h locs) : Go p e below (EndQ s Q K N) T (mkF m pc Ls (.long z :: rest)) :=
  g_leave X hlk (fun q => by rw [hret] at q; cases q) hK hN eT hQ (fun fs hr => retOut X hx hret rfl (Or.inr (Or.inl ⟨rfl, rfl, _, rfl⟩)) hd hr)
theorem g_retA (X : Stand p l e R s m args below meth c T locs cells slots) (hx : p.tables.exec = Jvm.exec) (hlk : meth.locks = false) {Q : Option Value → Heap → List Loc → Prop} {K N : Nat} {pc : Nat} {Ls : Array Slot} {w : Value} {rest : List Value} {t : FieldType} (hret : meth.sig.returnType = some t) (ht : t.isReference = true) (hw : w.isRef = true) (hn : narrow t w = w) (hd : decode c.code pc = .ok (.areturn, 1)) (hK : cells ≤ K) (hN : slots ≤ N) (eT : T.heap = h) (hQ : Q (some w) h locs) : Go p e below (EndQ s Q K N) T (mkF m pc Ls (w :: rest)) :=
  g_leave X hlk (fun q => by rw [hret] at q; cases q) hK hN eT hQ (fun fs hr => retOut X hx hret hn (Or.inr (Or.inr (Or.inr (Or.inr ⟨rfl, ht, hw⟩)))) hd hr)
theorem g_retV (X : Stand p l e R s m args below meth c T locs cells slots) (hx : p.tables.exec = Jvm.exec) (hlk : meth.locks = false) {Q : Option Value → Heap → List Loc → Prop} {K N : Nat} {pc : Nat} {Ls : Array Slot} (hret : meth.sig.returnType = none) (hd : decode c.code pc = .ok (.return_, 1)) (hK : cells ≤ K) (hN : slots ≤ N) (eT : T.heap = h) (hQ : Q none h locs) : Go p e below (EndQ s Q K N) T (mkF m pc Ls []) :=
  g_leave X hlk (fun _ => rfl) hK hN eT hQ (fun fs hr => X.returnOut hx hret hd hr)
theorem g_iloadN (X : Stand p l e R s m args below meth c T locs cells slots) (hx : p.tables.exec = Jvm.exec) {pc : Nat} {Ls : Array Slot} {st : List Value} {k : Fin 4} {v : Int32} (q : Nat) (hd : decode c.code pc = .ok (.iload_n k, 1)) (hq : pc + 1 = q) (hl : Ls[k.val]? = some (.val (.int v))) (K : Go p e below Ev T (mkF m q Ls (.int v :: st))) : Go p e below Ev T (mkF m pc Ls st) := by
  subst hq
  exact K.on fun _ k => XS.iloadN X.here hx rfl hd hl k
theorem g_iload (X : Stand p l e R s m args below meth c T locs cells slots) (hx : p.tables.exec = Jvm.exec) {pc : Nat} {Ls : Array Slot} {st : List Value} {k : Nat} {v : Int32} (q : Nat) (hd : decode c.code pc = .ok (.iload k, 2)) (hq : pc + 2 = q) (hl : Ls[k]? = some (.val (.int v))) (K : Go p e below Ev T (mkF m q Ls (.int v :: st))) : Go p e below Ev T (mkF m pc Ls st) := by
  subst hq
  exact K.on fun _ k => XS.iload X.here hx rfl hd hl k
theorem g_istoreN (X : Stand p l e R s m args below meth c T locs cells slots) (hx : p.tables.exec = Jvm.exec) {pc : Nat} {Ls : Array Slot} {st : List Value} {k : Fin 4} {v : Int32} {l' : Array Slot} (q : Nat) (hd : decode c.code pc = .ok (.istore_n k, 1)) (hq : pc + 1 = q) (hl : storeLocals Ls k.val (.int v) = some l') (K : Go p e below Ev T (mkF m q l' st)) : Go p e below Ev T (mkF m pc Ls (.int v :: st)) := by
  subst hq
  exact K.on fun _ k => XS.istoreN X.here hx rfl hd rfl hl k
theorem g_istore (X : Stand p l e R s m args below meth c T locs cells slots) (hx : p.tables.exec = Jvm.exec) {pc : Nat} {Ls : Array Slot} {st : List Value} {k : Nat} {v : Int32} {l' : Array Slot} (q : Nat) (hd : decode c.code pc = .ok (.istore k, 2)) (hq : pc + 2 = q) (hl : storeLocals Ls k (.int v) = some l') (K : Go p e below Ev T (mkF m q l' st)) : Go p e below Ev T (mkF m pc Ls (.int v :: st)) := by
  subst hq
  exact K.on fun _ k => XS.istore X.here hx rfl hd rfl hl k
theorem g_lloadN (X : Stand p l e R s m args below meth c T locs cells slots) (hx : p.tables.exec = Jvm.exec) {pc : Nat} {Ls : Array Slot} {st : List Value} {k : Fin 4} {v : Int64} (q : Nat) (hd : decode c.code pc = .ok (.lload_n k, 1)) (hq : pc + 1 = q) (hl : Ls[k.val]? = some (.val (.long v))) (K : Go p e below Ev T (mkF m q Ls (.long v :: st))) : Go p e below Ev T (mkF m pc Ls st) := by
  subst hq
  exact K.on fun _ k => XS.lloadN X.here hx rfl hd hl k
theorem g_lload (X : Stand p l e R s m args below meth c T locs cells slots) (hx : p.tables.exec = Jvm.exec) {pc : Nat} {Ls : Array Slot} {st : List Value} {k : Nat} {v : Int64} (q : Nat) (hd : decode c.code pc = .ok (.lload k, 2)) (hq : pc + 2 = q) (hl : Ls[k]? = some (.val (.long v))) (K : Go p e below Ev T (mkF m q Ls (.long v :: st))) : Go p e below Ev T (mkF m pc Ls st) := by
  subst hq
  exact K.on fun _ k => XS.lload X.here hx rfl hd hl k
theorem g_lstoreN (X : Stand p l e R s m args below meth c T locs cells slots) (hx : p.tables.exec = Jvm.exec) {pc : Nat} {Ls : Array Slot} {st : List Value} {k : Fin 4} {v : Int64} {l' : Array Slot} (q : Nat) (hd : decode c.code pc = .ok (.lstore_n k, 1)) (hq : pc + 1 = q) (hl : storeLocals Ls k.val (.long v) = some l') (K : Go p e below Ev T (mkF m q l' st)) : Go p e below Ev T (mkF m pc Ls (.long v :: st)) := by
  subst hq
  exact K.on fun _ k => XS.lstoreN X.here hx rfl hd rfl hl k
theorem g_lstore (X : Stand p l e R s m args below meth c T locs cells slots) (hx : p.tables.exec = Jvm.exec) {pc : Nat} {Ls : Array Slot} {st : List Value} {k : Nat} {v : Int64} {l' : Array Slot} (q : Nat) (hd : decode c.code pc = .ok (.lstore k, 2)) (hq : pc + 2 = q) (hl : storeLocals Ls k (.long v) = some l') (K : Go p e below Ev T (mkF m q l' st)) : Go p e below Ev T (mkF m pc Ls (.long v :: st)) := by
  subst hq
  exact K.on fun _ k => XS.lstore X.here hx rfl hd rfl hl k
theorem g_dloadN (X : Stand p l e R s m args below meth c T locs cells slots) (hx : p.tables.exec = Jvm.exec) {pc : Nat} {Ls : Array Slot} {st : List Value} {k : Fin 4} {v : UInt64} (q : Nat) (hd : decode c.code pc = .ok (.dload_n k, 1)) (hq : pc + 1 = q) (hl : Ls[k.val]? = some (.val (.double v))) (K : Go p e below Ev T (mkF m q Ls (.double v :: st))) : Go p e below Ev T (mkF m pc Ls st) := by
  subst hq
  exact K.on fun _ k => XS.dloadN X.here hx rfl hd hl k
theorem g_dload (X : Stand p l e R s m args below meth c T locs cells slots) (hx : p.tables.exec = Jvm.exec) {pc : Nat} {Ls : Array Slot} {st : List Value} {k : Nat} {v : UInt64} (q : Nat) (hd : decode c.code pc = .ok (.dload k, 2)) (hq : pc + 2 = q) (hl : Ls[k]? = some (.val (.double v))) (K : Go p e below Ev T (mkF m q Ls (.double v :: st))) : Go p e below Ev T (mkF m pc Ls st) := by
  subst hq
  exact K.on fun _ k => XS.dload X.here hx rfl hd hl k
theorem g_dstoreN (X : Stand p l e R s m args below meth c T locs cells slots) (hx : p.tables.exec = Jvm.exec) {pc : Nat} {Ls : Array Slot} {st : List Value} {k : Fin 4} {v : UInt64} {l' : Array Slot} (q : Nat) (hd : decode c.code pc = .ok (.dstore_n k, 1)) (hq : pc + 1 = q) (hl : storeLocals Ls k.val (.double v) = some l') (K : Go p e below Ev T (mkF m q l' st)) : Go p e below Ev T (mkF m pc Ls (.double v :: st)) := by
  subst hq
  exact K.on fun _ k => XS.dstoreN X.here hx rfl hd rfl hl k
theorem g_dstore (X : Stand p l e R s m args below meth c T locs cells slots) (hx : p.tables.exec = Jvm.exec) {pc : Nat} {Ls : Array Slot} {st : List Value} {k : Nat} {v : UInt64} {l' : Array Slot} (q : Nat) (hd : decode c.code pc = .ok (.dstore k, 2)) (hq : pc + 2 = q) (hl : storeLocals Ls k (.double v) = some l') (K : Go p e below Ev T (mkF m q l' st)) : Go p e below Ev T (mkF m pc Ls (.double v :: st)) := by
  subst hq
  exact K.on fun _ k => XS.dstore X.here hx rfl hd rfl hl k
theorem g_aloadN (X : Stand p l e R s m args below meth c T locs cells slots) (hx : p.tables.exec = Jvm.exec) {pc : Nat} {Ls : Array Slot} {st : List Value} {k : Fin 4} {v : Value} (q : Nat) (hd : decode c.code pc = .ok (.aload_n k, 1)) (hq : pc + 1 = q) (hl : Ls[k.val]? = some (.val v)) (hv : v.isRef = true) (K : Go p e below Ev T (mkF m q Ls (v :: st))) : Go p e below Ev T (mkF m pc Ls st) := by
  subst hq
  exact K.on fun _ k => XS.aloadN X.here hx rfl hd hl hv k
theorem g_aload (X : Stand p l e R s m args below meth c T locs cells slots) (hx : p.tables.exec = Jvm.exec) {pc : Nat} {Ls : Array Slot} {st : List Value} {k : Nat} {v : Value} (q : Nat) (hd : decode c.code pc = .ok (.aload k, 2)) (hq : pc + 2 = q) (hl : Ls[k]? = some (.val v)) (hv : v.isRef = true) (K : Go p e below Ev T (mkF m q Ls (v :: st))) : Go p e below Ev T (mkF m pc Ls st) := by
  subst hq
  exact K.on fun _ k => XS.aload X.here hx rfl hd hl hv k
theorem g_astoreN (X : Stand p l e R s m args below meth c T locs cells slots) (hx : p.tables.exec = Jvm.exec) {pc : Nat} {Ls : Array Slot} {st : List Value} {k : Fin 4} {v : Value} {l' : Array Slot} (q : Nat) (hd : decode c.code pc = .ok (.astore_n k, 1)) (hq : pc + 1 = q) (hv : v.isRef = true) (hl : storeLocals Ls k.val v = some l') (K : Go p e below Ev T (mkF m q l' st)) : Go p e below Ev T (mkF m pc Ls (v :: st)) := by
  subst hq
  exact K.on fun _ k => XS.astoreN X.here hx rfl hd rfl hv hl k
theorem g_astore (X : Stand p l e R s m args below meth c T locs cells slots) (hx : p.tables.exec = Jvm.exec) {pc : Nat} {Ls : Array Slot} {st : List Value} {k : Nat} {v : Value} {l' : Array Slot} (q : Nat) (hd : decode c.code pc = .ok (.astore k, 2)) (hq : pc + 2 = q) (hv : v.isRef = true) (hl : storeLocals Ls k v = some l') (K : Go p e below Ev T (mkF m q l' st)) : Go p e below Ev T (mkF m pc Ls (v :: st)) := by
  subst hq
  exact K.on fun _ k => XS.astore X.here hx rfl hd rfl hv hl k
theorem g_iconst (X : Stand p l e R s m args below meth c T locs cells slots) (hx : p.tables.exec = Jvm.exec) {pc : Nat} {Ls : Array Slot} {st : List Value} {i : Int} (v : Int32) (q : Nat) (hd : decode c.code pc = .ok (.iconst i, 1)) (hq : pc + 1 = q) (hv : Int32.ofInt i = v) (K : Go p e below Ev T (mkF m q Ls (.int v :: st))) : Go p e below Ev T (mkF m pc Ls st) := by
  subst hq
  exact K.on fun _ k => XT.iconstV X.here hx rfl v hd hv k
theorem g_bipush (X : Stand p l e R s m args below meth c T locs cells slots) (hx : p.tables.exec = Jvm.exec) {pc : Nat} {Ls : Array Slot} {st : List Value} {i : Int} (v : Int32) (q : Nat) (hd : decode c.code pc = .ok (.bipush i, 2)) (hq : pc + 2 = q) (hv : (Int8.ofInt i).toInt32 = v) (K : Go p e below Ev T (mkF m q Ls (.int v :: st))) : Go p e below Ev T (mkF m pc Ls st) := by
  subst hq
  exact K.on fun _ k => XT.bipushV X.here hx rfl v hd hv k
theorem g_sipush (X : Stand p l e R s m args below meth c T locs cells slots) (hx : p.tables.exec = Jvm.exec) {pc : Nat} {Ls : Array Slot} {st : List Value} {i : Int} (v : Int32) (q : Nat) (hd : decode c.code pc = .ok (.sipush i, 3)) (hq : pc + 3 = q) (hv : (Int16.ofInt i).toInt32 = v) (K : Go p e below Ev T (mkF m q Ls (.int v :: st))) : Go p e below Ev T (mkF m pc Ls st) := by
  subst hq
  exact K.on fun _ k => XT.sipushV X.here hx rfl v hd hv k
theorem g_lconst (X : Stand p l e R s m args below meth c T locs cells slots) (hx : p.tables.exec = Jvm.exec) {pc : Nat} {Ls : Array Slot} {st : List Value} {i : Fin 2} (v : Int64) (q : Nat) (hd : decode c.code pc = .ok (.lconst i, 1)) (hq : pc + 1 = q) (hv : Int64.ofNat i = v) (K : Go p e below Ev T (mkF m q Ls (.long v :: st))) : Go p e below Ev T (mkF m pc Ls st) := by
  subst hq
  exact K.on fun _ k => XT.lconstV X.here hx rfl v hd hv k
theorem g_dconst0 (X : Stand p l e R s m args below meth c T locs cells slots) (hx : p.tables.exec = Jvm.exec) {pc : Nat} {Ls : Array Slot} {st : List Value}  (q : Nat) (hd : decode c.code pc = .ok (.dconst 0, 1)) (hq : pc + 1 = q)  (K : Go p e below Ev T (mkF m q Ls (.double 0 :: st))) : Go p e below Ev T (mkF m pc Ls st) := by
  subst hq
  exact K.on fun _ k => XS.dconst0 X.here hx rfl hd rfl k
theorem g_dconst1 (X : Stand p l e R s m args below meth c T locs cells slots) (hx : p.tables.exec = Jvm.exec) {pc : Nat} {Ls : Array Slot} {st : List Value}  (q : Nat) (hd : decode c.code pc = .ok (.dconst 1, 1)) (hq : pc + 1 = q)  (K : Go p e below Ev T (mkF m q Ls (.double 4607182418800017408 :: st))) : Go p e below Ev T (mkF m pc Ls st) := by
  subst hq
  exact K.on fun _ k => XS.dconst1 X.here hx rfl hd rfl k
theorem g_null (X : Stand p l e R s m args below meth c T locs cells slots) (hx : p.tables.exec = Jvm.exec) {pc : Nat} {Ls : Array Slot} {st : List Value}  (q : Nat) (hd : decode c.code pc = .ok (.aconst_null, 1)) (hq : pc + 1 = q)  (K : Go p e below Ev T (mkF m q Ls (.null :: st))) : Go p e below Ev T (mkF m pc Ls st) := by
  subst hq
  exact K.on fun _ k => XS.aconstNull X.here hx rfl hd k
theorem g_iinc (X : Stand p l e R s m args below meth c T locs cells slots) (hx : p.tables.exec = Jvm.exec) {pc : Nat} {Ls : Array Slot} {st : List Value} {k : Nat} {i : Int} {v w : Int32} {l' : Array Slot} (q : Nat) (hd : decode c.code pc = .ok (.iinc k i, 3)) (hq : pc + 3 = q) (hl : Ls[k]? = some (.val (.int v))) (hv : Int32.ofInt i = w) (hl' : storeLocals Ls k (.int (v + w)) = some l') (K : Go p e below Ev T (mkF m q l' st)) : Go p e below Ev T (mkF m pc Ls st) := by
  subst hq
  exact K.on fun _ k => XT.iincV X.here hx rfl w hd hv hl hl' k
theorem g_iadd (X : Stand p l e R s m args below meth c T locs cells slots) (hx : p.tables.exec = Jvm.exec) {pc : Nat} {Ls : Array Slot} {st : List Value} {x y : Int32} (q : Nat) (hd : decode c.code pc = .ok (.iadd, 1)) (hq : pc + 1 = q)  (K : Go p e below Ev T (mkF m q Ls (.int (x + y) :: st))) : Go p e below Ev T (mkF m pc Ls (.int y :: .int x :: st)) := by
  subst hq
  exact K.on fun _ k => XS.iadd X.here hx rfl hd rfl k
theorem g_ladd (X : Stand p l e R s m args below meth c T locs cells slots) (hx : p.tables.exec = Jvm.exec) {pc : Nat} {Ls : Array Slot} {st : List Value} {x y : Int64} (q : Nat) (hd : decode c.code pc = .ok (.ladd, 1)) (hq : pc + 1 = q)  (K : Go p e below Ev T (mkF m q Ls (.long (x + y) :: st))) : Go p e below Ev T (mkF m pc Ls (.long y :: .long x :: st)) := by
  subst hq
  exact K.on fun _ k => XS.ladd X.here hx rfl hd rfl k
theorem g_isub (X : Stand p l e R s m args below meth c T locs cells slots) (hx : p.tables.exec = Jvm.exec) {pc : Nat} {Ls : Array Slot} {st : List Value} {x y : Int32} (q : Nat) (hd : decode c.code pc = .ok (.isub, 1)) (hq : pc + 1 = q)  (K : Go p e below Ev T (mkF m q Ls (.int (x - y) :: st))) : Go p e below Ev T (mkF m pc Ls (.int y :: .int x :: st)) := by
  subst hq
  exact K.on fun _ k => XS.isub X.here hx rfl hd rfl k
theorem g_lsub (X : Stand p l e R s m args below meth c T locs cells slots) (hx : p.tables.exec = Jvm.exec) {pc : Nat} {Ls : Array Slot} {st : List Value} {x y : Int64} (q : Nat) (hd : decode c.code pc = .ok (.lsub, 1)) (hq : pc + 1 = q)  (K : Go p e below Ev T (mkF m q Ls (.long (x - y) :: st))) : Go p e below Ev T (mkF m pc Ls (.long y :: .long x :: st)) := by
  subst hq
  exact K.on fun _ k => XS.lsub X.here hx rfl hd rfl k
theorem g_imul (X : Stand p l e R s m args below meth c T locs cells slots) (hx : p.tables.exec = Jvm.exec) {pc : Nat} {Ls : Array Slot} {st : List Value} {x y : Int32} (q : Nat) (hd : decode c.code pc = .ok (.imul, 1)) (hq : pc + 1 = q)  (K : Go p e below Ev T (mkF m q Ls (.int (x * y) :: st))) : Go p e below Ev T (mkF m pc Ls (.int y :: .int x :: st)) := by
  subst hq
  exact K.on fun _ k => XS.imul X.here hx rfl hd rfl k
theorem g_lmul (X : Stand p l e R s m args below meth c T locs cells slots) (hx : p.tables.exec = Jvm.exec) {pc : Nat} {Ls : Array Slot} {st : List Value} {x y : Int64} (q : Nat) (hd : decode c.code pc = .ok (.lmul, 1)) (hq : pc + 1 = q)  (K : Go p e below Ev T (mkF m q Ls (.long (x * y) :: st))) : Go p e below Ev T (mkF m pc Ls (.long y :: .long x :: st)) := by
  subst hq
  exact K.on fun _ k => XS.lmul X.here hx rfl hd rfl k
theorem g_iand (X : Stand p l e R s m args below meth c T locs cells slots) (hx : p.tables.exec = Jvm.exec) {pc : Nat} {Ls : Array Slot} {st : List Value} {x y : Int32} (q : Nat) (hd : decode c.code pc = .ok (.iand, 1)) (hq : pc + 1 = q)  (K : Go p e below Ev T (mkF m q Ls (.int (x &&& y) :: st))) : Go p e below Ev T (mkF m pc Ls (.int y :: .int x :: st)) := by
  subst hq
  exact K.on fun _ k => XS.iand X.here hx rfl hd rfl k
theorem g_land (X : Stand p l e R s m args below meth c T locs cells slots) (hx : p.tables.exec = Jvm.exec) {pc : Nat} {Ls : Array Slot} {st : List Value} {x y : Int64} (q : Nat) (hd : decode c.code pc = .ok (.land, 1)) (hq : pc + 1 = q)  (K : Go p e below Ev T (mkF m q Ls (.long (x &&& y) :: st))) : Go p e below Ev T (mkF m pc Ls (.long y :: .long x :: st)) := by
  subst hq
  exact K.on fun _ k => XS.land X.here hx rfl hd rfl k
theorem g_ior (X : Stand p l e R s m args below meth c T locs cells slots) (hx : p.tables.exec = Jvm.exec) {pc : Nat} {Ls : Array Slot} {st : List Value} {x y : Int32} (q : Nat) (hd : decode c.code pc = .ok (.ior, 1)) (hq : pc + 1 = q)  (K : Go p e below Ev T (mkF m q Ls (.int (x ||| y) :: st))) : Go p e below Ev T (mkF m pc Ls (.int y :: .int x :: st)) := by
  subst hq
  exact K.on fun _ k => XS.ior X.here hx rfl hd rfl k
theorem g_lor (X : Stand p l e R s m args below meth c T locs cells slots) (hx : p.tables.exec = Jvm.exec) {pc : Nat} {Ls : Array Slot} {st : List Value} {x y : Int64} (q : Nat) (hd : decode c.code pc = .ok (.lor, 1)) (hq : pc + 1 = q)  (K : Go p e below Ev T (mkF m q Ls (.long (x ||| y) :: st))) : Go p e below Ev T (mkF m pc Ls (.long y :: .long x :: st)) := by
  subst hq
  exact K.on fun _ k => XS.lor X.here hx rfl hd rfl k
theorem g_ixor (X : Stand p l e R s m args below meth c T locs cells slots) (hx : p.tables.exec = Jvm.exec) {pc : Nat} {Ls : Array Slot} {st : List Value} {x y : Int32} (q : Nat) (hd : decode c.code pc = .ok (.ixor, 1)) (hq : pc + 1 = q)  (K : Go p e below Ev T (mkF m q Ls (.int (x ^^^ y) :: st))) : Go p e below Ev T (mkF m pc Ls (.int y :: .int x :: st)) := by
  subst hq
  exact K.on fun _ k => XS.ixor X.here hx rfl hd rfl k
theorem g_lxor (X : Stand p l e R s m args below meth c T locs cells slots) (hx : p.tables.exec = Jvm.exec) {pc : Nat} {Ls : Array Slot} {st : List Value} {x y : Int64} (q : Nat) (hd : decode c.code pc = .ok (.lxor, 1)) (hq : pc + 1 = q)  (K : Go p e below Ev T (mkF m q Ls (.long (x ^^^ y) :: st))) : Go p e below Ev T (mkF m pc Ls (.long y :: .long x :: st)) := by
  subst hq
  exact K.on fun _ k => XS.lxor X.here hx rfl hd rfl k
theorem g_idiv (X : Stand p l e R s m args below meth c T locs cells slots) (hx : p.tables.exec = Jvm.exec) {pc : Nat} {Ls : Array Slot} {st : List Value} {x y : Int32} (q : Nat) (hd : decode c.code pc = .ok (.idiv, 1)) (hq : pc + 1 = q) (hy : y ≠ 0) (K : Go p e below Ev T (mkF m q Ls (.int (x / y) :: st))) : Go p e below Ev T (mkF m pc Ls (.int y :: .int x :: st)) := by
  subst hq
  exact K.on fun _ k => XS.idiv X.here hx rfl hd rfl hy k
theorem g_ineg (X : Stand p l e R s m args below meth c T locs cells slots) (hx : p.tables.exec = Jvm.exec) {pc : Nat} {Ls : Array Slot} {st : List Value} {x : Int32} (q : Nat) (hd : decode c.code pc = .ok (.ineg, 1)) (hq : pc + 1 = q)  (K : Go p e below Ev T (mkF m q Ls (.int (-x) :: st))) : Go p e below Ev T (mkF m pc Ls (.int x :: st)) := by
  subst hq
  exact K.on fun _ k => XS.ineg X.here hx rfl hd rfl k
theorem g_ldiv (X : Stand p l e R s m args below meth c T locs cells slots) (hx : p.tables.exec = Jvm.exec) {pc : Nat} {Ls : Array Slot} {st : List Value} {x y : Int64} (q : Nat) (hd : decode c.code pc = .ok (.ldiv, 1)) (hq : pc + 1 = q) (hy : y ≠ 0) (K : Go p e below Ev T (mkF m q Ls (.long (x / y) :: st))) : Go p e below Ev T (mkF m pc Ls (.long y :: .long x :: st)) := by
  subst hq
  exact K.on fun _ k => XS.ldiv X.here hx rfl hd rfl hy k
theorem g_lneg (X : Stand p l e R s m args below meth c T locs cells slots) (hx : p.tables.exec = Jvm.exec) {pc : Nat} {Ls : Array Slot} {st : List Value} {x : Int64} (q : Nat) (hd : decode c.code pc = .ok (.lneg, 1)) (hq : pc + 1 = q)  (K : Go p e below Ev T (mkF m q Ls (.long (-x) :: st))) : Go p e below Ev T (mkF m pc Ls (.long x :: st)) := by
  subst hq
  exact K.on fun _ k => XS.lneg X.here hx rfl hd rfl k
theorem g_irem (X : Stand p l e R s m args below meth c T locs cells slots) (hx : p.tables.exec = Jvm.exec) {pc : Nat} {Ls : Array Slot} {st : List Value} {x y : Int32} (q : Nat) (hd : decode c.code pc = .ok (.irem, 1)) (hq : pc + 1 = q) (hy : y ≠ 0) (K : Go p e below Ev T (mkF m q Ls (.int (x % y) :: st))) : Go p e below Ev T (mkF m pc Ls (.int y :: .int x :: st)) := by
  subst hq
  exact K.on fun _ k => iremM X hx rfl hd rfl hy k
theorem g_lrem (X : Stand p l e R s m args below meth c T locs cells slots) (hx : p.tables.exec = Jvm.exec) {pc : Nat} {Ls : Array Slot} {st : List Value} {x y : Int64} (q : Nat) (hd : decode c.code pc = .ok (.lrem, 1)) (hq : pc + 1 = q) (hy : y ≠ 0) (K : Go p e below Ev T (mkF m q Ls (.long (x - (x / y) * y) :: st))) : Go p e below Ev T (mkF m pc Ls (.long y :: .long x :: st)) := by
  subst hq
  exact K.on fun _ k => XS.lrem X.here hx rfl hd rfl hy k
theorem g_ishl (X : Stand p l e R s m args below meth c T locs cells slots) (hx : p.tables.exec = Jvm.exec) {pc : Nat} {Ls : Array Slot} {st : List Value} {x y : Int32} (q : Nat) (hd : decode c.code pc = .ok (.ishl, 1)) (hq : pc + 1 = q)  (K : Go p e below Ev T (mkF m q Ls (.int (x <<< (y &&& 31)) :: st))) : Go p e below Ev T (mkF m pc Ls (.int y :: .int x :: st)) := by
  subst hq
  exact K.on fun _ k => XS.ishl X.here hx rfl hd rfl k
theorem g_ishr (X : Stand p l e R s m args below meth c T locs cells slots) (hx : p.tables.exec = Jvm.exec) {pc : Nat} {Ls : Array Slot} {st : List Value} {x y : Int32} (q : Nat) (hd : decode c.code pc = .ok (.ishr, 1)) (hq : pc + 1 = q)  (K : Go p e below Ev T (mkF m q Ls (.int (x >>> (y &&& 31)) :: st))) : Go p e below Ev T (mkF m pc Ls (.int y :: .int x :: st)) := by
  subst hq
  exact K.on fun _ k => XS.ishr X.here hx rfl hd rfl k
theorem g_iushr (X : Stand p l e R s m args below meth c T locs cells slots) (hx : p.tables.exec = Jvm.exec) {pc : Nat} {Ls : Array Slot} {st : List Value} {x y : Int32} (q : Nat) (hd : decode c.code pc = .ok (.iushr, 1)) (hq : pc + 1 = q)  (K : Go p e below Ev T (mkF m q Ls (.int ((x.toUInt32 >>> (y &&& 31).toUInt32).toInt32) :: st))) : Go p e below Ev T (mkF m pc Ls (.int y :: .int x :: st)) := by
  subst hq
  exact K.on fun _ k => XS.iushr X.here hx rfl hd rfl k
theorem g_lshl (X : Stand p l e R s m args below meth c T locs cells slots) (hx : p.tables.exec = Jvm.exec) {pc : Nat} {Ls : Array Slot} {st : List Value} {x : Int64} {y : Int32} (q : Nat) (hd : decode c.code pc = .ok (.lshl, 1)) (hq : pc + 1 = q)  (K : Go p e below Ev T (mkF m q Ls (.long (x <<< (y &&& 0x3f).toInt64) :: st))) : Go p e below Ev T (mkF m pc Ls (.int y :: .long x :: st)) := by
  subst hq
  exact K.on fun _ k => XS.lshl X.here hx rfl hd rfl k
theorem g_lshr (X : Stand p l e R s m args below meth c T locs cells slots) (hx : p.tables.exec = Jvm.exec) {pc : Nat} {Ls : Array Slot} {st : List Value} {x : Int64} {y : Int32} (q : Nat) (hd : decode c.code pc = .ok (.lshr, 1)) (hq : pc + 1 = q)  (K : Go p e below Ev T (mkF m q Ls (.long (x >>> (y &&& 0x3f).toInt64) :: st))) : Go p e below Ev T (mkF m pc Ls (.int y :: .long x :: st)) := by
  subst hq
  exact K.on fun _ k => XS.lshr X.here hx rfl hd rfl k
theorem g_lushr (X : Stand p l e R s m args below meth c T locs cells slots) (hx : p.tables.exec = Jvm.exec) {pc : Nat} {Ls : Array Slot} {st : List Value} {x : Int64} {y : Int32} (q : Nat) (hd : decode c.code pc = .ok (.lushr, 1)) (hq : pc + 1 = q)  (K : Go p e below Ev T (mkF m q Ls (.long ((x.toUInt64 >>> (y &&& 0x3f).toInt64.toUInt64).toInt64) :: st))) : Go p e below Ev T (mkF m pc Ls (.int y :: .long x :: st)) := by
  subst hq
  exact K.on fun _ k => XS.lushr X.here hx rfl hd rfl k
theorem g_i2l (X : Stand p l e R s m args below meth c T locs cells slots) (hx : p.tables.exec = Jvm.exec) {pc : Nat} {Ls : Array Slot} {st : List Value} {x : Int32} (q : Nat) (hd : decode c.code pc = .ok (.i2l, 1)) (hq : pc + 1 = q)  (K : Go p e below Ev T (mkF m q Ls (.long (x.toInt64) :: st))) : Go p e below Ev T (mkF m pc Ls (.int x :: st)) := by
  subst hq
  exact K.on fun _ k => XS.i2l X.here hx rfl hd rfl k
theorem g_l2i (X : Stand p l e R s m args below meth c T locs cells slots) (hx : p.tables.exec = Jvm.exec) {pc : Nat} {Ls : Array Slot} {st : List Value} {x : Int64} (q : Nat) (hd : decode c.code pc = .ok (.l2i, 1)) (hq : pc + 1 = q)  (K : Go p e below Ev T (mkF m q Ls (.int (x.toInt32) :: st))) : Go p e below Ev T (mkF m pc Ls (.long x :: st)) := by
  subst hq
  exact K.on fun _ k => XS.l2i X.here hx rfl hd rfl k
theorem g_i2b (X : Stand p l e R s m args below meth c T locs cells slots) (hx : p.tables.exec = Jvm.exec) {pc : Nat} {Ls : Array Slot} {st : List Value} {x : Int32} (q : Nat) (hd : decode c.code pc = .ok (.i2b, 1)) (hq : pc + 1 = q)  (K : Go p e below Ev T (mkF m q Ls (.int (x.toInt8.toInt32) :: st))) : Go p e below Ev T (mkF m pc Ls (.int x :: st)) := by
  subst hq
  exact K.on fun _ k => XS.i2b X.here hx rfl hd rfl k
theorem g_i2s (X : Stand p l e R s m args below meth c T locs cells slots) (hx : p.tables.exec = Jvm.exec) {pc : Nat} {Ls : Array Slot} {st : List Value} {x : Int32} (q : Nat) (hd : decode c.code pc = .ok (.i2s, 1)) (hq : pc + 1 = q)  (K : Go p e below Ev T (mkF m q Ls (.int (x.toInt16.toInt32) :: st))) : Go p e below Ev T (mkF m pc Ls (.int x :: st)) := by
  subst hq
  exact K.on fun _ k => XS.i2s X.here hx rfl hd rfl k
theorem g_i2c (X : Stand p l e R s m args below meth c T locs cells slots) (hx : p.tables.exec = Jvm.exec) {pc : Nat} {Ls : Array Slot} {st : List Value} {x : Int32} (q : Nat) (hd : decode c.code pc = .ok (.i2c, 1)) (hq : pc + 1 = q)  (K : Go p e below Ev T (mkF m q Ls (.int (x.toUInt32.toUInt16.toUInt32.toInt32) :: st))) : Go p e below Ev T (mkF m pc Ls (.int x :: st)) := by
  subst hq
  exact K.on fun _ k => XS.i2c X.here hx rfl hd rfl k
theorem g_lcmp (X : Stand p l e R s m args below meth c T locs cells slots) (hx : p.tables.exec = Jvm.exec) {pc : Nat} {Ls : Array Slot} {st : List Value} {x y : Int64} (q : Nat) (hd : decode c.code pc = .ok (.lcmp, 1)) (hq : pc + 1 = q)  (K : Go p e below Ev T (mkF m q Ls (.int (lcmpW x y) :: st))) : Go p e below Ev T (mkF m pc Ls (.long y :: .long x :: st)) := by
  subst hq
  exact K.on fun _ k => XS.lcmp X.here hx rfl hd rfl k
theorem g_i2d (X : Stand p l e R s m args below meth c T locs cells slots) (hx : p.tables.exec = Jvm.exec) {pc : Nat} {Ls : Array Slot} {st : List Value} {x : Int32} (q : Nat) (hd : decode c.code pc = .ok (.i2d, 1)) (hq : pc + 1 = q)  (K : Go p e below Ev T (mkF m q Ls (.double (FP.i2d x) :: st))) : Go p e below Ev T (mkF m pc Ls (.int x :: st)) := by
  subst hq
  exact K.on fun _ k => XS.i2dS X.here hx rfl hd rfl rfl k
theorem g_l2d (X : Stand p l e R s m args below meth c T locs cells slots) (hx : p.tables.exec = Jvm.exec) {pc : Nat} {Ls : Array Slot} {st : List Value} {x : Int64} (q : Nat) (hd : decode c.code pc = .ok (.l2d, 1)) (hq : pc + 1 = q)  (K : Go p e below Ev T (mkF m q Ls (.double (FP.l2d x) :: st))) : Go p e below Ev T (mkF m pc Ls (.long x :: st)) := by
  subst hq
  exact K.on fun _ k => XS.l2dS X.here hx rfl hd rfl rfl k
theorem g_dneg (X : Stand p l e R s m args below meth c T locs cells slots) (hx : p.tables.exec = Jvm.exec) {pc : Nat} {Ls : Array Slot} {st : List Value} {x : UInt64} (q : Nat) (hd : decode c.code pc = .ok (.dneg, 1)) (hq : pc + 1 = q)  (K : Go p e below Ev T (mkF m q Ls (.double (FP.dneg x) :: st))) : Go p e below Ev T (mkF m pc Ls (.double x :: st)) := by
  subst hq
  exact K.on fun _ k => XS.dnegS X.here hx rfl hd rfl rfl k
theorem g_dadd (X : Stand p l e R s m args below meth c T locs cells slots) (hx : p.tables.exec = Jvm.exec) {pc : Nat} {Ls : Array Slot} {st : List Value} {x y : UInt64} (q : Nat) (hd : decode c.code pc = .ok (.dadd, 1)) (hq : pc + 1 = q) (hn : Jvm.Free.Fl.NoNaN64 (FP.dadd x y)) (K : Go p e below Ev T (mkF m q Ls (.double (FP.dadd x y) :: st))) : Go p e below Ev T (mkF m pc Ls (.double y :: .double x :: st)) := by
  subst hq
  exact K.on fun _ k => XS.daddS X.here hx rfl hd rfl hn rfl k
theorem g_dsub (X : Stand p l e R s m args below meth c T locs cells slots) (hx : p.tables.exec = Jvm.exec) {pc : Nat} {Ls : Array Slot} {st : List Value} {x y : UInt64} (q : Nat) (hd : decode c.code pc = .ok (.dsub, 1)) (hq : pc + 1 = q) (hn : Jvm.Free.Fl.NoNaN64 (FP.dsub x y)) (K : Go p e below Ev T (mkF m q Ls (.double (FP.dsub x y) :: st))) : Go p e below Ev T (mkF m pc Ls (.double y :: .double x :: st)) := by
  subst hq
  exact K.on fun _ k => XS.dsubS X.here hx rfl hd rfl hn rfl k
theorem g_dmul (X : Stand p l e R s m args below meth c T locs cells slots) (hx : p.tables.exec = Jvm.exec) {pc : Nat} {Ls : Array Slot} {st : List Value} {x y : UInt64} (q : Nat) (hd : decode c.code pc = .ok (.dmul, 1)) (hq : pc + 1 = q) (hn : Jvm.Free.Fl.NoNaN64 (FP.dmul x y)) (K : Go p e below Ev T (mkF m q Ls (.double (FP.dmul x y) :: st))) : Go p e below Ev T (mkF m pc Ls (.double y :: .double x :: st)) := by
  subst hq
  exact K.on fun _ k => XS.dmulS X.here hx rfl hd rfl hn rfl k
theorem g_ddiv (X : Stand p l e R s m args below meth c T locs cells slots) (hx : p.tables.exec = Jvm.exec) {pc : Nat} {Ls : Array Slot} {st : List Value} {x y : UInt64} (q : Nat) (hd : decode c.code pc = .ok (.ddiv, 1)) (hq : pc + 1 = q) (hn : Jvm.Free.Fl.NoNaN64 (FP.ddiv x y)) (K : Go p e below Ev T (mkF m q Ls (.double (FP.ddiv x y) :: st))) : Go p e below Ev T (mkF m pc Ls (.double y :: .double x :: st)) := by
  subst hq
  exact K.on fun _ k => XS.ddivS X.here hx rfl hd rfl hn rfl k
theorem g_dcmp (X : Stand p l e R s m args below meth c T locs cells slots) (hx : p.tables.exec = Jvm.exec) {pc : Nat} {Ls : Array Slot} {st : List Value} {x y : UInt64} {o : CmpOp} {r : Int32} (q : Nat) (hd : decode c.code pc = .ok (.dcmp o, 1)) (hq : pc + 1 = q) (hr : cmpValue (FP.dcmp x y) o = r) (K : Go p e below Ev T (mkF m q Ls (.int r :: st))) : Go p e below Ev T (mkF m pc Ls (.double y :: .double x :: st)) := by
  subst hq
  exact K.on fun _ k => XS.dcmpS X.here hx rfl hd rfl hr k
theorem g_dup (X : Stand p l e R s m args below meth c T locs cells slots) (hx : p.tables.exec = Jvm.exec) {pc : Nat} {Ls : Array Slot} {st : List Value} {x : Value} (q : Nat) (hd : decode c.code pc = .ok (.dup, 1)) (hq : pc + 1 = q) (hc : x.category = 1) (K : Go p e below Ev T (mkF m q Ls (x :: x :: st))) : Go p e below Ev T (mkF m pc Ls (x :: st)) := by
  subst hq
  exact K.on fun _ k => XS.dup X.here hx rfl hd rfl hc k
theorem g_pop (X : Stand p l e R s m args below meth c T locs cells slots) (hx : p.tables.exec = Jvm.exec) {pc : Nat} {Ls : Array Slot} {st : List Value} {x : Value} (q : Nat) (hd : decode c.code pc = .ok (.pop, 1)) (hq : pc + 1 = q) (hc : x.category = 1) (K : Go p e below Ev T (mkF m q Ls st)) : Go p e below Ev T (mkF m pc Ls (x :: st)) := by
  subst hq
  exact K.on fun _ k => XS.pop X.here hx rfl hd rfl hc k
theorem g_dupX1 (X : Stand p l e R s m args below meth c T locs cells slots) (hx : p.tables.exec = Jvm.exec) {pc : Nat} {Ls : Array Slot} {st : List Value} {x y : Value} (q : Nat) (hd : decode c.code pc = .ok (.dup_x1, 1)) (hq : pc + 1 = q) (hc : x.category = 1) (hc' : y.category = 1) (K : Go p e below Ev T (mkF m q Ls (x :: y :: x :: st))) : Go p e below Ev T (mkF m pc Ls (x :: y :: st)) := by
  subst hq
  exact K.on fun _ k => XS.dupX1 X.here hx rfl hd rfl hc hc' k
theorem g_dup2 (X : Stand p l e R s m args below meth c T locs cells slots) (hx : p.tables.exec = Jvm.exec) {pc : Nat} {Ls : Array Slot} {st : List Value} {x y : Value} (q : Nat) (hd : decode c.code pc = .ok (.dup2, 1)) (hq : pc + 1 = q) (hc : x.category = 1) (hc' : y.category = 1) (K : Go p e below Ev T (mkF m q Ls (x :: y :: x :: y :: st))) : Go p e below Ev T (mkF m pc Ls (x :: y :: st)) := by
  subst hq
  exact K.on fun _ k => XT.dup2 X.here hx rfl hd rfl hc hc' k
theorem g_ldcI (X : Stand p l e R s m args below meth c T locs cells slots) (hx : p.tables.exec = Jvm.exec) {pc : Nat} {Ls : Array Slot} {st : List Value} {own : String} {i : Nat} {v : Int32} (q : Nat) (hZ : Z.Warmed39 s.vm) (hown : s.vm.findClass own = some m.cls) (w : (Jvm.Cond.constant own i v).before a0 Z = true) (hd : decode c.code pc = .ok (.ldc i, 2)) (hq : pc + 2 = q) (K : Go p e below Ev T (mkF m q Ls (.int v :: st))) : Go p e below Ev T (mkF m pc Ls st) := by
  subst hq
  exact K.on fun _ k => X.ldcI hx hown (mvT hZ w) rfl hd k
theorem g_ldcWI (X : Stand p l e R s m args below meth c T locs cells slots) (hx : p.tables.exec = Jvm.exec) {pc : Nat} {Ls : Array Slot} {st : List Value} {own : String} {i : Nat} {v : Int32} (q : Nat) (hZ : Z.Warmed39 s.vm) (hown : s.vm.findClass own = some m.cls) (w : (Jvm.Cond.constant own i v).before a0 Z = true) (hd : decode c.code pc = .ok (.ldc_w i, 3)) (hq : pc + 3 = q) (K : Go p e below Ev T (mkF m q Ls (.int v :: st))) : Go p e below Ev T (mkF m pc Ls st) := by
  subst hq
  exact K.on fun _ k => X.ldcWI hx hown (mvT hZ w) rfl hd k
theorem g_ldc2J (X : Stand p l e R s m args below meth c T locs cells slots) (hx : p.tables.exec = Jvm.exec) {pc : Nat} {Ls : Array Slot} {st : List Value} {own : String} {i : Nat} {v : Int64} (q : Nat) (hZ : Z.Warmed39 s.vm) (hown : s.vm.findClass own = some m.cls) (w : (Jvm.Cond.constantLong own i v).before a0 Z = true) (hd : decode c.code pc = .ok (.ldc2_w i, 3)) (hq : pc + 3 = q) (K : Go p e below Ev T (mkF m q Ls (.long v :: st))) : Go p e below Ev T (mkF m pc Ls st) := by
  subst hq
  exact K.on fun _ k => X.ldc2J hx hown (mvT hZ w) rfl hd k
theorem g_ldc2D (X : Stand p l e R s m args below meth c T locs cells slots) (hx : p.tables.exec = Jvm.exec) {pc : Nat} {Ls : Array Slot} {st : List Value} {own : String} {i : Nat} {v : UInt64} (q : Nat) (hZ : Z.Warmed39 s.vm) (hown : s.vm.findClass own = some m.cls) (w : (Jvm.Cond.constantDouble own i v).before a0 Z = true) (hd : decode c.code pc = .ok (.ldc2_w i, 3)) (hq : pc + 3 = q) (K : Go p e below Ev T (mkF m q Ls (.double v :: st))) : Go p e below Ev T (mkF m pc Ls st) := by
  subst hq
  exact K.on (X.ldc2DoubleC hx hown (mvT hZ w) (g := mkF m pc Ls st) rfl hd)
theorem g_goto (X : Stand p l e R s m args below meth c T locs cells slots) (hx : p.tables.exec = Jvm.exec) {pc : Nat} {Ls : Array Slot} {st : List Value} {o : Int} (q : Nat) (hd : decode c.code pc = .ok (.goto o, 3)) (ho : 0 ≤ (pc : Int) + o) (hq : ((pc : Int) + o).toNat = q) (K : Go p e below Ev T (mkF m q Ls st)) : Go p e below Ev T (mkF m pc Ls st) :=
  K.on fun _ k => XS.goto X.here hx rfl rfl hd ho hq k
theorem own_i0 (x : Int32) : (x < 0 ↔ x.toInt < 0) ∧ (0 < x ↔ 0 < x.toInt) ∧ (x = 0 ↔ x.toInt = 0) := by
  refine ⟨by rw [Int32.lt_iff_toInt_lt]; simp, by rw [Int32.lt_iff_toInt_lt]; simp, ?_⟩
  rw [← Int32.toInt_inj]; simp
theorem g_if_eq (X : Stand p l e R s m args below meth c T locs cells slots) (hx : p.tables.exec = Jvm.exec) {pc : Nat} {Ls : Array Slot} {st : List Value} {x : Int32} {o : Int} (q1 q2 : Nat) (hd : decode c.code pc = .ok (.ifCond .eq o, 3)) (ho : 0 ≤ (pc : Int) + o) (h1 : ((pc : Int) + o).toNat = q1) (h2 : pc + 3 = q2) (Kt : x.toInt = 0 → Go p e below Ev T (mkF m q1 Ls st)) (Kf : x.toInt ≠ 0 → Go p e below Ev T (mkF m q2 Ls st)) : Go p e below Ev T (mkF m pc Ls (.int x :: st)) := by
  have Q := own_i0 x
  by_cases hc : x = 0
  · exact (Kt (by first | omega | (simp only [Q] at hc; omega))).on fun _ k => XS.ifYes X.here hx rfl rfl hd rfl (XT.i0_eq_t (by simpa using hc)) ho h1 k
  · subst h2
    exact (Kf (by first | omega | (simp only [Q] at hc; omega))).on fun _ k => XS.ifNo X.here hx rfl hd rfl (XT.i0_eq_f (by simpa using hc)) k
theorem g_if_ne (X : Stand p l e R s m args below meth c T locs cells slots) (hx : p.tables.exec = Jvm.exec) {pc : Nat} {Ls : Array Slot} {st : List Value} {x : Int32} {o : Int} (q1 q2 : Nat) (hd : decode c.code pc = .ok (.ifCond .ne o, 3)) (ho : 0 ≤ (pc : Int) + o) (h1 : ((pc : Int) + o).toNat = q1) (h2 : pc + 3 = q2) (Kt : x.toInt ≠ 0 → Go p e below Ev T (mkF m q1 Ls st)) (Kf : x.toInt = 0 → Go p e below Ev T (mkF m q2 Ls st)) : Go p e below Ev T (mkF m pc Ls (.int x :: st)) := by
  have Q := own_i0 x
  by_cases hc : ¬ x = 0
  · exact (Kt (by first | omega | (simp only [Q] at hc; omega))).on fun _ k => XS.ifYes X.here hx rfl rfl hd rfl (XT.i0_ne_t (by simpa using hc)) ho h1 k
  · subst h2
    exact (Kf (by first | omega | (simp only [Q] at hc; omega))).on fun _ k => XS.ifNo X.here hx rfl hd rfl (XT.i0_ne_f (by simpa using hc)) k
theorem g_if_lt (X : Stand p l e R s m args below meth c T locs cells slots) (hx : p.tables.exec = Jvm.exec) {pc : Nat} {Ls : Array Slot} {st : List Value} {x : Int32} {o : Int} (q1 q2 : Nat) (hd : decode c.code pc = .ok (.ifCond .lt o, 3)) (ho : 0 ≤ (pc : Int) + o) (h1 : ((pc : Int) + o).toNat = q1) (h2 : pc + 3 = q2) (Kt : x.toInt < 0 → Go p e below Ev T (mkF m q1 Ls st)) (Kf : 0 ≤ x.toInt → Go p e below Ev T (mkF m q2 Ls st)) : Go p e below Ev T (mkF m pc Ls (.int x :: st)) := by
  have Q := own_i0 x
  by_cases hc : x < 0
  · exact (Kt (by first | omega | (simp only [Q] at hc; omega))).on fun _ k => XS.ifYes X.here hx rfl rfl hd rfl (XT.i0_lt_t (by simpa using hc)) ho h1 k
  · subst h2
    exact (Kf (by first | omega | (simp only [Q] at hc; omega))).on fun _ k => XS.ifNo X.here hx rfl hd rfl (XT.i0_lt_f (by simpa using hc)) k
theorem g_if_ge (X : Stand p l e R s m args below meth c T locs cells slots) (hx : p.tables.exec = Jvm.exec) {pc : Nat} {Ls : Array Slot} {st : List Value} {x : Int32} {o : Int} (q1 q2 : Nat) (hd : decode c.code pc = .ok (.ifCond .ge o, 3)) (ho : 0 ≤ (pc : Int) + o) (h1 : ((pc : Int) + o).toNat = q1) (h2 : pc + 3 = q2) (Kt : 0 ≤ x.toInt → Go p e below Ev T (mkF m q1 Ls st)) (Kf : x.toInt < 0 → Go p e below Ev T (mkF m q2 Ls st)) : Go p e below Ev T (mkF m pc Ls (.int x :: st)) := by
  have Q := own_i0 x
  by_cases hc : ¬ x < 0
  · exact (Kt (by first | omega | (simp only [Q] at hc; omega))).on fun _ k => XS.ifYes X.here hx rfl rfl hd rfl (XT.i0_ge_t (by simpa using hc)) ho h1 k
  · subst h2
    exact (Kf (by first | omega | (simp only [Q] at hc; omega))).on fun _ k => XS.ifNo X.here hx rfl hd rfl (XT.i0_ge_f (by simpa using hc)) k
theorem g_if_gt (X : Stand p l e R s m args below meth c T locs cells slots) (hx : p.tables.exec = Jvm.exec) {pc : Nat} {Ls : Array Slot} {st : List Value} {x : Int32} {o : Int} (q1 q2 : Nat) (hd : decode c.code pc = .ok (.ifCond .gt o, 3)) (ho : 0 ≤ (pc : Int) + o) (h1 : ((pc : Int) + o).toNat = q1) (h2 : pc + 3 = q2) (Kt : 0 < x.toInt → Go p e below Ev T (mkF m q1 Ls st)) (Kf : x.toInt ≤ 0 → Go p e below Ev T (mkF m q2 Ls st)) : Go p e below Ev T (mkF m pc Ls (.int x :: st)) := by
  have Q := own_i0 x
  by_cases hc : 0 < x
  · exact (Kt (by first | omega | (simp only [Q] at hc; omega))).on fun _ k => XS.ifYes X.here hx rfl rfl hd rfl (XT.i0_gt_t (by simpa using hc)) ho h1 k
  · subst h2
    exact (Kf (by first | omega | (simp only [Q] at hc; omega))).on fun _ k => XS.ifNo X.here hx rfl hd rfl (XT.i0_gt_f (by simpa using hc)) k
theorem g_if_le (X : Stand p l e R s m args below meth c T locs cells slots) (hx : p.tables.exec = Jvm.exec) {pc : Nat} {Ls : Array Slot} {st : List Value} {x : Int32} {o : Int} (q1 q2 : Nat) (hd : decode c.code pc = .ok (.ifCond .le o, 3)) (ho : 0 ≤ (pc : Int) + o) (h1 : ((pc : Int) + o).toNat = q1) (h2 : pc + 3 = q2) (Kt : x.toInt ≤ 0 → Go p e below Ev T (mkF m q1 Ls st)) (Kf : 0 < x.toInt → Go p e below Ev T (mkF m q2 Ls st)) : Go p e below Ev T (mkF m pc Ls (.int x :: st)) := by
  have Q := own_i0 x
  by_cases hc : ¬ 0 < x
  · exact (Kt (by first | omega | (simp only [Q] at hc; omega))).on fun _ k => XS.ifYes X.here hx rfl rfl hd rfl (XT.i0_le_t (by simpa using hc)) ho h1 k
  · subst h2
    exact (Kf (by first | omega | (simp only [Q] at hc; omega))).on fun _ k => XS.ifNo X.here hx rfl hd rfl (XT.i0_le_f (by simpa using hc)) k
theorem own_ii (x y : Int32) : (x < y ↔ x.toInt < y.toInt) ∧ (y < x ↔ y.toInt < x.toInt) ∧ (x = y ↔ x.toInt = y.toInt) := by
  exact ⟨Int32.lt_iff_toInt_lt, Int32.lt_iff_toInt_lt, Int32.toInt_inj.symm⟩
theorem g_ic_eq (X : Stand p l e R s m args below meth c T locs cells slots) (hx : p.tables.exec = Jvm.exec) {pc : Nat} {Ls : Array Slot} {st : List Value} {x y : Int32} {o : Int} (q1 q2 : Nat) (hd : decode c.code pc = .ok (.if_icmp .eq o, 3)) (ho : 0 ≤ (pc : Int) + o) (h1 : ((pc : Int) + o).toNat = q1) (h2 : pc + 3 = q2) (Kt : x.toInt = y.toInt → Go p e below Ev T (mkF m q1 Ls st)) (Kf : x.toInt ≠ y.toInt → Go p e below Ev T (mkF m q2 Ls st)) : Go p e below Ev T (mkF m pc Ls (.int y :: .int x :: st)) := by
  have Q := own_ii x y
  by_cases hc : x = y
  · exact (Kt (by first | omega | (simp only [Q] at hc; omega))).on fun _ k => XS.icmpYes X.here hx rfl rfl hd rfl (XT.ii_eq_t (by simpa using hc)) ho h1 k
  · subst h2
    exact (Kf (by first | omega | (simp only [Q] at hc; omega))).on fun _ k => XS.icmpNo X.here hx rfl hd rfl (XT.ii_eq_f (by simpa using hc)) k
theorem g_ic_ne (X : Stand p l e R s m args below meth c T locs cells slots) (hx : p.tables.exec = Jvm.exec) {pc : Nat} {Ls : Array Slot} {st : List Value} {x y : Int32} {o : Int} (q1 q2 : Nat) (hd : decode c.code pc = .ok (.if_icmp .ne o, 3)) (ho : 0 ≤ (pc : Int) + o) (h1 : ((pc : Int) + o).toNat = q1) (h2 : pc + 3 = q2) (Kt : x.toInt ≠ y.toInt → Go p e below Ev T (mkF m q1 Ls st)) (Kf : x.toInt = y.toInt → Go p e below Ev T (mkF m q2 Ls st)) : Go p e below Ev T (mkF m pc Ls (.int y :: .int x :: st)) := by
  have Q := own_ii x y
  by_cases hc : ¬ x = y
  · exact (Kt (by first | omega | (simp only [Q] at hc; omega))).on fun _ k => XS.icmpYes X.here hx rfl rfl hd rfl (XT.ii_ne_t (by simpa using hc)) ho h1 k
  · subst h2
    exact (Kf (by first | omega | (simp only [Q] at hc; omega))).on fun _ k => XS.icmpNo X.here hx rfl hd rfl (XT.ii_ne_f (by simpa using hc)) k
theorem g_ic_lt (X : Stand p l e R s m args below meth c T locs cells slots) (hx : p.tables.exec = Jvm.exec) {pc : Nat} {Ls : Array Slot} {st : List Value} {x y : Int32} {o : Int} (q1 q2 : Nat) (hd : decode c.code pc = .ok (.if_icmp .lt o, 3)) (ho : 0 ≤ (pc : Int) + o) (h1 : ((pc : Int) + o).toNat = q1) (h2 : pc + 3 = q2) (Kt : x.toInt < y.toInt → Go p e below Ev T (mkF m q1 Ls st)) (Kf : y.toInt ≤ x.toInt → Go p e below Ev T (mkF m q2 Ls st)) : Go p e below Ev T (mkF m pc Ls (.int y :: .int x :: st)) := by
  have Q := own_ii x y
  by_cases hc : x < y
  · exact (Kt (by first | omega | (simp only [Q] at hc; omega))).on fun _ k => XS.icmpYes X.here hx rfl rfl hd rfl (XT.ii_lt_t (by simpa using hc)) ho h1 k
  · subst h2
    exact (Kf (by first | omega | (simp only [Q] at hc; omega))).on fun _ k => XS.icmpNo X.here hx rfl hd rfl (XT.ii_lt_f (by simpa using hc)) k
theorem g_ic_ge (X : Stand p l e R s m args below meth c T locs cells slots) (hx : p.tables.exec = Jvm.exec) {pc : Nat} {Ls : Array Slot} {st : List Value} {x y : Int32} {o : Int} (q1 q2 : Nat) (hd : decode c.code pc = .ok (.if_icmp .ge o, 3)) (ho : 0 ≤ (pc : Int) + o) (h1 : ((pc : Int) + o).toNat = q1) (h2 : pc + 3 = q2) (Kt : y.toInt ≤ x.toInt → Go p e below Ev T (mkF m q1 Ls st)) (Kf : x.toInt < y.toInt → Go p e below Ev T (mkF m q2 Ls st)) : Go p e below Ev T (mkF m pc Ls (.int y :: .int x :: st)) := by
  have Q := own_ii x y
  by_cases hc : ¬ x < y
  · exact (Kt (by first | omega | (simp only [Q] at hc; omega))).on fun _ k => XS.icmpYes X.here hx rfl rfl hd rfl (XT.ii_ge_t (by simpa using hc)) ho h1 k
  · subst h2
    exact (Kf (by first | omega | (simp only [Q] at hc; omega))).on fun _ k => XS.icmpNo X.here hx rfl hd rfl (XT.ii_ge_f (by simpa using hc)) k
theorem g_ic_gt (X : Stand p l e R s m args below meth c T locs cells slots) (hx : p.tables.exec = Jvm.exec) {pc : Nat} {Ls : Array Slot} {st : List Value} {x y : Int32} {o : Int} (q1 q2 : Nat) (hd : decode c.code pc = .ok (.if_icmp .gt o, 3)) (ho : 0 ≤ (pc : Int) + o) (h1 : ((pc : Int) + o).toNat = q1) (h2 : pc + 3 = q2) (Kt : y.toInt < x.toInt → Go p e below Ev T (mkF m q1 Ls st)) (Kf : x.toInt ≤ y.toInt → Go p e below Ev T (mkF m q2 Ls st)) : Go p e below Ev T (mkF m pc Ls (.int y :: .int x :: st)) := by
  have Q := own_ii x y
  by_cases hc : y < x
  · exact (Kt (by first | omega | (simp only [Q] at hc; omega))).on fun _ k => XS.icmpYes X.here hx rfl rfl hd rfl (XT.ii_gt_t (by simpa using hc)) ho h1 k
  · subst h2
    exact (Kf (by first | omega | (simp only [Q] at hc; omega))).on fun _ k => XS.icmpNo X.here hx rfl hd rfl (XT.ii_gt_f (by simpa using hc)) k
theorem g_ic_le (X : Stand p l e R s m args below meth c T locs cells slots) (hx : p.tables.exec = Jvm.exec) {pc : Nat} {Ls : Array Slot} {st : List Value} {x y : Int32} {o : Int} (q1 q2 : Nat) (hd : decode c.code pc = .ok (.if_icmp .le o, 3)) (ho : 0 ≤ (pc : Int) + o) (h1 : ((pc : Int) + o).toNat = q1) (h2 : pc + 3 = q2) (Kt : x.toInt ≤ y.toInt → Go p e below Ev T (mkF m q1 Ls st)) (Kf : y.toInt < x.toInt → Go p e below Ev T (mkF m q2 Ls st)) : Go p e below Ev T (mkF m pc Ls (.int y :: .int x :: st)) := by
  have Q := own_ii x y
  by_cases hc : ¬ y < x
  · exact (Kt (by first | omega | (simp only [Q] at hc; omega))).on fun _ k => XS.icmpYes X.here hx rfl rfl hd rfl (XT.ii_le_t (by simpa using hc)) ho h1 k
  · subst h2
    exact (Kf (by first | omega | (simp only [Q] at hc; omega))).on fun _ k => XS.icmpNo X.here hx rfl hd rfl (XT.ii_le_f (by simpa using hc)) k
theorem g_lc_eq (X : Stand p l e R s m args below meth c T locs cells slots) (hx : p.tables.exec = Jvm.exec) {pc : Nat} {Ls : Array Slot} {st : List Value} {x y : Int64} {o : Int} (q0 q1 q2 : Nat) (hd0 : decode c.code pc = .ok (.lcmp, 1)) (h0 : pc + 1 = q0) (hd : decode c.code q0 = .ok (.ifCond .eq o, 3)) (ho : 0 ≤ (q0 : Int) + o) (h1 : ((q0 : Int) + o).toNat = q1) (h2 : q0 + 3 = q2) (Kt : x.toInt = y.toInt → Go p e below Ev T (mkF m q1 Ls st)) (Kf : x.toInt ≠ y.toInt → Go p e below Ev T (mkF m q2 Ls st)) : Go p e below Ev T (mkF m pc Ls (.long y :: .long x :: st)) := by
  have Q := c_lcmp x y
  have C : x.toInt < y.toInt ∨ x.toInt = y.toInt ∨ y.toInt < x.toInt := by omega
  refine g_lcmp X hx q0 hd0 h0 (g_if_eq X hx q1 q2 hd ho h1 h2 (fun hc => Kt ?_) (fun hc => Kf ?_)) <;> (rcases C with C | C | C <;> first | (have := Q.1 C; omega) | (have := Q.2.1 C; omega) | (have := Q.2.2 C; omega))
theorem g_lc_ne (X : Stand p l e R s m args below meth c T locs cells slots) (hx : p.tables.exec = Jvm.exec) {pc : Nat} {Ls : Array Slot} {st : List Value} {x y : Int64} {o : Int} (q0 q1 q2 : Nat) (hd0 : decode c.code pc = .ok (.lcmp, 1)) (h0 : pc + 1 = q0) (hd : decode c.code q0 = .ok (.ifCond .ne o, 3)) (ho : 0 ≤ (q0 : Int) + o) (h1 : ((q0 : Int) + o).toNat = q1) (h2 : q0 + 3 = q2) (Kt : x.toInt ≠ y.toInt → Go p e below Ev T (mkF m q1 Ls st)) (Kf : x.toInt = y.toInt → Go p e below Ev T (mkF m q2 Ls st)) : Go p e below Ev T (mkF m pc Ls (.long y :: .long x :: st)) := by
  have Q := c_lcmp x y
  have C : x.toInt < y.toInt ∨ x.toInt = y.toInt ∨ y.toInt < x.toInt := by omega
  refine g_lcmp X hx q0 hd0 h0 (g_if_ne X hx q1 q2 hd ho h1 h2 (fun hc => Kt ?_) (fun hc => Kf ?_)) <;> (rcases C with C | C | C <;> first | (have := Q.1 C; omega) | (have := Q.2.1 C; omega) | (have := Q.2.2 C; omega))
theorem g_lc_lt (X : Stand p l e R s m args below meth c T locs cells slots) (hx : p.tables.exec = Jvm.exec) {pc : Nat} {Ls : Array Slot} {st : List Value} {x y : Int64} {o : Int} (q0 q1 q2 : Nat) (hd0 : decode c.code pc = .ok (.lcmp, 1)) (h0 : pc + 1 = q0) (hd : decode c.code q0 = .ok (.ifCond .lt o, 3)) (ho : 0 ≤ (q0 : Int) + o) (h1 : ((q0 : Int) + o).toNat = q1) (h2 : q0 + 3 = q2) (Kt : x.toInt < y.toInt → Go p e below Ev T (mkF m q1 Ls st)) (Kf : y.toInt ≤ x.toInt → Go p e below Ev T (mkF m q2 Ls st)) : Go p e below Ev T (mkF m pc Ls (.long y :: .long x :: st)) := by
  have Q := c_lcmp x y
  have C : x.toInt < y.toInt ∨ x.toInt = y.toInt ∨ y.toInt < x.toInt := by omega
  refine g_lcmp X hx q0 hd0 h0 (g_if_lt X hx q1 q2 hd ho h1 h2 (fun hc => Kt ?_) (fun hc => Kf ?_)) <;> (rcases C with C | C | C <;> first | (have := Q.1 C; omega) | (have := Q.2.1 C; omega) | (have := Q.2.2 C; omega))
theorem g_lc_ge (X : Stand p l e R s m args below meth c T locs cells slots) (hx : p.tables.exec = Jvm.exec) {pc : Nat} {Ls : Array Slot} {st : List Value} {x y : Int64} {o : Int} (q0 q1 q2 : Nat) (hd0 : decode c.code pc = .ok (.lcmp, 1)) (h0 : pc + 1 = q0) (hd : decode c.code q0 = .ok (.ifCond .ge o, 3)) (ho : 0 ≤ (q0 : Int) + o) (h1 : ((q0 : Int) + o).toNat = q1) (h2 : q0 + 3 = q2) (Kt : y.toInt ≤ x.toInt → Go p e below Ev T (mkF m q1 Ls st)) (Kf : x.toInt < y.toInt → Go p e below Ev T (mkF m q2 Ls st)) : Go p e below Ev T (mkF m pc Ls (.long y :: .long x :: st)) := by
  have Q := c_lcmp x y
  have C : x.toInt < y.toInt ∨ x.toInt = y.toInt ∨ y.toInt < x.toInt := by omega
  refine g_lcmp X hx q0 hd0 h0 (g_if_ge X hx q1 q2 hd ho h1 h2 (fun hc => Kt ?_) (fun hc => Kf ?_)) <;> (rcases C with C | C | C <;> first | (have := Q.1 C; omega) | (have := Q.2.1 C; omega) | (have := Q.2.2 C; omega))
theorem g_lc_gt (X : Stand p l e R s m args below meth c T locs cells slots) (hx : p.tables.exec = Jvm.exec) {pc : Nat} {Ls : Array Slot} {st : List Value} {x y : Int64} {o : Int} (q0 q1 q2 : Nat) (hd0 : decode c.code pc = .ok (.lcmp, 1)) (h0 : pc + 1 = q0) (hd : decode c.code q0 = .ok (.ifCond .gt o, 3)) (ho : 0 ≤ (q0 : Int) + o) (h1 : ((q0 : Int) + o).toNat = q1) (h2 : q0 + 3 = q2) (Kt : y.toInt < x.toInt → Go p e below Ev T (mkF m q1 Ls st)) (Kf : x.toInt ≤ y.toInt → Go p e below Ev T (mkF m q2 Ls st)) : Go p e below Ev T (mkF m pc Ls (.long y :: .long x :: st)) := by
  have Q := c_lcmp x y
  have C : x.toInt < y.toInt ∨ x.toInt = y.toInt ∨ y.toInt < x.toInt := by omega
  refine g_lcmp X hx q0 hd0 h0 (g_if_gt X hx q1 q2 hd ho h1 h2 (fun hc => Kt ?_) (fun hc => Kf ?_)) <;> (rcases C with C | C | C <;> first | (have := Q.1 C; omega) | (have := Q.2.1 C; omega) | (have := Q.2.2 C; omega))
theorem g_lc_le (X : Stand p l e R s m args below meth c T locs cells slots) (hx : p.tables.exec = Jvm.exec) {pc : Nat} {Ls : Array Slot} {st : List Value} {x y : Int64} {o : Int} (q0 q1 q2 : Nat) (hd0 : decode c.code pc = .ok (.lcmp, 1)) (h0 : pc + 1 = q0) (hd : decode c.code q0 = .ok (.ifCond .le o, 3)) (ho : 0 ≤ (q0 : Int) + o) (h1 : ((q0 : Int) + o).toNat = q1) (h2 : q0 + 3 = q2) (Kt : x.toInt ≤ y.toInt → Go p e below Ev T (mkF m q1 Ls st)) (Kf : y.toInt < x.toInt → Go p e below Ev T (mkF m q2 Ls st)) : Go p e below Ev T (mkF m pc Ls (.long y :: .long x :: st)) := by
  have Q := c_lcmp x y
  have C : x.toInt < y.toInt ∨ x.toInt = y.toInt ∨ y.toInt < x.toInt := by omega
  refine g_lcmp X hx q0 hd0 h0 (g_if_le X hx q1 q2 hd ho h1 h2 (fun hc => Kt ?_) (fun hc => Kf ?_)) <;> (rcases C with C | C | C <;> first | (have := Q.1 C; omega) | (have := Q.2.1 C; omega) | (have := Q.2.2 C; omega))
theorem own_cmpv (i j : Int) (o : CmpOp) : (i < j → (cmpValue (some (compare i j)) o).toInt = -1) ∧ (i = j → (cmpValue (some (compare i j)) o).toInt = 0) ∧ (j < i → (cmpValue (some (compare i j)) o).toInt = 1) := by
  refine ⟨fun q => ?_, fun q => ?_, fun q => ?_⟩
  · rw [show compare i j = .lt from by rw [Jvm.FP.Core.compare_ite]; simp [q]]; cases o <;> rfl
  · rw [show compare i j = .eq from by rw [Jvm.FP.Core.compare_ite]; simp [q]]; cases o <;> rfl
  · rw [show compare i j = .gt from by rw [Jvm.FP.Core.compare_ite]; simp [show ¬ i < j by omega, show ¬ i = j by omega]]; cases o <;> rfl
theorem g_dc_eq (X : Stand p l e R s m args below meth c T locs cells slots) (hx : p.tables.exec = Jvm.exec) {pc : Nat} {Ls : Array Slot} {st : List Value} {x y : UInt64} {oo : CmpOp} {i j : Int} {o : Int} (q0 q1 q2 : Nat) (hd0 : decode c.code pc = .ok (.dcmp oo, 1)) (h0 : pc + 1 = q0) (hd : decode c.code q0 = .ok (.ifCond .eq o, 3)) (ho : 0 ≤ (q0 : Int) + o) (h1 : ((q0 : Int) + o).toNat = q1) (h2 : q0 + 3 = q2) (hv : FP.dcmp x y = some (compare i j)) (Kt : i = j → Go p e below Ev T (mkF m q1 Ls st)) (Kf : i ≠ j → Go p e below Ev T (mkF m q2 Ls st)) : Go p e below Ev T (mkF m pc Ls (.double y :: .double x :: st)) := by
  have Q := own_cmpv i j oo
  have C : i < j ∨ i = j ∨ j < i := by omega
  refine g_dcmp X hx q0 hd0 h0 (by rw [hv]) (g_if_eq X hx q1 q2 hd ho h1 h2 (fun hc => Kt ?_) (fun hc => Kf ?_)) <;> (rcases C with C | C | C <;> first | (have := Q.1 C; omega) | (have := Q.2.1 C; omega) | (have := Q.2.2 C; omega))
theorem g_dc_ne (X : Stand p l e R s m args below meth c T locs cells slots) (hx : p.tables.exec = Jvm.exec) {pc : Nat} {Ls : Array Slot} {st : List Value} {x y : UInt64} {oo : CmpOp} {i j : Int} {o : Int} (q0 q1 q2 : Nat) (hd0 : decode c.code pc = .ok (.dcmp oo, 1)) (h0 : pc + 1 = q0) (hd : decode c.code q0 = .ok (.ifCond .ne o, 3)) (ho : 0 ≤ (q0 : Int) + o) (h1 : ((q0 : Int) + o).toNat = q1) (h2 : q0 + 3 = q2) (hv : FP.dcmp x y = some (compare i j)) (Kt : i ≠ j → Go p e below Ev T (mkF m q1 Ls st)) (Kf : i = j → Go p e below Ev T (mkF m q2 Ls st)) : Go p e below Ev T (mkF m pc Ls (.double y :: .double x :: st)) := by
  have Q := own_cmpv i j oo
  have C : i < j ∨ i = j ∨ j < i := by omega
  refine g_dcmp X hx q0 hd0 h0 (by rw [hv]) (g_if_ne X hx q1 q2 hd ho h1 h2 (fun hc => Kt ?_) (fun hc => Kf ?_)) <;> (rcases C with C | C | C <;> first | (have := Q.1 C; omega) | (have := Q.2.1 C; omega) | (have := Q.2.2 C; omega))
theorem g_dc_lt (X : Stand p l e R s m args below meth c T locs cells slots) (hx : p.tables.exec = Jvm.exec) {pc : Nat} {Ls : Array Slot} {st : List Value} {x y : UInt64} {oo : CmpOp} {i j : Int} {o : Int} (q0 q1 q2 : Nat) (hd0 : decode c.code pc = .ok (.dcmp oo, 1)) (h0 : pc + 1 = q0) (hd : decode c.code q0 = .ok (.ifCond .lt o, 3)) (ho : 0 ≤ (q0 : Int) + o) (h1 : ((q0 : Int) + o).toNat = q1) (h2 : q0 + 3 = q2) (hv : FP.dcmp x y = some (compare i j)) (Kt : i < j → Go p e below Ev T (mkF m q1 Ls st)) (Kf : j ≤ i → Go p e below Ev T (mkF m q2 Ls st)) : Go p e below Ev T (mkF m pc Ls (.double y :: .double x :: st)) := by
  have Q := own_cmpv i j oo
  have C : i < j ∨ i = j ∨ j < i := by omega
  refine g_dcmp X hx q0 hd0 h0 (by rw [hv]) (g_if_lt X hx q1 q2 hd ho h1 h2 (fun hc => Kt ?_) (fun hc => Kf ?_)) <;> (rcases C with C | C | C <;> first | (have := Q.1 C; omega) | (have := Q.2.1 C; omega) | (have := Q.2.2 C; omega))
theorem g_dc_ge (X : Stand p l e R s m args below meth c T locs cells slots) (hx : p.tables.exec = Jvm.exec) {pc : Nat} {Ls : Array Slot} {st : List Value} {x y : UInt64} {oo : CmpOp} {i j : Int} {o : Int} (q0 q1 q2 : Nat) (hd0 : decode c.code pc = .ok (.dcmp oo, 1)) (h0 : pc + 1 = q0) (hd : decode c.code q0 = .ok (.ifCond .ge o, 3)) (ho : 0 ≤ (q0 : Int) + o) (h1 : ((q0 : Int) + o).toNat = q1) (h2 : q0 + 3 = q2) (hv : FP.dcmp x y = some (compare i j)) (Kt : j ≤ i → Go p e below Ev T (mkF m q1 Ls st)) (Kf : i < j → Go p e below Ev T (mkF m q2 Ls st)) : Go p e below Ev T (mkF m pc Ls (.double y :: .double x :: st)) := by
  have Q := own_cmpv i j oo
  have C : i < j ∨ i = j ∨ j < i := by omega
  refine g_dcmp X hx q0 hd0 h0 (by rw [hv]) (g_if_ge X hx q1 q2 hd ho h1 h2 (fun hc => Kt ?_) (fun hc => Kf ?_)) <;> (rcases C with C | C | C <;> first | (have := Q.1 C; omega) | (have := Q.2.1 C; omega) | (have := Q.2.2 C; omega))
theorem g_dc_gt (X : Stand p l e R s m args below meth c T locs cells slots) (hx : p.tables.exec = Jvm.exec) {pc : Nat} {Ls : Array Slot} {st : List Value} {x y : UInt64} {oo : CmpOp} {i j : Int} {o : Int} (q0 q1 q2 : Nat) (hd0 : decode c.code pc = .ok (.dcmp oo, 1)) (h0 : pc + 1 = q0) (hd : decode c.code q0 = .ok (.ifCond .gt o, 3)) (ho : 0 ≤ (q0 : Int) + o) (h1 : ((q0 : Int) + o).toNat = q1) (h2 : q0 + 3 = q2) (hv : FP.dcmp x y = some (compare i j)) (Kt : j < i → Go p e below Ev T (mkF m q1 Ls st)) (Kf : i ≤ j → Go p e below Ev T (mkF m q2 Ls st)) : Go p e below Ev T (mkF m pc Ls (.double y :: .double x :: st)) := by
  have Q := own_cmpv i j oo
  have C : i < j ∨ i = j ∨ j < i := by omega
  refine g_dcmp X hx q0 hd0 h0 (by rw [hv]) (g_if_gt X hx q1 q2 hd ho h1 h2 (fun hc => Kt ?_) (fun hc => Kf ?_)) <;> (rcases C with C | C | C <;> first | (have := Q.1 C; omega) | (have := Q.2.1 C; omega) | (have := Q.2.2 C; omega))
theorem g_dc_le (X : Stand p l e R s m args below meth c T locs cells slots) (hx : p.tables.exec = Jvm.exec) {pc : Nat} {Ls : Array Slot} {st : List Value} {x y : UInt64} {oo : CmpOp} {i j : Int} {o : Int} (q0 q1 q2 : Nat) (hd0 : decode c.code pc = .ok (.dcmp oo, 1)) (h0 : pc + 1 = q0) (hd : decode c.code q0 = .ok (.ifCond .le o, 3)) (ho : 0 ≤ (q0 : Int) + o) (h1 : ((q0 : Int) + o).toNat = q1) (h2 : q0 + 3 = q2) (hv : FP.dcmp x y = some (compare i j)) (Kt : i ≤ j → Go p e below Ev T (mkF m q1 Ls st)) (Kf : j < i → Go p e below Ev T (mkF m q2 Ls st)) : Go p e below Ev T (mkF m pc Ls (.double y :: .double x :: st)) := by
  have Q := own_cmpv i j oo
  have C : i < j ∨ i = j ∨ j < i := by omega
  refine g_dcmp X hx q0 hd0 h0 (by rw [hv]) (g_if_le X hx q1 q2 hd ho h1 h2 (fun hc => Kt ?_) (fun hc => Kf ?_)) <;> (rcases C with C | C | C <;> first | (have := Q.1 C; omega) | (have := Q.2.1 C; omega) | (have := Q.2.2 C; omega))
theorem g_ifnull_t (X : Stand p l e R s m args below meth c T locs cells slots) (hx : p.tables.exec = Jvm.exec) {pc : Nat} {Ls : Array Slot} {st : List Value} {o : Int} (q : Nat) (hd : decode c.code pc = .ok (.ifnull o, 3)) (ho : 0 ≤ (pc : Int) + o) (h1 : ((pc : Int) + o).toNat = q) (K : Go p e below Ev T (mkF m q Ls st)) : Go p e below Ev T (mkF m pc Ls (.null :: st)) :=
  K.on fun _ k => XS.ifnullYes X.here hx rfl rfl hd rfl ho h1 k
theorem g_ifnull_f (X : Stand p l e R s m args below meth c T locs cells slots) (hx : p.tables.exec = Jvm.exec) {pc : Nat} {Ls : Array Slot} {st : List Value} {o : Int} {b : Addr} (q : Nat) (hd : decode c.code pc = .ok (.ifnull o, 3)) (h1 : pc + 3 = q) (K : Go p e below Ev T (mkF m q Ls st)) : Go p e below Ev T (mkF m pc Ls (.ref b :: st)) := by
  subst h1
  exact K.on fun _ k => XS.ifnullNo X.here hx rfl hd rfl k
theorem g_ifnonnull_t (X : Stand p l e R s m args below meth c T locs cells slots) (hx : p.tables.exec = Jvm.exec) {pc : Nat} {Ls : Array Slot} {st : List Value} {o : Int} {b : Addr} (q : Nat) (hd : decode c.code pc = .ok (.ifnonnull o, 3)) (ho : 0 ≤ (pc : Int) + o) (h1 : ((pc : Int) + o).toNat = q) (K : Go p e below Ev T (mkF m q Ls st)) : Go p e below Ev T (mkF m pc Ls (.ref b :: st)) :=
  K.on fun _ k => XS.ifnonnullYes X.here hx rfl rfl hd rfl ho h1 k
theorem g_ifnonnull_f (X : Stand p l e R s m args below meth c T locs cells slots) (hx : p.tables.exec = Jvm.exec) {pc : Nat} {Ls : Array Slot} {st : List Value} {o : Int} (q : Nat) (hd : decode c.code pc = .ok (.ifnonnull o, 3)) (h1 : pc + 3 = q) (K : Go p e below Ev T (mkF m q Ls st)) : Go p e below Ev T (mkF m pc Ls (.null :: st)) := by
  subst h1
  exact K.on fun _ k => XS.ifnonnullNo X.here hx rfl hd rfl k
theorem g_new (X : Stand p l e R s m args below meth c T locs cells slots) (hx : p.tables.exec = Jvm.exec) {pc : Nat} {Ls : Array Slot} {st : List Value} (hZ : Z.Warmed39 s.vm) {own C : String} {i n : Nat} (hown : s.vm.findClass own = some m.cls) (w : (Jvm.Cond.classLink own i C).before a0 Z = true) (wi : (Jvm.Cond.instantiable C n).before a0 Z = true) (wz : (Jvm.Cond.initialized C).before a0 Z = true) (eT : T.heap = h) (q : Nat) (hd : decode c.code pc = .ok (.new i, 3)) (hq : pc + 3 = q) (hc : cells + 1 ≤ R.cells) (hl : slots + n ≤ R.slots)
    (K : ∀ (T' : State) (h' : Heap) (a : Addr), a = h.size → Stand p l e R s m args below meth c T' locs (cells + 1) (slots + n) → T'.heap = h' → Ext h h' → Exa Z h' a C → (∀ {O nm d : String} {ty : FieldType}, Laid Z a0 C O nm d → parseFieldDescriptor d = some ty → Fld Z h' a O nm d (defaultValue ty)) → Go p e below Ev T' (mkF m q Ls (.ref a :: st))) : Go p e below Ev T (mkF m pc Ls st) := by
  subst hq
  obtain ⟨T', h', X', e', E', A', D', -, st'⟩ := newO X hx hZ hown w wi wz eT (g := mkF m pc Ls st) rfl hd hc hl
  exact (K T' h' _ rfl X' e' E' A' D').on st'
theorem g_getF (X : Stand p l e R s m args below meth c T locs cells slots) (hx : p.tables.exec = Jvm.exec) {pc : Nat} {Ls : Array Slot} {st : List Value} (hZ : Z.Warmed39 s.vm) {own R0 O n d : String} {i : Nat} (hown : s.vm.findClass own = some m.cls) (w : (Jvm.Cond.fieldLink own i R0 n d).before a0 Z = true) (via : Via Z R0 O n d) (eT : T.heap = h) {a : Addr} {v : Value} (F : Fld Z h a O n d v) (q : Nat) (hd : decode c.code pc = .ok (.getfield i, 3)) (hq : pc + 3 = q) (K : ∀ T', Stand p l e R s m args below meth c T' locs cells slots → T'.heap = h → Go p e below Ev T' (mkF m q Ls (v :: st))) : Go p e below Ev T (mkF m pc Ls (.ref a :: st)) := by
  subst hq
  obtain ⟨T', X', e', st'⟩ := getF X hx hZ hown (host := "") (Or.inl w) via eT F (g := mkF m pc Ls (.ref a :: st)) rfl rfl hd
  exact (K T' X' e').on st'
theorem g_putF (X : Stand p l e R s m args below meth c T locs cells slots) (hx : p.tables.exec = Jvm.exec) {pc : Nat} {Ls : Array Slot} {st : List Value} (hZ : Z.Warmed39 s.vm) {own R0 O n d C : String} {i kk : Nat} {ty : FieldType} (hown : s.vm.findClass own = some m.cls) (w : (Jvm.Cond.fieldLink own i R0 n d).before a0 Z = true) (via : Via Z R0 O n d) (eT : T.heap = h) {a : Addr} {v old : Value} (F : Fld Z h a O n d old) (E : Exa Z h a C) (L : (Jvm.Cond.lays C O n d).before a0 Z = true ∨ ((Jvm.Cond.laysFinal C O n d).before a0 Z = true ∧ own = O ∧ meth.name = "<init>")) (wi : (Jvm.Cond.instantiable C kk).before a0 Z = true) (hty : parseFieldDescriptor d = some ty) (hn : narrow ty v = v) (hf : fits ty v = true) (q : Nat) (hd : decode c.code pc = .ok (.putfield i, 3)) (hq : pc + 3 = q)
    (K : ∀ T' h', Stand p l e R s m args below meth c T' (locs ++ [⟨a, Jvm.RoadKit.slotOf Z O n d⟩]) cells slots → T'.heap = h' → Wr h h' a (Jvm.RoadKit.slotOf Z O n d) v → Go p e below Ev T' (mkF m q Ls st)) : Go p e below Ev T (mkF m pc Ls (v :: .ref a :: st)) := by
  subst hq
  obtain ⟨T', h', X', e', W', st'⟩ := putF X hx hZ hown (host := "") (Or.inl w) via eT F E L wi hty hn hf (g := mkF m pc Ls (v :: .ref a :: st)) rfl rfl hd
  exact (K T' h' X' e' W').on st'
theorem g_objinit (X : Stand p l e R s m args below meth c T locs cells slots) (hx : p.tables.exec = Jvm.exec) {pc : Nat} {Ls : Array Slot} {st : List Value} (hZ : Z.Warmed39 s.vm) {own : String} {i : Nat} (hown : s.vm.findClass own = some m.cls) (w1 : (Jvm.Cond.methodLink own i ⟨"java/lang/Object", "<init>", "()V"⟩).before a0 Z = true) (w2 : (Jvm.Cond.instanceMethod ⟨"java/lang/Object", "<init>", "()V"⟩).before a0 Z = true) (w3 : (Jvm.Cond.code ⟨"java/lang/Object", "<init>", "()V"⟩ object_method_1_code 1 none).before a0 Z = true) (eT : T.heap = h) {a : Addr} (W : Nat) (q : Nat) (hd : decode c.code pc = .ok (.invokespecial i, 3)) (hq : pc + 3 = q) (hsz : Ls.size = c.maxLocals) (hf : 1 ≤ R.frames) (hW : (st.map fun v => v.category).sum ≤ W) (hl : W + 12 ≤ R.locals) (K : ∀ T', Stand p l e R s m args below meth c T' locs cells slots → T'.heap = h → Go p e below Ev T' (mkF m q Ls st)) : Go p e below Ev T (mkF m pc Ls (.ref a :: st)) := by
  subst hq
  obtain ⟨T', X', e', st'⟩ := initO X hx hZ hown w1 w2 w3 eT (g := mkF m pc Ls (.ref a :: st)) rfl hsz rfl hd hf (W := W) (by show 2 * 0 + _ ≤ _; omega) hl
  exact (K T' X' e').on st'
theorem g_static (X : Stand p l e R s m args below meth c T locs cells slots) (hx : p.tables.exec = Jvm.exec) {pc : Nat} {Ls : Array Slot} {st : List Value} (hZ : Z.Warmed39 s.vm) {own : String} {i : Nat} {y : MethodName} {bytes : ByteArray} {maxL : Nat} {ret : Option FieldType} {rm : Room} {as' : Array Value} {Q : Option Value → Heap → List Loc → Prop} {argsL rest : List Value} (hown : s.vm.findClass own = some m.cls) (w1 : (Jvm.Cond.methodLink own i y).before a0 Z = true) (w2 : (Jvm.Cond.static y).before a0 Z = true) (w3 : (Jvm.Cond.initialized y.cls).before a0 Z = true) (w4 : (Jvm.Cond.code y bytes maxL ret).before a0 Z = true) (hy : y.cls ≠ "java/lang/invoke/MethodHandle" ∧ y.cls ≠ "java/lang/invoke/VarHandle") (hM : MetFree l y (head1 [Jvm.Cond.code y bytes maxL ret] rm) (fun a U => a = as' ∧ Z.Warmed39 U.vm ∧ U.heap = h) (fun _ _ _ _ _ => True) (fun _ U o U' => ∃ v L, o = .returned v ∧ Q v U'.heap L ∧ FrameEnd U o U' L rm.cells rm.slots)) (eT : T.heap = h) (hst : st = argsL.reverse ++ rest) (has : argsL.toArray = as') (W : Nat) (q : Nat) (hq : pc + 3 = q) (hsz : Ls.size = c.maxLocals) (hlen : ∀ sig, parseMethodDescriptor y.desc = some sig → argsL.length = sig.parameters.length) (hW : (rest.map fun v => v.category).sum ≤ W) (hf : rm.frames + 1 ≤ R.frames) (hl : W + (maxL + 11) + rm.locals ≤ R.locals) (hc : cells + rm.cells ≤ R.cells) (hs : slots + rm.slots ≤ R.slots) (hd : decode c.code pc = .ok (.invokestatic i, 3))
    (K : ∀ (v : Option Value) (T' : State) (L : List Loc), Stand p l e R s m args below meth c T' (locs ++ L) (cells + rm.cells) (slots + rm.slots) → Q v T'.heap L → Go p e below Ev T' (mkF m q Ls (v.toList ++ rest))) : Go p e below Ev T (mkF m pc Ls st) := by
  subst hq hst
  obtain ⟨v, vm1, ⟨T', L', k', n'⟩, -, X', ⟨L, hQ, l', y', z'⟩, st'⟩ := Jvm.LawKit.callS X hx hown (mvT hZ w1) (mvT hZ w2) (mvT hZ w3) (mvT hZ w4) hy (backOf (W := W) hM hZ w4 w3 hf hl) (g := mkF m pc Ls (argsL.reverse ++ rest)) rfl hsz (argsL := argsL) (rest := rest) hlen rfl (by show 2 * 0 + _ ≤ _; omega) hd (fun _ _ => ⟨has, eT, hc, hs⟩)
  dsimp only [Pt.U, Pt.locs, Pt.cells, Pt.slots] at X' l' y' z' st' hQ
  subst l' y' z'
  exact (K v T' L X' hQ).on fun t k => st' t k
theorem g_init (X : Stand p l e R s m args below meth c T locs cells slots) (hx : p.tables.exec = Jvm.exec) {pc : Nat} {Ls : Array Slot} {st : List Value} (hZ : Z.Warmed39 s.vm) {own : String} {i : Nat} {y : MethodName} {bytes : ByteArray} {maxL : Nat} {rm : Room} {as' : Array Value} {Q : Option Value → Heap → List Loc → Prop} {argsL rest : List Value} (hy1 : y.name = "<init>") (hown : s.vm.findClass own = some m.cls) (w1 : (Jvm.Cond.methodLink own i y).before a0 Z = true) (w2 : (Jvm.Cond.instanceMethod y).before a0 Z = true) (w3 : (Jvm.Cond.initialized y.cls).before a0 Z = true) (w4 : (Jvm.Cond.code y bytes maxL none).before a0 Z = true) (hy : y.cls ≠ "java/lang/invoke/MethodHandle" ∧ y.cls ≠ "java/lang/invoke/VarHandle") (hM : MetFree l y (head1 [Jvm.Cond.code y bytes maxL none] rm) (fun a U => a = as' ∧ Z.Warmed39 U.vm ∧ U.heap = h) (fun _ _ _ _ _ => True) (fun _ U o U' => ∃ v L, o = .returned v ∧ Q v U'.heap L ∧ FrameEnd U o U' L rm.cells rm.slots)) (eT : T.heap = h) {a : Addr} (hst : st = argsL.reverse ++ .ref a :: rest) (has : (.ref a :: argsL).toArray = as') (W : Nat) (q : Nat) (hq : pc + 3 = q) (hsz : Ls.size = c.maxLocals) (hlen : ∀ sig, parseMethodDescriptor y.desc = some sig → argsL.length = sig.parameters.length) (hW : (rest.map fun v => v.category).sum ≤ W) (hf : rm.frames + 1 ≤ R.frames) (hl : W + (maxL + 11) + rm.locals ≤ R.locals) (hc : cells + rm.cells ≤ R.cells) (hs : slots + rm.slots ≤ R.slots) (hd : decode c.code pc = .ok (.invokespecial i, 3))
    (K : ∀ (v : Option Value) (T' : State) (L : List Loc), Stand p l e R s m args below meth c T' (locs ++ L) (cells + rm.cells) (slots + rm.slots) → Q v T'.heap L → Go p e below Ev T' (mkF m q Ls (v.toList ++ rest))) : Go p e below Ev T (mkF m pc Ls st) := by
  subst hq hst
  obtain ⟨v, vm1, ⟨T', L', k', n'⟩, -, X', ⟨L, hQ, l', y', z'⟩, st'⟩ := X.specialBack hx hy1 hown (mvT hZ w1) (mvT hZ w2) (mvT hZ w4) hy (backOf (W := W) hM hZ w4 w3 hf hl) (g := mkF m pc Ls (argsL.reverse ++ .ref a :: rest)) rfl hsz (Steps.refl _) (a := a) (argsL := argsL) (rest := rest) hlen rfl (by show 2 * 0 + _ ≤ _; omega) hd (fun _ _ => ⟨has, eT, hc, hs⟩)
  dsimp only [Pt.U, Pt.locs, Pt.cells, Pt.slots] at X' l' y' z' st' hQ
  subst l' y' z'
  exact (K v T' L X' hQ).on fun t k => st'.trans k
theorem g_virt (X : Stand p l e R s m args below meth c T locs cells slots) (hx : p.tables.exec = Jvm.exec) {pc : Nat} {Ls : Array Slot} {st : List Value} (hZ : Z.Warmed39 s.vm) {own : String} {i : Nat} {y z : MethodName} {C : String} {bytes : ByteArray} {maxL : Nat} {ret : Option FieldType} {rm : Room} {as' : Array Value} {Q : Option Value → Heap → List Loc → Prop} {argsL rest : List Value} (hown : s.vm.findClass own = some m.cls) (w1 : (Jvm.Cond.methodLink own i y).before a0 Z = true) (w2 : (Jvm.Cond.declares y).before a0 Z = true) (w5 : (Jvm.Cond.selects y.cls y y).before a0 Z = true) (w6 : (Jvm.Cond.selects C y z).before a0 Z = true) (w7 : (Jvm.Cond.instanceMethod z).before a0 Z = true) (w3 : (Jvm.Cond.initialized z.cls).before a0 Z = true) (w4 : (Jvm.Cond.code z bytes maxL ret).before a0 Z = true) (hy : y.cls ≠ "java/lang/invoke/MethodHandle" ∧ y.cls ≠ "java/lang/invoke/VarHandle") (hM : MetFree l z (head1 [Jvm.Cond.code z bytes maxL ret] rm) (fun a U => a = as' ∧ Z.Warmed39 U.vm ∧ U.heap = h) (fun _ _ _ _ _ => True) (fun _ U o U' => ∃ v L, o = .returned v ∧ Q v U'.heap L ∧ FrameEnd U o U' L rm.cells rm.slots)) (eT : T.heap = h) {b : Addr} (E : Exa Z h b C) (hst : st = argsL.reverse ++ .ref b :: rest) (has : (.ref b :: argsL).toArray = as') (W : Nat) (q : Nat) (hq : pc + 3 = q) (hsz : Ls.size = c.maxLocals) (hlen : ∀ sig, parseMethodDescriptor y.desc = some sig → argsL.length = sig.parameters.length) (hW : (rest.map fun v => v.category).sum ≤ W) (hf : rm.frames + 1 ≤ R.frames) (hl : W + (maxL + 11) + rm.locals ≤ R.locals) (hc : cells + rm.cells ≤ R.cells) (hs : slots + rm.slots ≤ R.slots) (hd : decode c.code pc = .ok (.invokevirtual i, 3))
    (K : ∀ (v : Option Value) (T' : State) (L : List Loc), Stand p l e R s m args below meth c T' (locs ++ L) (cells + rm.cells) (slots + rm.slots) → Q v T'.heap L → Go p e below Ev T' (mkF m q Ls (v.toList ++ rest))) : Go p e below Ev T (mkF m pc Ls st) := by
  subst hq hst
  obtain ⟨cq, kq, qa, qb, qc⟩ := isOf hZ eT E
  obtain ⟨v, vm1, ⟨T', L', k', n'⟩, -, X', ⟨L, hQ, l', y', z'⟩, st'⟩ := X.virtualBack hx hown (mvT hZ w1) (mvT hZ w2) (notFace_of_selects (args := #[]) (mvT hZ w5)) (mvT hZ w6) (mvT hZ w7) hy (backOf (W := W) hM hZ w4 w3 hf hl) qa qc (g := mkF m pc Ls (argsL.reverse ++ .ref b :: rest)) rfl hsz (Steps.refl _) (argsL := argsL) (rest := rest) hlen rfl (by show 2 * 0 + _ ≤ _; omega) hd (fun _ _ => ⟨has, eT, hc, hs⟩)
  dsimp only [Pt.U, Pt.locs, Pt.cells, Pt.slots] at X' l' y' z' st' hQ
  subst l' y' z'
  exact (K v T' L X' hQ).on fun t k => st'.trans k
theorem own_at {n : Nat} (j : Int32) (h0 : 0 ≤ j.toInt) (z : Int32) (h1 : j.toInt < z.toInt) (S : n = z.toNatClampNeg) : ¬ (j < 0 ∨ n ≤ j.toNatClampNeg) := by
  subst S
  intro q
  rcases q with q | q
  · have := (own_i0 j).1.mp q; omega
  · simp only [Int32.toNatClampNeg] at q; omega
theorem own_ncl {j : Int32} {k : Nat} (h : j.toInt = (k : Int)) : j.toNatClampNeg = k := by simp only [Int32.toNatClampNeg]; omega
theorem g_newP (X : Stand p l e R s m args below meth c T locs cells slots) (hx : p.tables.exec = Jvm.exec) {pc : Nat} {Ls : Array Slot} {st : List Value} (hZ : Z.Warmed39 s.vm) {aty : ArrayType} (w : (Jvm.Cond.arrayClass (newarray.typeOf aty)).before a0 Z = true) (eT : T.heap = h) {n : Int32} (hn : 0 ≤ n.toInt) {cap : Nat} (hcap : n.toInt ≤ cap) (hb : cap * 8 ≤ 536870912) (q : Nat) (hd : decode c.code pc = .ok (.newarray aty, 2)) (hq : pc + 2 = q) (hc : cells + 1 ≤ R.cells) (hl : slots + cap ≤ R.slots) {ad : String} (had : "[" ++ (newarray.typeOf aty).toString = ad)
    (K : ∀ (T' : State) (h' : Heap) (k : ClassId) (a : Addr), a = h.size → Stand p l e R s m args below meth c T' locs (cells + 1) (slots + cap) → T'.heap = h' → Ext h h' → Arv Z h' a k (newarray.typeOf aty) n [] (defaultValue (newarray.typeOf aty)) → Exa Z h' a ad → Go p e below Ev T' (mkF m q Ls (.ref a :: st))) : Go p e below Ev T (mkF m pc Ls (.int n :: st)) := by
  subst hq
  have hn' : ¬ n < 0 := fun q => by have := (own_i0 n).1.mp q; omega
  obtain ⟨T', h', k, X', e', E', A', B', st'⟩ := newPE X hx hZ w eT (g := mkF m pc Ls (.int n :: st)) rfl hd rfl hn' (cap := cap) (by simp only [Int32.toNatClampNeg]; omega) hb hc hl had
  exact (K T' h' k _ rfl X' e' E' (Arv.new A' hn') B').on st'
theorem g_len (X : Stand p l e R s m args below meth c T locs cells slots) (hx : p.tables.exec = Jvm.exec) {pc : Nat} {Ls : Array Slot} {st : List Value} (hZ : Z.Warmed39 s.vm) (eT : T.heap = h) {a : Addr} {k : ClassId} {ty : FieldType} {z : Int32} {vs : List Value} {dv : Value} (V : Arv Z h a k ty z vs dv) (q : Nat) (hd : decode c.code pc = .ok (.arraylength, 1)) (hq : pc + 1 = q) (K : Go p e below Ev T (mkF m q Ls (.int z :: st))) : Go p e below Ev T (mkF m pc Ls (.ref a :: st)) := by
  subst hq
  obtain ⟨cl, A, q1, S, q3, H, G⟩ := V
  refine K.on fun t k => X.arraylength hx (by rw [eT]; exact A.1) (State.isArrayOf_alike hZ.alike A.2.1) (g := mkF m pc Ls (.ref a :: st)) rfl rfl hd t ?_
  rw [len_of S q3]
  exact k
theorem g_dastore (X : Stand p l e R s m args below meth c T locs cells slots) (hx : p.tables.exec = Jvm.exec) {pc : Nat} {Ls : Array Slot} {st : List Value} (hZ : Z.Warmed39 s.vm) (eT : T.heap = h) {a : Addr} {k : ClassId} {z j : Int32} {x : UInt64} {vs : List Value} {dv : Value} (V : Arv Z h a k .double z vs dv) (i : Nat) (hi : j.toInt = (i : Int)) (hz : j.toInt < z.toInt) (hv : i < vs.length) (q : Nat) (hd : decode c.code pc = .ok (.dastore, 1)) (hq : pc + 1 = q)
    (K : ∀ T' h', Stand p l e R s m args below meth c T' (locs ++ [⟨a, j.toNatClampNeg⟩]) cells slots → T'.heap = h' → Wr h h' a j.toNatClampNeg (.double x) → Arv Z h' a k .double z (vs.set i (.double x)) dv → Go p e below Ev T' (mkF m q Ls st)) : Go p e below Ev T (mkF m pc Ls (.double x :: .int j :: .ref a :: st)) := by
  subst hq
  obtain ⟨cl, A, q1, S, q3, H, G⟩ := V
  have hj := own_at j (by omega) z hz S
  obtain ⟨T', h', X', e', W', st'⟩ := stD X hx hZ eT A hj (g := mkF m pc Ls (.double x :: .int j :: .ref a :: st)) rfl rfl hd
  exact (K T' h' X' e' W' (Arv.set A q1 S q3 H G rfl W' i (own_ncl hi) hv)).on st'
theorem g_iastore (X : Stand p l e R s m args below meth c T locs cells slots) (hx : p.tables.exec = Jvm.exec) {pc : Nat} {Ls : Array Slot} {st : List Value} (hZ : Z.Warmed39 s.vm) (eT : T.heap = h) {a : Addr} {k : ClassId} {z j : Int32} {x : Int32} {vs : List Value} {dv : Value} (V : Arv Z h a k .int z vs dv) (i : Nat) (hi : j.toInt = (i : Int)) (hz : j.toInt < z.toInt) (hv : i < vs.length) (q : Nat) (hd : decode c.code pc = .ok (.iastore, 1)) (hq : pc + 1 = q)
    (K : ∀ T' h', Stand p l e R s m args below meth c T' (locs ++ [⟨a, j.toNatClampNeg⟩]) cells slots → T'.heap = h' → Wr h h' a j.toNatClampNeg (.int x) → Arv Z h' a k .int z (vs.set i (.int x)) dv → Go p e below Ev T' (mkF m q Ls st)) : Go p e below Ev T (mkF m pc Ls (.int x :: .int j :: .ref a :: st)) := by
  subst hq
  obtain ⟨cl, A, q1, S, q3, H, G⟩ := V
  have hj := own_at j (by omega) z hz S
  obtain ⟨T', h', X', e', W', st'⟩ := stI X hx hZ eT A hj (g := mkF m pc Ls (.int x :: .int j :: .ref a :: st)) rfl rfl hd
  exact (K T' h' X' e' W' (Arv.set A q1 S q3 H G rfl W' i (own_ncl hi) hv)).on st'
theorem g_lastore (X : Stand p l e R s m args below meth c T locs cells slots) (hx : p.tables.exec = Jvm.exec) {pc : Nat} {Ls : Array Slot} {st : List Value} (hZ : Z.Warmed39 s.vm) (eT : T.heap = h) {a : Addr} {k : ClassId} {z j : Int32} {x : Int64} {vs : List Value} {dv : Value} (V : Arv Z h a k .long z vs dv) (i : Nat) (hi : j.toInt = (i : Int)) (hz : j.toInt < z.toInt) (hv : i < vs.length) (q : Nat) (hd : decode c.code pc = .ok (.lastore, 1)) (hq : pc + 1 = q)
    (K : ∀ T' h', Stand p l e R s m args below meth c T' (locs ++ [⟨a, j.toNatClampNeg⟩]) cells slots → T'.heap = h' → Wr h h' a j.toNatClampNeg (.long x) → Arv Z h' a k .long z (vs.set i (.long x)) dv → Go p e below Ev T' (mkF m q Ls st)) : Go p e below Ev T (mkF m pc Ls (.long x :: .int j :: .ref a :: st)) := by
  subst hq
  obtain ⟨cl, A, q1, S, q3, H, G⟩ := V
  have hj := own_at j (by omega) z hz S
  obtain ⟨T', h', X', e', W', st'⟩ := stJ X hx hZ eT A hj (g := mkF m pc Ls (.long x :: .int j :: .ref a :: st)) rfl rfl hd
  exact (K T' h' X' e' W' (Arv.set A q1 S q3 H G rfl W' i (own_ncl hi) hv)).on st'
theorem g_daload (X : Stand p l e R s m args below meth c T locs cells slots) (hx : p.tables.exec = Jvm.exec) {pc : Nat} {Ls : Array Slot} {st : List Value} (hZ : Z.Warmed39 s.vm) (eT : T.heap = h) {a : Addr} {k : ClassId} {z j : Int32} {v : Value} {vs : List Value} {dv : Value} (V : Arv Z h a k .double z vs dv) (hi : 0 ≤ j.toInt) (hz : j.toInt < z.toInt) (hv : vs.getD j.toNatClampNeg dv = v) (q : Nat) (hd : decode c.code pc = .ok (.daload, 1)) (hq : pc + 1 = q) (K : Go p e below Ev T (mkF m q Ls (v :: st))) : Go p e below Ev T (mkF m pc Ls (.int j :: .ref a :: st)) := by
  subst hq
  obtain ⟨cl, A, q1, S, q3, H, G⟩ := V
  have hj := own_at j hi z hz S
  exact K.on fun t k => X.daload hx (by rw [eT]; exact A.1) (State.isArrayOf_alike hZ.alike A.2.1) A.2.2 hj (H.at hj hv) (g := mkF m pc Ls (.int j :: .ref a :: st)) rfl rfl hd t k
theorem g_iaload (X : Stand p l e R s m args below meth c T locs cells slots) (hx : p.tables.exec = Jvm.exec) {pc : Nat} {Ls : Array Slot} {st : List Value} (hZ : Z.Warmed39 s.vm) (eT : T.heap = h) {a : Addr} {k : ClassId} {z j : Int32} {v : Value} {vs : List Value} {dv : Value} (V : Arv Z h a k .int z vs dv) (hi : 0 ≤ j.toInt) (hz : j.toInt < z.toInt) (hv : vs.getD j.toNatClampNeg dv = v) (q : Nat) (hd : decode c.code pc = .ok (.iaload, 1)) (hq : pc + 1 = q) (K : Go p e below Ev T (mkF m q Ls (v :: st))) : Go p e below Ev T (mkF m pc Ls (.int j :: .ref a :: st)) := by
  subst hq
  obtain ⟨cl, A, q1, S, q3, H, G⟩ := V
  have hj := own_at j hi z hz S
  exact K.on fun t k => X.iaload hx (by rw [eT]; exact A.1) (State.isArrayOf_alike hZ.alike A.2.1) A.2.2 hj (H.at hj hv) (g := mkF m pc Ls (.int j :: .ref a :: st)) rfl rfl hd t k
theorem g_laload (X : Stand p l e R s m args below meth c T locs cells slots) (hx : p.tables.exec = Jvm.exec) {pc : Nat} {Ls : Array Slot} {st : List Value} (hZ : Z.Warmed39 s.vm) (eT : T.heap = h) {a : Addr} {k : ClassId} {z j : Int32} {v : Value} {vs : List Value} {dv : Value} (V : Arv Z h a k .long z vs dv) (hi : 0 ≤ j.toInt) (hz : j.toInt < z.toInt) (hv : vs.getD j.toNatClampNeg dv = v) (q : Nat) (hd : decode c.code pc = .ok (.laload, 1)) (hq : pc + 1 = q) (K : Go p e below Ev T (mkF m q Ls (v :: st))) : Go p e below Ev T (mkF m pc Ls (.int j :: .ref a :: st)) := by
  subst hq
  obtain ⟨cl, A, q1, S, q3, H, G⟩ := V
  have hj := own_at j hi z hz S
  exact K.on fun t k => X.laload hx (by rw [eT]; exact A.1) (State.isArrayOf_alike hZ.alike A.2.1) A.2.2 hj (H.at hj hv) (g := mkF m pc Ls (.int j :: .ref a :: st)) rfl rfl hd t k
theorem g_clone (X : Stand p l e R s m args below meth c T locs cells slots) (hx : p.tables.exec = Jvm.exec) {pc : Nat} {Ls : Array Slot} {st : List Value} (hZ : Z.Warmed39 s.vm) {own ad : String} {i : Nat} (hown : s.vm.findClass own = some m.cls) (w1 : (Jvm.Cond.methodLink own i ⟨ad, "clone", "()Ljava/lang/Object;"⟩).before a0 Z = true) (w2 : (Jvm.Cond.sameMethod ad "java/lang/Object" "clone" "()Ljava/lang/Object;").before a0 Z = true) (w3 : (Jvm.Cond.native ⟨"java/lang/Object", "clone", "()Ljava/lang/Object;"⟩).before a0 Z = true) (w4 : (Jvm.Cond.instanceMethod ⟨"java/lang/Object", "clone", "()Ljava/lang/Object;"⟩).before a0 Z = true) (w5 : (Jvm.Cond.selects ad ⟨ad, "clone", "()Ljava/lang/Object;"⟩ ⟨"java/lang/Object", "clone", "()Ljava/lang/Object;"⟩).before a0 Z = true) (w6 : (Jvm.Cond.castable ad "java/lang/Cloneable").before a0 Z = true) (eT : T.heap = h) {a : Addr} {k : ClassId} {ty : FieldType} {z : Int32} {vs : List Value} {dv : Value} (V : Arv Z h a k ty z vs dv) (E : Exa Z h a ad) (W cap : Nat) (q : Nat) (hd : decode c.code pc = .ok (.invokevirtual i, 3)) (hq : pc + 3 = q) (hsz : Ls.size = c.maxLocals) (hf : 1 ≤ R.frames) (hW : (st.map fun v => v.category).sum ≤ W) (hl : W + 14 ≤ R.locals) (hcap : z.toInt ≤ cap) (hc : cells + 1 ≤ R.cells) (hs : slots + cap ≤ R.slots)
    (K : ∀ (T' : State) (h' : Heap) (b : Addr), b = h.size → Stand p l e R s m args below meth c T' locs (cells + 1) (slots + cap) → T'.heap = h' → Ext h h' → Arv Z h' b k ty z vs dv → Exa Z h' b ad → Go p e below Ev T' (mkF m q Ls (.ref b :: st))) : Go p e below Ev T (mkF m pc Ls (.ref a :: st)) := by
  subst hq
  obtain ⟨T', h', X', e', E', V', B', st'⟩ := cloneH X hx hZ hown w1 w2 w3 w4 w5 w6 eT V.arh E (g := mkF m pc Ls (.ref a :: st)) rfl hsz rfl hd hf (W := W) (cap := cap) (by show 2 * 0 + _ ≤ _; omega) hl (by simp only [Int32.toNatClampNeg]; omega) hc hs
  exact (K T' h' _ rfl X' e' E' V' B').on st'
theorem g_cast (X : Stand p l e R s m args below meth c T locs cells slots) (hx : p.tables.exec = Jvm.exec) {pc : Nat} {Ls : Array Slot} {st : List Value} (hZ : Z.Warmed39 s.vm) {own C : String} {i : Nat} (hown : s.vm.findClass own = some m.cls) (w : (Jvm.Cond.classLink own i C).before a0 Z = true) (eT : T.heap = h) {a : Addr} (F : Ins Z h a C true) (q : Nat) (hd : decode c.code pc = .ok (.checkcast i, 3)) (hq : pc + 3 = q) (K : ∀ T', Stand p l e R s m args below meth c T' locs cells slots → T'.heap = h → Go p e below Ev T' (mkF m q Ls (.ref a :: st))) : Go p e below Ev T (mkF m pc Ls (.ref a :: st)) := by
  subst hq
  obtain ⟨T', X', e', st'⟩ := castY X hx hZ hown w eT F (g := mkF m pc Ls (.ref a :: st)) rfl rfl hd
  exact (K T' X' e').on st'
end OwnKit
theorem own_pd0 : parseMethodDescriptor "()V" = some ⟨[], none⟩ := by decide +kernel
theorem own_pd1 : parseMethodDescriptor "(D)V" = some ⟨[.double], none⟩ := by decide +kernel
theorem own_pd2 : parseMethodDescriptor "()D" = some ⟨[], some .double⟩ := by decide +kernel
def Q_rm0 (n0 : Nat) (v : Option Value) (h : Heap) (L : List Loc) : Prop := v = some (.int 1) ∧ Fr n0 L
section Kahan
open Jvm.FP Jvm.FP.Core Jvm.Free.Fl
theorem own_nn {i : Int} {a : UInt64} (h : DInt i a) : NoNaN64 a := noNaN64_no.mpr ((notNaN_iff a).mpr (Whole.ne_nan h))
theorem own_rep {i : Int} {d d' : Datum} (hd' : Core.fits b64 d') (h' : Whole i d') (h : Whole i d) : Whole i (round b64 d) := by
  by_cases h0 : i = 0
  · subst h0; exact whole_round good_b64 wide_b64 (by decide) h
  · cases d with
    | nan => exact h.elim
    | inf => exact h.elim
    | fin s c q =>
      cases d' with
      | nan => exact h'.elim
      | inf => exact h'.elim
      | fin s' c' q' =>
        have e1 := round_of_fits good_b64 hd'
        rw [round_whole h', whole_sign h' h0] at e1
        rw [round_whole h, whole_sign h h0, e1, ← whole_sign h' h0]
        exact h'
theorem own_addrep {i j : Int} {a b w : UInt64} (ha : DInt i a) (hb : DInt j b) (hw : DInt (i + j) w) : DInt (i + j) (FP.dadd a b) := by
  show Whole _ (val64 (Core.dadd a b))
  rw [val64_dadd]
  exact own_rep (val64_fits w) hw (whole_sum ha hb)
theorem own_subrep {i j : Int} {a b w : UInt64} (ha : DInt i a) (hb : DInt j b) (hw : DInt (i - j) w) : DInt (i - j) (FP.dsub a b) := by
  show Whole _ (val64 (Core.dsub a b))
  rw [val64_dsub]
  exact own_rep (val64_fits w) hw (whole_sum ha (whole_negate hb))
theorem own_nearNat (A : Nat) (h1 : 2 ^ 53 < A) (h2 : A ≤ 2 ^ 62) (s : Bool) : ∃ n : Nat, Whole (signed s n) (roundRatio b64 s A 1 0) ∧ n ≤ A + 512 ∧ A ≤ n + 512 := by
  have hA : A ≠ 0 := by omega
  have l1 : 2 ^ A.log2 ≤ A := Nat.log2_self_le hA
  have l2 : A < 2 ^ (A.log2 + 1) := Nat.lt_log2_self
  have l3 : 53 ≤ A.log2 := by
    have : 2 ^ 53 < 2 ^ (A.log2 + 1) := Nat.lt_trans h1 l2
    have := (Nat.pow_lt_pow_iff_right (by decide : 1 < 2)).mp this
    omega
  have l4 : A.log2 ≤ 62 := by
    have : 2 ^ A.log2 ≤ 2 ^ 62 := Nat.le_trans l1 h2
    exact (Nat.pow_le_pow_iff_right (by decide : 1 < 2)).mp this
  have hlead : leading A 1 = (A.log2 : Int) := by
    unfold leading
    have e1 : (Nat.log2 1 : Nat) = 0 := by decide
    simp only [e1]
    rw [if_pos]
    · simp
    · simpa using l1
  have hq : quantum b64 A 1 0 = ((A.log2 - 52 : Nat) : Int) := by
    unfold quantum
    rw [hlead]
    have e1 : b64.qmin = -1074 := by decide
    have e2 : (b64.p : Int) = 53 := by decide
    rw [e1, e2]
    omega
  have hc := nearest_units_le (f := b64) (A := A) (B := 1) (by omega) (by decide) 0
  unfold roundRatio
  rw [if_neg hA]
  unfold roundAt
  rw [hq] at hc ⊢
  have hn : unitsNum A 0 ((A.log2 - 52 : Nat) : Int) = A := by
    unfold unitsNum
    rw [show (0 - ((A.log2 - 52 : Nat) : Int)).toNat = 0 by omega]
    simp
  have hd : unitsDen 1 0 ((A.log2 - 52 : Nat) : Int) = 2 ^ (A.log2 - 52) := by
    unfold unitsDen
    rw [show (((A.log2 - 52 : Nat) : Int) - 0).toNat = A.log2 - 52 by omega]
    simp
  rw [hn, hd] at hc ⊢
  have hp : b64.p = 53 := by decide
  have hmax : b64.qmax = 971 := by decide
  have htl : b64.tails = 2 ^ 52 := by decide
  rw [hp] at hc
  refine ⟨nearest A (2 ^ (A.log2 - 52)) * 2 ^ (A.log2 - 52), ?_, ?_⟩
  · unfold settle
    rw [hp]
    split
    · unfold bound
      rw [if_pos (by rw [hmax]; omega)]
      show signed s _ = signed s _ * _
      rw [show (-((A.log2 - 52 : Nat) : Int)).toNat = 0 by omega, show (((A.log2 - 52 : Nat) : Int)).toNat = A.log2 - 52 by omega]
      simp
    · rename_i hlt
      have he : nearest A (2 ^ (A.log2 - 52)) = 2 ^ 53 := by omega
      unfold bound
      rw [if_pos (by rw [hmax]; omega), he, htl]
      show signed s _ = signed s _ * _
      rw [show (-(((A.log2 - 52 : Nat) : Int) + 1)).toNat = 0 by omega, show ((((A.log2 - 52 : Nat) : Int) + 1)).toNat = A.log2 - 52 + 1 by omega]
      rw [show (2 : Nat) ^ 52 * 2 ^ (A.log2 - 52 + 1) = 2 ^ 53 * 2 ^ (A.log2 - 52) by rw [← Nat.pow_add, ← Nat.pow_add]; congr 1; omega]
      simp
  · have key : ∀ B : Nat, 0 < B → B ≤ 1024 → nearest A B * B ≤ A + 512 ∧ A ≤ nearest A B * B + 512 := by
      intro B hB0 hB
      have e1 := Nat.div_add_mod A B
      have e2 := Nat.mod_lt A hB0
      generalize hq' : A / B = qq at *
      generalize hr' : A % B = rr at *
      have e3 : qq * B = B * qq := Nat.mul_comm _ _
      have e4 : (qq + 1) * B = B * qq + B := by rw [Nat.add_mul, e3]; omega
      unfold nearest
      rw [hq', hr']
      split
      · rw [e3]; omega
      · split
        · rw [e4]; omega
        · rcases Nat.mod_two_eq_zero_or_one qq with h | h
          · rw [h, Nat.add_zero, e3]; omega
          · rw [h, e4]; omega
    have hB : 2 ^ (A.log2 - 52) ≤ 1024 := Nat.pow_le_pow_right (by decide) (show A.log2 - 52 ≤ 10 by omega)
    exact key _ (Nat.two_pow_pos _) hB
theorem own_near {i : Int} {d : Datum} (hi : i.natAbs ≤ 2 ^ 62) (h : Whole i d) : ∃ n : Int, Whole n (round b64 d) ∧ -512 ≤ n - i ∧ n - i ≤ 512 := by
  by_cases hs : i.natAbs ≤ 2 ^ 53
  · exact ⟨i, whole_round good_b64 wide_b64 hs h, by omega, by omega⟩
  · cases d with
    | nan => exact h.elim
    | inf => exact h.elim
    | fin s c q =>
      have h0 : i ≠ 0 := by omega
      have hsg := whole_sign h h0
      obtain ⟨n, w, n1, n2⟩ := own_nearNat i.natAbs (by omega) hi s
      rw [round_whole h]
      refine ⟨signed s n, w, ?_⟩
      rw [hsg]
      unfold signed
      by_cases hneg : i < 0 <;> simp [hneg] <;> omega
/-- one rounding of one whole number: the same number, whatever the road -/
theorem own_cmpRound {i : Int} {d d' : Datum} (h : Whole i d) (h' : Whole i d') {u v : UInt64} (hu : val64 u = round b64 d) (hv : val64 v = round b64 d') : FP.dcmp u v = some (compare 0 0) := by
  show order (val64 u) (val64 v) = _
  rw [hu, hv]
  by_cases h0 : i = 0
  · subst h0
    exact order_whole (whole_round good_b64 wide_b64 (by decide) h) (whole_round good_b64 wide_b64 (by decide) h')
  · cases d with
    | nan => exact h.elim
    | inf => exact h.elim
    | fin s c q =>
      cases d' with
      | nan => exact h'.elim
      | inf => exact h'.elim
      | fin s' c' q' =>
        have e1 : round b64 (.fin s c q) = round b64 (.fin s' c' q') := by rw [round_whole h, round_whole h', whole_sign h h0, whole_sign h' h0]
        rw [e1]
        refine (order_self ?_).trans rfl
        rw [← hv]
        intro hq
        rw [hv, round_whole h'] at hq
        exact roundRatio_ne_nan _ _ _ _ _ hq
def KBase (b : Int64) : Prop := DInt b.toInt (FP.l2d b) ∧ b.toInt.natAbs ≤ 2 ^ 60
theorem own_kahan (b x y : Int64) (hb : KBase b) (hx : -1048576 ≤ x.toInt ∧ x.toInt ≤ 1048576) (hy : -1048576 ≤ y.toInt ∧ y.toInt ≤ 1048576) :
    (NoNaN64 (FP.dsub (FP.l2d b) 0) ∧ NoNaN64 (FP.dadd 0 (FP.dsub (FP.l2d b) 0)) ∧ NoNaN64 (FP.dsub (FP.dadd 0 (FP.dsub (FP.l2d b) 0)) 0) ∧ NoNaN64 (FP.dsub (FP.dsub (FP.dadd 0 (FP.dsub (FP.l2d b) 0)) 0) (FP.dsub (FP.l2d b) 0))) ∧
    (NoNaN64 (FP.dsub (FP.l2d x) (FP.dsub (FP.dsub (FP.dadd 0 (FP.dsub (FP.l2d b) 0)) 0) (FP.dsub (FP.l2d b) 0))) ∧ NoNaN64 (FP.dadd (FP.dadd 0 (FP.dsub (FP.l2d b) 0)) (FP.dsub (FP.l2d x) (FP.dsub (FP.dsub (FP.dadd 0 (FP.dsub (FP.l2d b) 0)) 0) (FP.dsub (FP.l2d b) 0)))) ∧ NoNaN64 (FP.dsub (FP.dadd (FP.dadd 0 (FP.dsub (FP.l2d b) 0)) (FP.dsub (FP.l2d x) (FP.dsub (FP.dsub (FP.dadd 0 (FP.dsub (FP.l2d b) 0)) 0) (FP.dsub (FP.l2d b) 0)))) (FP.dadd 0 (FP.dsub (FP.l2d b) 0))) ∧ NoNaN64 (FP.dsub (FP.dsub (FP.dadd (FP.dadd 0 (FP.dsub (FP.l2d b) 0)) (FP.dsub (FP.l2d x) (FP.dsub (FP.dsub (FP.dadd 0 (FP.dsub (FP.l2d b) 0)) 0) (FP.dsub (FP.l2d b) 0)))) (FP.dadd 0 (FP.dsub (FP.l2d b) 0))) (FP.dsub (FP.l2d x) (FP.dsub (FP.dsub (FP.dadd 0 (FP.dsub (FP.l2d b) 0)) 0) (FP.dsub (FP.l2d b) 0))))) ∧
    (∀ c2 n2, c2 = (FP.dsub (FP.dsub (FP.dadd (FP.dadd 0 (FP.dsub (FP.l2d b) 0)) (FP.dsub (FP.l2d x) (FP.dsub (FP.dsub (FP.dadd 0 (FP.dsub (FP.l2d b) 0)) 0) (FP.dsub (FP.l2d b) 0)))) (FP.dadd 0 (FP.dsub (FP.l2d b) 0))) (FP.dsub (FP.l2d x) (FP.dsub (FP.dsub (FP.dadd 0 (FP.dsub (FP.l2d b) 0)) 0) (FP.dsub (FP.l2d b) 0)))) → n2 = (FP.dadd (FP.dadd 0 (FP.dsub (FP.l2d b) 0)) (FP.dsub (FP.l2d x) (FP.dsub (FP.dsub (FP.dadd 0 (FP.dsub (FP.l2d b) 0)) 0) (FP.dsub (FP.l2d b) 0)))) →
      NoNaN64 (FP.dsub (FP.l2d y) c2) ∧ NoNaN64 (FP.dadd n2 (FP.dsub (FP.l2d y) c2)) ∧ NoNaN64 (FP.dsub (FP.dadd n2 (FP.dsub (FP.l2d y) c2)) n2) ∧ NoNaN64 (FP.dsub (FP.dsub (FP.dadd n2 (FP.dsub (FP.l2d y) c2)) n2) (FP.dsub (FP.l2d y) c2)) ∧ FP.dcmp (FP.dadd n2 (FP.dsub (FP.l2d y) c2)) (FP.l2d (b + x + y)) = some (compare 0 0)) := by
  obtain ⟨hB, hB2⟩ := hb
  have hz : DInt 0 (0 : UInt64) := by
    show Whole 0 (val64 0)
    rw [show val64 0 = .fin false 0 b64.qmin from val64_dconst0]
    show signed false _ = _
    simp [signed]
  have hX : DInt x.toInt (FP.l2d x) := l2d_int (by omega)
  have hY : DInt y.toInt (FP.l2d y) := l2d_int (by omega)
  have c1 : DInt b.toInt (FP.dsub (FP.l2d b) 0) := by
    have := own_subrep (w := FP.l2d b) hB hz (by rw [Int.sub_zero]; exact hB)
    rwa [Int.sub_zero] at this
  generalize FP.dsub (FP.l2d b) 0 = C1 at *
  have n1 : DInt b.toInt (FP.dadd 0 C1) := by
    have := own_addrep (w := FP.l2d b) hz c1 (by rw [Int.zero_add]; exact hB)
    rwa [Int.zero_add] at this
  generalize FP.dadd 0 C1 = N1 at *
  have m1 : DInt b.toInt (FP.dsub N1 0) := by
    have := own_subrep (w := FP.l2d b) n1 hz (by rw [Int.sub_zero]; exact hB)
    rwa [Int.sub_zero] at this
  generalize FP.dsub N1 0 = M0 at *
  have m1' : DInt 0 (FP.dsub M0 C1) := by
    have := dsub_int m1 c1 (by rw [Int.sub_self]; decide)
    rwa [Int.sub_self] at this
  refine ⟨⟨own_nn c1, own_nn n1, own_nn m1, own_nn m1'⟩, ?_⟩
  generalize FP.dsub M0 C1 = M1 at *
  have c2 : DInt x.toInt (FP.dsub (FP.l2d x) M1) := by
    have := dsub_int hX m1' (by omega)
    rwa [Int.sub_zero] at this
  generalize FP.dsub (FP.l2d x) M1 = C2 at *
  have hsum := whole_sum n1 c2
  obtain ⟨n, hn, hn1, hn2⟩ := own_near (by omega) hsum
  have n2 : DInt n (FP.dadd N1 C2) := by show Whole n (val64 (Core.dadd N1 C2)); rw [val64_dadd]; exact hn
  generalize FP.dadd N1 C2 = N2 at *
  have m2 : DInt (n - b.toInt) (FP.dsub N2 N1) := dsub_int n2 n1 (by omega)
  generalize FP.dsub N2 N1 = M2 at *
  have m2' : DInt (n - b.toInt - x.toInt) (FP.dsub M2 C2) := dsub_int m2 c2 (by omega)
  refine ⟨⟨own_nn c2, own_nn n2, own_nn m2, own_nn m2'⟩, ?_⟩
  intro c2' n2' hc2' hn2'
  rw [hc2', hn2']
  clear hc2' hn2' c2' n2'
  generalize FP.dsub M2 C2 = M3 at *
  have c3 : DInt (y.toInt - (n - b.toInt - x.toInt)) (FP.dsub (FP.l2d y) M3) := dsub_int hY m2' (by omega)
  generalize FP.dsub (FP.l2d y) M3 = C3 at *
  have hsum3 := whole_sum n2 c3
  obtain ⟨n', hn', hn1', hn2'⟩ := own_near (by omega) hsum3
  have hv3 : val64 (FP.dadd N2 C3) = round b64 (exactSum (val64 N2) (val64 C3)) := val64_dadd N2 C3
  have n3 : DInt n' (FP.dadd N2 C3) := by show Whole n' (val64 (FP.dadd N2 C3)); rw [hv3]; exact hn'
  have m4 : DInt (n' - n) (FP.dsub (FP.dadd N2 C3) N2) := dsub_int n3 n2 (by omega)
  have m5 : DInt (n' - n - (y.toInt - (n - b.toInt - x.toInt))) (FP.dsub (FP.dsub (FP.dadd N2 C3) N2) C3) := dsub_int m4 c3 (by omega)
  refine ⟨own_nn c3, own_nn n3, own_nn m4, own_nn m5, ?_⟩
  have e1 : (b + x).toInt = b.toInt + x.toInt := int64_add (by omega) (by omega)
  have e2 : (b + x + y).toInt = b.toInt + x.toInt + y.toInt := by rw [int64_add (by rw [e1]; omega) (by rw [e1]; omega), e1]
  have w2 : Whole (n + (y.toInt - (n - b.toInt - x.toInt))) (ofInt (b + x + y).toInt) := by
    rw [e2, show n + (y.toInt - (n - b.toInt - x.toInt)) = b.toInt + x.toInt + y.toInt by omega]
    exact whole_ofInt _
  exact own_cmpRound hsum3 w2 hv3 (val64_l2d (b + x + y))
theorem own_sx (a : Int32) : -1048576 ≤ ((a <<< ((11 : Int32) &&& 31)) >>> ((11 : Int32) &&& 31)).toInt64.toInt ∧ ((a <<< ((11 : Int32) &&& 31)) >>> ((11 : Int32) &&& 31)).toInt64.toInt ≤ 1048576 := by
  rw [c_i2l, c_ishr _ 11 11 (by decide)]
  have := rng32 (a <<< ((11 : Int32) &&& 31))
  omega
theorem own_kb0 (a : Int32) : KBase ((a <<< ((11 : Int32) &&& 31)) >>> ((11 : Int32) &&& 31)).toInt64 := by
  have := own_sx a
  exact ⟨l2d_int (by omega), by omega⟩
theorem own_shl (k : Int32) : ∃ j : Nat, j ≤ 7 ∧ ((1 : Int64) <<< (((53 : Int32) + (((k.toUInt32 >>> ((1 : Int32) &&& 31).toUInt32).toInt32) &&& (7 : Int32))) &&& 0x3f).toInt64) = (1 : Int64) <<< (53 + j : Nat).toInt64 := by
  have h := c_mask ((k.toUInt32 >>> ((1 : Int32) &&& 31).toUInt32).toInt32) 7 3 (by decide) (by decide)
  generalize ((k.toUInt32 >>> ((1 : Int32) &&& 31).toUInt32).toInt32) &&& (7 : Int32) = z at h ⊢
  have h1 : z.toInt = 0 ∨ z.toInt = 1 ∨ z.toInt = 2 ∨ z.toInt = 3 ∨ z.toInt = 4 ∨ z.toInt = 5 ∨ z.toInt = 6 ∨ z.toInt = 7 := by omega
  have lit : ∀ n : Int32, z.toInt = n.toInt → z = n := fun n q => Int32.toInt_inj.mp q
  rcases h1 with q | q | q | q | q | q | q | q
  · exact ⟨0, by decide, by rw [lit 0 (by rw [q]; decide)]; decide⟩
  · exact ⟨1, by decide, by rw [lit 1 (by rw [q]; decide)]; decide⟩
  · exact ⟨2, by decide, by rw [lit 2 (by rw [q]; decide)]; decide⟩
  · exact ⟨3, by decide, by rw [lit 3 (by rw [q]; decide)]; decide⟩
  · exact ⟨4, by decide, by rw [lit 4 (by rw [q]; decide)]; decide⟩
  · exact ⟨5, by decide, by rw [lit 5 (by rw [q]; decide)]; decide⟩
  · exact ⟨6, by decide, by rw [lit 6 (by rw [q]; decide)]; decide⟩
  · exact ⟨7, by decide, by rw [lit 7 (by rw [q]; decide)]; decide⟩
theorem own_pw {b : Int64} {j : Nat} (hj : j ≤ 7) (h : b.toInt = 2 ^ (53 + j) ∨ b.toInt = -2 ^ (53 + j)) : KBase b := by
  have hp : (2 : Int) ^ (53 + j) = ((2 ^ (53 + j) : Nat) : Int) := by rw [Int.natCast_pow]; rfl
  have hle : (2 : Nat) ^ (53 + j) ≤ 2 ^ 60 := Nat.pow_le_pow_right (by decide) (by omega)
  have hna : b.toInt.natAbs = 2 ^ (53 + j) := by
    rcases h with h | h
    · rw [h, hp, Int.natAbs_natCast]
    · rw [h, hp, Int.natAbs_neg, Int.natAbs_natCast]
  refine ⟨?_, by omega⟩
  show Whole _ (val64 (Core.l2d b))
  rw [val64_l2d]
  have hp52 : (2 : Nat) ^ (53 + j) = 2 ^ 52 * 2 ^ (j + 1) := by rw [← Nat.pow_add]; congr 1; omega
  refine own_rep (d' := .fin (decide (b.toInt < 0)) (2 ^ 52) ((j + 1 : Nat) : Int)) ⟨by decide, by rw [show b64.qmin = -1074 by decide]; omega, by rw [show b64.qmax = 971 by decide]; omega, Or.inr (by decide)⟩ ?_ (whole_ofInt _)
  show signed _ (2 ^ 52 * 2 ^ (((j + 1 : Nat) : Int)).toNat) = b.toInt * _
  rw [show (-((j + 1 : Nat) : Int)).toNat = 0 by omega, show (((j + 1 : Nat) : Int)).toNat = j + 1 by omega, ← hp52]
  unfold signed
  have hpos : 0 < (2 : Nat) ^ (53 + j) := Nat.two_pow_pos _
  rcases h with h | h
  · have : ¬ b.toInt < 0 := by rw [h, hp]; omega
    simp [this]; rw [h]
  · have : b.toInt < 0 := by rw [h, hp]; omega
    simp [this]; rw [h]
theorem own_s1 {j : Nat} (hj : j ≤ 7) : ((1 : Int64) <<< (53 + j : Nat).toInt64).toInt = 2 ^ (53 + j) ∧ (-((1 : Int64) <<< (53 + j : Nat).toInt64)).toInt = -2 ^ (53 + j) := by
  have h : j = 0 ∨ j = 1 ∨ j = 2 ∨ j = 3 ∨ j = 4 ∨ j = 5 ∨ j = 6 ∨ j = 7 := by omega
  rcases h with h | h | h | h | h | h | h | h <;> subst h <;> decide
theorem own_kb1 (k : Int32) : KBase ((1 : Int64) <<< (((53 : Int32) + (((k.toUInt32 >>> ((1 : Int32) &&& 31).toUInt32).toInt32) &&& (7 : Int32))) &&& 0x3f).toInt64) := by
  obtain ⟨j, hj, e⟩ := own_shl k
  rw [e]
  exact own_pw hj (Or.inl (own_s1 hj).1)
theorem own_kb2 (k : Int32) : KBase (-((1 : Int64) <<< (((53 : Int32) + (((k.toUInt32 >>> ((1 : Int32) &&& 31).toUInt32).toInt32) &&& (7 : Int32))) &&& 0x3f).toInt64)) := by
  obtain ⟨j, hj, e⟩ := own_shl k
  rw [e]
  exact own_pw hj (Or.inr (own_s1 hj).2)
end Kahan
theorem d1_0 : decode prog_5_method_1_code 0 = .ok (.aload_n 0, 1) := by decide +kernel
theorem d1_1 : decode prog_5_method_1_code 1 = .ok (.invokespecial 1, 3) := by decide +kernel
theorem d1_4 : decode prog_5_method_1_code 4 = .ok (.return_, 1) := by decide +kernel
theorem own_pf0 : plainFor (⟨"com/example/iso_throttle/isothrottle/CompensatedSum", "<init>", "()V"⟩ : MethodName) = true := plainFor_of_name (by first | (simp [plainName, overriddenIn]; done) | decide +kernel)
def Q_rm1 (n0 : Nat) (h0 : Heap) (v : Option Value) (h : Heap) (L : List Loc) : Prop := v = none ∧ Fr n0 L ∧ h = h0
theorem ef_rm1 (a : Addr) (m : MethodId) : entryFrame m #[(.ref a)] 1 = mkF m 0 #[.val (.ref a)] [] := by first | (simp [entryFrame, mkF, argsToLocals, Value.category]; done) | rfl
set_option maxRecDepth 65536 in
set_option maxHeartbeats 40000000 in
theorem rm1 (l : Launch) (Z : State) (a0 : Array Value) (hw : ∀ d ∈ tables_1, d.before a0 Z = true) (a : Addr) (h0 : Heap) (n0 : Nat) (Z0 : n0 ≤ h0.size)  :
    MetFree l (⟨"com/example/iso_throttle/isothrottle/CompensatedSum", "<init>", "()V"⟩ : MethodName) (head1 [Jvm.Cond.code (⟨"com/example/iso_throttle/isothrottle/CompensatedSum", "<init>", "()V"⟩ : MethodName) prog_5_method_1_code 1 none] ({ frames := 1, cells := 0, slots := 0, locals := 12 } : Room)) (fun as_ U => as_ = #[(.ref a)] ∧ Z.Warmed39 U.vm ∧ U.heap = h0) (fun _ _ _ _ _ => True) (fun _ U o U' => ∃ v L, o = .returned v ∧ Q_rm1 n0 h0 v U'.heap L ∧ FrameEnd U o U' L ({ frames := 1, cells := 0, slots := 0, locals := 12 } : Room).cells ({ frames := 1, cells := 0, slots := 0, locals := 12 } : Room).slots) := by
  refine own_met own_pf0 (ef_rm1 a) ?_
  intro p e s m below meth c T0 X0 hx hby hml hret hlk hnm hown hZ e0
  have N0 := Fr.nil n0
  refine g_aloadN X0 hx 1 (hb hby d1_0) rfl rfl rfl ?_
  refine g_objinit X0 hx hZ hown (hw _ (List.mem_of_getElem? (i := 6) rfl)) (hw _ (List.mem_of_getElem? (i := 7) rfl)) (hw _ (List.mem_of_getElem? (i := 8) rfl)) e0 0 4 (hb hby d1_1) rfl (by rw [hml]; rfl) (by decide) (Nat.le_refl _) (by decide) ?_
  intro T1 X1 e1
  exact g_retV X1 hx hlk hret (hb hby d1_4) (by decide) (by decide) e1 ⟨rfl, N0, rfl⟩
theorem d3_0 : decode prog_5_method_2_code 0 = .ok (.dload_n 1, 1) := by decide +kernel
theorem d3_1 : decode prog_5_method_2_code 1 = .ok (.aload_n 0, 1) := by decide +kernel
theorem d3_2 : decode prog_5_method_2_code 2 = .ok (.getfield 7, 3) := by decide +kernel
theorem d3_5 : decode prog_5_method_2_code 5 = .ok (.dsub, 1) := by decide +kernel
theorem d3_6 : decode prog_5_method_2_code 6 = .ok (.dstore_n 3, 1) := by decide +kernel
theorem d3_7 : decode prog_5_method_2_code 7 = .ok (.aload_n 0, 1) := by decide +kernel
theorem d3_8 : decode prog_5_method_2_code 8 = .ok (.getfield 13, 3) := by decide +kernel
theorem d3_11 : decode prog_5_method_2_code 11 = .ok (.dload_n 3, 1) := by decide +kernel
theorem d3_12 : decode prog_5_method_2_code 12 = .ok (.dadd, 1) := by decide +kernel
theorem d3_13 : decode prog_5_method_2_code 13 = .ok (.dstore 5, 2) := by decide +kernel
theorem d3_15 : decode prog_5_method_2_code 15 = .ok (.aload_n 0, 1) := by decide +kernel
theorem d3_16 : decode prog_5_method_2_code 16 = .ok (.dload 5, 2) := by decide +kernel
theorem d3_18 : decode prog_5_method_2_code 18 = .ok (.aload_n 0, 1) := by decide +kernel
theorem d3_19 : decode prog_5_method_2_code 19 = .ok (.getfield 13, 3) := by decide +kernel
theorem d3_22 : decode prog_5_method_2_code 22 = .ok (.dsub, 1) := by decide +kernel
theorem d3_23 : decode prog_5_method_2_code 23 = .ok (.dload_n 3, 1) := by decide +kernel
theorem d3_24 : decode prog_5_method_2_code 24 = .ok (.dsub, 1) := by decide +kernel
theorem d3_25 : decode prog_5_method_2_code 25 = .ok (.putfield 7, 3) := by decide +kernel
theorem d3_28 : decode prog_5_method_2_code 28 = .ok (.aload_n 0, 1) := by decide +kernel
theorem d3_29 : decode prog_5_method_2_code 29 = .ok (.dload 5, 2) := by decide +kernel
theorem d3_31 : decode prog_5_method_2_code 31 = .ok (.putfield 13, 3) := by decide +kernel
theorem d3_34 : decode prog_5_method_2_code 34 = .ok (.return_, 1) := by decide +kernel
theorem own_pf1 : plainFor (⟨"com/example/iso_throttle/isothrottle/CompensatedSum", "add", "(D)V"⟩ : MethodName) = true := plainFor_of_name (by first | (simp [plainName, overriddenIn]; done) | decide +kernel)
def Q_rm3 (Z : State) (a : Addr) (t c0 s0 : UInt64) (n0 : Nat) (h0 : Heap) (v : Option Value) (h : Heap) (L : List Loc) : Prop := v = none ∧ Fr n0 L ∧ Keep h0 h [a] ∧ Fld Z h a "com/example/iso_throttle/isothrottle/CompensatedSum" "compensation" "D" (.double (FP.dsub (FP.dsub (FP.dadd s0 (FP.dsub t c0)) s0) (FP.dsub t c0))) ∧ Fld Z h a "com/example/iso_throttle/isothrottle/CompensatedSum" "sum" "D" (.double (FP.dadd s0 (FP.dsub t c0)))
theorem ef_rm3 (a : Addr) (t : UInt64) (m : MethodId) : entryFrame m #[(.ref a), (.double t)] 7 = mkF m 0 #[.val (.ref a), .val (.double t), .second, .unset, .unset, .unset, .unset] [] := by first | (simp [entryFrame, mkF, argsToLocals, Value.category]; done) | rfl
set_option maxRecDepth 65536 in
set_option maxHeartbeats 40000000 in
theorem rm3 (l : Launch) (Z : State) (a0 : Array Value) (hw : ∀ d ∈ tables_1, d.before a0 Z = true) (a : Addr) (t : UInt64) (h0 : Heap) (n0 : Nat) (Z0 : n0 ≤ h0.size) (c0 s0 : UInt64) (Ea : Exa Z h0 a "com/example/iso_throttle/isothrottle/CompensatedSum") (ga : n0 ≤ a) (Fc : Fld Z h0 a "com/example/iso_throttle/isothrottle/CompensatedSum" "compensation" "D" (.double c0)) (Fs : Fld Z h0 a "com/example/iso_throttle/isothrottle/CompensatedSum" "sum" "D" (.double s0)) (n1 : Jvm.Free.Fl.NoNaN64 (FP.dsub t c0)) (n2 : Jvm.Free.Fl.NoNaN64 (FP.dadd s0 (FP.dsub t c0))) (n3 : Jvm.Free.Fl.NoNaN64 (FP.dsub (FP.dadd s0 (FP.dsub t c0)) s0)) (n4 : Jvm.Free.Fl.NoNaN64 (FP.dsub (FP.dsub (FP.dadd s0 (FP.dsub t c0)) s0) (FP.dsub t c0))) :
    MetFree l (⟨"com/example/iso_throttle/isothrottle/CompensatedSum", "add", "(D)V"⟩ : MethodName) (head1 [Jvm.Cond.code (⟨"com/example/iso_throttle/isothrottle/CompensatedSum", "add", "(D)V"⟩ : MethodName) prog_5_method_2_code 7 none] ({ frames := 0, cells := 0, slots := 0, locals := 0 } : Room)) (fun as_ U => as_ = #[(.ref a), (.double t)] ∧ Z.Warmed39 U.vm ∧ U.heap = h0) (fun _ _ _ _ _ => True) (fun _ U o U' => ∃ v L, o = .returned v ∧ Q_rm3 Z a t c0 s0 n0 h0 v U'.heap L ∧ FrameEnd U o U' L ({ frames := 0, cells := 0, slots := 0, locals := 0 } : Room).cells ({ frames := 0, cells := 0, slots := 0, locals := 0 } : Room).slots) := by
  refine own_met own_pf1 (ef_rm3 a t) ?_
  intro p e s m below meth c T0 X0 hx hby hml hret hlk hnm hown hZ e0
  have N0 := Fr.nil n0
  refine g_dloadN X0 hx 1 (hb hby d3_0) rfl rfl ?_
  refine g_aloadN X0 hx 2 (hb hby d3_1) rfl rfl rfl ?_
  refine g_getF X0 hx hZ hown (hw _ (List.mem_of_getElem? (i := 14) rfl)) Via.refl e0 Fc 5 (hb hby d3_2) rfl ?_
  intro T2 X2 e2
  refine g_dsub X2 hx 6 (hb hby d3_5) rfl n1 ?_
  refine g_dstoreN (l' := #[.val (.ref a), .val (.double t), .second, .val (.double (FP.dsub t c0)), .second, .unset, .unset]) X2 hx 7 (hb hby d3_6) rfl rfl ?_
  refine g_aloadN X2 hx 8 (hb hby d3_7) rfl rfl rfl ?_
  refine g_getF X2 hx hZ hown (hw _ (List.mem_of_getElem? (i := 16) rfl)) Via.refl e2 Fs 11 (hb hby d3_8) rfl ?_
  intro T3 X3 e3
  refine g_dloadN X3 hx 12 (hb hby d3_11) rfl rfl ?_
  refine g_dadd X3 hx 13 (hb hby d3_12) rfl n2 ?_
  refine g_dstore (l' := #[.val (.ref a), .val (.double t), .second, .val (.double (FP.dsub t c0)), .second, .val (.double (FP.dadd s0 (FP.dsub t c0))), .second]) X3 hx 15 (hb hby d3_13) rfl rfl ?_
  refine g_aloadN X3 hx 16 (hb hby d3_15) rfl rfl rfl ?_
  refine g_dload X3 hx 18 (hb hby d3_16) rfl rfl ?_
  refine g_aloadN X3 hx 19 (hb hby d3_18) rfl rfl rfl ?_
  refine g_getF X3 hx hZ hown (hw _ (List.mem_of_getElem? (i := 16) rfl)) Via.refl e3 Fs 22 (hb hby d3_19) rfl ?_
  intro T4 X4 e4
  refine g_dsub X4 hx 23 (hb hby d3_22) rfl n3 ?_
  refine g_dloadN X4 hx 24 (hb hby d3_23) rfl rfl ?_
  refine g_dsub X4 hx 25 (hb hby d3_24) rfl n4 ?_
  refine g_putF X4 hx hZ hown (hw _ (List.mem_of_getElem? (i := 14) rfl)) Via.refl e4 Fc Ea (Or.inl (hw _ (List.mem_of_getElem? (i := 15) rfl))) (hw _ (List.mem_of_getElem? (i := 1) rfl)) (ty := .double) (by decide) rfl rfl 28 (hb hby d3_25) rfl ?_
  intro T5 h5 X5 e5 W5
  have F6 : Fld Z h5 a "com/example/iso_throttle/isothrottle/CompensatedSum" "compensation" "D" (.double (FP.dsub (FP.dsub (FP.dadd s0 (FP.dsub t c0)) s0) (FP.dsub t c0))) := Fc.same W5
  have F7 := Ea.wr W5
  have F8 := Fs.other W5 (Or.inr (slot_ne (Or.inl (hw _ (List.mem_of_getElem? (i := 17) rfl))) (Or.inl (hw _ (List.mem_of_getElem? (i := 15) rfl))) (by decide) (t := .double) (t' := .double) (by decide) (by decide)))
  have K9 := (Keep.refl h0 [a]).wr W5 (Or.inl (List.mem_of_getElem? (i := 0) rfl))
  have N10 := Fr.snoc X5 N0 ga
  have Z11 : n0 ≤ h5.size := by rw [W5.size]; exact Z0
  refine g_aloadN X5 hx 29 (hb hby d3_28) rfl rfl rfl ?_
  refine g_dload X5 hx 31 (hb hby d3_29) rfl rfl ?_
  refine g_putF X5 hx hZ hown (hw _ (List.mem_of_getElem? (i := 16) rfl)) Via.refl e5 F8 F7 (Or.inl (hw _ (List.mem_of_getElem? (i := 17) rfl))) (hw _ (List.mem_of_getElem? (i := 1) rfl)) (ty := .double) (by decide) rfl rfl 34 (hb hby d3_31) rfl ?_
  intro T12 h12 X12 e12 W12
  have F13 : Fld Z h12 a "com/example/iso_throttle/isothrottle/CompensatedSum" "sum" "D" (.double (FP.dadd s0 (FP.dsub t c0))) := F8.same W12
  have F14 := F7.wr W12
  have F15 := F6.other W12 (Or.inr (slot_ne (Or.inl (hw _ (List.mem_of_getElem? (i := 15) rfl))) (Or.inl (hw _ (List.mem_of_getElem? (i := 17) rfl))) (by decide) (t := .double) (t' := .double) (by decide) (by decide)))
  have K16 := K9.wr W12 (Or.inl (List.mem_of_getElem? (i := 0) rfl))
  have N17 := Fr.snoc X12 N10 ga
  have Z18 : n0 ≤ h12.size := by rw [W12.size]; exact Z11
  exact g_retV X12 hx hlk hret (hb hby d3_34) (by decide) (by decide) e12 ⟨rfl, N17, K16, F15, F13⟩
theorem d4_0 : decode prog_5_method_3_code 0 = .ok (.aload_n 0, 1) := by decide +kernel
theorem d4_1 : decode prog_5_method_3_code 1 = .ok (.getfield 13, 3) := by decide +kernel
theorem d4_4 : decode prog_5_method_3_code 4 = .ok (.dreturn, 1) := by decide +kernel
theorem own_pf2 : plainFor (⟨"com/example/iso_throttle/isothrottle/CompensatedSum", "value", "()D"⟩ : MethodName) = true := plainFor_of_name (by first | (simp [plainName, overriddenIn]; done) | decide +kernel)
def Q_rm4 (s0 : UInt64) (n0 : Nat) (h0 : Heap) (v : Option Value) (h : Heap) (L : List Loc) : Prop := v = some (.double s0) ∧ Fr n0 L ∧ h = h0
theorem ef_rm4 (a : Addr) (m : MethodId) : entryFrame m #[(.ref a)] 1 = mkF m 0 #[.val (.ref a)] [] := by first | (simp [entryFrame, mkF, argsToLocals, Value.category]; done) | rfl
set_option maxRecDepth 65536 in
set_option maxHeartbeats 40000000 in
theorem rm4 (l : Launch) (Z : State) (a0 : Array Value) (hw : ∀ d ∈ tables_1, d.before a0 Z = true) (a : Addr) (h0 : Heap) (n0 : Nat) (Z0 : n0 ≤ h0.size) (s0 : UInt64) (Fs : Fld Z h0 a "com/example/iso_throttle/isothrottle/CompensatedSum" "sum" "D" (.double s0)) :
    MetFree l (⟨"com/example/iso_throttle/isothrottle/CompensatedSum", "value", "()D"⟩ : MethodName) (head1 [Jvm.Cond.code (⟨"com/example/iso_throttle/isothrottle/CompensatedSum", "value", "()D"⟩ : MethodName) prog_5_method_3_code 1 (some .double)] ({ frames := 0, cells := 0, slots := 0, locals := 0 } : Room)) (fun as_ U => as_ = #[(.ref a)] ∧ Z.Warmed39 U.vm ∧ U.heap = h0) (fun _ _ _ _ _ => True) (fun _ U o U' => ∃ v L, o = .returned v ∧ Q_rm4 s0 n0 h0 v U'.heap L ∧ FrameEnd U o U' L ({ frames := 0, cells := 0, slots := 0, locals := 0 } : Room).cells ({ frames := 0, cells := 0, slots := 0, locals := 0 } : Room).slots) := by
  refine own_met own_pf2 (ef_rm4 a) ?_
  intro p e s m below meth c T0 X0 hx hby hml hret hlk hnm hown hZ e0
  have N0 := Fr.nil n0
  refine g_aloadN X0 hx 1 (hb hby d4_0) rfl rfl rfl ?_
  refine g_getF X0 hx hZ hown (hw _ (List.mem_of_getElem? (i := 16) rfl)) Via.refl e0 Fs 4 (hb hby d4_1) rfl ?_
  intro T19 X19 e19
  exact g_retD X19 hx hlk hret (hb hby d4_4) (by decide) (by decide) e19 ⟨rfl, N0, rfl⟩
set_option maxRecDepth 65536 in
set_option maxHeartbeats 40000000 in
theorem rm0_77 {p : Program} {l : Launch} {e : Env} {s : State} {m : MethodId} {args : Array Value} {below : List Frame} {meth : Method} {c : Code} {T0 Z : State} {a0 : Array Value} {h0 : Heap} {n0 : Nat} {p0 p1 p2 p3 : Int32} {x y b : Int64} {s8 s9 s10 : Slot} (X0 : Stand p l e room_1 s m args below meth c T0 [] 0 0) (hx : p.tables.exec = Jvm.exec) (hby : c.code = code) (hml : c.maxLocals = maxLocals) (hret : meth.sig.returnType = ret) (hlk : meth.locks = false) (hown : s.vm.findClass "com/example/iso_throttle/isothrottle/CompensatedSumAddPinLaw" = some m.cls) (hZ : Z.Warmed39 s.vm) (hw : ∀ d ∈ tables_1, d.before a0 Z = true) (e0 : T0.heap = h0) (Z0 : n0 ≤ h0.size) (N0 : Fr n0 []) (hkb : KBase b) (hxx : -1048576 ≤ x.toInt ∧ x.toInt ≤ 1048576) (hyy : -1048576 ≤ y.toInt ∧ y.toInt ≤ 1048576) :
    Go p e below (EndQ s (Q_rm0 n0) 16 128) T0 (mkF m 77 #[.val (.int p0), .val (.int p1), .val (.int p2), .val (.int p3), .val (.long x), .second, .val (.long y), .second, s8, s9, s10, .val (.long b), .second, .unset] []) := by
  refine g_new X0 hx hZ hown (hw _ (List.mem_of_getElem? (i := 0) rfl)) (hw _ (List.mem_of_getElem? (i := 1) rfl)) (hw _ (List.mem_of_getElem? (i := 2) rfl)) e0 80 (hb hby at_77) rfl (by decide) (by decide) ?_
  intro T20 h20 a20 g20 X20 e20 E20 A20 D20
  have ge21 : n0 ≤ a20 := by rw [g20]; exact Z0
  have Z22 : n0 ≤ h20.size := Nat.le_trans Z0 E20.1
  have F23 : Fld Z h20 a20 "com/example/iso_throttle/isothrottle/CompensatedSum" "compensation" "D" (.double (0 : UInt64)) := D20 (Or.inl (hw _ (List.mem_of_getElem? (i := 15) rfl))) (ty := .double) (by decide)
  have F24 : Fld Z h20 a20 "com/example/iso_throttle/isothrottle/CompensatedSum" "sum" "D" (.double (0 : UInt64)) := D20 (Or.inl (hw _ (List.mem_of_getElem? (i := 17) rfl))) (ty := .double) (by decide)
  refine g_dup X20 hx 81 (hb hby at_80) rfl rfl ?_
  refine g_init X20 hx hZ rfl hown (hw _ (List.mem_of_getElem? (i := 3) rfl)) (hw _ (List.mem_of_getElem? (i := 4) rfl)) (hw _ (List.mem_of_getElem? (i := 2) rfl)) (hw _ (List.mem_of_getElem? (i := 5) rfl)) (by decide) (rm1 l Z a0 hw a20 h20 n0 Z22) e20 (a := a20) (argsL := []) (rest := [(.ref a20)]) rfl rfl 1 84 rfl (by rw [hml]; rfl) (lenOf own_pd0 rfl) (Nat.le_refl _) (by decide) (by decide) (by decide) (by decide) (hb hby at_81) ?_
  intro v25 T25 L25 X25 hQ25
  obtain ⟨rfl, N25, q25⟩ := hQ25
  have N26 := Fr.app N0 N25
  show Go p e below _ T25 (mkF m 84 #[.val (.int p0), .val (.int p1), .val (.int p2), .val (.int p3), .val (.long x), .second, .val (.long y), .second, s8, s9, s10, .val (.long b), .second, .unset] [(.ref a20)])
  obtain ⟨⟨k1, k2, k3, k4⟩, ⟨k5, k6, k7, k8⟩, kk⟩ := own_kahan b x y hkb hxx hyy
  obtain ⟨k9, k10, k11, k12, kf⟩ := kk _ _ rfl rfl
  refine g_astore (l' := #[.val (.int p0), .val (.int p1), .val (.int p2), .val (.int p3), .val (.long x), .second, .val (.long y), .second, s8, s9, s10, .val (.long b), .second, .val (.ref a20)]) X25 hx 86 (hb hby at_84) rfl rfl rfl ?_
  refine g_aload X25 hx 88 (hb hby at_86) rfl rfl rfl ?_
  refine g_lload X25 hx 90 (hb hby at_88) rfl rfl ?_
  refine g_l2d X25 hx 91 (hb hby at_90) rfl ?_
  refine g_virt X25 hx hZ (C := "com/example/iso_throttle/isothrottle/CompensatedSum") hown (hw _ (List.mem_of_getElem? (i := 9) rfl)) (hw _ (List.mem_of_getElem? (i := 10) rfl)) (hw _ (List.mem_of_getElem? (i := 12) rfl)) (hw _ (List.mem_of_getElem? (i := 12) rfl)) (hw _ (List.mem_of_getElem? (i := 11) rfl)) (hw _ (List.mem_of_getElem? (i := 2) rfl)) (hw _ (List.mem_of_getElem? (i := 13) rfl)) (by decide) (rm3 l Z a0 hw a20 (FP.l2d b) h20 n0 Z22 (0 : UInt64) (0 : UInt64) A20 ge21 F23 F24 k1 k2 k3 k4) q25 (b := a20) A20 (argsL := [(.double (FP.l2d b))]) (rest := []) rfl rfl 0 94 rfl (by rw [hml]; rfl) (lenOf own_pd1 rfl) (Nat.le_refl _) (by decide) (by decide) (by decide) (by decide) (hb hby at_91) ?_
  intro v27 T27 L27 X27 hQ27
  obtain ⟨rfl, N27, K27, Fc27, Fs27⟩ := hQ27
  have N28 := Fr.app N26 N27
  have F29 := A20.keep K27
  have Z32 : n0 ≤ T27.heap.size := Nat.le_trans Z22 K27.1
  show Go p e below _ T27 (mkF m 94 #[.val (.int p0), .val (.int p1), .val (.int p2), .val (.int p3), .val (.long x), .second, .val (.long y), .second, s8, s9, s10, .val (.long b), .second, .val (.ref a20)] [])
  refine g_aload X27 hx 96 (hb hby at_94) rfl rfl rfl ?_
  refine g_lload X27 hx 98 (hb hby at_96) rfl rfl ?_
  refine g_l2d X27 hx 99 (hb hby at_98) rfl ?_
  refine g_virt X27 hx hZ (C := "com/example/iso_throttle/isothrottle/CompensatedSum") hown (hw _ (List.mem_of_getElem? (i := 9) rfl)) (hw _ (List.mem_of_getElem? (i := 10) rfl)) (hw _ (List.mem_of_getElem? (i := 12) rfl)) (hw _ (List.mem_of_getElem? (i := 12) rfl)) (hw _ (List.mem_of_getElem? (i := 11) rfl)) (hw _ (List.mem_of_getElem? (i := 2) rfl)) (hw _ (List.mem_of_getElem? (i := 13) rfl)) (by decide) (rm3 l Z a0 hw a20 (FP.l2d x) T27.heap n0 Z32 (FP.dsub (FP.dsub (FP.dadd (0 : UInt64) (FP.dsub (FP.l2d b) (0 : UInt64))) (0 : UInt64)) (FP.dsub (FP.l2d b) (0 : UInt64))) (FP.dadd (0 : UInt64) (FP.dsub (FP.l2d b) (0 : UInt64))) F29 ge21 Fc27 Fs27 k5 k6 k7 k8) rfl (b := a20) F29 (argsL := [(.double (FP.l2d x))]) (rest := []) rfl rfl 0 102 rfl (by rw [hml]; rfl) (lenOf own_pd1 rfl) (Nat.le_refl _) (by decide) (by decide) (by decide) (by decide) (hb hby at_99) ?_
  intro v33 T33 L33 X33 hQ33
  obtain ⟨rfl, N33, K33, Fc33, Fs33⟩ := hQ33
  have N34 := Fr.app N28 N33
  have F35 := F29.keep K33
  have Z38 : n0 ≤ T33.heap.size := Nat.le_trans Z32 K33.1
  show Go p e below _ T33 (mkF m 102 #[.val (.int p0), .val (.int p1), .val (.int p2), .val (.int p3), .val (.long x), .second, .val (.long y), .second, s8, s9, s10, .val (.long b), .second, .val (.ref a20)] [])
  refine g_aload X33 hx 104 (hb hby at_102) rfl rfl rfl ?_
  refine g_lload X33 hx 106 (hb hby at_104) rfl rfl ?_
  refine g_l2d X33 hx 107 (hb hby at_106) rfl ?_
  refine g_virt X33 hx hZ (C := "com/example/iso_throttle/isothrottle/CompensatedSum") hown (hw _ (List.mem_of_getElem? (i := 9) rfl)) (hw _ (List.mem_of_getElem? (i := 10) rfl)) (hw _ (List.mem_of_getElem? (i := 12) rfl)) (hw _ (List.mem_of_getElem? (i := 12) rfl)) (hw _ (List.mem_of_getElem? (i := 11) rfl)) (hw _ (List.mem_of_getElem? (i := 2) rfl)) (hw _ (List.mem_of_getElem? (i := 13) rfl)) (by decide) (rm3 l Z a0 hw a20 (FP.l2d y) T33.heap n0 Z38 (FP.dsub (FP.dsub (FP.dadd (FP.dadd (0 : UInt64) (FP.dsub (FP.l2d b) (0 : UInt64))) (FP.dsub (FP.l2d x) (FP.dsub (FP.dsub (FP.dadd (0 : UInt64) (FP.dsub (FP.l2d b) (0 : UInt64))) (0 : UInt64)) (FP.dsub (FP.l2d b) (0 : UInt64))))) (FP.dadd (0 : UInt64) (FP.dsub (FP.l2d b) (0 : UInt64)))) (FP.dsub (FP.l2d x) (FP.dsub (FP.dsub (FP.dadd (0 : UInt64) (FP.dsub (FP.l2d b) (0 : UInt64))) (0 : UInt64)) (FP.dsub (FP.l2d b) (0 : UInt64))))) (FP.dadd (FP.dadd (0 : UInt64) (FP.dsub (FP.l2d b) (0 : UInt64))) (FP.dsub (FP.l2d x) (FP.dsub (FP.dsub (FP.dadd (0 : UInt64) (FP.dsub (FP.l2d b) (0 : UInt64))) (0 : UInt64)) (FP.dsub (FP.l2d b) (0 : UInt64))))) F35 ge21 Fc33 Fs33 k9 k10 k11 k12) rfl (b := a20) F35 (argsL := [(.double (FP.l2d y))]) (rest := []) rfl rfl 0 110 rfl (by rw [hml]; rfl) (lenOf own_pd1 rfl) (Nat.le_refl _) (by decide) (by decide) (by decide) (by decide) (hb hby at_107) ?_
  intro v39 T39 L39 X39 hQ39
  obtain ⟨rfl, N39, K39, Fc39, Fs39⟩ := hQ39
  have N40 := Fr.app N34 N39
  have F41 := F35.keep K39
  have Z44 : n0 ≤ T39.heap.size := Nat.le_trans Z38 K39.1
  show Go p e below _ T39 (mkF m 110 #[.val (.int p0), .val (.int p1), .val (.int p2), .val (.int p3), .val (.long x), .second, .val (.long y), .second, s8, s9, s10, .val (.long b), .second, .val (.ref a20)] [])
  refine g_aload X39 hx 112 (hb hby at_110) rfl rfl rfl ?_
  refine g_virt X39 hx hZ (C := "com/example/iso_throttle/isothrottle/CompensatedSum") hown (hw _ (List.mem_of_getElem? (i := 18) rfl)) (hw _ (List.mem_of_getElem? (i := 19) rfl)) (hw _ (List.mem_of_getElem? (i := 21) rfl)) (hw _ (List.mem_of_getElem? (i := 21) rfl)) (hw _ (List.mem_of_getElem? (i := 20) rfl)) (hw _ (List.mem_of_getElem? (i := 2) rfl)) (hw _ (List.mem_of_getElem? (i := 22) rfl)) (by decide) (rm4 l Z a0 hw a20 T39.heap n0 Z44 (FP.dadd (FP.dadd (FP.dadd (0 : UInt64) (FP.dsub (FP.l2d b) (0 : UInt64))) (FP.dsub (FP.l2d x) (FP.dsub (FP.dsub (FP.dadd (0 : UInt64) (FP.dsub (FP.l2d b) (0 : UInt64))) (0 : UInt64)) (FP.dsub (FP.l2d b) (0 : UInt64))))) (FP.dsub (FP.l2d y) (FP.dsub (FP.dsub (FP.dadd (FP.dadd (0 : UInt64) (FP.dsub (FP.l2d b) (0 : UInt64))) (FP.dsub (FP.l2d x) (FP.dsub (FP.dsub (FP.dadd (0 : UInt64) (FP.dsub (FP.l2d b) (0 : UInt64))) (0 : UInt64)) (FP.dsub (FP.l2d b) (0 : UInt64))))) (FP.dadd (0 : UInt64) (FP.dsub (FP.l2d b) (0 : UInt64)))) (FP.dsub (FP.l2d x) (FP.dsub (FP.dsub (FP.dadd (0 : UInt64) (FP.dsub (FP.l2d b) (0 : UInt64))) (0 : UInt64)) (FP.dsub (FP.l2d b) (0 : UInt64))))))) Fs39) rfl (b := a20) F41 (argsL := []) (rest := []) rfl rfl 0 115 rfl (by rw [hml]; rfl) (lenOf own_pd2 rfl) (Nat.le_refl _) (by decide) (by decide) (by decide) (by decide) (hb hby at_112) ?_
  intro v45 T45 L45 X45 hQ45
  obtain ⟨rfl, N45, q45⟩ := hQ45
  have N46 := Fr.app N40 N45
  show Go p e below _ T45 (mkF m 115 #[.val (.int p0), .val (.int p1), .val (.int p2), .val (.int p3), .val (.long x), .second, .val (.long y), .second, s8, s9, s10, .val (.long b), .second, .val (.ref a20)] [(.double (FP.dadd (FP.dadd (FP.dadd (0 : UInt64) (FP.dsub (FP.l2d b) (0 : UInt64))) (FP.dsub (FP.l2d x) (FP.dsub (FP.dsub (FP.dadd (0 : UInt64) (FP.dsub (FP.l2d b) (0 : UInt64))) (0 : UInt64)) (FP.dsub (FP.l2d b) (0 : UInt64))))) (FP.dsub (FP.l2d y) (FP.dsub (FP.dsub (FP.dadd (FP.dadd (0 : UInt64) (FP.dsub (FP.l2d b) (0 : UInt64))) (FP.dsub (FP.l2d x) (FP.dsub (FP.dsub (FP.dadd (0 : UInt64) (FP.dsub (FP.l2d b) (0 : UInt64))) (0 : UInt64)) (FP.dsub (FP.l2d b) (0 : UInt64))))) (FP.dadd (0 : UInt64) (FP.dsub (FP.l2d b) (0 : UInt64)))) (FP.dsub (FP.l2d x) (FP.dsub (FP.dsub (FP.dadd (0 : UInt64) (FP.dsub (FP.l2d b) (0 : UInt64))) (0 : UInt64)) (FP.dsub (FP.l2d b) (0 : UInt64))))))))])
  refine g_lload X45 hx 117 (hb hby at_115) rfl rfl ?_
  refine g_lload X45 hx 119 (hb hby at_117) rfl rfl ?_
  refine g_ladd X45 hx 120 (hb hby at_119) rfl ?_
  refine g_lload X45 hx 122 (hb hby at_120) rfl rfl ?_
  refine g_ladd X45 hx 123 (hb hby at_122) rfl ?_
  refine g_l2d X45 hx 124 (hb hby at_123) rfl ?_
  refine g_dc_ne X45 hx 125 132 128 (hb hby at_124) rfl (hb hby at_125) (by decide) (by decide) rfl (i := 0) (j := 0) kf (fun c47 => ?_) (fun c47 => ?_)
  · skip
    exact absurd rfl c47
  · skip
    refine g_iconst X45 hx (1 : Int32) 129 (hb hby at_128) rfl (by decide) ?_
    refine g_goto X45 hx 133 (hb hby at_129) (by decide) (by decide) ?_
    exact g_retZ X45 hx hlk hret (hb hby at_133) (by decide) (by decide) q45 ⟨rfl, N46⟩
theorem own_pfx : plainFor x = true := plainFor_of_name (show plainName "com/example/iso_throttle/isothrottle/CompensatedSumAddPinLaw" = true by first | (simp [plainName, overriddenIn]; done) | decide +kernel)
theorem ef_rm0 (p0 : Int32) (p1 : Int32) (p2 : Int32) (p3 : Int32) (m : MethodId) : entryFrame m #[(.int p0), (.int p1), (.int p2), (.int p3)] maxLocals = mkF m 0 #[.val (.int p0), .val (.int p1), .val (.int p2), .val (.int p3), .unset, .unset, .unset, .unset, .unset, .unset, .unset, .unset, .unset, .unset] [] := by first | (simp [entryFrame, mkF, argsToLocals, Value.category, maxLocals]; done) | rfl
set_option maxRecDepth 65536 in
set_option maxHeartbeats 40000000 in
theorem rm0 (l : Launch) (Z : State) (a0 : Array Value) (hw : ∀ d ∈ tables_1, d.before a0 Z = true) (ws : List Jvm.Cond) (p0 : Int32) (p1 : Int32) (p2 : Int32) (p3 : Int32) (h0 : Heap) (n0 : Nat) (Z0 : n0 ≤ h0.size)  :
    MetFree l x (head1 (Jvm.Cond.code x code maxLocals ret :: ws) room_1) (fun as_ U => as_ = #[(.int p0), (.int p1), (.int p2), (.int p3)] ∧ Z.Warmed39 U.vm ∧ U.heap = h0) (fun _ _ _ _ _ => True) (fun _ U o U' => ∃ v L, o = .returned v ∧ Q_rm0 n0 v U'.heap L ∧ FrameEnd U o U' L 16 128) := by
  refine own_met own_pfx (ef_rm0 p0 p1 p2 p3) ?_
  intro p e s m below meth c T0 X0 hx hby hml hret hlk hnm hown hZ e0
  have N0 := Fr.nil n0
  refine g_iloadN X0 hx 1 (hb hby at_0) rfl rfl ?_
  refine g_bipush X0 hx (11 : Int32) 3 (hb hby at_1) rfl (by decide) ?_
  refine g_ishl X0 hx 4 (hb hby at_3) rfl ?_
  refine g_bipush X0 hx (11 : Int32) 6 (hb hby at_4) rfl (by decide) ?_
  refine g_ishr X0 hx 7 (hb hby at_6) rfl ?_
  refine g_i2l X0 hx 8 (hb hby at_7) rfl ?_
  refine g_lstore (l' := #[.val (.int p0), .val (.int p1), .val (.int p2), .val (.int p3), .val (.long (((p1 <<< ((11 : Int32) &&& 31)) >>> ((11 : Int32) &&& 31)).toInt64)), .second, .unset, .unset, .unset, .unset, .unset, .unset, .unset, .unset]) X0 hx 10 (hb hby at_8) rfl rfl ?_
  refine g_iloadN X0 hx 11 (hb hby at_10) rfl rfl ?_
  refine g_bipush X0 hx (11 : Int32) 13 (hb hby at_11) rfl (by decide) ?_
  refine g_ishl X0 hx 14 (hb hby at_13) rfl ?_
  refine g_bipush X0 hx (11 : Int32) 16 (hb hby at_14) rfl (by decide) ?_
  refine g_ishr X0 hx 17 (hb hby at_16) rfl ?_
  refine g_i2l X0 hx 18 (hb hby at_17) rfl ?_
  refine g_lstore (l' := #[.val (.int p0), .val (.int p1), .val (.int p2), .val (.int p3), .val (.long (((p1 <<< ((11 : Int32) &&& 31)) >>> ((11 : Int32) &&& 31)).toInt64)), .second, .val (.long (((p2 <<< ((11 : Int32) &&& 31)) >>> ((11 : Int32) &&& 31)).toInt64)), .second, .unset, .unset, .unset, .unset, .unset, .unset]) X0 hx 20 (hb hby at_18) rfl rfl ?_
  refine g_iloadN X0 hx 21 (hb hby at_20) rfl rfl ?_
  refine g_bipush X0 hx (11 : Int32) 23 (hb hby at_21) rfl (by decide) ?_
  refine g_ishl X0 hx 24 (hb hby at_23) rfl ?_
  refine g_bipush X0 hx (11 : Int32) 26 (hb hby at_24) rfl (by decide) ?_
  refine g_ishr X0 hx 27 (hb hby at_26) rfl ?_
  refine g_i2l X0 hx 28 (hb hby at_27) rfl ?_
  refine g_lstore (l' := #[.val (.int p0), .val (.int p1), .val (.int p2), .val (.int p3), .val (.long (((p1 <<< ((11 : Int32) &&& 31)) >>> ((11 : Int32) &&& 31)).toInt64)), .second, .val (.long (((p2 <<< ((11 : Int32) &&& 31)) >>> ((11 : Int32) &&& 31)).toInt64)), .second, .val (.long (((p3 <<< ((11 : Int32) &&& 31)) >>> ((11 : Int32) &&& 31)).toInt64)), .second, .unset, .unset, .unset, .unset]) X0 hx 30 (hb hby at_28) rfl rfl ?_
  refine g_bipush X0 hx (53 : Int32) 32 (hb hby at_30) rfl (by decide) ?_
  refine g_iloadN X0 hx 33 (hb hby at_32) rfl rfl ?_
  refine g_iconst X0 hx (1 : Int32) 34 (hb hby at_33) rfl (by decide) ?_
  refine g_iushr X0 hx 35 (hb hby at_34) rfl ?_
  refine g_bipush X0 hx (7 : Int32) 37 (hb hby at_35) rfl (by decide) ?_
  refine g_iand X0 hx 38 (hb hby at_37) rfl ?_
  refine g_iadd X0 hx 39 (hb hby at_38) rfl ?_
  refine g_istore (l' := #[.val (.int p0), .val (.int p1), .val (.int p2), .val (.int p3), .val (.long (((p1 <<< ((11 : Int32) &&& 31)) >>> ((11 : Int32) &&& 31)).toInt64)), .second, .val (.long (((p2 <<< ((11 : Int32) &&& 31)) >>> ((11 : Int32) &&& 31)).toInt64)), .second, .val (.long (((p3 <<< ((11 : Int32) &&& 31)) >>> ((11 : Int32) &&& 31)).toInt64)), .second, .val (.int ((53 : Int32) + (((p0.toUInt32 >>> ((1 : Int32) &&& 31).toUInt32).toInt32) &&& (7 : Int32)))), .unset, .unset, .unset]) X0 hx 41 (hb hby at_39) rfl rfl ?_
  refine g_iloadN X0 hx 42 (hb hby at_41) rfl rfl ?_
  refine g_iconst X0 hx (1 : Int32) 43 (hb hby at_42) rfl (by decide) ?_
  refine g_iand X0 hx 44 (hb hby at_43) rfl ?_
  refine g_if_ne X0 hx 54 47 (hb hby at_44) (by decide) (by decide) rfl (fun c48 => ?_) (fun c48 => ?_)
  · skip
    refine g_iloadN X0 hx 55 (hb hby at_54) rfl rfl ?_
    refine g_bipush X0 hx (16 : Int32) 57 (hb hby at_55) rfl (by decide) ?_
    refine g_iand X0 hx 58 (hb hby at_57) rfl ?_
    refine g_if_eq X0 hx 71 61 (hb hby at_58) (by decide) (by decide) rfl (fun c49 => ?_) (fun c49 => ?_)
    · skip
      refine g_lconst X0 hx (1 : Int64) 72 (hb hby at_71) rfl (by decide) ?_
      refine g_iload X0 hx 74 (hb hby at_72) rfl rfl ?_
      refine g_lshl X0 hx 75 (hb hby at_74) rfl ?_
      refine g_lstore (l' := #[.val (.int p0), .val (.int p1), .val (.int p2), .val (.int p3), .val (.long (((p1 <<< ((11 : Int32) &&& 31)) >>> ((11 : Int32) &&& 31)).toInt64)), .second, .val (.long (((p2 <<< ((11 : Int32) &&& 31)) >>> ((11 : Int32) &&& 31)).toInt64)), .second, .val (.long (((p3 <<< ((11 : Int32) &&& 31)) >>> ((11 : Int32) &&& 31)).toInt64)), .second, .val (.int ((53 : Int32) + (((p0.toUInt32 >>> ((1 : Int32) &&& 31).toUInt32).toInt32) &&& (7 : Int32)))), .val (.long ((1 : Int64) <<< (((53 : Int32) + (((p0.toUInt32 >>> ((1 : Int32) &&& 31).toUInt32).toInt32) &&& (7 : Int32))) &&& 0x3f).toInt64)), .second, .unset]) X0 hx 77 (hb hby at_75) rfl rfl ?_
      exact rm0_77 X0 hx hby hml hret hlk hown hZ hw e0 Z0 N0 (own_kb1 p0) (own_sx p1) (own_sx p2)
    · skip
      refine g_lconst X0 hx (1 : Int64) 62 (hb hby at_61) rfl (by decide) ?_
      refine g_iload X0 hx 64 (hb hby at_62) rfl rfl ?_
      refine g_lshl X0 hx 65 (hb hby at_64) rfl ?_
      refine g_lneg X0 hx 66 (hb hby at_65) rfl ?_
      refine g_lstore (l' := #[.val (.int p0), .val (.int p1), .val (.int p2), .val (.int p3), .val (.long (((p1 <<< ((11 : Int32) &&& 31)) >>> ((11 : Int32) &&& 31)).toInt64)), .second, .val (.long (((p2 <<< ((11 : Int32) &&& 31)) >>> ((11 : Int32) &&& 31)).toInt64)), .second, .val (.long (((p3 <<< ((11 : Int32) &&& 31)) >>> ((11 : Int32) &&& 31)).toInt64)), .second, .val (.int ((53 : Int32) + (((p0.toUInt32 >>> ((1 : Int32) &&& 31).toUInt32).toInt32) &&& (7 : Int32)))), .val (.long (-((1 : Int64) <<< (((53 : Int32) + (((p0.toUInt32 >>> ((1 : Int32) &&& 31).toUInt32).toInt32) &&& (7 : Int32))) &&& 0x3f).toInt64))), .second, .unset]) X0 hx 68 (hb hby at_66) rfl rfl ?_
      refine g_goto X0 hx 77 (hb hby at_68) (by decide) (by decide) ?_
      exact rm0_77 X0 hx hby hml hret hlk hown hZ hw e0 Z0 N0 (own_kb2 p0) (own_sx p1) (own_sx p2)
  · skip
    refine g_lload X0 hx 49 (hb hby at_47) rfl rfl ?_
    refine g_lstore (l' := #[.val (.int p0), .val (.int p1), .val (.int p2), .val (.int p3), .val (.long (((p1 <<< ((11 : Int32) &&& 31)) >>> ((11 : Int32) &&& 31)).toInt64)), .second, .val (.long (((p2 <<< ((11 : Int32) &&& 31)) >>> ((11 : Int32) &&& 31)).toInt64)), .second, .val (.long (((p3 <<< ((11 : Int32) &&& 31)) >>> ((11 : Int32) &&& 31)).toInt64)), .second, .val (.int ((53 : Int32) + (((p0.toUInt32 >>> ((1 : Int32) &&& 31).toUInt32).toInt32) &&& (7 : Int32)))), .val (.long (((p3 <<< ((11 : Int32) &&& 31)) >>> ((11 : Int32) &&& 31)).toInt64)), .second, .unset]) X0 hx 51 (hb hby at_49) rfl rfl ?_
    refine g_goto X0 hx 77 (hb hby at_51) (by decide) (by decide) ?_
    exact rm0_77 X0 hx hby hml hret hlk hown hZ hw e0 Z0 N0 (own_kb0 p3) (own_sx p1) (own_sx p2)
set_option maxRecDepth 65536 in
set_option maxHeartbeats 40000000 in
theorem comes_1 {Post : Tables → Env → Array Value → State → Outcome → State → Prop} (hpost : ∀ tb e args s v u, (limb_1_1.after args s (.returned v) u = true ∧ limb_1_2.after args s (.returned v) u = true ∧ True) → FrameEnd s (.returned v) u (Jvm.fieldLocs frame_1_writes args s ++ Jvm.arrayLocs frame_1_arrays args s ++ Jvm.staticLocs frame_1_statics s) 16 128 → Post tb e args s (.returned v) u) :
    ArmFor flags0 classFile x code maxLocals ret World_1 tables_1 room_1 Calls_1 rest_1 Pre_1 Post := by
  intro l hfl _ _ p e ha hc hk s m args below hf hA hF happ hP
  obtain ⟨hcalls, hrest, hpre⟩ := hP
  obtain ⟨-, -, -, hnamed, -, -, -, hat⟩ := (Spec.applies_iff hf).mp happ
  obtain ⟨hg, hn⟩ := and_e (Cond.before_iff.mp (show (Jvm.Cond.and given_1 narrow_1).before args s = true from hpre))
  obtain ⟨h1, g0⟩ := and_e hg
  obtain ⟨t0, g1⟩ := and_e g0
  obtain ⟨t1, g2⟩ := and_e g1
  obtain ⟨t2, g3⟩ := and_e g2
  have t3 := g3
  obtain ⟨w0, w1, w2, w3, rfl⟩ : ∃ w0 w1 w2 w3 : Value, args = #[w0, w1, w2, w3] := by
    have hs : args.size = 4 := by simpa [Cond.value, given_1] using h1
    obtain ⟨L⟩ := args
    match L, hs with
    | [w0, w1, w2, w3], _ => exact ⟨w0, w1, w2, w3, rfl⟩
  have hw := fun d (hd : d ∈ tables_1) => atoms_spec (ws := Jvm.Cond.code x code maxLocals ret :: tables_1) hat d (List.mem_cons_of_mem _ hd)
  obtain ⟨i0, e0⟩ := is_v t0
  obtain rfl : w0 = (.int i0) := Option.some.inj e0
  obtain ⟨i1, e1⟩ := is_v t1
  obtain rfl : w1 = (.int i1) := Option.some.inj e1
  obtain ⟨i2, e2⟩ := is_v t2
  obtain rfl : w2 = (.int i2) := Option.some.inj e2
  obtain ⟨i3, e3⟩ := is_v t3
  obtain rfl : w3 = (.int i3) := Option.some.inj e3
  obtain ⟨n, o, h1, h2, h3, _, L, rfl, ⟨rfl, N⟩, hq⟩ := rm0 l s _ hw tables_1 i0 i1 i2 i3 s.heap s.heap.size (Nat.le_refl _)  p e ha hc hk s m _ below hf ((Spec.applies_iff_loose hf).mp happ).1 ⟨rfl, State.Warmed39.refl s, rfl⟩ trivial
  refine ⟨n, _, h1, h2, h3, hpost _ _ _ _ _ _ ⟨Cond.after_iff.mpr rfl, Cond.after_iff.mpr (eq_i res_at (Term.int_eval (1)) rfl), trivial⟩ ⟨hq.1, hq.2.1, (hq.2.2.sift fun y hy => Or.inr (N y hy)).mono (by decide) (by decide)⟩⟩
theorem main_1_1 : Claimed_1_1 := comes_1 fun _ _ _ _ _ _ h hF => ⟨h.1, hF⟩
theorem main_1_2 : Claimed_1_2 := comes_1 fun _ _ _ _ _ _ h hF => ⟨h.2.1, hF⟩
end Jvm.Pilot.@@N@@
namespace Jvm.Pilot.@@N@@
open Jvm Jvm.ClassFile Sem Op Lib Jvm.Free Jvm.Stand Jvm.Pilot.@@N@@.Jvm.D
/-! MADE BY PROGRAM (witnessworld.py) out of the Statement's table words and the real class files: 9 classes; the members and pool entries that the words name. The judged class is class 1, her method 1. -/
namespace start1
open Jvm.ClassFile
def u (s : String) : CpInfo := .utf8 (stringToUtf16 s)
/-- a pool by its gaps: so many unusable entries, then the entry; so many at the end -/
def gap : Nat → List CpInfo → List CpInfo
  | 0, r => r
  | n + 1, r => .unusable :: gap n r
def poolList (es : List (Nat × CpInfo)) (last : Nat) : List CpInfo := es.foldr (fun e r => gap e.1 (e.2 :: r)) (gap last [])
def pool (es : List (Nat × CpInfo)) (last : Nat) : Array CpInfo := ⟨poolList es last⟩
def fileOf (pool : Array CpInfo) (this : Nat) (attrs : Array Attribute := #[]) (ms : Array MethodInfo := #[]) (fl : Nat := 33) (sup : Nat := 0) (ifs : Array Nat := #[]) (fds : Array FieldInfo := #[]) : ClassFile where
  minorVersion := 0
  majorVersion := 65
  constantPool := pool
  accessFlags := fl
  thisClass := this
  superClass := sup
  interfaces := ifs
  fields := fds
  methods := ms
  attributes := attrs
def plain (name : String) (sup : Option ClassId) : Class where
  name := name
  kind := .ordinary
  loader := none
  accessFlags := 33
  super := sup
  interfaces := #[]
  cf := none
  fields := #[]
  methods := #[]
  instanceTypes := #[]
  staticTypes := #[]
  resolved := #[]
  callSites := []
  init := .initialized
  statics := none
  mirror := none

def pool0 : Array CpInfo := pool [(5, u "<init>"), (0, u "()V"), (1, .class_ 10), (1, u "java/lang/Object")] 113

def k0c0 : Code := { maxStack := 0, maxLocals := 1, code := object_method_1_code, exceptionTable := #[], attributes := #[] }
def k0m0 : Method := { name := "<init>", desc := "()V", sig := { parameters := [], returnType := none }, accessFlags := 1, code := some k0c0 }
/-- java/lang/Object -/
def k0 : Class := { plain "java/lang/Object" none with
  accessFlags := 33
  interfaces := #[]
  cf := some (fileOf pool0 8 #[] #[{ accessFlags := 1, nameIndex := 5, descriptorIndex := 6, attributes := #[] }] 33 0 #[] #[])
  fields := #[]
  methods := #[k0m0]
  instanceTypes := #[]
  staticTypes := #[]
  resolved := Array.replicate 124 none
  statics := none }

def pool1 : Array CpInfo := pool [(2, .class_ 4), (0, .nameAndType 5 6), (0, u "java/lang/Object"), (0, u "<init>"), (0, u "()V"), (0, .class_ 8), (0, u "com/example/iso_throttle/isothrottle/CompensatedSum"), (0, .methodref 7 3), (0, .methodref 7 11), (0, .nameAndType 12 13), (0, u "add"), (0, u "(D)V"), (0, .methodref 7 15), (0, .nameAndType 16 17), (0, u "value"), (0, u "()D"), (0, .class_ 19), (0, u "com/example/iso_throttle/isothrottle/CompensatedSumAddPinLaw"), (2, u "law"), (0, u "(IIII)Z")] 3

def k1m0 : Method := { name := "<init>", desc := "()V", sig := { parameters := [], returnType := none }, accessFlags := 1, code := none }
def k1c1 : Code := { maxStack := 6, maxLocals := 14, code := code, exceptionTable := #[], attributes := #[] }
def k1m1 : Method := { name := "law", desc := "(IIII)Z", sig := { parameters := [.int, .int, .int, .int], returnType := some .boolean }, accessFlags := 9, code := some k1c1 }
/-- com/example/iso_throttle/isothrottle/CompensatedSumAddPinLaw -/
def k1 : Class := { plain "com/example/iso_throttle/isothrottle/CompensatedSumAddPinLaw" (some 0) with
  accessFlags := 49
  interfaces := #[]
  cf := some (fileOf pool1 18 #[] #[{ accessFlags := 1, nameIndex := 5, descriptorIndex := 6, attributes := #[] }, { accessFlags := 9, nameIndex := 22, descriptorIndex := 23, attributes := #[] }] 49 2 #[] #[])
  fields := #[]
  methods := #[k1m0, k1m1]
  instanceTypes := #[]
  staticTypes := #[]
  resolved := Array.replicate 27 none
  statics := none }

def pool2 : Array CpInfo := pool [(1, .methodref 2 3), (0, .class_ 4), (0, .nameAndType 5 6), (0, u "java/lang/Object"), (0, u "<init>"), (0, u "()V"), (0, .fieldref 8 9), (0, .class_ 10), (0, .nameAndType 11 12), (0, u "com/example/iso_throttle/isothrottle/CompensatedSum"), (0, u "compensation"), (0, u "D"), (0, .fieldref 8 14), (0, .nameAndType 15 12), (0, u "sum"), (2, u "add"), (0, u "(D)V"), (0, u "value"), (0, u "()D")] 2

def k2c0 : Code := { maxStack := 1, maxLocals := 1, code := prog_5_method_1_code, exceptionTable := #[], attributes := #[] }
def k2m0 : Method := { name := "<init>", desc := "()V", sig := { parameters := [], returnType := none }, accessFlags := 0, code := some k2c0 }
def k2c1 : Code := { maxStack := 5, maxLocals := 7, code := prog_5_method_2_code, exceptionTable := #[], attributes := #[] }
def k2m1 : Method := { name := "add", desc := "(D)V", sig := { parameters := [.double], returnType := none }, accessFlags := 0, code := some k2c1 }
def k2c2 : Code := { maxStack := 2, maxLocals := 1, code := prog_5_method_3_code, exceptionTable := #[], attributes := #[] }
def k2m2 : Method := { name := "value", desc := "()D", sig := { parameters := [], returnType := some .double }, accessFlags := 0, code := some k2c2 }
/-- com/example/iso_throttle/isothrottle/CompensatedSum -/
def k2 : Class := { plain "com/example/iso_throttle/isothrottle/CompensatedSum" (some 0) with
  accessFlags := 48
  interfaces := #[]
  cf := some (fileOf pool2 8 #[] #[{ accessFlags := 0, nameIndex := 5, descriptorIndex := 6, attributes := #[] }, { accessFlags := 0, nameIndex := 18, descriptorIndex := 19, attributes := #[] }, { accessFlags := 0, nameIndex := 20, descriptorIndex := 21, attributes := #[] }] 48 2 #[] #[{ accessFlags := 2, nameIndex := 15, descriptorIndex := 12, attributes := #[] }, { accessFlags := 2, nameIndex := 11, descriptorIndex := 12, attributes := #[] }])
  fields := #[{ name := "sum", type := .double, accessFlags := 2, slot := 0, constantValue := 0 }, { name := "compensation", type := .double, accessFlags := 2, slot := 1, constantValue := 0 }]
  methods := #[k2m0, k2m1, k2m2]
  instanceTypes := #[.double, .double]
  staticTypes := #[]
  resolved := Array.replicate 24 none
  statics := none }

def pool3 : Array CpInfo := pool [(1, u "java/lang/Cloneable"), (0, .class_ 1), (0, u "java/lang/Object"), (0, .class_ 3)] 3

/-- java/lang/Cloneable -/
def k3 : Class := { plain "java/lang/Cloneable" (some 0) with
  accessFlags := 1537
  interfaces := #[]
  cf := some (fileOf pool3 2 #[] #[] 1537 4 #[] #[])
  fields := #[]
  methods := #[]
  instanceTypes := #[]
  staticTypes := #[]
  resolved := Array.replicate 8 none
  statics := none }

def pool4 : Array CpInfo := pool [(1, u "java/io/Serializable"), (0, .class_ 1), (0, u "java/lang/Object"), (0, .class_ 3)] 3

/-- java/io/Serializable -/
def k4 : Class := { plain "java/io/Serializable" (some 0) with
  accessFlags := 1537
  interfaces := #[]
  cf := some (fileOf pool4 2 #[] #[] 1537 4 #[] #[])
  fields := #[]
  methods := #[]
  instanceTypes := #[]
  staticTypes := #[]
  resolved := Array.replicate 8 none
  statics := none }

/-- the primitive byte -/
def k5 : Class := { plain "byte" none with kind := .primitive 'B', accessFlags := 0x411 }
/-- [B -/
def k6 : Class := { plain "[B" (some 0) with kind := .array 5 .byte, interfaces := #[3, 4], accessFlags := 1041 }

/-- the primitive int -/
def k7 : Class := { plain "int" none with kind := .primitive 'I', accessFlags := 0x411 }
/-- [I -/
def k8 : Class := { plain "[I" (some 0) with kind := .array 7 .int, interfaces := #[3, 4], accessFlags := 1041 }

def heap : Heap := #[]
def classes : Array Class := #[k0, k1, k2, k3, k4, k5, k6, k7, k8]
def interned : List (Array UInt16 × Addr) := []
def slotsUsed : Nat := 0
def theMethod : MethodId := ⟨1, 1⟩
def args0 : Array Value := #[.int 5, .int 3, .int 4, .int 2]
def aboutOver (below : List Frame) : State where
  vm := { classes := classes, interned := interned.toArray }
  heap := heap
  slotsUsed := slotsUsed
  threads := #[{ frames := .invoking theMethod args0 :: below }]
def below0 : List Frame := [.native { method := ⟨0, 0⟩, args := #[] }]
def about1 : State := aboutOver below0
def p0 : Program := .bare "" "" ""
def e0 : Env := launch0.env 0 0 0
theorem w_frames : about1.frames = Frame.invoking theMethod args0 :: below0 := rfl
set_option maxRecDepth 65536 in
theorem w_args : argsFit about1.vm theMethod args0 = true := by decide +kernel
set_option maxRecDepth 65536 in
theorem w_heap : heapFits about1 = true := by decide +kernel
set_option maxRecDepth 65536 in
theorem w_runnable : about1.curStatus? = some .runnable := by decide +kernel
set_option maxRecDepth 65536 in
theorem w_alone : about1.alone = true := by decide +kernel
set_option maxRecDepth 65536 in
theorem w_named : about1.methodNamed? x = some theMethod := by decide +kernel
set_option maxRecDepth 65536 in
theorem w_hears : about1.hears theMethod below0 = true := by decide +kernel
set_option maxRecDepth 65536 in
theorem w_ripe : about1.ripe theMethod args0 below0 = true := by decide +kernel
theorem w_running : about1.status = .running := rfl
set_option maxRecDepth 65536 in
theorem w_room : about1.hasRoom e0.platform room_1 = true :=
  launch0.hasRoom_least _ room_1 (by decide +kernel) (by decide +kernel) (by decide +kernel) (by decide +kernel) (by decide +kernel) (by decide +kernel)
theorem allAtoms_all (ts : List Jvm.Cond) (a : Array Jvm.Value) (st : Jvm.State) : (allAtoms ts).before a st = ts.all (fun c => c.before a st) := by
  induction ts with
  | nil => rfl
  | cons c t ih =>
    show (Jvm.Cond.and c (allAtoms t)).before a st = _
    rw [Jvm.Cond.before_and, ih, List.all_cons]
def words1 : List Jvm.Cond := Jvm.Cond.code x code maxLocals ret :: tables_1
/-- a 'code' word, met by the world's own term for the bytes: nothing is compared byte by byte -/
theorem code_word {y : MethodName} {bytes : ByteArray} {mx : Nat} {rt : Option FieldType} {a : Array Value} {s : State} {m : MethodId} {meth : Method} {c : Code} (h1 : s.methodNamed? y = some m) (h2 : s.vm.method? m = some meth) (h3 : meth.code = some c) (h4 : c.code = bytes)
    (h5 : (c.maxLocals == mx && c.exceptionTable.isEmpty && decide (c.maxStack ≤ mostOperands) && decide (meth.sig.returnType = rt) && !meth.locks && decide (parseMethodDescriptor y.desc = some meth.sig)) = true) : (Jvm.Cond.code y bytes mx rt).before a s = true := by
  simp only [Bool.and_eq_true, beq_iff_eq, Bool.not_eq_true', decide_eq_true_eq] at h5
  obtain ⟨⟨⟨⟨⟨g1, g2⟩, g3⟩, g4⟩, g5⟩, g6⟩ := h5
  simp [Cond.before, Cond.holds, Cond.value, h1, h2, h3, h4, g1, g2, g3, g4, g5, g6]
def isCode : Jvm.Cond → Bool
  | .code _ _ _ _ => true
  | _ => false
theorem all_split {L : List Jvm.Cond} {P : Jvm.Cond → Bool} (h1 : L.all (fun c => isCode c || P c) = true) (h2 : ∀ c ∈ L.filter isCode, P c = true) : L.all P = true := by
  refine List.all_eq_true.mpr fun c hc => ?_
  have h := List.all_eq_true.mp h1 c hc
  rcases Bool.eq_false_or_eq_true (isCode c) with hi | hi
  · exact h2 c (List.mem_filter.mpr ⟨hc, hi⟩)
  · simpa [hi] using h
set_option maxRecDepth 65536 in
theorem w_c0 : (Jvm.Cond.code x code maxLocals ret).before args0 about1 = true := code_word (m := ⟨1, 1⟩) (meth := k1m1) (c := k1c1) (by decide +kernel) rfl rfl rfl (by decide +kernel)
set_option maxRecDepth 65536 in
theorem w_c1 : (Jvm.Cond.code ({ cls := "com/example/iso_throttle/isothrottle/CompensatedSum", name := "<init>", desc := "()V" } : Jvm.MethodName) prog_5_method_1_code (1 : Nat) (Option.none : Option Jvm.ClassFile.FieldType)).before args0 about1 = true := code_word (m := ⟨2, 0⟩) (meth := k2m0) (c := k2c0) (by decide +kernel) rfl rfl rfl (by decide +kernel)
set_option maxRecDepth 65536 in
theorem w_c2 : (Jvm.Cond.code ({ cls := "java/lang/Object", name := "<init>", desc := "()V" } : Jvm.MethodName) object_method_1_code (1 : Nat) (Option.none : Option Jvm.ClassFile.FieldType)).before args0 about1 = true := code_word (m := ⟨0, 0⟩) (meth := k0m0) (c := k0c0) (by decide +kernel) rfl rfl rfl (by decide +kernel)
set_option maxRecDepth 65536 in
theorem w_c3 : (Jvm.Cond.code ({ cls := "com/example/iso_throttle/isothrottle/CompensatedSum", name := "add", desc := "(D)V" } : Jvm.MethodName) prog_5_method_2_code (7 : Nat) (Option.none : Option Jvm.ClassFile.FieldType)).before args0 about1 = true := code_word (m := ⟨2, 1⟩) (meth := k2m1) (c := k2c1) (by decide +kernel) rfl rfl rfl (by decide +kernel)
set_option maxRecDepth 65536 in
theorem w_c4 : (Jvm.Cond.code ({ cls := "com/example/iso_throttle/isothrottle/CompensatedSum", name := "value", desc := "()D" } : Jvm.MethodName) prog_5_method_3_code (1 : Nat) (Option.some Jvm.ClassFile.FieldType.double)).before args0 about1 = true := code_word (m := ⟨2, 2⟩) (meth := k2m2) (c := k2c2) (by decide +kernel) rfl rfl rfl (by decide +kernel)
def codes1 : List Jvm.Cond := [Jvm.Cond.code x code maxLocals ret, Jvm.Cond.code ({ cls := "com/example/iso_throttle/isothrottle/CompensatedSum", name := "<init>", desc := "()V" } : Jvm.MethodName) prog_5_method_1_code (1 : Nat) (Option.none : Option Jvm.ClassFile.FieldType), Jvm.Cond.code ({ cls := "java/lang/Object", name := "<init>", desc := "()V" } : Jvm.MethodName) object_method_1_code (1 : Nat) (Option.none : Option Jvm.ClassFile.FieldType), Jvm.Cond.code ({ cls := "com/example/iso_throttle/isothrottle/CompensatedSum", name := "add", desc := "(D)V" } : Jvm.MethodName) prog_5_method_2_code (7 : Nat) (Option.none : Option Jvm.ClassFile.FieldType), Jvm.Cond.code ({ cls := "com/example/iso_throttle/isothrottle/CompensatedSum", name := "value", desc := "()D" } : Jvm.MethodName) prog_5_method_3_code (1 : Nat) (Option.some Jvm.ClassFile.FieldType.double)]
set_option maxRecDepth 65536 in
theorem codes_eq : words1.filter isCode = codes1 := rfl
theorem w_codes : ∀ c ∈ words1.filter isCode, c.before args0 about1 = true := by
  rw [codes_eq]
  intro c hc
  simp only [codes1, List.mem_cons, List.not_mem_nil, or_false] at hc
  rcases hc with rfl | rfl | rfl | rfl | rfl
  · exact w_c0
  · exact w_c1
  · exact w_c2
  · exact w_c3
  · exact w_c4
set_option maxRecDepth 65536 in
theorem w_t1 : words1.all (fun c => isCode c || c.before args0 about1) = true := by decide +kernel
theorem w_tables : (allAtoms (Jvm.Cond.code x code maxLocals ret :: tables_1)).before args0 about1 = true := by
  rw [allAtoms_all]
  show words1.all (fun c => c.before args0 about1) = true
  refine all_split ?_ w_codes
  rw [w_t1]
set_option maxRecDepth 65536 in
theorem w_case : (Jvm.Cond.and given_1 narrow_1).before args0 about1 = true := by decide +kernel
theorem w_applies : (headSpec (Jvm.Cond.code x code maxLocals ret :: tables_1) room_1).applies x e0.platform about1 = true :=
  (Spec.applies_iff w_frames).mpr ⟨w_running, w_runnable, w_alone, w_named, w_hears, w_ripe, w_room, w_tables⟩
theorem atStart : AtStart classFile x code maxLocals ret World_1 tables_1 room_1 Calls_1 rest_1 Pre_1 launch0 p0 e0 about1 theMethod args0 below0 :=
  ⟨lists_1, trivial, launch0.admits_env _ _ _, launch0.least_env, fairChoices_fair.cas, fairChoices_fair.clock, w_frames, w_args, w_heap, w_applies, trivial, trivial, w_case⟩
end start1
theorem witness_1 : WitnessClaimed_1 := ⟨start1.p0, start1.e0, start1.about1, start1.theMethod, start1.args0, start1.below0, start1.atStart⟩
end Jvm.Pilot.@@N@@
