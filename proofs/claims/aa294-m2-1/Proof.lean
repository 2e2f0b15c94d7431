import JvmDerived
import JvmDerived.Pilot.@@N@@Statement
import JvmDerived.Pilot.@@N@@Code
set_option linter.unusedVariables false
set_option linter.unusedSimpArgs false
namespace Jvm.Pilot.@@N@@
open Jvm Jvm.ClassFile Sem Op Lib Jvm.Free Jvm.Stand Jvm.LawKit Jvm.RoadKit Bundle Jvm.Pilot.@@N@@.Jvm.D
section OwnKit
variable {p : Program} {l : Launch} {e : Env} {R : Room} {s : State} {m : MethodId} {args : Array Value} {below : List Frame} {meth : Method} {c : Code} {T : State} {locs : List Loc} {cells slots : Nat} {Z : State} {a0 : Array Value} {h h' : Heap} {Ev : State → Outcome → Prop}
def Go (p : Program) (e : Env) (below : List Frame) (Ev : State → Outcome → Prop) (T : State) (g : JFrame) : Prop :=
  ∃ (U : State) (o : Outcome), Steps p.tables e below (T.setTop g) U ∧ U.status = .running ∧ Ended U below o ∧ Ev U o
theorem Go.on {T T' : State} {g g' : JFrame} (K : Go p e below Ev T' g') (st : ∀ t, Steps p.tables e below (T'.setTop g') t → Steps p.tables e below (T.setTop g) t) : Go p e below Ev T g := by
  obtain ⟨U, o, h1, h2⟩ := K
  exact ⟨U, o, st _ h1, h2⟩
/-- what a body leaves -/
abbrev EndQ (s : State) (Q : Option Value → Heap → List Loc → Prop) (K N : Nat) : State → Outcome → Prop := fun U o => ∃ (v : Option Value) (L : List Loc), o = .returned v ∧ Q v U.heap L ∧ FrameEnd s o U L K N
theorem own_met {x : MethodName} {code : ByteArray} {ml : Nat} {ret : Option FieldType} {ws : List Jvm.Cond} {rm : Room} {as : Array Value} {h0 : Heap} {Q : Option Value → Heap → List Loc → Prop} {K N : Nat} {Ls : Array Slot} (hpn : plainFor x = true) (hef : ∀ m, entryFrame m as ml = mkF m 0 Ls [])
    (body : ∀ (p : Program) (e : Env) (s : State) (m : MethodId) (below : List Frame) (meth : Method) (c : Code) (T : State), Stand p l e rm s m as below meth c T [] 0 0 → p.tables.exec = Jvm.exec → c.code = code → c.maxLocals = ml → meth.sig.returnType = ret → meth.locks = false → meth.name = x.name → s.vm.findClass x.cls = some m.cls → Z.Warmed39 s.vm → T.heap = h0 → Go p e below (EndQ s Q K N) T (mkF m 0 Ls [])) :
    MetFree l x (head1 (Jvm.Cond.code x code ml ret :: ws) rm) (fun a U => a = as ∧ Z.Warmed39 U.vm ∧ U.heap = h0) (fun _ _ _ _ _ => True) (fun _ U o U' => ∃ v L, o = .returned v ∧ Q v U'.heap L ∧ FrameEnd U o U' L K N) := by
  refine MetFree.of_bodySF hpn hisR ?_
  intro p e s m args below meth c s₁ Bd hml0 hP hK
  obtain ⟨rfl, hZ, hh⟩ := hP
  have e0 : s₁.heap = h0 := by rw [← hh, Bd.state]; rfl
  obtain ⟨U, o, h1, h2, h3, h4⟩ := body p e s m below meth c s₁ (Stand.of_body Bd) Bd.exec Bd.bytes hml0 Bd.returns (BodyLoose.notSynchronized Bd) (name_of_methodNamed Bd.named Bd.method).1 (findClass_of_methodNamed Bd.named) hZ e0
  rw [← hef m] at h1
  exact ⟨U, o, h1, h2, h3, h4⟩
theorem g_leave (X : Stand p l e R s m args below meth c T locs cells slots) (hlk : meth.locks = false) {Q : Option Value → Heap → List Loc → Prop} {K N : Nat} {g : JFrame} {v : Option Value} (hv : meth.sig.returnType = none → v = none) (hK : cells ≤ K) (hN : slots ≤ N) (eT : T.heap = h) (hQ : Q v h locs)
    (hst : ∀ fs, (∀ (f : JFrame) (acts : List Action), f.method = m → f.locked = none → f.entered = [] → (doReturn e (T.setTop f) acts v).1 = T.setFrames fs) → Steps p.tables e below (T.setTop g) (T.setFrames fs)) : Go p e below (EndQ s Q K N) T g := by
  obtain ⟨fs, hr, hrun, hended, hW, hsame⟩ := X.leave (v := v) hv hlk
  exact ⟨_, _, hst fs hr, hrun, hended, _, _, rfl, by rw [show (T.setFrames fs).heap = T.heap from rfl, eT]; exact hQ, ⟨_, rfl⟩, hW, hsame.mono hK hN⟩
theorem g_retI (X : Stand p l e R s m args below meth c T locs cells slots) (hx : p.tables.exec = Jvm.exec) (hlk : meth.locks = false) {Q : Option Value → Heap → List Loc → Prop} {K N : Nat} {pc : Nat} {Ls : Array Slot} {z : Int32} {rest : List Value} (hret : meth.sig.returnType = some .int) (hd : decode c.code pc = .ok (.ireturn, 1)) (hK : cells ≤ K) (hN : slots ≤ N) (eT : T.heap = h) (hQ : Q (some (.int z)) h locs) : Go p e below (EndQ s Q K N) T (mkF m pc Ls (.int z :: rest)) :=
  g_leave X hlk (fun q => by rw [hret] at q; cases q) hK hN eT hQ (fun fs hr => retOut X hx hret rfl (Or.inl ⟨rfl, Or.inl rfl, _, rfl⟩) hd hr)
theorem g_retZ (X : Stand p l e R s m args below meth c T locs cells slots) (hx : p.tables.exec = Jvm.exec) (hlk : meth.locks = false) {Q : Option Value → Heap → List Loc → Prop} {K N : Nat} {pc : Nat} {Ls : Array Slot} {z : Int32} {rest : List Value} (hret : meth.sig.returnType = some .boolean) (hd : decode c.code pc = .ok (.ireturn, 1)) (hK : cells ≤ K) (hN : slots ≤ N) (eT : T.heap = h) (hQ : Q (some (.int (nar .boolean z))) h locs) : Go p e below (EndQ s Q K N) T (mkF m pc Ls (.int z :: rest)) :=
  g_leave X hlk (fun q => by rw [hret] at q; cases q) hK hN eT hQ (fun fs hr => retN X hx (t := .boolean) hret (by simp) hd hr)
theorem g_retD (X : Stand p l e R s m args below meth c T locs cells slots) (hx : p.tables.exec = Jvm.exec) (hlk : meth.locks = false) {Q : Option Value → Heap → List Loc → Prop} {K N : Nat} {pc : Nat} {Ls : Array Slot} {z : UInt64} {rest : List Value} (hret : meth.sig.returnType = some .double) (hd : decode c.code pc = .ok (.dreturn, 1)) (hK : cells ≤ K) (hN : slots ≤ N) (eT : T.heap = h) (hQ : Q (some (.double z)) h locs) : Go p e below (EndQ s Q K N) T (mkF m pc Ls (.double z :: rest)) :=
  g_leave X hlk (fun q => by rw [hret] at q; cases q) hK hN eT hQ (fun fs hr => retOut X hx hret rfl (Or.inr (Or.inr (Or.inl ⟨rfl, rfl, _, rfl⟩))) hd hr)
theorem g_retJ (X : Stand p l e R s m args below meth c T locs cells slots) (hx : p.tables.exec = Jvm.exec) (hlk : meth.locks = false) {Q : Option Value → Heap → List Loc → Prop} {K N : Nat} {pc : Nat} {Ls : Array Slot} {z : Int64} {rest : List Value} (hret : meth.sig.returnType = some .long) (hd : decode c.code pc = .ok (.lreturn, 1)) (hK : cells ≤ K) (hN : slots ≤ N) (eT : T.heap = h) (hQ : Q (some (.long z)) h locs) : Go p e below (EndQ s Q K N) T (mkF m pc Ls (.long z :: rest)) :=
  g_leave X hlk (fun q => by rw [hret] at q; cases q) hK hN eT hQ (fun fs hr => retOut X hx hret rfl (Or.inr (Or.inl ⟨rfl, rfl, _, rfl⟩)) hd hr)
theorem g_retA (X : Stand p l e R s m args below meth c T locs cells slots) (hx : p.tables.exec = Jvm.exec) (hlk : meth.locks = false) {Q : Option Value → Heap → List Loc → Prop} {K N : Nat} {pc : Nat} {Ls : Array Slot} {w : Value} {rest : List Value} {t : FieldType} (hret : meth.sig.returnType = some t) (ht : t.isReference = true) (hw : w.isRef = true) (hn : narrow t w = w) (hd : decode c.code pc = .ok (.areturn, 1)) (hK : cells ≤ K) (hN : slots ≤ N) (eT : T.heap = h) (hQ : Q (some w) h locs) : Go p e below (EndQ s Q K N) T (mkF m pc Ls (w :: rest)) :=
  g_leave X hlk (fun q => by rw [hret] at q; cases q) hK hN eT hQ (fun fs hr => retOut X hx hret hn (Or.inr (Or.inr (Or.inr (Or.inr ⟨rfl, ht, hw⟩)))) hd hr)
theorem g_retV (X : Stand p l e R s m args below meth c T locs cells slots) (hx : p.tables.exec = Jvm.exec) (hlk : meth.locks = false) {Q : Option Value → Heap → List Loc → Prop} {K N : Nat} {pc : Nat} {Ls : Array Slot} (hret : meth.sig.returnType = none) (hd : decode c.code pc = .ok (.return_, 1)) (hK : cells ≤ K) (hN : slots ≤ N) (eT : T.heap = h) (hQ : Q none h locs) : Go p e below (EndQ s Q K N) T (mkF m pc Ls []) :=
  g_leave X hlk (fun _ => rfl) hK hN eT hQ (fun fs hr => X.returnOut hx hret hd hr)
theorem g_iloadN (X : Stand p l e R s m args below meth c T locs cells slots) (hx : p.tables.exec = Jvm.exec) {pc : Nat} {Ls : Array Slot} {st : List Value} {k : Fin 4} {v : Int32} (q : Nat) (hd : decode c.code pc = .ok (.iload_n k, 1)) (hq : pc + 1 = q) (hl : Ls[k.val]? = some (.val (.int v))) (K : Go p e below Ev T (mkF m q Ls (.int v :: st))) : Go p e below Ev T (mkF m pc Ls st) := by
  subst hq
  exact K.on fun _ k => XS.iloadN X.here hx rfl hd hl k
theorem g_iload (X : Stand p l e R s m args below meth c T locs cells slots) (hx : p.tables.exec = Jvm.exec) {pc : Nat} {Ls : Array Slot} {st : List Value} {k : Nat} {v : Int32} (q : Nat) (hd : decode c.code pc = .ok (.iload k, 2)) (hq : pc + 2 = q) (hl : Ls[k]? = some (.val (.int v))) (K : Go p e below Ev T (mkF m q Ls (.int v :: st))) : Go p e below Ev T (mkF m pc Ls st) := by
  subst hq
  exact K.on fun _ k => XS.iload X.here hx rfl hd hl k
theorem g_istoreN (X : Stand p l e R s m args below meth c T locs cells slots) (hx : p.tables.exec = Jvm.exec) {pc : Nat} {Ls : Array Slot} {st : List Value} {k : Fin 4} {v : Int32} {l' : Array Slot} (q : Nat) (hd : decode c.code pc = .ok (.istore_n k, 1)) (hq : pc + 1 = q) (hl : storeLocals Ls k.val (.int v) = some l') (K : Go p e below Ev T (mkF m q l' st)) : Go p e below Ev T (mkF m pc Ls (.int v :: st)) := by
  subst hq
  exact K.on fun _ k => XS.istoreN X.here hx rfl hd rfl hl k
theorem g_istore (X : Stand p l e R s m args below meth c T locs cells slots) (hx : p.tables.exec = Jvm.exec) {pc : Nat} {Ls : Array Slot} {st : List Value} {k : Nat} {v : Int32} {l' : Array Slot} (q : Nat) (hd : decode c.code pc = .ok (.istore k, 2)) (hq : pc + 2 = q) (hl : storeLocals Ls k (.int v) = some l') (K : Go p e below Ev T (mkF m q l' st)) : Go p e below Ev T (mkF m pc Ls (.int v :: st)) := by
  subst hq
  exact K.on fun _ k => XS.istore X.here hx rfl hd rfl hl k
theorem g_lloadN (X : Stand p l e R s m args below meth c T locs cells slots) (hx : p.tables.exec = Jvm.exec) {pc : Nat} {Ls : Array Slot} {st : List Value} {k : Fin 4} {v : Int64} (q : Nat) (hd : decode c.code pc = .ok (.lload_n k, 1)) (hq : pc + 1 = q) (hl : Ls[k.val]? = some (.val (.long v))) (K : Go p e below Ev T (mkF m q Ls (.long v :: st))) : Go p e below Ev T (mkF m pc Ls st) := by
  subst hq
  exact K.on fun _ k => XS.lloadN X.here hx rfl hd hl k
theorem g_lload (X : Stand p l e R s m args below meth c T locs cells slots) (hx : p.tables.exec = Jvm.exec) {pc : Nat} {Ls : Array Slot} {st : List Value} {k : Nat} {v : Int64} (q : Nat) (hd : decode c.code pc = .ok (.lload k, 2)) (hq : pc + 2 = q) (hl : Ls[k]? = some (.val (.long v))) (K : Go p e below Ev T (mkF m q Ls (.long v :: st))) : Go p e below Ev T (mkF m pc Ls st) := by
  subst hq
  exact K.on fun _ k => XS.lload X.here hx rfl hd hl k
theorem g_lstoreN (X : Stand p l e R s m args below meth c T locs cells slots) (hx : p.tables.exec = Jvm.exec) {pc : Nat} {Ls : Array Slot} {st : List Value} {k : Fin 4} {v : Int64} {l' : Array Slot} (q : Nat) (hd : decode c.code pc = .ok (.lstore_n k, 1)) (hq : pc + 1 = q) (hl : storeLocals Ls k.val (.long v) = some l') (K : Go p e below Ev T (mkF m q l' st)) : Go p e below Ev T (mkF m pc Ls (.long v :: st)) := by
  subst hq
  exact K.on fun _ k => XS.lstoreN X.here hx rfl hd rfl hl k
theorem g_lstore (X : Stand p l e R s m args below meth c T locs cells slots) (hx : p.tables.exec = Jvm.exec) {pc : Nat} {Ls : Array Slot} {st : List Value} {k : Nat} {v : Int64} {l' : Array Slot} (q : Nat) (hd : decode c.code pc = .ok (.lstore k, 2)) (hq : pc + 2 = q) (hl : storeLocals Ls k (.long v) = some l') (K : Go p e below Ev T (mkF m q l' st)) : Go p e below Ev T (mkF m pc Ls (.long v :: st)) := by
  subst hq
  exact K.on fun _ k => XS.lstore X.here hx rfl hd rfl hl k
theorem g_dloadN (X : Stand p l e R s m args below meth c T locs cells slots) (hx : p.tables.exec = Jvm.exec) {pc : Nat} {Ls : Array Slot} {st : List Value} {k : Fin 4} {v : UInt64} (q : Nat) (hd : decode c.code pc = .ok (.dload_n k, 1)) (hq : pc + 1 = q) (hl : Ls[k.val]? = some (.val (.double v))) (K : Go p e below Ev T (mkF m q Ls (.double v :: st))) : Go p e below Ev T (mkF m pc Ls st) := by
  subst hq
  exact K.on fun _ k => XS.dloadN X.here hx rfl hd hl k
theorem g_dload (X : Stand p l e R s m args below meth c T locs cells slots) (hx : p.tables.exec = Jvm.exec) {pc : Nat} {Ls : Array Slot} {st : List Value} {k : Nat} {v : UInt64} (q : Nat) (hd : decode c.code pc = .ok (.dload k, 2)) (hq : pc + 2 = q) (hl : Ls[k]? = some (.val (.double v))) (K : Go p e below Ev T (mkF m q Ls (.double v :: st))) : Go p e below Ev T (mkF m pc Ls st) := by
  subst hq
  exact K.on fun _ k => XS.dload X.here hx rfl hd hl k
theorem g_dstoreN (X : Stand p l e R s m args below meth c T locs cells slots) (hx : p.tables.exec = Jvm.exec) {pc : Nat} {Ls : Array Slot} {st : List Value} {k : Fin 4} {v : UInt64} {l' : Array Slot} (q : Nat) (hd : decode c.code pc = .ok (.dstore_n k, 1)) (hq : pc + 1 = q) (hl : storeLocals Ls k.val (.double v) = some l') (K : Go p e below Ev T (mkF m q l' st)) : Go p e below Ev T (mkF m pc Ls (.double v :: st)) := by
  subst hq
  exact K.on fun _ k => XS.dstoreN X.here hx rfl hd rfl hl k
theorem g_dstore (X : Stand p l e R s m args below meth c T locs cells slots) (hx : p.tables.exec = Jvm.exec) {pc : Nat} {Ls : Array Slot} {st : List Value} {k : Nat} {v : UInt64} {l' : Array Slot} (q : Nat) (hd : decode c.code pc = .ok (.dstore k, 2)) (hq : pc + 2 = q) (hl : storeLocals Ls k (.double v) = some l') (K : Go p e below Ev T (mkF m q l' st)) : Go p e below Ev T (mkF m pc Ls (.double v :: st)) := by
  subst hq
  exact K.on fun _ k => XS.dstore X.here hx rfl hd rfl hl k
theorem g_aloadN (X : Stand p l e R s m args below meth c T locs cells slots) (hx : p.tables.exec = Jvm.exec) {pc : Nat} {Ls : Array Slot} {st : List Value} {k : Fin 4} {v : Value} (q : Nat) (hd : decode c.code pc = .ok (.aload_n k, 1)) (hq : pc + 1 = q) (hl : Ls[k.val]? = some (.val v)) (hv : v.isRef = true) (K : Go p e below Ev T (mkF m q Ls (v :: st))) : Go p e below Ev T (mkF m pc Ls st) := by
  subst hq
  exact K.on fun _ k => XS.aloadN X.here hx rfl hd hl hv k
theorem g_aload (X : Stand p l e R s m args below meth c T locs cells slots) (hx : p.tables.exec = Jvm.exec) {pc : Nat} {Ls : Array Slot} {st : List Value} {k : Nat} {v : Value} (q : Nat) (hd : decode c.code pc = .ok (.aload k, 2)) (hq : pc + 2 = q) (hl : Ls[k]? = some (.val v)) (hv : v.isRef = true) (K : Go p e below Ev T (mkF m q Ls (v :: st))) : Go p e below Ev T (mkF m pc Ls st) := by
  subst hq
  exact K.on fun _ k => XS.aload X.here hx rfl hd hl hv k
theorem g_astoreN (X : Stand p l e R s m args below meth c T locs cells slots) (hx : p.tables.exec = Jvm.exec) {pc : Nat} {Ls : Array Slot} {st : List Value} {k : Fin 4} {v : Value} {l' : Array Slot} (q : Nat) (hd : decode c.code pc = .ok (.astore_n k, 1)) (hq : pc + 1 = q) (hv : v.isRef = true) (hl : storeLocals Ls k.val v = some l') (K : Go p e below Ev T (mkF m q l' st)) : Go p e below Ev T (mkF m pc Ls (v :: st)) := by
  subst hq
  exact K.on fun _ k => XS.astoreN X.here hx rfl hd rfl hv hl k
theorem g_astore (X : Stand p l e R s m args below meth c T locs cells slots) (hx : p.tables.exec = Jvm.exec) {pc : Nat} {Ls : Array Slot} {st : List Value} {k : Nat} {v : Value} {l' : Array Slot} (q : Nat) (hd : decode c.code pc = .ok (.astore k, 2)) (hq : pc + 2 = q) (hv : v.isRef = true) (hl : storeLocals Ls k v = some l') (K : Go p e below Ev T (mkF m q l' st)) : Go p e below Ev T (mkF m pc Ls (v :: st)) := by
  subst hq
  exact K.on fun _ k => XS.astore X.here hx rfl hd rfl hv hl k
theorem g_iconst (X : Stand p l e R s m args below meth c T locs cells slots) (hx : p.tables.exec = Jvm.exec) {pc : Nat} {Ls : Array Slot} {st : List Value} {i : Int} (v : Int32) (q : Nat) (hd : decode c.code pc = .ok (.iconst i, 1)) (hq : pc + 1 = q) (hv : Int32.ofInt i = v) (K : Go p e below Ev T (mkF m q Ls (.int v :: st))) : Go p e below Ev T (mkF m pc Ls st) := by
  subst hq
  exact K.on fun _ k => XT.iconstV X.here hx rfl v hd hv k
theorem g_bipush (X : Stand p l e R s m args below meth c T locs cells slots) (hx : p.tables.exec = Jvm.exec) {pc : Nat} {Ls : Array Slot} {st : List Value} {i : Int} (v : Int32) (q : Nat) (hd : decode c.code pc = .ok (.bipush i, 2)) (hq : pc + 2 = q) (hv : (Int8.ofInt i).toInt32 = v) (K : Go p e below Ev T (mkF m q Ls (.int v :: st))) : Go p e below Ev T (mkF m pc Ls st) := by
  subst hq
  exact K.on fun _ k => XT.bipushV X.here hx rfl v hd hv k
theorem g_sipush (X : Stand p l e R s m args below meth c T locs cells slots) (hx : p.tables.exec = Jvm.exec) {pc : Nat} {Ls : Array Slot} {st : List Value} {i : Int} (v : Int32) (q : Nat) (hd : decode c.code pc = .ok (.sipush i, 3)) (hq : pc + 3 = q) (hv : (Int16.ofInt i).toInt32 = v) (K : Go p e below Ev T (mkF m q Ls (.int v :: st))) : Go p e below Ev T (mkF m pc Ls st) := by
  subst hq
  exact K.on fun _ k => XT.sipushV X.here hx rfl v hd hv k
theorem g_lconst (X : Stand p l e R s m args below meth c T locs cells slots) (hx : p.tables.exec = Jvm.exec) {pc : Nat} {Ls : Array Slot} {st : List Value} {i : Fin 2} (v : Int64) (q : Nat) (hd : decode c.code pc = .ok (.lconst i, 1)) (hq : pc + 1 = q) (hv : Int64.ofNat i = v) (K : Go p e below Ev T (mkF m q Ls (.long v :: st))) : Go p e below Ev T (mkF m pc Ls st) := by
  subst hq
  exact K.on fun _ k => XT.lconstV X.here hx rfl v hd hv k
theorem g_dconst0 (X : Stand p l e R s m args below meth c T locs cells slots) (hx : p.tables.exec = Jvm.exec) {pc : Nat} {Ls : Array Slot} {st : List Value}  (q : Nat) (hd : decode c.code pc = .ok (.dconst 0, 1)) (hq : pc + 1 = q)  (K : Go p e below Ev T (mkF m q Ls (.double 0 :: st))) : Go p e below Ev T (mkF m pc Ls st) := by
  subst hq
  exact K.on fun _ k => XS.dconst0 X.here hx rfl hd rfl k
theorem g_dconst1 (X : Stand p l e R s m args below meth c T locs cells slots) (hx : p.tables.exec = Jvm.exec) {pc : Nat} {Ls : Array Slot} {st : List Value}  (q : Nat) (hd : decode c.code pc = .ok (.dconst 1, 1)) (hq : pc + 1 = q)  (K : Go p e below Ev T (mkF m q Ls (.double 4607182418800017408 :: st))) : Go p e below Ev T (mkF m pc Ls st) := by
  subst hq
  exact K.on fun _ k => XS.dconst1 X.here hx rfl hd rfl k
theorem g_null (X : Stand p l e R s m args below meth c T locs cells slots) (hx : p.tables.exec = Jvm.exec) {pc : Nat} {Ls : Array Slot} {st : List Value}  (q : Nat) (hd : decode c.code pc = .ok (.aconst_null, 1)) (hq : pc + 1 = q)  (K : Go p e below Ev T (mkF m q Ls (.null :: st))) : Go p e below Ev T (mkF m pc Ls st) := by
  subst hq
  exact K.on fun _ k => XS.aconstNull X.here hx rfl hd k
theorem g_iinc (X : Stand p l e R s m args below meth c T locs cells slots) (hx : p.tables.exec = Jvm.exec) {pc : Nat} {Ls : Array Slot} {st : List Value} {k : Nat} {i : Int} {v w : Int32} {l' : Array Slot} (q : Nat) (hd : decode c.code pc = .ok (.iinc k i, 3)) (hq : pc + 3 = q) (hl : Ls[k]? = some (.val (.int v))) (hv : Int32.ofInt i = w) (hl' : storeLocals Ls k (.int (v + w)) = some l') (K : Go p e below Ev T (mkF m q l' st)) : Go p e below Ev T (mkF m pc Ls st) := by
  subst hq
  exact K.on fun _ k => XT.iincV X.here hx rfl w hd hv hl hl' k
theorem g_iadd (X : Stand p l e R s m args below meth c T locs cells slots) (hx : p.tables.exec = Jvm.exec) {pc : Nat} {Ls : Array Slot} {st : List Value} {x y : Int32} (q : Nat) (hd : decode c.code pc = .ok (.iadd, 1)) (hq : pc + 1 = q)  (K : Go p e below Ev T (mkF m q Ls (.int (x + y) :: st))) : Go p e below Ev T (mkF m pc Ls (.int y :: .int x :: st)) := by
  subst hq
  exact K.on fun _ k => XS.iadd X.here hx rfl hd rfl k
theorem g_ladd (X : Stand p l e R s m args below meth c T locs cells slots) (hx : p.tables.exec = Jvm.exec) {pc : Nat} {Ls : Array Slot} {st : List Value} {x y : Int64} (q : Nat) (hd : decode c.code pc = .ok (.ladd, 1)) (hq : pc + 1 = q)  (K : Go p e below Ev T (mkF m q Ls (.long (x + y) :: st))) : Go p e below Ev T (mkF m pc Ls (.long y :: .long x :: st)) := by
  subst hq
  exact K.on fun _ k => XS.ladd X.here hx rfl hd rfl k
theorem g_isub (X : Stand p l e R s m args below meth c T locs cells slots) (hx : p.tables.exec = Jvm.exec) {pc : Nat} {Ls : Array Slot} {st : List Value} {x y : Int32} (q : Nat) (hd : decode c.code pc = .ok (.isub, 1)) (hq : pc + 1 = q)  (K : Go p e below Ev T (mkF m q Ls (.int (x - y) :: st))) : Go p e below Ev T (mkF m pc Ls (.int y :: .int x :: st)) := by
  subst hq
  exact K.on fun _ k => XS.isub X.here hx rfl hd rfl k
theorem g_lsub (X : Stand p l e R s m args below meth c T locs cells slots) (hx : p.tables.exec = Jvm.exec) {pc : Nat} {Ls : Array Slot} {st : List Value} {x y : Int64} (q : Nat) (hd : decode c.code pc = .ok (.lsub, 1)) (hq : pc + 1 = q)  (K : Go p e below Ev T (mkF m q Ls (.long (x - y) :: st))) : Go p e below Ev T (mkF m pc Ls (.long y :: .long x :: st)) := by
  subst hq
  exact K.on fun _ k => XS.lsub X.here hx rfl hd rfl k
theorem g_imul (X : Stand p l e R s m args below meth c T locs cells slots) (hx : p.tables.exec = Jvm.exec) {pc : Nat} {Ls : Array Slot} {st : List Value} {x y : Int32} (q : Nat) (hd : decode c.code pc = .ok (.imul, 1)) (hq : pc + 1 = q)  (K : Go p e below Ev T (mkF m q Ls (.int (x * y) :: st))) : Go p e below Ev T (mkF m pc Ls (.int y :: .int x :: st)) := by
  subst hq
  exact K.on fun _ k => XS.imul X.here hx rfl hd rfl k
theorem g_lmul (X : Stand p l e R s m args below meth c T locs cells slots) (hx : p.tables.exec = Jvm.exec) {pc : Nat} {Ls : Array Slot} {st : List Value} {x y : Int64} (q : Nat) (hd : decode c.code pc = .ok (.lmul, 1)) (hq : pc + 1 = q)  (K : Go p e below Ev T (mkF m q Ls (.long (x * y) :: st))) : Go p e below Ev T (mkF m pc Ls (.long y :: .long x :: st)) := by
  subst hq
  exact K.on fun _ k => XS.lmul X.here hx rfl hd rfl k
theorem g_iand (X : Stand p l e R s m args below meth c T locs cells slots) (hx : p.tables.exec = Jvm.exec) {pc : Nat} {Ls : Array Slot} {st : List Value} {x y : Int32} (q : Nat) (hd : decode c.code pc = .ok (.iand, 1)) (hq : pc + 1 = q)  (K : Go p e below Ev T (mkF m q Ls (.int (x &&& y) :: st))) : Go p e below Ev T (mkF m pc Ls (.int y :: .int x :: st)) := by
  subst hq
  exact K.on fun _ k => XS.iand X.here hx rfl hd rfl k
theorem g_land (X : Stand p l e R s m args below meth c T locs cells slots) (hx : p.tables.exec = Jvm.exec) {pc : Nat} {Ls : Array Slot} {st : List Value} {x y : Int64} (q : Nat) (hd : decode c.code pc = .ok (.land, 1)) (hq : pc + 1 = q)  (K : Go p e below Ev T (mkF m q Ls (.long (x &&& y) :: st))) : Go p e below Ev T (mkF m pc Ls (.long y :: .long x :: st)) := by
  subst hq
  exact K.on fun _ k => XS.land X.here hx rfl hd rfl k
theorem g_ior (X : Stand p l e R s m args below meth c T locs cells slots) (hx : p.tables.exec = Jvm.exec) {pc : Nat} {Ls : Array Slot} {st : List Value} {x y : Int32} (q : Nat) (hd : decode c.code pc = .ok (.ior, 1)) (hq : pc + 1 = q)  (K : Go p e below Ev T (mkF m q Ls (.int (x ||| y) :: st))) : Go p e below Ev T (mkF m pc Ls (.int y :: .int x :: st)) := by
  subst hq
  exact K.on fun _ k => XS.ior X.here hx rfl hd rfl k
theorem g_lor (X : Stand p l e R s m args below meth c T locs cells slots) (hx : p.tables.exec = Jvm.exec) {pc : Nat} {Ls : Array Slot} {st : List Value} {x y : Int64} (q : Nat) (hd : decode c.code pc = .ok (.lor, 1)) (hq : pc + 1 = q)  (K : Go p e below Ev T (mkF m q Ls (.long (x ||| y) :: st))) : Go p e below Ev T (mkF m pc Ls (.long y :: .long x :: st)) := by
  subst hq
  exact K.on fun _ k => XS.lor X.here hx rfl hd rfl k
theorem g_ixor (X : Stand p l e R s m args below meth c T locs cells slots) (hx : p.tables.exec = Jvm.exec) {pc : Nat} {Ls : Array Slot} {st : List Value} {x y : Int32} (q : Nat) (hd : decode c.code pc = .ok (.ixor, 1)) (hq : pc + 1 = q)  (K : Go p e below Ev T (mkF m q Ls (.int (x ^^^ y) :: st))) : Go p e below Ev T (mkF m pc Ls (.int y :: .int x :: st)) := by
  subst hq
  exact K.on fun _ k => XS.ixor X.here hx rfl hd rfl k
theorem g_lxor (X : Stand p l e R s m args below meth c T locs cells slots) (hx : p.tables.exec = Jvm.exec) {pc : Nat} {Ls : Array Slot} {st : List Value} {x y : Int64} (q : Nat) (hd : decode c.code pc = .ok (.lxor, 1)) (hq : pc + 1 = q)  (K : Go p e below Ev T (mkF m q Ls (.long (x ^^^ y) :: st))) : Go p e below Ev T (mkF m pc Ls (.long y :: .long x :: st)) := by
  subst hq
  exact K.on fun _ k => XS.lxor X.here hx rfl hd rfl k
theorem g_idiv (X : Stand p l e R s m args below meth c T locs cells slots) (hx : p.tables.exec = Jvm.exec) {pc : Nat} {Ls : Array Slot} {st : List Value} {x y : Int32} (q : Nat) (hd : decode c.code pc = .ok (.idiv, 1)) (hq : pc + 1 = q) (hy : y ≠ 0) (K : Go p e below Ev T (mkF m q Ls (.int (x / y) :: st))) : Go p e below Ev T (mkF m pc Ls (.int y :: .int x :: st)) := by
  subst hq
  exact K.on fun _ k => XS.idiv X.here hx rfl hd rfl hy k
theorem g_ineg (X : Stand p l e R s m args below meth c T locs cells slots) (hx : p.tables.exec = Jvm.exec) {pc : Nat} {Ls : Array Slot} {st : List Value} {x : Int32} (q : Nat) (hd : decode c.code pc = .ok (.ineg, 1)) (hq : pc + 1 = q)  (K : Go p e below Ev T (mkF m q Ls (.int (-x) :: st))) : Go p e below Ev T (mkF m pc Ls (.int x :: st)) := by
  subst hq
  exact K.on fun _ k => XS.ineg X.here hx rfl hd rfl k
theorem g_ldiv (X : Stand p l e R s m args below meth c T locs cells slots) (hx : p.tables.exec = Jvm.exec) {pc : Nat} {Ls : Array Slot} {st : List Value} {x y : Int64} (q : Nat) (hd : decode c.code pc = .ok (.ldiv, 1)) (hq : pc + 1 = q) (hy : y ≠ 0) (K : Go p e below Ev T (mkF m q Ls (.long (x / y) :: st))) : Go p e below Ev T (mkF m pc Ls (.long y :: .long x :: st)) := by
  subst hq
  exact K.on fun _ k => XS.ldiv X.here hx rfl hd rfl hy k
theorem g_lneg (X : Stand p l e R s m args below meth c T locs cells slots) (hx : p.tables.exec = Jvm.exec) {pc : Nat} {Ls : Array Slot} {st : List Value} {x : Int64} (q : Nat) (hd : decode c.code pc = .ok (.lneg, 1)) (hq : pc + 1 = q)  (K : Go p e below Ev T (mkF m q Ls (.long (-x) :: st))) : Go p e below Ev T (mkF m pc Ls (.long x :: st)) := by
  subst hq
  exact K.on fun _ k => XS.lneg X.here hx rfl hd rfl k
theorem g_irem (X : Stand p l e R s m args below meth c T locs cells slots) (hx : p.tables.exec = Jvm.exec) {pc : Nat} {Ls : Array Slot} {st : List Value} {x y : Int32} (q : Nat) (hd : decode c.code pc = .ok (.irem, 1)) (hq : pc + 1 = q) (hy : y ≠ 0) (K : Go p e below Ev T (mkF m q Ls (.int (x % y) :: st))) : Go p e below Ev T (mkF m pc Ls (.int y :: .int x :: st)) := by
  subst hq
  exact K.on fun _ k => iremM X hx rfl hd rfl hy k
theorem g_lrem (X : Stand p l e R s m args below meth c T locs cells slots) (hx : p.tables.exec = Jvm.exec) {pc : Nat} {Ls : Array Slot} {st : List Value} {x y : Int64} (q : Nat) (hd : decode c.code pc = .ok (.lrem, 1)) (hq : pc + 1 = q) (hy : y ≠ 0) (K : Go p e below Ev T (mkF m q Ls (.long (x - (x / y) * y) :: st))) : Go p e below Ev T (mkF m pc Ls (.long y :: .long x :: st)) := by
  subst hq
  exact K.on fun _ k => XS.lrem X.here hx rfl hd rfl hy k
theorem g_ishl (X : Stand p l e R s m args below meth c T locs cells slots) (hx : p.tables.exec = Jvm.exec) {pc : Nat} {Ls : Array Slot} {st : List Value} {x y : Int32} (q : Nat) (hd : decode c.code pc = .ok (.ishl, 1)) (hq : pc + 1 = q)  (K : Go p e below Ev T (mkF m q Ls (.int (x <<< (y &&& 31)) :: st))) : Go p e below Ev T (mkF m pc Ls (.int y :: .int x :: st)) := by
  subst hq
  exact K.on fun _ k => XS.ishl X.here hx rfl hd rfl k
theorem g_ishr (X : Stand p l e R s m args below meth c T locs cells slots) (hx : p.tables.exec = Jvm.exec) {pc : Nat} {Ls : Array Slot} {st : List Value} {x y : Int32} (q : Nat) (hd : decode c.code pc = .ok (.ishr, 1)) (hq : pc + 1 = q)  (K : Go p e below Ev T (mkF m q Ls (.int (x >>> (y &&& 31)) :: st))) : Go p e below Ev T (mkF m pc Ls (.int y :: .int x :: st)) := by
  subst hq
  exact K.on fun _ k => XS.ishr X.here hx rfl hd rfl k
theorem g_iushr (X : Stand p l e R s m args below meth c T locs cells slots) (hx : p.tables.exec = Jvm.exec) {pc : Nat} {Ls : Array Slot} {st : List Value} {x y : Int32} (q : Nat) (hd : decode c.code pc = .ok (.iushr, 1)) (hq : pc + 1 = q)  (K : Go p e below Ev T (mkF m q Ls (.int ((x.toUInt32 >>> (y &&& 31).toUInt32).toInt32) :: st))) : Go p e below Ev T (mkF m pc Ls (.int y :: .int x :: st)) := by
  subst hq
  exact K.on fun _ k => XS.iushr X.here hx rfl hd rfl k
theorem g_lshl (X : Stand p l e R s m args below meth c T locs cells slots) (hx : p.tables.exec = Jvm.exec) {pc : Nat} {Ls : Array Slot} {st : List Value} {x : Int64} {y : Int32} (q : Nat) (hd : decode c.code pc = .ok (.lshl, 1)) (hq : pc + 1 = q)  (K : Go p e below Ev T (mkF m q Ls (.long (x <<< (y &&& 0x3f).toInt64) :: st))) : Go p e below Ev T (mkF m pc Ls (.int y :: .long x :: st)) := by
  subst hq
  exact K.on fun _ k => XS.lshl X.here hx rfl hd rfl k
theorem g_lshr (X : Stand p l e R s m args below meth c T locs cells slots) (hx : p.tables.exec = Jvm.exec) {pc : Nat} {Ls : Array Slot} {st : List Value} {x : Int64} {y : Int32} (q : Nat) (hd : decode c.code pc = .ok (.lshr, 1)) (hq : pc + 1 = q)  (K : Go p e below Ev T (mkF m q Ls (.long (x >>> (y &&& 0x3f).toInt64) :: st))) : Go p e below Ev T (mkF m pc Ls (.int y :: .long x :: st)) := by
  subst hq
  exact K.on fun _ k => XS.lshr X.here hx rfl hd rfl k
theorem g_lushr (X : Stand p l e R s m args below meth c T locs cells slots) (hx : p.tables.exec = Jvm.exec) {pc : Nat} {Ls : Array Slot} {st : List Value} {x : Int64} {y : Int32} (q : Nat) (hd : decode c.code pc = .ok (.lushr, 1)) (hq : pc + 1 = q)  (K : Go p e below Ev T (mkF m q Ls (.long ((x.toUInt64 >>> (y &&& 0x3f).toInt64.toUInt64).toInt64) :: st))) : Go p e below Ev T (mkF m pc Ls (.int y :: .long x :: st)) := by
  subst hq
  exact K.on fun _ k => XS.lushr X.here hx rfl hd rfl k
theorem g_i2l (X : Stand p l e R s m args below meth c T locs cells slots) (hx : p.tables.exec = Jvm.exec) {pc : Nat} {Ls : Array Slot} {st : List Value} {x : Int32} (q : Nat) (hd : decode c.code pc = .ok (.i2l, 1)) (hq : pc + 1 = q)  (K : Go p e below Ev T (mkF m q Ls (.long (x.toInt64) :: st))) : Go p e below Ev T (mkF m pc Ls (.int x :: st)) := by
  subst hq
  exact K.on fun _ k => XS.i2l X.here hx rfl hd rfl k
theorem g_l2i (X : Stand p l e R s m args below meth c T locs cells slots) (hx : p.tables.exec = Jvm.exec) {pc : Nat} {Ls : Array Slot} {st : List Value} {x : Int64} (q : Nat) (hd : decode c.code pc = .ok (.l2i, 1)) (hq : pc + 1 = q)  (K : Go p e below Ev T (mkF m q Ls (.int (x.toInt32) :: st))) : Go p e below Ev T (mkF m pc Ls (.long x :: st)) := by
  subst hq
  exact K.on fun _ k => XS.l2i X.here hx rfl hd rfl k
theorem g_i2b (X : Stand p l e R s m args below meth c T locs cells slots) (hx : p.tables.exec = Jvm.exec) {pc : Nat} {Ls : Array Slot} {st : List Value} {x : Int32} (q : Nat) (hd : decode c.code pc = .ok (.i2b, 1)) (hq : pc + 1 = q)  (K : Go p e below Ev T (mkF m q Ls (.int (x.toInt8.toInt32) :: st))) : Go p e below Ev T (mkF m pc Ls (.int x :: st)) := by
  subst hq
  exact K.on fun _ k => XS.i2b X.here hx rfl hd rfl k
theorem g_i2s (X : Stand p l e R s m args below meth c T locs cells slots) (hx : p.tables.exec = Jvm.exec) {pc : Nat} {Ls : Array Slot} {st : List Value} {x : Int32} (q : Nat) (hd : decode c.code pc = .ok (.i2s, 1)) (hq : pc + 1 = q)  (K : Go p e below Ev T (mkF m q Ls (.int (x.toInt16.toInt32) :: st))) : Go p e below Ev T (mkF m pc Ls (.int x :: st)) := by
  subst hq
  exact K.on fun _ k => XS.i2s X.here hx rfl hd rfl k
theorem g_i2c (X : Stand p l e R s m args below meth c T locs cells slots) (hx : p.tables.exec = Jvm.exec) {pc : Nat} {Ls : Array Slot} {st : List Value} {x : Int32} (q : Nat) (hd : decode c.code pc = .ok (.i2c, 1)) (hq : pc + 1 = q)  (K : Go p e below Ev T (mkF m q Ls (.int (x.toUInt32.toUInt16.toUInt32.toInt32) :: st))) : Go p e below Ev T (mkF m pc Ls (.int x :: st)) := by
  subst hq
  exact K.on fun _ k => XS.i2c X.here hx rfl hd rfl k
theorem g_lcmp (X : Stand p l e R s m args below meth c T locs cells slots) (hx : p.tables.exec = Jvm.exec) {pc : Nat} {Ls : Array Slot} {st : List Value} {x y : Int64} (q : Nat) (hd : decode c.code pc = .ok (.lcmp, 1)) (hq : pc + 1 = q)  (K : Go p e below Ev T (mkF m q Ls (.int (lcmpW x y) :: st))) : Go p e below Ev T (mkF m pc Ls (.long y :: .long x :: st)) := by
  subst hq
  exact K.on fun _ k => XS.lcmp X.here hx rfl hd rfl k
theorem g_i2d (X : Stand p l e R s m args below meth c T locs cells slots) (hx : p.tables.exec = Jvm.exec) {pc : Nat} {Ls : Array Slot} {st : List Value} {x : Int32} (q : Nat) (hd : decode c.code pc = .ok (.i2d, 1)) (hq : pc + 1 = q)  (K : Go p e below Ev T (mkF m q Ls (.double (FP.i2d x) :: st))) : Go p e below Ev T (mkF m pc Ls (.int x :: st)) := by
  subst hq
  exact K.on fun _ k => XS.i2dS X.here hx rfl hd rfl rfl k
theorem g_l2d (X : Stand p l e R s m args below meth c T locs cells slots) (hx : p.tables.exec = Jvm.exec) {pc : Nat} {Ls : Array Slot} {st : List Value} {x : Int64} (q : Nat) (hd : decode c.code pc = .ok (.l2d, 1)) (hq : pc + 1 = q)  (K : Go p e below Ev T (mkF m q Ls (.double (FP.l2d x) :: st))) : Go p e below Ev T (mkF m pc Ls (.long x :: st)) := by
  subst hq
  exact K.on fun _ k => XS.l2dS X.here hx rfl hd rfl rfl k
theorem g_dneg (X : Stand p l e R s m args below meth c T locs cells slots) (hx : p.tables.exec = Jvm.exec) {pc : Nat} {Ls : Array Slot} {st : List Value} {x : UInt64} (q : Nat) (hd : decode c.code pc = .ok (.dneg, 1)) (hq : pc + 1 = q)  (K : Go p e below Ev T (mkF m q Ls (.double (FP.dneg x) :: st))) : Go p e below Ev T (mkF m pc Ls (.double x :: st)) := by
  subst hq
  exact K.on fun _ k => XS.dnegS X.here hx rfl hd rfl rfl k
theorem g_dadd (X : Stand p l e R s m args below meth c T locs cells slots) (hx : p.tables.exec = Jvm.exec) {pc : Nat} {Ls : Array Slot} {st : List Value} {x y : UInt64} (q : Nat) (hd : decode c.code pc = .ok (.dadd, 1)) (hq : pc + 1 = q) (hn : Jvm.Free.Fl.NoNaN64 (FP.dadd x y)) (K : Go p e below Ev T (mkF m q Ls (.double (FP.dadd x y) :: st))) : Go p e below Ev T (mkF m pc Ls (.double y :: .double x :: st)) := by
  subst hq
  exact K.on fun _ k => XS.daddS X.here hx rfl hd rfl hn rfl k
theorem g_dsub (X : Stand p l e R s m args below meth c T locs cells slots) (hx : p.tables.exec = Jvm.exec) {pc : Nat} {Ls : Array Slot} {st : List Value} {x y : UInt64} (q : Nat) (hd : decode c.code pc = .ok (.dsub, 1)) (hq : pc + 1 = q) (hn : Jvm.Free.Fl.NoNaN64 (FP.dsub x y)) (K : Go p e below Ev T (mkF m q Ls (.double (FP.dsub x y) :: st))) : Go p e below Ev T (mkF m pc Ls (.double y :: .double x :: st)) := by
  subst hq
  exact K.on fun _ k => XS.dsubS X.here hx rfl hd rfl hn rfl k
theorem g_dmul (X : Stand p l e R s m args below meth c T locs cells slots) (hx : p.tables.exec = Jvm.exec) {pc : Nat} {Ls : Array Slot} {st : List Value} {x y : UInt64} (q : Nat) (hd : decode c.code pc = .ok (.dmul, 1)) (hq : pc + 1 = q) (hn : Jvm.Free.Fl.NoNaN64 (FP.dmul x y)) (K : Go p e below Ev T (mkF m q Ls (.double (FP.dmul x y) :: st))) : Go p e below Ev T (mkF m pc Ls (.double y :: .double x :: st)) := by
  subst hq
  exact K.on fun _ k => XS.dmulS X.here hx rfl hd rfl hn rfl k
theorem g_ddiv (X : Stand p l e R s m args below meth c T locs cells slots) (hx : p.tables.exec = Jvm.exec) {pc : Nat} {Ls : Array Slot} {st : List Value} {x y : UInt64} (q : Nat) (hd : decode c.code pc = .ok (.ddiv, 1)) (hq : pc + 1 = q) (hn : Jvm.Free.Fl.NoNaN64 (FP.ddiv x y)) (K : Go p e below Ev T (mkF m q Ls (.double (FP.ddiv x y) :: st))) : Go p e below Ev T (mkF m pc Ls (.double y :: .double x :: st)) := by
  subst hq
  exact K.on fun _ k => XS.ddivS X.here hx rfl hd rfl hn rfl k
theorem g_dcmp (X : Stand p l e R s m args below meth c T locs cells slots) (hx : p.tables.exec = Jvm.exec) {pc : Nat} {Ls : Array Slot} {st : List Value} {x y : UInt64} {o : CmpOp} {r : Int32} (q : Nat) (hd : decode c.code pc = .ok (.dcmp o, 1)) (hq : pc + 1 = q) (hr : cmpValue (FP.dcmp x y) o = r) (K : Go p e below Ev T (mkF m q Ls (.int r :: st))) : Go p e below Ev T (mkF m pc Ls (.double y :: .double x :: st)) := by
  subst hq
  exact K.on fun _ k => XS.dcmpS X.here hx rfl hd rfl hr k
theorem g_dup (X : Stand p l e R s m args below meth c T locs cells slots) (hx : p.tables.exec = Jvm.exec) {pc : Nat} {Ls : Array Slot} {st : List Value} {x : Value} (q : Nat) (hd : decode c.code pc = .ok (.dup, 1)) (hq : pc + 1 = q) (hc : x.category = 1) (K : Go p e below Ev T (mkF m q Ls (x :: x :: st))) : Go p e below Ev T (mkF m pc Ls (x :: st)) := by
  subst hq
  exact K.on fun _ k => XS.dup X.here hx rfl hd rfl hc k
theorem g_pop (X : Stand p l e R s m args below meth c T locs cells slots) (hx : p.tables.exec = Jvm.exec) {pc : Nat} {Ls : Array Slot} {st : List Value} {x : Value} (q : Nat) (hd : decode c.code pc = .ok (.pop, 1)) (hq : pc + 1 = q) (hc : x.category = 1) (K : Go p e below Ev T (mkF m q Ls st)) : Go p e below Ev T (mkF m pc Ls (x :: st)) := by
  subst hq
  exact K.on fun _ k => XS.pop X.here hx rfl hd rfl hc k
theorem g_dupX1 (X : Stand p l e R s m args below meth c T locs cells slots) (hx : p.tables.exec = Jvm.exec) {pc : Nat} {Ls : Array Slot} {st : List Value} {x y : Value} (q : Nat) (hd : decode c.code pc = .ok (.dup_x1, 1)) (hq : pc + 1 = q) (hc : x.category = 1) (hc' : y.category = 1) (K : Go p e below Ev T (mkF m q Ls (x :: y :: x :: st))) : Go p e below Ev T (mkF m pc Ls (x :: y :: st)) := by
  subst hq
  exact K.on fun _ k => XS.dupX1 X.here hx rfl hd rfl hc hc' k
theorem g_dup2 (X : Stand p l e R s m args below meth c T locs cells slots) (hx : p.tables.exec = Jvm.exec) {pc : Nat} {Ls : Array Slot} {st : List Value} {x y : Value} (q : Nat) (hd : decode c.code pc = .ok (.dup2, 1)) (hq : pc + 1 = q) (hc : x.category = 1) (hc' : y.category = 1) (K : Go p e below Ev T (mkF m q Ls (x :: y :: x :: y :: st))) : Go p e below Ev T (mkF m pc Ls (x :: y :: st)) := by
  subst hq
  exact K.on fun _ k => XT.dup2 X.here hx rfl hd rfl hc hc' k
theorem g_pop2 (X : Stand p l e R s m args below meth c T locs cells slots) (hx : p.tables.exec = Jvm.exec) {pc : Nat} {Ls : Array Slot} {st : List Value} {x : Value} (q : Nat) (hd : decode c.code pc = .ok (.pop2, 1)) (hq : pc + 1 = q) (hc : x.category = 2) (K : Go p e below Ev T (mkF m q Ls st)) : Go p e below Ev T (mkF m pc Ls (x :: st)) := by
  subst hq
  refine K.on fun t k => ?_
  jvm_step X.here [X.here.top, hx, hd, Op.pop2.wp_sem, hc]
  exact k
theorem g_ldcI (X : Stand p l e R s m args below meth c T locs cells slots) (hx : p.tables.exec = Jvm.exec) {pc : Nat} {Ls : Array Slot} {st : List Value} {own : String} {i : Nat} {v : Int32} (q : Nat) (hZ : Z.Warmed39 s.vm) (hown : s.vm.findClass own = some m.cls) (w : (Jvm.Cond.constant own i v).before a0 Z = true) (hd : decode c.code pc = .ok (.ldc i, 2)) (hq : pc + 2 = q) (K : Go p e below Ev T (mkF m q Ls (.int v :: st))) : Go p e below Ev T (mkF m pc Ls st) := by
  subst hq
  exact K.on fun _ k => X.ldcI hx hown (mvT hZ w) rfl hd k
theorem g_ldcWI (X : Stand p l e R s m args below meth c T locs cells slots) (hx : p.tables.exec = Jvm.exec) {pc : Nat} {Ls : Array Slot} {st : List Value} {own : String} {i : Nat} {v : Int32} (q : Nat) (hZ : Z.Warmed39 s.vm) (hown : s.vm.findClass own = some m.cls) (w : (Jvm.Cond.constant own i v).before a0 Z = true) (hd : decode c.code pc = .ok (.ldc_w i, 3)) (hq : pc + 3 = q) (K : Go p e below Ev T (mkF m q Ls (.int v :: st))) : Go p e below Ev T (mkF m pc Ls st) := by
  subst hq
  exact K.on fun _ k => X.ldcWI hx hown (mvT hZ w) rfl hd k
theorem g_ldc2J (X : Stand p l e R s m args below meth c T locs cells slots) (hx : p.tables.exec = Jvm.exec) {pc : Nat} {Ls : Array Slot} {st : List Value} {own : String} {i : Nat} {v : Int64} (q : Nat) (hZ : Z.Warmed39 s.vm) (hown : s.vm.findClass own = some m.cls) (w : (Jvm.Cond.constantLong own i v).before a0 Z = true) (hd : decode c.code pc = .ok (.ldc2_w i, 3)) (hq : pc + 3 = q) (K : Go p e below Ev T (mkF m q Ls (.long v :: st))) : Go p e below Ev T (mkF m pc Ls st) := by
  subst hq
  exact K.on fun _ k => X.ldc2J hx hown (mvT hZ w) rfl hd k
theorem g_ldc2D (X : Stand p l e R s m args below meth c T locs cells slots) (hx : p.tables.exec = Jvm.exec) {pc : Nat} {Ls : Array Slot} {st : List Value} {own : String} {i : Nat} {v : UInt64} (q : Nat) (hZ : Z.Warmed39 s.vm) (hown : s.vm.findClass own = some m.cls) (w : (Jvm.Cond.constantDouble own i v).before a0 Z = true) (hd : decode c.code pc = .ok (.ldc2_w i, 3)) (hq : pc + 3 = q) (K : Go p e below Ev T (mkF m q Ls (.double v :: st))) : Go p e below Ev T (mkF m pc Ls st) := by
  subst hq
  exact K.on (X.ldc2DoubleC hx hown (mvT hZ w) (g := mkF m pc Ls st) rfl hd)
theorem g_goto (X : Stand p l e R s m args below meth c T locs cells slots) (hx : p.tables.exec = Jvm.exec) {pc : Nat} {Ls : Array Slot} {st : List Value} {o : Int} (q : Nat) (hd : decode c.code pc = .ok (.goto o, 3)) (ho : 0 ≤ (pc : Int) + o) (hq : ((pc : Int) + o).toNat = q) (K : Go p e below Ev T (mkF m q Ls st)) : Go p e below Ev T (mkF m pc Ls st) :=
  K.on fun _ k => XS.goto X.here hx rfl rfl hd ho hq k
theorem own_i0 (x : Int32) : (x < 0 ↔ x.toInt < 0) ∧ (0 < x ↔ 0 < x.toInt) ∧ (x = 0 ↔ x.toInt = 0) := by
  refine ⟨by rw [Int32.lt_iff_toInt_lt]; simp, by rw [Int32.lt_iff_toInt_lt]; simp, ?_⟩
  rw [← Int32.toInt_inj]; simp
theorem g_if_eq (X : Stand p l e R s m args below meth c T locs cells slots) (hx : p.tables.exec = Jvm.exec) {pc : Nat} {Ls : Array Slot} {st : List Value} {x : Int32} {o : Int} (q1 q2 : Nat) (hd : decode c.code pc = .ok (.ifCond .eq o, 3)) (ho : 0 ≤ (pc : Int) + o) (h1 : ((pc : Int) + o).toNat = q1) (h2 : pc + 3 = q2) (Kt : x.toInt = 0 → Go p e below Ev T (mkF m q1 Ls st)) (Kf : x.toInt ≠ 0 → Go p e below Ev T (mkF m q2 Ls st)) : Go p e below Ev T (mkF m pc Ls (.int x :: st)) := by
  have Q := own_i0 x
  by_cases hc : x = 0
  · exact (Kt (by first | omega | (simp only [Q] at hc; omega))).on fun _ k => XS.ifYes X.here hx rfl rfl hd rfl (XT.i0_eq_t (by simpa using hc)) ho h1 k
  · subst h2
    exact (Kf (by first | omega | (simp only [Q] at hc; omega))).on fun _ k => XS.ifNo X.here hx rfl hd rfl (XT.i0_eq_f (by simpa using hc)) k
theorem g_if_ne (X : Stand p l e R s m args below meth c T locs cells slots) (hx : p.tables.exec = Jvm.exec) {pc : Nat} {Ls : Array Slot} {st : List Value} {x : Int32} {o : Int} (q1 q2 : Nat) (hd : decode c.code pc = .ok (.ifCond .ne o, 3)) (ho : 0 ≤ (pc : Int) + o) (h1 : ((pc : Int) + o).toNat = q1) (h2 : pc + 3 = q2) (Kt : x.toInt ≠ 0 → Go p e below Ev T (mkF m q1 Ls st)) (Kf : x.toInt = 0 → Go p e below Ev T (mkF m q2 Ls st)) : Go p e below Ev T (mkF m pc Ls (.int x :: st)) := by
  have Q := own_i0 x
  by_cases hc : ¬ x = 0
  · exact (Kt (by first | omega | (simp only [Q] at hc; omega))).on fun _ k => XS.ifYes X.here hx rfl rfl hd rfl (XT.i0_ne_t (by simpa using hc)) ho h1 k
  · subst h2
    exact (Kf (by first | omega | (simp only [Q] at hc; omega))).on fun _ k => XS.ifNo X.here hx rfl hd rfl (XT.i0_ne_f (by simpa using hc)) k
theorem g_if_lt (X : Stand p l e R s m args below meth c T locs cells slots) (hx : p.tables.exec = Jvm.exec) {pc : Nat} {Ls : Array Slot} {st : List Value} {x : Int32} {o : Int} (q1 q2 : Nat) (hd : decode c.code pc = .ok (.ifCond .lt o, 3)) (ho : 0 ≤ (pc : Int) + o) (h1 : ((pc : Int) + o).toNat = q1) (h2 : pc + 3 = q2) (Kt : x.toInt < 0 → Go p e below Ev T (mkF m q1 Ls st)) (Kf : 0 ≤ x.toInt → Go p e below Ev T (mkF m q2 Ls st)) : Go p e below Ev T (mkF m pc Ls (.int x :: st)) := by
  have Q := own_i0 x
  by_cases hc : x < 0
  · exact (Kt (by first | omega | (simp only [Q] at hc; omega))).on fun _ k => XS.ifYes X.here hx rfl rfl hd rfl (XT.i0_lt_t (by simpa using hc)) ho h1 k
  · subst h2
    exact (Kf (by first | omega | (simp only [Q] at hc; omega))).on fun _ k => XS.ifNo X.here hx rfl hd rfl (XT.i0_lt_f (by simpa using hc)) k
theorem g_if_ge (X : Stand p l e R s m args below meth c T locs cells slots) (hx : p.tables.exec = Jvm.exec) {pc : Nat} {Ls : Array Slot} {st : List Value} {x : Int32} {o : Int} (q1 q2 : Nat) (hd : decode c.code pc = .ok (.ifCond .ge o, 3)) (ho : 0 ≤ (pc : Int) + o) (h1 : ((pc : Int) + o).toNat = q1) (h2 : pc + 3 = q2) (Kt : 0 ≤ x.toInt → Go p e below Ev T (mkF m q1 Ls st)) (Kf : x.toInt < 0 → Go p e below Ev T (mkF m q2 Ls st)) : Go p e below Ev T (mkF m pc Ls (.int x :: st)) := by
  have Q := own_i0 x
  by_cases hc : ¬ x < 0
  · exact (Kt (by first | omega | (simp only [Q] at hc; omega))).on fun _ k => XS.ifYes X.here hx rfl rfl hd rfl (XT.i0_ge_t (by simpa using hc)) ho h1 k
  · subst h2
    exact (Kf (by first | omega | (simp only [Q] at hc; omega))).on fun _ k => XS.ifNo X.here hx rfl hd rfl (XT.i0_ge_f (by simpa using hc)) k
theorem g_if_gt (X : Stand p l e R s m args below meth c T locs cells slots) (hx : p.tables.exec = Jvm.exec) {pc : Nat} {Ls : Array Slot} {st : List Value} {x : Int32} {o : Int} (q1 q2 : Nat) (hd : decode c.code pc = .ok (.ifCond .gt o, 3)) (ho : 0 ≤ (pc : Int) + o) (h1 : ((pc : Int) + o).toNat = q1) (h2 : pc + 3 = q2) (Kt : 0 < x.toInt → Go p e below Ev T (mkF m q1 Ls st)) (Kf : x.toInt ≤ 0 → Go p e below Ev T (mkF m q2 Ls st)) : Go p e below Ev T (mkF m pc Ls (.int x :: st)) := by
  have Q := own_i0 x
  by_cases hc : 0 < x
  · exact (Kt (by first | omega | (simp only [Q] at hc; omega))).on fun _ k => XS.ifYes X.here hx rfl rfl hd rfl (XT.i0_gt_t (by simpa using hc)) ho h1 k
  · subst h2
    exact (Kf (by first | omega | (simp only [Q] at hc; omega))).on fun _ k => XS.ifNo X.here hx rfl hd rfl (XT.i0_gt_f (by simpa using hc)) k
theorem g_if_le (X : Stand p l e R s m args below meth c T locs cells slots) (hx : p.tables.exec = Jvm.exec) {pc : Nat} {Ls : Array Slot} {st : List Value} {x : Int32} {o : Int} (q1 q2 : Nat) (hd : decode c.code pc = .ok (.ifCond .le o, 3)) (ho : 0 ≤ (pc : Int) + o) (h1 : ((pc : Int) + o).toNat = q1) (h2 : pc + 3 = q2) (Kt : x.toInt ≤ 0 → Go p e below Ev T (mkF m q1 Ls st)) (Kf : 0 < x.toInt → Go p e below Ev T (mkF m q2 Ls st)) : Go p e below Ev T (mkF m pc Ls (.int x :: st)) := by
  have Q := own_i0 x
  by_cases hc : ¬ 0 < x
  · exact (Kt (by first | omega | (simp only [Q] at hc; omega))).on fun _ k => XS.ifYes X.here hx rfl rfl hd rfl (XT.i0_le_t (by simpa using hc)) ho h1 k
  · subst h2
    exact (Kf (by first | omega | (simp only [Q] at hc; omega))).on fun _ k => XS.ifNo X.here hx rfl hd rfl (XT.i0_le_f (by simpa using hc)) k
theorem own_ii (x y : Int32) : (x < y ↔ x.toInt < y.toInt) ∧ (y < x ↔ y.toInt < x.toInt) ∧ (x = y ↔ x.toInt = y.toInt) := by
  exact ⟨Int32.lt_iff_toInt_lt, Int32.lt_iff_toInt_lt, Int32.toInt_inj.symm⟩
theorem g_ic_eq (X : Stand p l e R s m args below meth c T locs cells slots) (hx : p.tables.exec = Jvm.exec) {pc : Nat} {Ls : Array Slot} {st : List Value} {x y : Int32} {o : Int} (q1 q2 : Nat) (hd : decode c.code pc = .ok (.if_icmp .eq o, 3)) (ho : 0 ≤ (pc : Int) + o) (h1 : ((pc : Int) + o).toNat = q1) (h2 : pc + 3 = q2) (Kt : x.toInt = y.toInt → Go p e below Ev T (mkF m q1 Ls st)) (Kf : x.toInt ≠ y.toInt → Go p e below Ev T (mkF m q2 Ls st)) : Go p e below Ev T (mkF m pc Ls (.int y :: .int x :: st)) := by
  have Q := own_ii x y
  by_cases hc : x = y
  · exact (Kt (by first | omega | (simp only [Q] at hc; omega))).on fun _ k => XS.icmpYes X.here hx rfl rfl hd rfl (XT.ii_eq_t (by simpa using hc)) ho h1 k
  · subst h2
    exact (Kf (by first | omega | (simp only [Q] at hc; omega))).on fun _ k => XS.icmpNo X.here hx rfl hd rfl (XT.ii_eq_f (by simpa using hc)) k
theorem g_ic_ne (X : Stand p l e R s m args below meth c T locs cells slots) (hx : p.tables.exec = Jvm.exec) {pc : Nat} {Ls : Array Slot} {st : List Value} {x y : Int32} {o : Int} (q1 q2 : Nat) (hd : decode c.code pc = .ok (.if_icmp .ne o, 3)) (ho : 0 ≤ (pc : Int) + o) (h1 : ((pc : Int) + o).toNat = q1) (h2 : pc + 3 = q2) (Kt : x.toInt ≠ y.toInt → Go p e below Ev T (mkF m q1 Ls st)) (Kf : x.toInt = y.toInt → Go p e below Ev T (mkF m q2 Ls st)) : Go p e below Ev T (mkF m pc Ls (.int y :: .int x :: st)) := by
  have Q := own_ii x y
  by_cases hc : ¬ x = y
  · exact (Kt (by first | omega | (simp only [Q] at hc; omega))).on fun _ k => XS.icmpYes X.here hx rfl rfl hd rfl (XT.ii_ne_t (by simpa using hc)) ho h1 k
  · subst h2
    exact (Kf (by first | omega | (simp only [Q] at hc; omega))).on fun _ k => XS.icmpNo X.here hx rfl hd rfl (XT.ii_ne_f (by simpa using hc)) k
theorem g_ic_lt (X : Stand p l e R s m args below meth c T locs cells slots) (hx : p.tables.exec = Jvm.exec) {pc : Nat} {Ls : Array Slot} {st : List Value} {x y : Int32} {o : Int} (q1 q2 : Nat) (hd : decode c.code pc = .ok (.if_icmp .lt o, 3)) (ho : 0 ≤ (pc : Int) + o) (h1 : ((pc : Int) + o).toNat = q1) (h2 : pc + 3 = q2) (Kt : x.toInt < y.toInt → Go p e below Ev T (mkF m q1 Ls st)) (Kf : y.toInt ≤ x.toInt → Go p e below Ev T (mkF m q2 Ls st)) : Go p e below Ev T (mkF m pc Ls (.int y :: .int x :: st)) := by
  have Q := own_ii x y
  by_cases hc : x < y
  · exact (Kt (by first | omega | (simp only [Q] at hc; omega))).on fun _ k => XS.icmpYes X.here hx rfl rfl hd rfl (XT.ii_lt_t (by simpa using hc)) ho h1 k
  · subst h2
    exact (Kf (by first | omega | (simp only [Q] at hc; omega))).on fun _ k => XS.icmpNo X.here hx rfl hd rfl (XT.ii_lt_f (by simpa using hc)) k
theorem g_ic_ge (X : Stand p l e R s m args below meth c T locs cells slots) (hx : p.tables.exec = Jvm.exec) {pc : Nat} {Ls : Array Slot} {st : List Value} {x y : Int32} {o : Int} (q1 q2 : Nat) (hd : decode c.code pc = .ok (.if_icmp .ge o, 3)) (ho : 0 ≤ (pc : Int) + o) (h1 : ((pc : Int) + o).toNat = q1) (h2 : pc + 3 = q2) (Kt : y.toInt ≤ x.toInt → Go p e below Ev T (mkF m q1 Ls st)) (Kf : x.toInt < y.toInt → Go p e below Ev T (mkF m q2 Ls st)) : Go p e below Ev T (mkF m pc Ls (.int y :: .int x :: st)) := by
  have Q := own_ii x y
  by_cases hc : ¬ x < y
  · exact (Kt (by first | omega | (simp only [Q] at hc; omega))).on fun _ k => XS.icmpYes X.here hx rfl rfl hd rfl (XT.ii_ge_t (by simpa using hc)) ho h1 k
  · subst h2
    exact (Kf (by first | omega | (simp only [Q] at hc; omega))).on fun _ k => XS.icmpNo X.here hx rfl hd rfl (XT.ii_ge_f (by simpa using hc)) k
theorem g_ic_gt (X : Stand p l e R s m args below meth c T locs cells slots) (hx : p.tables.exec = Jvm.exec) {pc : Nat} {Ls : Array Slot} {st : List Value} {x y : Int32} {o : Int} (q1 q2 : Nat) (hd : decode c.code pc = .ok (.if_icmp .gt o, 3)) (ho : 0 ≤ (pc : Int) + o) (h1 : ((pc : Int) + o).toNat = q1) (h2 : pc + 3 = q2) (Kt : y.toInt < x.toInt → Go p e below Ev T (mkF m q1 Ls st)) (Kf : x.toInt ≤ y.toInt → Go p e below Ev T (mkF m q2 Ls st)) : Go p e below Ev T (mkF m pc Ls (.int y :: .int x :: st)) := by
  have Q := own_ii x y
  by_cases hc : y < x
  · exact (Kt (by first | omega | (simp only [Q] at hc; omega))).on fun _ k => XS.icmpYes X.here hx rfl rfl hd rfl (XT.ii_gt_t (by simpa using hc)) ho h1 k
  · subst h2
    exact (Kf (by first | omega | (simp only [Q] at hc; omega))).on fun _ k => XS.icmpNo X.here hx rfl hd rfl (XT.ii_gt_f (by simpa using hc)) k
theorem g_ic_le (X : Stand p l e R s m args below meth c T locs cells slots) (hx : p.tables.exec = Jvm.exec) {pc : Nat} {Ls : Array Slot} {st : List Value} {x y : Int32} {o : Int} (q1 q2 : Nat) (hd : decode c.code pc = .ok (.if_icmp .le o, 3)) (ho : 0 ≤ (pc : Int) + o) (h1 : ((pc : Int) + o).toNat = q1) (h2 : pc + 3 = q2) (Kt : x.toInt ≤ y.toInt → Go p e below Ev T (mkF m q1 Ls st)) (Kf : y.toInt < x.toInt → Go p e below Ev T (mkF m q2 Ls st)) : Go p e below Ev T (mkF m pc Ls (.int y :: .int x :: st)) := by
  have Q := own_ii x y
  by_cases hc : ¬ y < x
  · exact (Kt (by first | omega | (simp only [Q] at hc; omega))).on fun _ k => XS.icmpYes X.here hx rfl rfl hd rfl (XT.ii_le_t (by simpa using hc)) ho h1 k
  · subst h2
    exact (Kf (by first | omega | (simp only [Q] at hc; omega))).on fun _ k => XS.icmpNo X.here hx rfl hd rfl (XT.ii_le_f (by simpa using hc)) k
theorem g_lc_eq (X : Stand p l e R s m args below meth c T locs cells slots) (hx : p.tables.exec = Jvm.exec) {pc : Nat} {Ls : Array Slot} {st : List Value} {x y : Int64} {o : Int} (q0 q1 q2 : Nat) (hd0 : decode c.code pc = .ok (.lcmp, 1)) (h0 : pc + 1 = q0) (hd : decode c.code q0 = .ok (.ifCond .eq o, 3)) (ho : 0 ≤ (q0 : Int) + o) (h1 : ((q0 : Int) + o).toNat = q1) (h2 : q0 + 3 = q2) (Kt : x.toInt = y.toInt → Go p e below Ev T (mkF m q1 Ls st)) (Kf : x.toInt ≠ y.toInt → Go p e below Ev T (mkF m q2 Ls st)) : Go p e below Ev T (mkF m pc Ls (.long y :: .long x :: st)) := by
  have Q := c_lcmp x y
  have C : x.toInt < y.toInt ∨ x.toInt = y.toInt ∨ y.toInt < x.toInt := by omega
  refine g_lcmp X hx q0 hd0 h0 (g_if_eq X hx q1 q2 hd ho h1 h2 (fun hc => Kt ?_) (fun hc => Kf ?_)) <;> (rcases C with C | C | C <;> first | (have := Q.1 C; omega) | (have := Q.2.1 C; omega) | (have := Q.2.2 C; omega))
theorem g_lc_ne (X : Stand p l e R s m args below meth c T locs cells slots) (hx : p.tables.exec = Jvm.exec) {pc : Nat} {Ls : Array Slot} {st : List Value} {x y : Int64} {o : Int} (q0 q1 q2 : Nat) (hd0 : decode c.code pc = .ok (.lcmp, 1)) (h0 : pc + 1 = q0) (hd : decode c.code q0 = .ok (.ifCond .ne o, 3)) (ho : 0 ≤ (q0 : Int) + o) (h1 : ((q0 : Int) + o).toNat = q1) (h2 : q0 + 3 = q2) (Kt : x.toInt ≠ y.toInt → Go p e below Ev T (mkF m q1 Ls st)) (Kf : x.toInt = y.toInt → Go p e below Ev T (mkF m q2 Ls st)) : Go p e below Ev T (mkF m pc Ls (.long y :: .long x :: st)) := by
  have Q := c_lcmp x y
  have C : x.toInt < y.toInt ∨ x.toInt = y.toInt ∨ y.toInt < x.toInt := by omega
  refine g_lcmp X hx q0 hd0 h0 (g_if_ne X hx q1 q2 hd ho h1 h2 (fun hc => Kt ?_) (fun hc => Kf ?_)) <;> (rcases C with C | C | C <;> first | (have := Q.1 C; omega) | (have := Q.2.1 C; omega) | (have := Q.2.2 C; omega))
theorem g_lc_lt (X : Stand p l e R s m args below meth c T locs cells slots) (hx : p.tables.exec = Jvm.exec) {pc : Nat} {Ls : Array Slot} {st : List Value} {x y : Int64} {o : Int} (q0 q1 q2 : Nat) (hd0 : decode c.code pc = .ok (.lcmp, 1)) (h0 : pc + 1 = q0) (hd : decode c.code q0 = .ok (.ifCond .lt o, 3)) (ho : 0 ≤ (q0 : Int) + o) (h1 : ((q0 : Int) + o).toNat = q1) (h2 : q0 + 3 = q2) (Kt : x.toInt < y.toInt → Go p e below Ev T (mkF m q1 Ls st)) (Kf : y.toInt ≤ x.toInt → Go p e below Ev T (mkF m q2 Ls st)) : Go p e below Ev T (mkF m pc Ls (.long y :: .long x :: st)) := by
  have Q := c_lcmp x y
  have C : x.toInt < y.toInt ∨ x.toInt = y.toInt ∨ y.toInt < x.toInt := by omega
  refine g_lcmp X hx q0 hd0 h0 (g_if_lt X hx q1 q2 hd ho h1 h2 (fun hc => Kt ?_) (fun hc => Kf ?_)) <;> (rcases C with C | C | C <;> first | (have := Q.1 C; omega) | (have := Q.2.1 C; omega) | (have := Q.2.2 C; omega))
theorem g_lc_ge (X : Stand p l e R s m args below meth c T locs cells slots) (hx : p.tables.exec = Jvm.exec) {pc : Nat} {Ls : Array Slot} {st : List Value} {x y : Int64} {o : Int} (q0 q1 q2 : Nat) (hd0 : decode c.code pc = .ok (.lcmp, 1)) (h0 : pc + 1 = q0) (hd : decode c.code q0 = .ok (.ifCond .ge o, 3)) (ho : 0 ≤ (q0 : Int) + o) (h1 : ((q0 : Int) + o).toNat = q1) (h2 : q0 + 3 = q2) (Kt : y.toInt ≤ x.toInt → Go p e below Ev T (mkF m q1 Ls st)) (Kf : x.toInt < y.toInt → Go p e below Ev T (mkF m q2 Ls st)) : Go p e below Ev T (mkF m pc Ls (.long y :: .long x :: st)) := by
  have Q := c_lcmp x y
  have C : x.toInt < y.toInt ∨ x.toInt = y.toInt ∨ y.toInt < x.toInt := by omega
  refine g_lcmp X hx q0 hd0 h0 (g_if_ge X hx q1 q2 hd ho h1 h2 (fun hc => Kt ?_) (fun hc => Kf ?_)) <;> (rcases C with C | C | C <;> first | (have := Q.1 C; omega) | (have := Q.2.1 C; omega) | (have := Q.2.2 C; omega))
theorem g_lc_gt (X : Stand p l e R s m args below meth c T locs cells slots) (hx : p.tables.exec = Jvm.exec) {pc : Nat} {Ls : Array Slot} {st : List Value} {x y : Int64} {o : Int} (q0 q1 q2 : Nat) (hd0 : decode c.code pc = .ok (.lcmp, 1)) (h0 : pc + 1 = q0) (hd : decode c.code q0 = .ok (.ifCond .gt o, 3)) (ho : 0 ≤ (q0 : Int) + o) (h1 : ((q0 : Int) + o).toNat = q1) (h2 : q0 + 3 = q2) (Kt : y.toInt < x.toInt → Go p e below Ev T (mkF m q1 Ls st)) (Kf : x.toInt ≤ y.toInt → Go p e below Ev T (mkF m q2 Ls st)) : Go p e below Ev T (mkF m pc Ls (.long y :: .long x :: st)) := by
  have Q := c_lcmp x y
  have C : x.toInt < y.toInt ∨ x.toInt = y.toInt ∨ y.toInt < x.toInt := by omega
  refine g_lcmp X hx q0 hd0 h0 (g_if_gt X hx q1 q2 hd ho h1 h2 (fun hc => Kt ?_) (fun hc => Kf ?_)) <;> (rcases C with C | C | C <;> first | (have := Q.1 C; omega) | (have := Q.2.1 C; omega) | (have := Q.2.2 C; omega))
theorem g_lc_le (X : Stand p l e R s m args below meth c T locs cells slots) (hx : p.tables.exec = Jvm.exec) {pc : Nat} {Ls : Array Slot} {st : List Value} {x y : Int64} {o : Int} (q0 q1 q2 : Nat) (hd0 : decode c.code pc = .ok (.lcmp, 1)) (h0 : pc + 1 = q0) (hd : decode c.code q0 = .ok (.ifCond .le o, 3)) (ho : 0 ≤ (q0 : Int) + o) (h1 : ((q0 : Int) + o).toNat = q1) (h2 : q0 + 3 = q2) (Kt : x.toInt ≤ y.toInt → Go p e below Ev T (mkF m q1 Ls st)) (Kf : y.toInt < x.toInt → Go p e below Ev T (mkF m q2 Ls st)) : Go p e below Ev T (mkF m pc Ls (.long y :: .long x :: st)) := by
  have Q := c_lcmp x y
  have C : x.toInt < y.toInt ∨ x.toInt = y.toInt ∨ y.toInt < x.toInt := by omega
  refine g_lcmp X hx q0 hd0 h0 (g_if_le X hx q1 q2 hd ho h1 h2 (fun hc => Kt ?_) (fun hc => Kf ?_)) <;> (rcases C with C | C | C <;> first | (have := Q.1 C; omega) | (have := Q.2.1 C; omega) | (have := Q.2.2 C; omega))
theorem own_cmpv (i j : Int) (o : CmpOp) : (i < j → (cmpValue (some (compare i j)) o).toInt = -1) ∧ (i = j → (cmpValue (some (compare i j)) o).toInt = 0) ∧ (j < i → (cmpValue (some (compare i j)) o).toInt = 1) := by
  refine ⟨fun q => ?_, fun q => ?_, fun q => ?_⟩
  · rw [show compare i j = .lt from by rw [Jvm.FP.Core.compare_ite]; simp [q]]; cases o <;> rfl
  · rw [show compare i j = .eq from by rw [Jvm.FP.Core.compare_ite]; simp [q]]; cases o <;> rfl
  · rw [show compare i j = .gt from by rw [Jvm.FP.Core.compare_ite]; simp [show ¬ i < j by omega, show ¬ i = j by omega]]; cases o <;> rfl
theorem g_dc_eq (X : Stand p l e R s m args below meth c T locs cells slots) (hx : p.tables.exec = Jvm.exec) {pc : Nat} {Ls : Array Slot} {st : List Value} {x y : UInt64} {oo : CmpOp} {i j : Int} {o : Int} (q0 q1 q2 : Nat) (hd0 : decode c.code pc = .ok (.dcmp oo, 1)) (h0 : pc + 1 = q0) (hd : decode c.code q0 = .ok (.ifCond .eq o, 3)) (ho : 0 ≤ (q0 : Int) + o) (h1 : ((q0 : Int) + o).toNat = q1) (h2 : q0 + 3 = q2) (hv : FP.dcmp x y = some (compare i j)) (Kt : i = j → Go p e below Ev T (mkF m q1 Ls st)) (Kf : i ≠ j → Go p e below Ev T (mkF m q2 Ls st)) : Go p e below Ev T (mkF m pc Ls (.double y :: .double x :: st)) := by
  have Q := own_cmpv i j oo
  have C : i < j ∨ i = j ∨ j < i := by omega
  refine g_dcmp X hx q0 hd0 h0 (by rw [hv]) (g_if_eq X hx q1 q2 hd ho h1 h2 (fun hc => Kt ?_) (fun hc => Kf ?_)) <;> (rcases C with C | C | C <;> first | (have := Q.1 C; omega) | (have := Q.2.1 C; omega) | (have := Q.2.2 C; omega))
theorem g_dc_ne (X : Stand p l e R s m args below meth c T locs cells slots) (hx : p.tables.exec = Jvm.exec) {pc : Nat} {Ls : Array Slot} {st : List Value} {x y : UInt64} {oo : CmpOp} {i j : Int} {o : Int} (q0 q1 q2 : Nat) (hd0 : decode c.code pc = .ok (.dcmp oo, 1)) (h0 : pc + 1 = q0) (hd : decode c.code q0 = .ok (.ifCond .ne o, 3)) (ho : 0 ≤ (q0 : Int) + o) (h1 : ((q0 : Int) + o).toNat = q1) (h2 : q0 + 3 = q2) (hv : FP.dcmp x y = some (compare i j)) (Kt : i ≠ j → Go p e below Ev T (mkF m q1 Ls st)) (Kf : i = j → Go p e below Ev T (mkF m q2 Ls st)) : Go p e below Ev T (mkF m pc Ls (.double y :: .double x :: st)) := by
  have Q := own_cmpv i j oo
  have C : i < j ∨ i = j ∨ j < i := by omega
  refine g_dcmp X hx q0 hd0 h0 (by rw [hv]) (g_if_ne X hx q1 q2 hd ho h1 h2 (fun hc => Kt ?_) (fun hc => Kf ?_)) <;> (rcases C with C | C | C <;> first | (have := Q.1 C; omega) | (have := Q.2.1 C; omega) | (have := Q.2.2 C; omega))
theorem g_dc_lt (X : Stand p l e R s m args below meth c T locs cells slots) (hx : p.tables.exec = Jvm.exec) {pc : Nat} {Ls : Array Slot} {st : List Value} {x y : UInt64} {oo : CmpOp} {i j : Int} {o : Int} (q0 q1 q2 : Nat) (hd0 : decode c.code pc = .ok (.dcmp oo, 1)) (h0 : pc + 1 = q0) (hd : decode c.code q0 = .ok (.ifCond .lt o, 3)) (ho : 0 ≤ (q0 : Int) + o) (h1 : ((q0 : Int) + o).toNat = q1) (h2 : q0 + 3 = q2) (hv : FP.dcmp x y = some (compare i j)) (Kt : i < j → Go p e below Ev T (mkF m q1 Ls st)) (Kf : j ≤ i → Go p e below Ev T (mkF m q2 Ls st)) : Go p e below Ev T (mkF m pc Ls (.double y :: .double x :: st)) := by
  have Q := own_cmpv i j oo
  have C : i < j ∨ i = j ∨ j < i := by omega
  refine g_dcmp X hx q0 hd0 h0 (by rw [hv]) (g_if_lt X hx q1 q2 hd ho h1 h2 (fun hc => Kt ?_) (fun hc => Kf ?_)) <;> (rcases C with C | C | C <;> first | (have := Q.1 C; omega) | (have := Q.2.1 C; omega) | (have := Q.2.2 C; omega))
theorem g_dc_ge (X : Stand p l e R s m args below meth c T locs cells slots) (hx : p.tables.exec = Jvm.exec) {pc : Nat} {Ls : Array Slot} {st : List Value} {x y : UInt64} {oo : CmpOp} {i j : Int} {o : Int} (q0 q1 q2 : Nat) (hd0 : decode c.code pc = .ok (.dcmp oo, 1)) (h0 : pc + 1 = q0) (hd : decode c.code q0 = .ok (.ifCond .ge o, 3)) (ho : 0 ≤ (q0 : Int) + o) (h1 : ((q0 : Int) + o).toNat = q1) (h2 : q0 + 3 = q2) (hv : FP.dcmp x y = some (compare i j)) (Kt : j ≤ i → Go p e below Ev T (mkF m q1 Ls st)) (Kf : i < j → Go p e below Ev T (mkF m q2 Ls st)) : Go p e below Ev T (mkF m pc Ls (.double y :: .double x :: st)) := by
  have Q := own_cmpv i j oo
  have C : i < j ∨ i = j ∨ j < i := by omega
  refine g_dcmp X hx q0 hd0 h0 (by rw [hv]) (g_if_ge X hx q1 q2 hd ho h1 h2 (fun hc => Kt ?_) (fun hc => Kf ?_)) <;> (rcases C with C | C | C <;> first | (have := Q.1 C; omega) | (have := Q.2.1 C; omega) | (have := Q.2.2 C; omega))
theorem g_dc_gt (X : Stand p l e R s m args below meth c T locs cells slots) (hx : p.tables.exec = Jvm.exec) {pc : Nat} {Ls : Array Slot} {st : List Value} {x y : UInt64} {oo : CmpOp} {i j : Int} {o : Int} (q0 q1 q2 : Nat) (hd0 : decode c.code pc = .ok (.dcmp oo, 1)) (h0 : pc + 1 = q0) (hd : decode c.code q0 = .ok (.ifCond .gt o, 3)) (ho : 0 ≤ (q0 : Int) + o) (h1 : ((q0 : Int) + o).toNat = q1) (h2 : q0 + 3 = q2) (hv : FP.dcmp x y = some (compare i j)) (Kt : j < i → Go p e below Ev T (mkF m q1 Ls st)) (Kf : i ≤ j → Go p e below Ev T (mkF m q2 Ls st)) : Go p e below Ev T (mkF m pc Ls (.double y :: .double x :: st)) := by
  have Q := own_cmpv i j oo
  have C : i < j ∨ i = j ∨ j < i := by omega
  refine g_dcmp X hx q0 hd0 h0 (by rw [hv]) (g_if_gt X hx q1 q2 hd ho h1 h2 (fun hc => Kt ?_) (fun hc => Kf ?_)) <;> (rcases C with C | C | C <;> first | (have := Q.1 C; omega) | (have := Q.2.1 C; omega) | (have := Q.2.2 C; omega))
theorem g_dc_le (X : Stand p l e R s m args below meth c T locs cells slots) (hx : p.tables.exec = Jvm.exec) {pc : Nat} {Ls : Array Slot} {st : List Value} {x y : UInt64} {oo : CmpOp} {i j : Int} {o : Int} (q0 q1 q2 : Nat) (hd0 : decode c.code pc = .ok (.dcmp oo, 1)) (h0 : pc + 1 = q0) (hd : decode c.code q0 = .ok (.ifCond .le o, 3)) (ho : 0 ≤ (q0 : Int) + o) (h1 : ((q0 : Int) + o).toNat = q1) (h2 : q0 + 3 = q2) (hv : FP.dcmp x y = some (compare i j)) (Kt : i ≤ j → Go p e below Ev T (mkF m q1 Ls st)) (Kf : j < i → Go p e below Ev T (mkF m q2 Ls st)) : Go p e below Ev T (mkF m pc Ls (.double y :: .double x :: st)) := by
  have Q := own_cmpv i j oo
  have C : i < j ∨ i = j ∨ j < i := by omega
  refine g_dcmp X hx q0 hd0 h0 (by rw [hv]) (g_if_le X hx q1 q2 hd ho h1 h2 (fun hc => Kt ?_) (fun hc => Kf ?_)) <;> (rcases C with C | C | C <;> first | (have := Q.1 C; omega) | (have := Q.2.1 C; omega) | (have := Q.2.2 C; omega))
theorem g_ifnull_t (X : Stand p l e R s m args below meth c T locs cells slots) (hx : p.tables.exec = Jvm.exec) {pc : Nat} {Ls : Array Slot} {st : List Value} {o : Int} (q : Nat) (hd : decode c.code pc = .ok (.ifnull o, 3)) (ho : 0 ≤ (pc : Int) + o) (h1 : ((pc : Int) + o).toNat = q) (K : Go p e below Ev T (mkF m q Ls st)) : Go p e below Ev T (mkF m pc Ls (.null :: st)) :=
  K.on fun _ k => XS.ifnullYes X.here hx rfl rfl hd rfl ho h1 k
theorem g_ifnull_f (X : Stand p l e R s m args below meth c T locs cells slots) (hx : p.tables.exec = Jvm.exec) {pc : Nat} {Ls : Array Slot} {st : List Value} {o : Int} {b : Addr} (q : Nat) (hd : decode c.code pc = .ok (.ifnull o, 3)) (h1 : pc + 3 = q) (K : Go p e below Ev T (mkF m q Ls st)) : Go p e below Ev T (mkF m pc Ls (.ref b :: st)) := by
  subst h1
  exact K.on fun _ k => XS.ifnullNo X.here hx rfl hd rfl k
theorem g_ifnonnull_t (X : Stand p l e R s m args below meth c T locs cells slots) (hx : p.tables.exec = Jvm.exec) {pc : Nat} {Ls : Array Slot} {st : List Value} {o : Int} {b : Addr} (q : Nat) (hd : decode c.code pc = .ok (.ifnonnull o, 3)) (ho : 0 ≤ (pc : Int) + o) (h1 : ((pc : Int) + o).toNat = q) (K : Go p e below Ev T (mkF m q Ls st)) : Go p e below Ev T (mkF m pc Ls (.ref b :: st)) :=
  K.on fun _ k => XS.ifnonnullYes X.here hx rfl rfl hd rfl ho h1 k
theorem g_ifnonnull_f (X : Stand p l e R s m args below meth c T locs cells slots) (hx : p.tables.exec = Jvm.exec) {pc : Nat} {Ls : Array Slot} {st : List Value} {o : Int} (q : Nat) (hd : decode c.code pc = .ok (.ifnonnull o, 3)) (h1 : pc + 3 = q) (K : Go p e below Ev T (mkF m q Ls st)) : Go p e below Ev T (mkF m pc Ls (.null :: st)) := by
  subst h1
  exact K.on fun _ k => XS.ifnonnullNo X.here hx rfl hd rfl k
theorem g_new (X : Stand p l e R s m args below meth c T locs cells slots) (hx : p.tables.exec = Jvm.exec) {pc : Nat} {Ls : Array Slot} {st : List Value} (hZ : Z.Warmed39 s.vm) {own C : String} {i n : Nat} (hown : s.vm.findClass own = some m.cls) (w : (Jvm.Cond.classLink own i C).before a0 Z = true) (wi : (Jvm.Cond.instantiable C n).before a0 Z = true) (wz : (Jvm.Cond.initialized C).before a0 Z = true) (eT : T.heap = h) (q : Nat) (hd : decode c.code pc = .ok (.new i, 3)) (hq : pc + 3 = q) (hc : cells + 1 ≤ R.cells) (hl : slots + n ≤ R.slots)
    (K : ∀ (T' : State) (h' : Heap) (a : Addr), a = h.size → Stand p l e R s m args below meth c T' locs (cells + 1) (slots + n) → T'.heap = h' → Ext h h' → Exa Z h' a C → (∀ {O nm d : String} {ty : FieldType}, Laid Z a0 C O nm d → parseFieldDescriptor d = some ty → Fld Z h' a O nm d (defaultValue ty)) → Go p e below Ev T' (mkF m q Ls (.ref a :: st))) : Go p e below Ev T (mkF m pc Ls st) := by
  subst hq
  obtain ⟨T', h', X', e', E', A', D', -, st'⟩ := newO X hx hZ hown w wi wz eT (g := mkF m pc Ls st) rfl hd hc hl
  exact (K T' h' _ rfl X' e' E' A' D').on st'
theorem g_getF (X : Stand p l e R s m args below meth c T locs cells slots) (hx : p.tables.exec = Jvm.exec) {pc : Nat} {Ls : Array Slot} {st : List Value} (hZ : Z.Warmed39 s.vm) {own R0 O n d : String} {i : Nat} (hown : s.vm.findClass own = some m.cls) (w : (Jvm.Cond.fieldLink own i R0 n d).before a0 Z = true) (via : Via Z R0 O n d) (eT : T.heap = h) {a : Addr} {v : Value} (F : Fld Z h a O n d v) (q : Nat) (hd : decode c.code pc = .ok (.getfield i, 3)) (hq : pc + 3 = q) (K : ∀ T', Stand p l e R s m args below meth c T' locs cells slots → T'.heap = h → Go p e below Ev T' (mkF m q Ls (v :: st))) : Go p e below Ev T (mkF m pc Ls (.ref a :: st)) := by
  subst hq
  obtain ⟨T', X', e', st'⟩ := getF X hx hZ hown (host := "") (Or.inl w) via eT F (g := mkF m pc Ls (.ref a :: st)) rfl rfl hd
  exact (K T' X' e').on st'
theorem g_putF (X : Stand p l e R s m args below meth c T locs cells slots) (hx : p.tables.exec = Jvm.exec) {pc : Nat} {Ls : Array Slot} {st : List Value} (hZ : Z.Warmed39 s.vm) {own R0 O n d C : String} {i kk : Nat} {ty : FieldType} (hown : s.vm.findClass own = some m.cls) (w : (Jvm.Cond.fieldLink own i R0 n d).before a0 Z = true) (via : Via Z R0 O n d) (eT : T.heap = h) {a : Addr} {v old : Value} (F : Fld Z h a O n d old) (E : Exa Z h a C) (L : (Jvm.Cond.lays C O n d).before a0 Z = true ∨ ((Jvm.Cond.laysFinal C O n d).before a0 Z = true ∧ own = O ∧ meth.name = "<init>")) (wi : (Jvm.Cond.instantiable C kk).before a0 Z = true) (hty : parseFieldDescriptor d = some ty) (hn : narrow ty v = v) (hf : fits ty v = true) (q : Nat) (hd : decode c.code pc = .ok (.putfield i, 3)) (hq : pc + 3 = q)
    (K : ∀ T' h', Stand p l e R s m args below meth c T' (locs ++ [⟨a, Jvm.RoadKit.slotOf Z O n d⟩]) cells slots → T'.heap = h' → Wr h h' a (Jvm.RoadKit.slotOf Z O n d) v → Go p e below Ev T' (mkF m q Ls st)) : Go p e below Ev T (mkF m pc Ls (v :: .ref a :: st)) := by
  subst hq
  obtain ⟨T', h', X', e', W', st'⟩ := putF X hx hZ hown (host := "") (Or.inl w) via eT F E L wi hty hn hf (g := mkF m pc Ls (v :: .ref a :: st)) rfl rfl hd
  exact (K T' h' X' e' W').on st'
theorem g_objinit (X : Stand p l e R s m args below meth c T locs cells slots) (hx : p.tables.exec = Jvm.exec) {pc : Nat} {Ls : Array Slot} {st : List Value} (hZ : Z.Warmed39 s.vm) {own : String} {i : Nat} (hown : s.vm.findClass own = some m.cls) (w1 : (Jvm.Cond.methodLink own i ⟨"java/lang/Object", "<init>", "()V"⟩).before a0 Z = true) (w2 : (Jvm.Cond.instanceMethod ⟨"java/lang/Object", "<init>", "()V"⟩).before a0 Z = true) (w3 : (Jvm.Cond.code ⟨"java/lang/Object", "<init>", "()V"⟩ object_method_1_code 1 none).before a0 Z = true) (eT : T.heap = h) {a : Addr} (W : Nat) (q : Nat) (hd : decode c.code pc = .ok (.invokespecial i, 3)) (hq : pc + 3 = q) (hsz : Ls.size = c.maxLocals) (hf : 1 ≤ R.frames) (hW : (st.map fun v => v.category).sum ≤ W) (hl : W + 12 ≤ R.locals) (K : ∀ T', Stand p l e R s m args below meth c T' locs cells slots → T'.heap = h → Go p e below Ev T' (mkF m q Ls st)) : Go p e below Ev T (mkF m pc Ls (.ref a :: st)) := by
  subst hq
  obtain ⟨T', X', e', st'⟩ := initO X hx hZ hown w1 w2 w3 eT (g := mkF m pc Ls (.ref a :: st)) rfl hsz rfl hd hf (W := W) (by show 2 * 0 + _ ≤ _; omega) hl
  exact (K T' X' e').on st'
theorem g_static (X : Stand p l e R s m args below meth c T locs cells slots) (hx : p.tables.exec = Jvm.exec) {pc : Nat} {Ls : Array Slot} {st : List Value} (hZ : Z.Warmed39 s.vm) {own : String} {i : Nat} {y : MethodName} {bytes : ByteArray} {maxL : Nat} {ret : Option FieldType} {rm : Room} {as' : Array Value} {Q : Option Value → Heap → List Loc → Prop} {argsL rest : List Value} (hown : s.vm.findClass own = some m.cls) (w1 : (Jvm.Cond.methodLink own i y).before a0 Z = true) (w2 : (Jvm.Cond.static y).before a0 Z = true) (w3 : (Jvm.Cond.initialized y.cls).before a0 Z = true) (w4 : (Jvm.Cond.code y bytes maxL ret).before a0 Z = true) (hy : y.cls ≠ "java/lang/invoke/MethodHandle" ∧ y.cls ≠ "java/lang/invoke/VarHandle") (hM : MetFree l y (head1 [Jvm.Cond.code y bytes maxL ret] rm) (fun a U => a = as' ∧ Z.Warmed39 U.vm ∧ U.heap = h) (fun _ _ _ _ _ => True) (fun _ U o U' => ∃ v L, o = .returned v ∧ Q v U'.heap L ∧ FrameEnd U o U' L rm.cells rm.slots)) (eT : T.heap = h) (hst : st = argsL.reverse ++ rest) (has : argsL.toArray = as') (W : Nat) (q : Nat) (hq : pc + 3 = q) (hsz : Ls.size = c.maxLocals) (hlen : ∀ sig, parseMethodDescriptor y.desc = some sig → argsL.length = sig.parameters.length) (hW : (rest.map fun v => v.category).sum ≤ W) (hf : rm.frames + 1 ≤ R.frames) (hl : W + (maxL + 11) + rm.locals ≤ R.locals) (hc : cells + rm.cells ≤ R.cells) (hs : slots + rm.slots ≤ R.slots) (hd : decode c.code pc = .ok (.invokestatic i, 3))
    (K : ∀ (v : Option Value) (T' : State) (L : List Loc), Stand p l e R s m args below meth c T' (locs ++ L) (cells + rm.cells) (slots + rm.slots) → Q v T'.heap L → Go p e below Ev T' (mkF m q Ls (v.toList ++ rest))) : Go p e below Ev T (mkF m pc Ls st) := by
  subst hq hst
  obtain ⟨v, vm1, ⟨T', L', k', n'⟩, -, X', ⟨L, hQ, l', y', z'⟩, st'⟩ := Jvm.LawKit.callS X hx hown (mvT hZ w1) (mvT hZ w2) (mvT hZ w3) (mvT hZ w4) hy (backOf (W := W) hM hZ w4 w3 hf hl) (g := mkF m pc Ls (argsL.reverse ++ rest)) rfl hsz (argsL := argsL) (rest := rest) hlen rfl (by show 2 * 0 + _ ≤ _; omega) hd (fun _ _ => ⟨has, eT, hc, hs⟩)
  dsimp only [Pt.U, Pt.locs, Pt.cells, Pt.slots] at X' l' y' z' st' hQ
  subst l' y' z'
  exact (K v T' L X' hQ).on fun t k => st' t k
theorem g_init (X : Stand p l e R s m args below meth c T locs cells slots) (hx : p.tables.exec = Jvm.exec) {pc : Nat} {Ls : Array Slot} {st : List Value} (hZ : Z.Warmed39 s.vm) {own : String} {i : Nat} {y : MethodName} {bytes : ByteArray} {maxL : Nat} {rm : Room} {as' : Array Value} {Q : Option Value → Heap → List Loc → Prop} {argsL rest : List Value} (hy1 : y.name = "<init>") (hown : s.vm.findClass own = some m.cls) (w1 : (Jvm.Cond.methodLink own i y).before a0 Z = true) (w2 : (Jvm.Cond.instanceMethod y).before a0 Z = true) (w3 : (Jvm.Cond.initialized y.cls).before a0 Z = true) (w4 : (Jvm.Cond.code y bytes maxL none).before a0 Z = true) (hy : y.cls ≠ "java/lang/invoke/MethodHandle" ∧ y.cls ≠ "java/lang/invoke/VarHandle") (hM : MetFree l y (head1 [Jvm.Cond.code y bytes maxL none] rm) (fun a U => a = as' ∧ Z.Warmed39 U.vm ∧ U.heap = h) (fun _ _ _ _ _ => True) (fun _ U o U' => ∃ v L, o = .returned v ∧ Q v U'.heap L ∧ FrameEnd U o U' L rm.cells rm.slots)) (eT : T.heap = h) {a : Addr} (hst : st = argsL.reverse ++ .ref a :: rest) (has : (.ref a :: argsL).toArray = as') (W : Nat) (q : Nat) (hq : pc + 3 = q) (hsz : Ls.size = c.maxLocals) (hlen : ∀ sig, parseMethodDescriptor y.desc = some sig → argsL.length = sig.parameters.length) (hW : (rest.map fun v => v.category).sum ≤ W) (hf : rm.frames + 1 ≤ R.frames) (hl : W + (maxL + 11) + rm.locals ≤ R.locals) (hc : cells + rm.cells ≤ R.cells) (hs : slots + rm.slots ≤ R.slots) (hd : decode c.code pc = .ok (.invokespecial i, 3))
    (K : ∀ (v : Option Value) (T' : State) (L : List Loc), Stand p l e R s m args below meth c T' (locs ++ L) (cells + rm.cells) (slots + rm.slots) → Q v T'.heap L → Go p e below Ev T' (mkF m q Ls (v.toList ++ rest))) : Go p e below Ev T (mkF m pc Ls st) := by
  subst hq hst
  obtain ⟨v, vm1, ⟨T', L', k', n'⟩, -, X', ⟨L, hQ, l', y', z'⟩, st'⟩ := X.specialBack hx hy1 hown (mvT hZ w1) (mvT hZ w2) (mvT hZ w4) hy (backOf (W := W) hM hZ w4 w3 hf hl) (g := mkF m pc Ls (argsL.reverse ++ .ref a :: rest)) rfl hsz (Steps.refl _) (a := a) (argsL := argsL) (rest := rest) hlen rfl (by show 2 * 0 + _ ≤ _; omega) hd (fun _ _ => ⟨has, eT, hc, hs⟩)
  dsimp only [Pt.U, Pt.locs, Pt.cells, Pt.slots] at X' l' y' z' st' hQ
  subst l' y' z'
  exact (K v T' L X' hQ).on fun t k => st'.trans k
theorem g_virt (X : Stand p l e R s m args below meth c T locs cells slots) (hx : p.tables.exec = Jvm.exec) {pc : Nat} {Ls : Array Slot} {st : List Value} (hZ : Z.Warmed39 s.vm) {own : String} {i : Nat} {y z : MethodName} {C : String} {bytes : ByteArray} {maxL : Nat} {ret : Option FieldType} {rm : Room} {as' : Array Value} {Q : Option Value → Heap → List Loc → Prop} {argsL rest : List Value} (hown : s.vm.findClass own = some m.cls) (w1 : (Jvm.Cond.methodLink own i y).before a0 Z = true) (w2 : (Jvm.Cond.declares y).before a0 Z = true) (w5 : (Jvm.Cond.selects y.cls y y).before a0 Z = true) (w6 : (Jvm.Cond.selects C y z).before a0 Z = true) (w7 : (Jvm.Cond.instanceMethod z).before a0 Z = true) (w3 : (Jvm.Cond.initialized z.cls).before a0 Z = true) (w4 : (Jvm.Cond.code z bytes maxL ret).before a0 Z = true) (hy : y.cls ≠ "java/lang/invoke/MethodHandle" ∧ y.cls ≠ "java/lang/invoke/VarHandle") (hM : MetFree l z (head1 [Jvm.Cond.code z bytes maxL ret] rm) (fun a U => a = as' ∧ Z.Warmed39 U.vm ∧ U.heap = h) (fun _ _ _ _ _ => True) (fun _ U o U' => ∃ v L, o = .returned v ∧ Q v U'.heap L ∧ FrameEnd U o U' L rm.cells rm.slots)) (eT : T.heap = h) {b : Addr} (E : Exa Z h b C) (hst : st = argsL.reverse ++ .ref b :: rest) (has : (.ref b :: argsL).toArray = as') (W : Nat) (q : Nat) (hq : pc + 3 = q) (hsz : Ls.size = c.maxLocals) (hlen : ∀ sig, parseMethodDescriptor y.desc = some sig → argsL.length = sig.parameters.length) (hW : (rest.map fun v => v.category).sum ≤ W) (hf : rm.frames + 1 ≤ R.frames) (hl : W + (maxL + 11) + rm.locals ≤ R.locals) (hc : cells + rm.cells ≤ R.cells) (hs : slots + rm.slots ≤ R.slots) (hd : decode c.code pc = .ok (.invokevirtual i, 3))
    (K : ∀ (v : Option Value) (T' : State) (L : List Loc), Stand p l e R s m args below meth c T' (locs ++ L) (cells + rm.cells) (slots + rm.slots) → Q v T'.heap L → Go p e below Ev T' (mkF m q Ls (v.toList ++ rest))) : Go p e below Ev T (mkF m pc Ls st) := by
  subst hq hst
  obtain ⟨cq, kq, qa, qb, qc⟩ := isOf hZ eT E
  obtain ⟨v, vm1, ⟨T', L', k', n'⟩, -, X', ⟨L, hQ, l', y', z'⟩, st'⟩ := X.virtualBack hx hown (mvT hZ w1) (mvT hZ w2) (notFace_of_selects (args := #[]) (mvT hZ w5)) (mvT hZ w6) (mvT hZ w7) hy (backOf (W := W) hM hZ w4 w3 hf hl) qa qc (g := mkF m pc Ls (argsL.reverse ++ .ref b :: rest)) rfl hsz (Steps.refl _) (argsL := argsL) (rest := rest) hlen rfl (by show 2 * 0 + _ ≤ _; omega) hd (fun _ _ => ⟨has, eT, hc, hs⟩)
  dsimp only [Pt.U, Pt.locs, Pt.cells, Pt.slots] at X' l' y' z' st' hQ
  subst l' y' z'
  exact (K v T' L X' hQ).on fun t k => st'.trans k
theorem own_at {n : Nat} (j : Int32) (h0 : 0 ≤ j.toInt) (z : Int32) (h1 : j.toInt < z.toInt) (S : n = z.toNatClampNeg) : ¬ (j < 0 ∨ n ≤ j.toNatClampNeg) := by
  subst S
  intro q
  rcases q with q | q
  · have := (own_i0 j).1.mp q; omega
  · simp only [Int32.toNatClampNeg] at q; omega
theorem own_ncl {j : Int32} {k : Nat} (h : j.toInt = (k : Int)) : j.toNatClampNeg = k := by simp only [Int32.toNatClampNeg]; omega
theorem g_newP (X : Stand p l e R s m args below meth c T locs cells slots) (hx : p.tables.exec = Jvm.exec) {pc : Nat} {Ls : Array Slot} {st : List Value} (hZ : Z.Warmed39 s.vm) {aty : ArrayType} (w : (Jvm.Cond.arrayClass (newarray.typeOf aty)).before a0 Z = true) (eT : T.heap = h) {n : Int32} (hn : 0 ≤ n.toInt) {cap : Nat} (hcap : n.toInt ≤ cap) (hb : cap * 8 ≤ 536870912) (q : Nat) (hd : decode c.code pc = .ok (.newarray aty, 2)) (hq : pc + 2 = q) (hc : cells + 1 ≤ R.cells) (hl : slots + cap ≤ R.slots) {ad : String} (had : "[" ++ (newarray.typeOf aty).toString = ad)
    (K : ∀ (T' : State) (h' : Heap) (k : ClassId) (a : Addr), a = h.size → Stand p l e R s m args below meth c T' locs (cells + 1) (slots + cap) → T'.heap = h' → Ext h h' → Arv Z h' a k (newarray.typeOf aty) n [] (defaultValue (newarray.typeOf aty)) → Exa Z h' a ad → Go p e below Ev T' (mkF m q Ls (.ref a :: st))) : Go p e below Ev T (mkF m pc Ls (.int n :: st)) := by
  subst hq
  have hn' : ¬ n < 0 := fun q => by have := (own_i0 n).1.mp q; omega
  obtain ⟨T', h', k, X', e', E', A', B', st'⟩ := newPE X hx hZ w eT (g := mkF m pc Ls (.int n :: st)) rfl hd rfl hn' (cap := cap) (by simp only [Int32.toNatClampNeg]; omega) hb hc hl had
  exact (K T' h' k _ rfl X' e' E' (Arv.new A' hn') B').on st'
theorem g_len (X : Stand p l e R s m args below meth c T locs cells slots) (hx : p.tables.exec = Jvm.exec) {pc : Nat} {Ls : Array Slot} {st : List Value} (hZ : Z.Warmed39 s.vm) (eT : T.heap = h) {a : Addr} {k : ClassId} {ty : FieldType} {z : Int32} {vs : List Value} {dv : Value} (V : Arv Z h a k ty z vs dv) (q : Nat) (hd : decode c.code pc = .ok (.arraylength, 1)) (hq : pc + 1 = q) (K : Go p e below Ev T (mkF m q Ls (.int z :: st))) : Go p e below Ev T (mkF m pc Ls (.ref a :: st)) := by
  subst hq
  obtain ⟨cl, A, q1, S, q3, H, G⟩ := V
  refine K.on fun t k => X.arraylength hx (by rw [eT]; exact A.1) (State.isArrayOf_alike hZ.alike A.2.1) (g := mkF m pc Ls (.ref a :: st)) rfl rfl hd t ?_
  rw [len_of S q3]
  exact k
theorem g_dastore (X : Stand p l e R s m args below meth c T locs cells slots) (hx : p.tables.exec = Jvm.exec) {pc : Nat} {Ls : Array Slot} {st : List Value} (hZ : Z.Warmed39 s.vm) (eT : T.heap = h) {a : Addr} {k : ClassId} {z j : Int32} {x : UInt64} {vs : List Value} {dv : Value} (V : Arv Z h a k .double z vs dv) (i : Nat) (hi : j.toInt = (i : Int)) (hz : j.toInt < z.toInt) (hv : i < vs.length) (q : Nat) (hd : decode c.code pc = .ok (.dastore, 1)) (hq : pc + 1 = q)
    (K : ∀ T' h', Stand p l e R s m args below meth c T' (locs ++ [⟨a, j.toNatClampNeg⟩]) cells slots → T'.heap = h' → Wr h h' a j.toNatClampNeg (.double x) → Arv Z h' a k .double z (vs.set i (.double x)) dv → Go p e below Ev T' (mkF m q Ls st)) : Go p e below Ev T (mkF m pc Ls (.double x :: .int j :: .ref a :: st)) := by
  subst hq
  obtain ⟨cl, A, q1, S, q3, H, G⟩ := V
  have hj := own_at j (by omega) z hz S
  obtain ⟨T', h', X', e', W', st'⟩ := stD X hx hZ eT A hj (g := mkF m pc Ls (.double x :: .int j :: .ref a :: st)) rfl rfl hd
  exact (K T' h' X' e' W' (Arv.set A q1 S q3 H G rfl W' i (own_ncl hi) hv)).on st'
theorem g_iastore (X : Stand p l e R s m args below meth c T locs cells slots) (hx : p.tables.exec = Jvm.exec) {pc : Nat} {Ls : Array Slot} {st : List Value} (hZ : Z.Warmed39 s.vm) (eT : T.heap = h) {a : Addr} {k : ClassId} {z j : Int32} {x : Int32} {vs : List Value} {dv : Value} (V : Arv Z h a k .int z vs dv) (i : Nat) (hi : j.toInt = (i : Int)) (hz : j.toInt < z.toInt) (hv : i < vs.length) (q : Nat) (hd : decode c.code pc = .ok (.iastore, 1)) (hq : pc + 1 = q)
    (K : ∀ T' h', Stand p l e R s m args below meth c T' (locs ++ [⟨a, j.toNatClampNeg⟩]) cells slots → T'.heap = h' → Wr h h' a j.toNatClampNeg (.int x) → Arv Z h' a k .int z (vs.set i (.int x)) dv → Go p e below Ev T' (mkF m q Ls st)) : Go p e below Ev T (mkF m pc Ls (.int x :: .int j :: .ref a :: st)) := by
  subst hq
  obtain ⟨cl, A, q1, S, q3, H, G⟩ := V
  have hj := own_at j (by omega) z hz S
  obtain ⟨T', h', X', e', W', st'⟩ := stI X hx hZ eT A hj (g := mkF m pc Ls (.int x :: .int j :: .ref a :: st)) rfl rfl hd
  exact (K T' h' X' e' W' (Arv.set A q1 S q3 H G rfl W' i (own_ncl hi) hv)).on st'
theorem g_lastore (X : Stand p l e R s m args below meth c T locs cells slots) (hx : p.tables.exec = Jvm.exec) {pc : Nat} {Ls : Array Slot} {st : List Value} (hZ : Z.Warmed39 s.vm) (eT : T.heap = h) {a : Addr} {k : ClassId} {z j : Int32} {x : Int64} {vs : List Value} {dv : Value} (V : Arv Z h a k .long z vs dv) (i : Nat) (hi : j.toInt = (i : Int)) (hz : j.toInt < z.toInt) (hv : i < vs.length) (q : Nat) (hd : decode c.code pc = .ok (.lastore, 1)) (hq : pc + 1 = q)
    (K : ∀ T' h', Stand p l e R s m args below meth c T' (locs ++ [⟨a, j.toNatClampNeg⟩]) cells slots → T'.heap = h' → Wr h h' a j.toNatClampNeg (.long x) → Arv Z h' a k .long z (vs.set i (.long x)) dv → Go p e below Ev T' (mkF m q Ls st)) : Go p e below Ev T (mkF m pc Ls (.long x :: .int j :: .ref a :: st)) := by
  subst hq
  obtain ⟨cl, A, q1, S, q3, H, G⟩ := V
  have hj := own_at j (by omega) z hz S
  obtain ⟨T', h', X', e', W', st'⟩ := stJ X hx hZ eT A hj (g := mkF m pc Ls (.long x :: .int j :: .ref a :: st)) rfl rfl hd
  exact (K T' h' X' e' W' (Arv.set A q1 S q3 H G rfl W' i (own_ncl hi) hv)).on st'
theorem g_daload (X : Stand p l e R s m args below meth c T locs cells slots) (hx : p.tables.exec = Jvm.exec) {pc : Nat} {Ls : Array Slot} {st : List Value} (hZ : Z.Warmed39 s.vm) (eT : T.heap = h) {a : Addr} {k : ClassId} {z j : Int32} {v : Value} {vs : List Value} {dv : Value} (V : Arv Z h a k .double z vs dv) (hi : 0 ≤ j.toInt) (hz : j.toInt < z.toInt) (hv : vs.getD j.toNatClampNeg dv = v) (q : Nat) (hd : decode c.code pc = .ok (.daload, 1)) (hq : pc + 1 = q) (K : Go p e below Ev T (mkF m q Ls (v :: st))) : Go p e below Ev T (mkF m pc Ls (.int j :: .ref a :: st)) := by
  subst hq
  obtain ⟨cl, A, q1, S, q3, H, G⟩ := V
  have hj := own_at j hi z hz S
  exact K.on fun t k => X.daload hx (by rw [eT]; exact A.1) (State.isArrayOf_alike hZ.alike A.2.1) A.2.2 hj (H.at hj hv) (g := mkF m pc Ls (.int j :: .ref a :: st)) rfl rfl hd t k
theorem g_iaload (X : Stand p l e R s m args below meth c T locs cells slots) (hx : p.tables.exec = Jvm.exec) {pc : Nat} {Ls : Array Slot} {st : List Value} (hZ : Z.Warmed39 s.vm) (eT : T.heap = h) {a : Addr} {k : ClassId} {z j : Int32} {v : Value} {vs : List Value} {dv : Value} (V : Arv Z h a k .int z vs dv) (hi : 0 ≤ j.toInt) (hz : j.toInt < z.toInt) (hv : vs.getD j.toNatClampNeg dv = v) (q : Nat) (hd : decode c.code pc = .ok (.iaload, 1)) (hq : pc + 1 = q) (K : Go p e below Ev T (mkF m q Ls (v :: st))) : Go p e below Ev T (mkF m pc Ls (.int j :: .ref a :: st)) := by
  subst hq
  obtain ⟨cl, A, q1, S, q3, H, G⟩ := V
  have hj := own_at j hi z hz S
  exact K.on fun t k => X.iaload hx (by rw [eT]; exact A.1) (State.isArrayOf_alike hZ.alike A.2.1) A.2.2 hj (H.at hj hv) (g := mkF m pc Ls (.int j :: .ref a :: st)) rfl rfl hd t k
theorem g_laload (X : Stand p l e R s m args below meth c T locs cells slots) (hx : p.tables.exec = Jvm.exec) {pc : Nat} {Ls : Array Slot} {st : List Value} (hZ : Z.Warmed39 s.vm) (eT : T.heap = h) {a : Addr} {k : ClassId} {z j : Int32} {v : Value} {vs : List Value} {dv : Value} (V : Arv Z h a k .long z vs dv) (hi : 0 ≤ j.toInt) (hz : j.toInt < z.toInt) (hv : vs.getD j.toNatClampNeg dv = v) (q : Nat) (hd : decode c.code pc = .ok (.laload, 1)) (hq : pc + 1 = q) (K : Go p e below Ev T (mkF m q Ls (v :: st))) : Go p e below Ev T (mkF m pc Ls (.int j :: .ref a :: st)) := by
  subst hq
  obtain ⟨cl, A, q1, S, q3, H, G⟩ := V
  have hj := own_at j hi z hz S
  exact K.on fun t k => X.laload hx (by rw [eT]; exact A.1) (State.isArrayOf_alike hZ.alike A.2.1) A.2.2 hj (H.at hj hv) (g := mkF m pc Ls (.int j :: .ref a :: st)) rfl rfl hd t k
theorem g_clone (X : Stand p l e R s m args below meth c T locs cells slots) (hx : p.tables.exec = Jvm.exec) {pc : Nat} {Ls : Array Slot} {st : List Value} (hZ : Z.Warmed39 s.vm) {own ad : String} {i : Nat} (hown : s.vm.findClass own = some m.cls) (w1 : (Jvm.Cond.methodLink own i ⟨ad, "clone", "()Ljava/lang/Object;"⟩).before a0 Z = true) (w2 : (Jvm.Cond.sameMethod ad "java/lang/Object" "clone" "()Ljava/lang/Object;").before a0 Z = true) (w3 : (Jvm.Cond.native ⟨"java/lang/Object", "clone", "()Ljava/lang/Object;"⟩).before a0 Z = true) (w4 : (Jvm.Cond.instanceMethod ⟨"java/lang/Object", "clone", "()Ljava/lang/Object;"⟩).before a0 Z = true) (w5 : (Jvm.Cond.selects ad ⟨ad, "clone", "()Ljava/lang/Object;"⟩ ⟨"java/lang/Object", "clone", "()Ljava/lang/Object;"⟩).before a0 Z = true) (w6 : (Jvm.Cond.castable ad "java/lang/Cloneable").before a0 Z = true) (eT : T.heap = h) {a : Addr} {k : ClassId} {ty : FieldType} {z : Int32} {vs : List Value} {dv : Value} (V : Arv Z h a k ty z vs dv) (E : Exa Z h a ad) (W cap : Nat) (q : Nat) (hd : decode c.code pc = .ok (.invokevirtual i, 3)) (hq : pc + 3 = q) (hsz : Ls.size = c.maxLocals) (hf : 1 ≤ R.frames) (hW : (st.map fun v => v.category).sum ≤ W) (hl : W + 14 ≤ R.locals) (hcap : z.toInt ≤ cap) (hc : cells + 1 ≤ R.cells) (hs : slots + cap ≤ R.slots)
    (K : ∀ (T' : State) (h' : Heap) (b : Addr), b = h.size → Stand p l e R s m args below meth c T' locs (cells + 1) (slots + cap) → T'.heap = h' → Ext h h' → Arv Z h' b k ty z vs dv → Exa Z h' b ad → Go p e below Ev T' (mkF m q Ls (.ref b :: st))) : Go p e below Ev T (mkF m pc Ls (.ref a :: st)) := by
  subst hq
  obtain ⟨T', h', X', e', E', V', B', st'⟩ := cloneH X hx hZ hown w1 w2 w3 w4 w5 w6 eT V.arh E (g := mkF m pc Ls (.ref a :: st)) rfl hsz rfl hd hf (W := W) (cap := cap) (by show 2 * 0 + _ ≤ _; omega) hl (by simp only [Int32.toNatClampNeg]; omega) hc hs
  exact (K T' h' _ rfl X' e' E' V' B').on st'
theorem g_cast (X : Stand p l e R s m args below meth c T locs cells slots) (hx : p.tables.exec = Jvm.exec) {pc : Nat} {Ls : Array Slot} {st : List Value} (hZ : Z.Warmed39 s.vm) {own C : String} {i : Nat} (hown : s.vm.findClass own = some m.cls) (w : (Jvm.Cond.classLink own i C).before a0 Z = true) (eT : T.heap = h) {a : Addr} (F : Ins Z h a C true) (q : Nat) (hd : decode c.code pc = .ok (.checkcast i, 3)) (hq : pc + 3 = q) (K : ∀ T', Stand p l e R s m args below meth c T' locs cells slots → T'.heap = h → Go p e below Ev T' (mkF m q Ls (.ref a :: st))) : Go p e below Ev T (mkF m pc Ls (.ref a :: st)) := by
  subst hq
  obtain ⟨T', X', e', st'⟩ := castY X hx hZ hown w eT F (g := mkF m pc Ls (.ref a :: st)) rfl rfl hd
  exact (K T' X' e').on st'
end OwnKit
theorem own_pd0 : parseMethodDescriptor "(JI)J" = some ⟨[.long, .int], some .long⟩ := by decide +kernel
theorem own_pd1 : parseMethodDescriptor "(DI)V" = some ⟨[.double, .int], none⟩ := by decide +kernel
theorem own_pd2 : parseMethodDescriptor "()V" = some ⟨[], none⟩ := by decide +kernel
theorem own_pd3 : parseMethodDescriptor "(D)Z" = some ⟨[.double], some .boolean⟩ := by decide +kernel
theorem own_pd4 : parseMethodDescriptor "(D)D" = some ⟨[.double], some .double⟩ := by decide +kernel
theorem own_pd5 : parseMethodDescriptor "([D[J)D" = some ⟨[(.array .double), (.array .long)], some .double⟩ := by decide +kernel
theorem own_pd6 : parseMethodDescriptor "(DJ)D" = some ⟨[.double, .long], some .double⟩ := by decide +kernel
theorem own_pd7 : parseMethodDescriptor "(DD)D" = some ⟨[.double, .double], some .double⟩ := by decide +kernel
theorem own_pd8 : parseMethodDescriptor "(D)V" = some ⟨[.double], none⟩ := by decide +kernel
theorem own_pd9 : parseMethodDescriptor "(JJ)J" = some ⟨[.long, .long], some .long⟩ := by decide +kernel
theorem own_pd10 : parseMethodDescriptor "()D" = some ⟨[], some .double⟩ := by decide +kernel
theorem own_pd11 : parseMethodDescriptor "(JJI)J" = some ⟨[.long, .long, .int], some .long⟩ := by decide +kernel
def Q_rm0 (n0 : Nat) (v : Option Value) (h : Heap) (L : List Loc) : Prop := v = some (.int 1) ∧ Fr n0 L
theorem own_dlit {i : Int} {a : UInt64} (s : Bool) (c : Nat) (q : Int) (h : Jvm.FP.Core.val64 a = .fin s c q) (h2 : Jvm.FP.Core.signed s (c * 2 ^ q.toNat) = i * ((2 ^ (-q).toNat : Nat) : Int)) : Jvm.FP.Core.DInt i a := by
  show Jvm.FP.Core.Whole i _
  rw [h]
  exact h2
theorem own_dnn {i : Int} {a : UInt64} (h : Jvm.FP.Core.DInt i a) : Jvm.Free.Fl.NoNaN64 a := Jvm.Free.Fl.noNaN64_no.mpr ((Jvm.FP.Core.notNaN_iff a).mpr (Jvm.FP.Core.Whole.ne_nan h))
theorem own_dzero : Jvm.FP.Core.DInt 0 (0 : UInt64) := own_dlit false 0 (-1074) (by decide +kernel) (by decide +kernel)
theorem own_done : Jvm.FP.Core.DInt 1 (4607182418800017408 : UInt64) := own_dlit false (2 ^ 52) (-52) (by decide +kernel) (by decide +kernel)
section OwnMath
variable {p : Program} {l : Launch} {e : Env} {R : Room} {s : State} {m : MethodId} {args : Array Value} {below : List Frame} {meth : Method} {c : Code} {T : State} {locs : List Loc} {cells slots : Nat} {Z : State} {a0 : Array Value} {h h' : Heap} {Ev : State → Outcome → Prop}
theorem g_maxD (X : Stand p l e R s m args below meth c T locs cells slots) (hx : p.tables.exec = Jvm.exec) {pc : Nat} {Ls : Array Slot} {st : List Value} (hZ : Z.Warmed39 s.vm) {own : String} {i : Nat} {by0 : ByteArray} (hown : s.vm.findClass own = some m.cls) (w1 : (Jvm.Cond.methodLink own i ⟨"java/lang/Math", "max", "(DD)D"⟩).before a0 Z = true) (w2 : (Jvm.Cond.static ⟨"java/lang/Math", "max", "(DD)D"⟩).before a0 Z = true) (w3 : (Jvm.Cond.initialized "java/lang/Math").before a0 Z = true) (w4 : (Jvm.Cond.code ⟨"java/lang/Math", "max", "(DD)D"⟩ by0 4 (some .double)).before a0 Z = true) (hby0 : by0 = Jvm.Free.Fl.Abs.maxDCode) (eT : T.heap = h) {a b : UInt64} (ha : Jvm.Free.Fl.NoNaN64 a) (hb : Jvm.Free.Fl.NoNaN64 b) {r : UInt64} (hr : Jvm.Native.java_lang_Math.nans.pick64 true a b = r) (W : Nat) (q : Nat) (hd : decode c.code pc = .ok (.invokestatic i, 3)) (hq : pc + 3 = q) (hsz : Ls.size = c.maxLocals) (hW : (st.map fun v => v.category).sum ≤ W) (hf : 1 ≤ R.frames) (hl : W + 15 ≤ R.locals) (hc : cells ≤ R.cells) (hs : slots ≤ R.slots) (hpd : parseMethodDescriptor "(DD)D" = some ⟨[.double, .double], some .double⟩)
    (K : ∀ T', Stand p l e R s m args below meth c T' locs cells slots → T'.heap = h → Go p e below Ev T' (mkF m q Ls (.double r :: st))) : Go p e below Ev T (mkF m pc Ls (.double b :: .double a :: st)) := by
  subst hq hby0
  obtain ⟨T', X', e', st'⟩ := natS X hx hZ (y := ⟨"java/lang/Math", "max", "(DD)D"⟩) hown w1 w2 w3 w4 (by decide) eT (W := W) (F := fun a' => a' = #[.double a, .double b] ∧ Jvm.Free.Fl.NoNaN64 a ∧ Jvm.Free.Fl.NoNaN64 b) (val := .double (Jvm.Native.java_lang_Math.nans.pick64 true a b)) (val' := .double r) (fun hcd => Jvm.Free.Fl.Abs.maxD_pays a b hcd hf hl) (g := mkF m pc Ls (.double b :: .double a :: st)) rfl hsz (argsL := [.double a, .double b]) (rest := st) (lenOf hpd rfl) rfl (by show 2 * 0 + _ ≤ _; omega) hd hc hs ⟨rfl, ha, hb⟩ (by rw [hr])
  exact (K T' X' e').on st'
theorem g_minD (X : Stand p l e R s m args below meth c T locs cells slots) (hx : p.tables.exec = Jvm.exec) {pc : Nat} {Ls : Array Slot} {st : List Value} (hZ : Z.Warmed39 s.vm) {own : String} {i : Nat} {by0 : ByteArray} (hown : s.vm.findClass own = some m.cls) (w1 : (Jvm.Cond.methodLink own i ⟨"java/lang/Math", "min", "(DD)D"⟩).before a0 Z = true) (w2 : (Jvm.Cond.static ⟨"java/lang/Math", "min", "(DD)D"⟩).before a0 Z = true) (w3 : (Jvm.Cond.initialized "java/lang/Math").before a0 Z = true) (w4 : (Jvm.Cond.code ⟨"java/lang/Math", "min", "(DD)D"⟩ by0 4 (some .double)).before a0 Z = true) (hby0 : by0 = Jvm.Free.Fl.Abs.minDCode) (eT : T.heap = h) {a b : UInt64} (ha : Jvm.Free.Fl.NoNaN64 a) (hb : Jvm.Free.Fl.NoNaN64 b) {r : UInt64} (hr : Jvm.Native.java_lang_Math.nans.pick64 false a b = r) (W : Nat) (q : Nat) (hd : decode c.code pc = .ok (.invokestatic i, 3)) (hq : pc + 3 = q) (hsz : Ls.size = c.maxLocals) (hW : (st.map fun v => v.category).sum ≤ W) (hf : 1 ≤ R.frames) (hl : W + 15 ≤ R.locals) (hc : cells ≤ R.cells) (hs : slots ≤ R.slots) (hpd : parseMethodDescriptor "(DD)D" = some ⟨[.double, .double], some .double⟩)
    (K : ∀ T', Stand p l e R s m args below meth c T' locs cells slots → T'.heap = h → Go p e below Ev T' (mkF m q Ls (.double r :: st))) : Go p e below Ev T (mkF m pc Ls (.double b :: .double a :: st)) := by
  subst hq hby0
  obtain ⟨T', X', e', st'⟩ := natS X hx hZ (y := ⟨"java/lang/Math", "min", "(DD)D"⟩) hown w1 w2 w3 w4 (by decide) eT (W := W) (F := fun a' => a' = #[.double a, .double b] ∧ Jvm.Free.Fl.NoNaN64 a ∧ Jvm.Free.Fl.NoNaN64 b) (val := .double (Jvm.Native.java_lang_Math.nans.pick64 false a b)) (val' := .double r) (fun hcd => Jvm.Free.Fl.Abs.minD_pays a b hcd hf hl) (g := mkF m pc Ls (.double b :: .double a :: st)) rfl hsz (argsL := [.double a, .double b]) (rest := st) (lenOf hpd rfl) rfl (by show 2 * 0 + _ ≤ _; omega) hd hc hs ⟨rfl, ha, hb⟩ (by rw [hr])
  exact (K T' X' e').on st'
theorem g_absD (X : Stand p l e R s m args below meth c T locs cells slots) (hx : p.tables.exec = Jvm.exec) {pc : Nat} {Ls : Array Slot} {st : List Value} (hZ : Z.Warmed39 s.vm) {own : String} {i : Nat} {by0 : ByteArray} (hown : s.vm.findClass own = some m.cls) (w1 : (Jvm.Cond.methodLink own i ⟨"java/lang/Math", "abs", "(D)D"⟩).before a0 Z = true) (w2 : (Jvm.Cond.static ⟨"java/lang/Math", "abs", "(D)D"⟩).before a0 Z = true) (w3 : (Jvm.Cond.initialized "java/lang/Math").before a0 Z = true) (w4 : (Jvm.Cond.code ⟨"java/lang/Math", "abs", "(D)D"⟩ by0 2 (some .double)).before a0 Z = true) (hby0 : by0 = Jvm.Free.Fl.Abs.absDCode) (eT : T.heap = h) {a : UInt64} (ha : Jvm.Free.Fl.NoNaN64 a) (W : Nat) (q : Nat) (hd : decode c.code pc = .ok (.invokestatic i, 3)) (hq : pc + 3 = q) (hsz : Ls.size = c.maxLocals) (hW : (st.map fun v => v.category).sum ≤ W) (hf : 1 ≤ R.frames) (hl : W + 13 ≤ R.locals) (hc : cells ≤ R.cells) (hs : slots ≤ R.slots) (hpd : parseMethodDescriptor "(D)D" = some ⟨[.double], some .double⟩)
    (K : ∀ T', Stand p l e R s m args below meth c T' locs cells slots → T'.heap = h → Go p e below Ev T' (mkF m q Ls (.double (a &&& 0x7fffffffffffffff) :: st))) : Go p e below Ev T (mkF m pc Ls (.double a :: st)) := by
  subst hq hby0
  obtain ⟨T', X', e', st'⟩ := natS X hx hZ (y := ⟨"java/lang/Math", "abs", "(D)D"⟩) hown w1 w2 w3 w4 (by decide) eT (W := W) (F := fun a' => a' = #[.double a] ∧ Jvm.Free.Fl.NoNaN64 a) (val := .double (a &&& 0x7fffffffffffffff)) (val' := .double (a &&& 0x7fffffffffffffff)) (fun hcd => Jvm.Free.Fl.Abs.absD_pays a hcd hf hl) (g := mkF m pc Ls (.double a :: st)) rfl hsz (argsL := [.double a]) (rest := st) (lenOf hpd rfl) rfl (by show 2 * 0 + _ ≤ _; omega) hd hc hs ⟨rfl, ha⟩ rfl
  exact (K T' X' e').on st'
open Jvm.FP.Core in
theorem own_pick {i j : Int} {a b : UInt64} (g : Bool) (ha : DInt i a) (hb : DInt j b) : DInt (if g then max i j else min i j) (Jvm.Native.java_lang_Math.nans.pick64 g a b) := by
  have hc : FP.dcmp a b = some (compare i j) := dcmp_int ha hb
  unfold Jvm.Native.java_lang_Math.nans.pick64
  rw [hc]
  have C : i < j ∨ i = j ∨ j < i := by omega
  rcases C with C | C | C
  · rw [show compare i j = .lt from by rw [compare_ite]; simp [C]]
    cases g
    · show DInt (min i j) a; rw [show min i j = i by omega]; exact ha
    · show DInt (max i j) b; rw [show max i j = j by omega]; exact hb
  · subst C
    rw [show compare i i = .eq from by rw [compare_ite]; simp]
    have e1 : (if g then max i i else min i i) = i := by cases g <;> simp
    rw [e1]
    dsimp only
    split <;> assumption
  · rw [show compare i j = .gt from by rw [compare_ite]; simp [show ¬ i < j by omega, show ¬ i = j by omega]]
    cases g
    · show DInt (min i j) b; rw [show min i j = j by omega]; exact hb
    · show DInt (max i j) a; rw [show max i j = i by omega]; exact ha
theorem own_minD {i j : Int} {a b : UInt64} (ha : Jvm.FP.Core.DInt i a) (hb : Jvm.FP.Core.DInt j b) : Jvm.FP.Core.DInt (min i j) (Jvm.Native.java_lang_Math.nans.pick64 false a b) := own_pick false ha hb
theorem own_maxD {i j : Int} {a b : UInt64} (ha : Jvm.FP.Core.DInt i a) (hb : Jvm.FP.Core.DInt j b) : Jvm.FP.Core.DInt (max i j) (Jvm.Native.java_lang_Math.nans.pick64 true a b) := own_pick true ha hb
end OwnMath
section Fix
open Jvm.FP Jvm.FP.Core Jvm.Free.Fl
def shd (k : Int) : Datum → Datum
  | .fin s c q => .fin s c (q + k)
  | .nan => .nan
  | .inf s => .inf s
/-- a is the number i / 2^k -/
def DFix (i : Int) (k : Nat) (a : UInt64) : Prop := Whole i (shd (k : Int) (val64 a))
theorem own_shdfin {i : Int} {k : Nat} {d : Datum} (h : Whole i (shd k d)) : ∃ s c q, d = .fin s c q := by
  cases d with
  | nan => exact h.elim
  | inf => exact h.elim
  | fin s c q => exact ⟨s, c, q, rfl⟩
theorem own_fixnn {i : Int} {k : Nat} {a : UInt64} (h : DFix i k a) : NoNaN64 a := by
  obtain ⟨s, c, q, e⟩ := own_shdfin h
  exact noNaN64_no.mpr ((notNaN_iff a).mpr (by rw [e]; intro q; cases q))
theorem own_sgn {i : Int} {s : Bool} (h : s = decide (i < 0)) : signed s i.natAbs = i := by
  subst h
  unfold signed
  by_cases hn : i < 0 <;> simp [hn] <;> omega
/-- i / 2^k of up to 53 digits is in the format -/
theorem own_fixrr {i : Int} {k : Nat} {s : Bool} (h0 : i ≠ 0) (hi : i.natAbs ≤ 2 ^ 53) (hk : k ≤ 1000) (hs : s = decide (i < 0)) : Whole i (shd k (roundRatio b64 s i.natAbs 1 (-(k : Int)))) := by
  obtain ⟨c', q', hfit, hv⟩ := natFit good_b64 wide_b64 s (n := i.natAbs) hi
  obtain ⟨f1, f2, f3, f4⟩ := hfit
  have hp : b64.p = 53 := by decide
  have hmin : b64.qmin = -1074 := by decide
  have hq : -52 ≤ q' := by
    refine Int.le_of_not_gt fun hlt => ?_
    rw [show (q' - 0).toNat = 0 by omega, Nat.pow_zero, Nat.mul_one, Nat.mul_one] at hv
    have h53 : 2 ^ 53 ≤ 2 ^ (0 - q').toNat := Nat.pow_le_pow_right (by decide) (by omega)
    have : 1 * 2 ^ (0 - q').toNat ≤ i.natAbs * 2 ^ (0 - q').toNat := Nat.mul_le_mul_right _ (by omega)
    rw [hp] at f1
    omega
  have hfit2 : Core.fits b64 (.fin s c' (q' - k)) := ⟨f1, by rw [hmin]; omega, by omega, f4.elim (fun q => by rw [hmin] at q; omega) Or.inr⟩
  rw [roundRatio_exact good_b64 (by decide) hfit2 (by rw [show -(k : Int) - (q' - k) = 0 - q' by omega, show q' - k - -(k : Int) = q' - 0 by omega]; exact hv)]
  show signed s (c' * 2 ^ (q' - k + k).toNat) = i * ((2 ^ (-(q' - k + k)).toNat : Nat) : Int)
  rw [show q' - k + k = q' by omega]
  rw [show (0 - q').toNat = (-q').toNat by omega, show (q' - 0).toNat = q'.toNat by omega, Nat.mul_one] at hv
  rw [← hv, signed_mul, own_sgn hs]
theorem own_fixround {i : Int} {k : Nat} {d : Datum} (hi : i.natAbs ≤ 2 ^ 53) (hk : k ≤ 1000) (h : Whole i (shd k d)) : Whole i (shd k (round b64 d)) := by
  obtain ⟨s, c, q, rfl⟩ := own_shdfin h
  have h' : Whole i (.fin s c (q + k)) := h
  by_cases h0 : i = 0
  · subst h0
    have hc : c = 0 := (whole_zero h').mpr rfl
    subst hc
    show Whole 0 (shd k (roundRatio b64 s 0 1 q))
    unfold roundRatio
    rw [if_pos rfl]
    show signed s (0 * _) = 0 * _
    rw [Nat.zero_mul, Int.zero_mul, signed_zero]
  · have hn := whole_natAbs h'
    have e1 : round b64 (.fin s c q) = roundRatio b64 s i.natAbs 1 (-(k : Int)) := by
      refine roundRatio_congr (by decide) (by decide) ?_
      rw [show q - -(k : Int) = q + k by omega, show -(k : Int) - q = -(q + k) by omega, Nat.mul_one, Nat.mul_one]
      exact hn
    rw [e1]
    exact own_fixrr h0 hi hk (whole_sign h' h0)
theorem own_fixadd {i j : Int} {k : Nat} {a b : UInt64} (ha : DFix i k a) (hb : DFix j k b) (h : (i + j).natAbs ≤ 2 ^ 53) (hk : k ≤ 1000) : DFix (i + j) k (FP.dadd a b) := by
  show Whole _ (shd k (val64 (Core.dadd a b)))
  rw [val64_dadd]
  refine own_fixround h hk ?_
  obtain ⟨s, c, q, ea⟩ := own_shdfin ha
  obtain ⟨t, d, r, eb⟩ := own_shdfin hb
  have ha' : Whole i (.fin s c (q + k)) := by have := ha; unfold DFix at this; rw [ea] at this; exact this
  have hb' : Whole j (.fin t d (r + k)) := by have := hb; unfold DFix at this; rw [eb] at this; exact this
  rw [ea, eb]
  have e : shd k (exactSum (.fin s c q) (.fin t d r)) = exactSum (.fin s c (q + k)) (.fin t d (r + k)) := by
    simp only [exactSum, shd]
    have e0 : min (q + (k : Int)) (r + k) = min q r + k := by omega
    have e1 : sumUnits s c (q + k) t d (r + k) (min q r + k) = sumUnits s c q t d r (min q r) := by
      unfold sumUnits inUnits
      rw [show q + (k : Int) - (min q r + k) = q - min q r by omega, show r + (k : Int) - (min q r + k) = r - min q r by omega]
    rw [e0, e1]
  rw [e]
  exact whole_sum ha' hb'
theorem own_fixneg {i : Int} {k : Nat} {a : UInt64} (ha : DFix i k a) : Whole (-i) (shd k (negate (val64 a))) := by
  obtain ⟨s, c, q, ea⟩ := own_shdfin ha
  have ha' : Whole i (.fin s c (q + k)) := by have := ha; unfold DFix at this; rw [ea] at this; exact this
  rw [ea]
  exact whole_negate ha'
theorem own_fixsub {i j : Int} {k : Nat} {a b : UInt64} (ha : DFix i k a) (hb : DFix j k b) (h : (i - j).natAbs ≤ 2 ^ 53) (hk : k ≤ 1000) : DFix (i - j) k (FP.dsub a b) := by
  have hb2 : DFix (-j) k (Core.dneg b) := by
    show Whole _ (shd k (val64 (Core.dneg b)))
    rw [Core.val64_dneg]; exact own_fixneg hb
  have := own_fixadd ha hb2 (by rw [← Int.sub_eq_add_neg]; exact h) hk
  rw [← Int.sub_eq_add_neg] at this
  show DFix (i - j) k (Core.dsub a b)
  rw [dsub_eq]; exact this
theorem own_fixmul {i j : Int} {k l : Nat} {a b : UInt64} (ha : DFix i k a) (hb : DFix j l b) (h : (i * j).natAbs ≤ 2 ^ 53) (hk : k + l ≤ 1000) : DFix (i * j) (k + l) (FP.dmul a b) := by
  show Whole _ (shd _ (val64 (Core.dmul a b)))
  rw [val64_dmul]
  refine own_fixround h hk ?_
  obtain ⟨s, c, q, ea⟩ := own_shdfin ha
  obtain ⟨t, d, r, eb⟩ := own_shdfin hb
  have ha' : Whole i (.fin s c (q + k)) := by have := ha; unfold DFix at this; rw [ea] at this; exact this
  have hb' : Whole j (.fin t d (r + l)) := by have := hb; unfold DFix at this; rw [eb] at this; exact this
  rw [ea, eb]
  have e : shd ((k + l : Nat) : Int) (exactProduct (.fin s c q) (.fin t d r)) = exactProduct (.fin s c (q + k)) (.fin t d (r + l)) := by
    simp only [exactProduct, shd]
    rw [show q + r + ((k + l : Nat) : Int) = q + k + (r + l) by omega]
  rw [e]
  exact whole_product ha' hb'
theorem own_fixcmp {i j : Int} {k : Nat} {a b : UInt64} (ha : DFix i k a) (hb : DFix j k b) : FP.dcmp a b = some (compare i j) := by
  obtain ⟨s, c, q, ea⟩ := own_shdfin ha
  obtain ⟨t, d, r, eb⟩ := own_shdfin hb
  have ha' : Whole i (.fin s c (q + k)) := by have := ha; unfold DFix at this; rw [ea] at this; exact this
  have hb' : Whole j (.fin t d (r + k)) := by have := hb; unfold DFix at this; rw [eb] at this; exact this
  show order (val64 a) (val64 b) = _
  rw [ea, eb, ← order_whole ha' hb']
  simp only [order]
  have e0 : min (q + (k : Int)) (r + k) = min q r + k := by omega
  unfold inUnits
  rw [e0, show q + (k : Int) - (min q r + k) = q - min q r by omega, show r + (k : Int) - (min q r + k) = r - min q r by omega]
theorem own_fixlift {i : Int} {k : Nat} {a : UInt64} (ha : DFix i k a) (m : Nat) : DFix (i * ((2 ^ m : Nat) : Int)) (k + m) a := by
  obtain ⟨s, c, q, ea⟩ := own_shdfin ha
  have h : signed s (c * 2 ^ (q + k).toNat) = i * ((2 ^ (-(q + (k : Int))).toNat : Nat) : Int) := by have := ha; unfold DFix at this; rw [ea] at this; exact this
  show Whole _ (shd _ (val64 a))
  rw [ea]
  show signed s (c * 2 ^ (q + ((k + m : Nat) : Int)).toNat) = i * ((2 ^ m : Nat) : Int) * ((2 ^ (-(q + ((k + m : Nat) : Int))).toNat : Nat) : Int)
  have p2 : ((2 ^ (-(q + (k : Int))).toNat : Nat) : Int) ≠ 0 := by have := Nat.two_pow_pos (-(q + (k : Int))).toNat; omega
  refine Int.eq_of_mul_eq_mul_right p2 ?_
  rw [← signed_mul, Nat.mul_assoc, ← Nat.pow_add]
  rw [show (q + ((k + m : Nat) : Int)).toNat + (-(q + (k : Int))).toNat = (q + k).toNat + (m + (-(q + ((k + m : Nat) : Int))).toNat) by omega]
  rw [Nat.pow_add, ← Nat.mul_assoc, signed_mul, h, Nat.pow_add]
  rw [Int.natCast_mul]
  simp only [Int.mul_assoc]
  rw [Int.mul_comm ((2 ^ (-(q + (k : Int))).toNat : Nat) : Int), Int.mul_assoc]
theorem own_fix0 {i : Int} {a : UInt64} : DFix i 0 a ↔ DInt i a := by
  have e : shd ((0 : Nat) : Int) (val64 a) = val64 a := by
    cases val64 a with
    | nan => rfl
    | inf => rfl
    | fin s c q => show Datum.fin s c (q + ((0 : Nat) : Int)) = _; rw [show q + ((0 : Nat) : Int) = q by omega]
  unfold DFix DInt
  rw [e]
theorem own_fixint {i : Int} {a : UInt64} (h : DInt i a) (m : Nat) : DFix (i * ((2 ^ m : Nat) : Int)) m a := by
  have := own_fixlift (own_fix0.mpr h) m
  rwa [Nat.zero_add] at this
theorem own_fixdiv {i j t : Int} {k l M : Nat} {a b : UInt64} (ha : DFix i k a) (hb : DFix j l b) (hj : j ≠ 0) (ht : i * ((2 ^ (l + M) : Nat) : Int) = t * j * ((2 ^ k : Nat) : Int)) (h : t.natAbs ≤ 2 ^ 53) (hM : M ≤ 1000) : DFix t M (FP.ddiv a b) := by
  show Whole _ (shd _ (val64 (Core.ddiv a b)))
  rw [val64_ddiv]
  obtain ⟨s, c, q, ea⟩ := own_shdfin ha
  obtain ⟨u, d, r, eb⟩ := own_shdfin hb
  have ha' : Whole i (.fin s c (q + k)) := by have := ha; unfold DFix at this; rw [ea] at this; exact this
  have hb' : Whole j (.fin u d (r + l)) := by have := hb; unfold DFix at this; rw [eb] at this; exact this
  have hd : d ≠ 0 := fun q => hj ((whole_zero hb').mp q)
  have p1 : (0 : Int) < ((2 ^ (l + M) : Nat) : Int) := by have := Nat.two_pow_pos (l + M); omega
  have p2 : (0 : Int) < ((2 ^ k : Nat) : Int) := by have := Nat.two_pow_pos k; omega
  rw [ea, eb]
  show Whole t (shd M (if d = 0 then _ else roundRatio b64 (s != u) c d (q - r)))
  rw [if_neg hd]
  by_cases h0 : t = 0
  · subst h0
    have hi0 : i = 0 := by
      rw [Int.zero_mul, Int.zero_mul] at ht
      rcases Int.mul_eq_zero.mp ht with q | q
      · exact q
      · omega
    have hc : c = 0 := (whole_zero ha').mpr hi0
    subst hc
    unfold roundRatio
    rw [if_pos rfl]
    show signed _ (0 * _) = 0 * _
    rw [Nat.zero_mul, Int.zero_mul, signed_zero]
  · have hi0 : i ≠ 0 := by
      intro q; subst q
      rw [Int.zero_mul] at ht
      rcases Int.mul_eq_zero.mp ht.symm with q | q
      · rcases Int.mul_eq_zero.mp q with q | q
        · exact h0 q
        · exact hj q
      · omega
    have hsg : (s != u) = decide (t < 0) := by
      rw [whole_sign ha' hi0, whole_sign hb' hj]
      have m1 : i < 0 ↔ t * j < 0 := by
        constructor
        · intro q
          refine Int.lt_of_not_ge fun g => ?_
          have a1 := Int.mul_nonneg g (Int.le_of_lt p2)
          have a2 := Int.mul_neg_of_neg_of_pos q p1
          omega
        · intro q
          refine Int.lt_of_not_ge fun g => ?_
          have a1 := Int.mul_nonneg g (Int.le_of_lt p1)
          have a2 := Int.mul_neg_of_neg_of_pos q p2
          omega
      have m2 : decide (i < 0) = decide (t * j < 0) := decide_eq_decide.mpr m1
      rw [m2]
      rcases Int.lt_or_gt_of_ne hj with g | g
      · rcases Int.lt_or_gt_of_ne h0 with f | f
        · have := Int.mul_pos_of_neg_of_neg f g
          simp [f, g, show ¬ t * j < 0 by omega]
        · have := Int.mul_neg_of_pos_of_neg f g
          simp [g, show ¬ t < 0 by omega, this]
      · rcases Int.lt_or_gt_of_ne h0 with f | f
        · have := Int.mul_neg_of_neg_of_pos f g
          simp [f, this, show ¬ j < 0 by omega]
        · have := Int.mul_pos f g
          simp [show ¬ t < 0 by omega, show ¬ j < 0 by omega, show ¬ t * j < 0 by omega]
    have hn1 := whole_natAbs ha'
    have hn2 := whole_natAbs hb'
    have hn3 : i.natAbs * 2 ^ (l + M) = t.natAbs * j.natAbs * 2 ^ k := by
      have := congrArg Int.natAbs ht
      rw [Int.natAbs_mul, Int.natAbs_mul, Int.natAbs_mul, Int.natAbs_natCast, Int.natAbs_natCast] at this
      exact this
    have hjp : 0 < j.natAbs := by omega
    have key : c * 1 * 2 ^ (q - r - -(M : Int)).toNat = t.natAbs * d * 2 ^ (-(M : Int) - (q - r)).toNat := by
      have hF : 0 < j.natAbs * 2 ^ (-(r + (l : Int))).toNat * 2 ^ (q + (k : Int)).toNat * 2 ^ k := Nat.mul_pos (Nat.mul_pos (Nat.mul_pos hjp (Nat.two_pow_pos _)) (Nat.two_pow_pos _)) (Nat.two_pow_pos _)
      refine Nat.eq_of_mul_eq_mul_right hF ?_
      have hex : (-(q + (k : Int))).toNat + (q - r - -(M : Int)).toNat + (r + (l : Int)).toNat + k = (-(M : Int) - (q - r)).toNat + (-(r + (l : Int))).toNat + (q + (k : Int)).toNat + (l + M) := by omega
      have L : c * 1 * 2 ^ (q - r - -(M : Int)).toNat * (j.natAbs * 2 ^ (-(r + (l : Int))).toNat * 2 ^ (q + (k : Int)).toNat * 2 ^ k) = i.natAbs * d * 2 ^ ((-(q + (k : Int))).toNat + (q - r - -(M : Int)).toNat + (r + (l : Int)).toNat + k) := by
        calc c * 1 * 2 ^ (q - r - -(M : Int)).toNat * (j.natAbs * 2 ^ (-(r + (l : Int))).toNat * 2 ^ (q + (k : Int)).toNat * 2 ^ k) = (c * 2 ^ (q + (k : Int)).toNat) * (j.natAbs * 2 ^ (-(r + (l : Int))).toNat) * 2 ^ (q - r - -(M : Int)).toNat * 2 ^ k := by rw [Nat.mul_one]; ac_rfl
          _ = (i.natAbs * 2 ^ (-(q + (k : Int))).toNat) * (d * 2 ^ (r + (l : Int)).toNat) * 2 ^ (q - r - -(M : Int)).toNat * 2 ^ k := by rw [hn1, hn2]
          _ = _ := by simp only [Nat.pow_add]; ac_rfl
      have Rr : t.natAbs * d * 2 ^ (-(M : Int) - (q - r)).toNat * (j.natAbs * 2 ^ (-(r + (l : Int))).toNat * 2 ^ (q + (k : Int)).toNat * 2 ^ k) = i.natAbs * d * 2 ^ ((-(M : Int) - (q - r)).toNat + (-(r + (l : Int))).toNat + (q + (k : Int)).toNat + (l + M)) := by
        calc t.natAbs * d * 2 ^ (-(M : Int) - (q - r)).toNat * (j.natAbs * 2 ^ (-(r + (l : Int))).toNat * 2 ^ (q + (k : Int)).toNat * 2 ^ k) = (t.natAbs * j.natAbs * 2 ^ k) * (d * 2 ^ (-(M : Int) - (q - r)).toNat * 2 ^ (-(r + (l : Int))).toNat * 2 ^ (q + (k : Int)).toNat) := by ac_rfl
          _ = (i.natAbs * 2 ^ (l + M)) * (d * 2 ^ (-(M : Int) - (q - r)).toNat * 2 ^ (-(r + (l : Int))).toNat * 2 ^ (q + (k : Int)).toNat) := by rw [hn3]
          _ = _ := by simp only [Nat.pow_add]; ac_rfl
      rw [L, Rr, hex]
    rw [roundRatio_congr (A' := t.natAbs) (B' := 1) (e' := -(M : Int)) (by omega) (by decide) (by simpa using key)]
    exact own_fixrr h0 h hM hsg
end Fix
section Kahan
open Jvm.FP Jvm.FP.Core Jvm.Free.Fl
theorem own_nn {i : Int} {a : UInt64} (h : DInt i a) : NoNaN64 a := noNaN64_no.mpr ((notNaN_iff a).mpr (Whole.ne_nan h))
theorem own_rep {i : Int} {d d' : Datum} (hd' : Core.fits b64 d') (h' : Whole i d') (h : Whole i d) : Whole i (round b64 d) := by
  by_cases h0 : i = 0
  · subst h0; exact whole_round good_b64 wide_b64 (by decide) h
  · cases d with
    | nan => exact h.elim
    | inf => exact h.elim
    | fin s c q =>
      cases d' with
      | nan => exact h'.elim
      | inf => exact h'.elim
      | fin s' c' q' =>
        have e1 := round_of_fits good_b64 hd'
        rw [round_whole h', whole_sign h' h0] at e1
        rw [round_whole h, whole_sign h h0, e1, ← whole_sign h' h0]
        exact h'
theorem own_addrep {i j : Int} {a b w : UInt64} (ha : DInt i a) (hb : DInt j b) (hw : DInt (i + j) w) : DInt (i + j) (FP.dadd a b) := by
  show Whole _ (val64 (Core.dadd a b))
  rw [val64_dadd]
  exact own_rep (val64_fits w) hw (whole_sum ha hb)
theorem own_subrep {i j : Int} {a b w : UInt64} (ha : DInt i a) (hb : DInt j b) (hw : DInt (i - j) w) : DInt (i - j) (FP.dsub a b) := by
  show Whole _ (val64 (Core.dsub a b))
  rw [val64_dsub]
  exact own_rep (val64_fits w) hw (whole_sum ha (whole_negate hb))
theorem own_nearNat (A : Nat) (h1 : 2 ^ 53 < A) (h2 : A ≤ 2 ^ 63) (s : Bool) : ∃ n : Nat, Whole (signed s n) (roundRatio b64 s A 1 0) ∧ n ≤ A + 1024 ∧ A ≤ n + 1024 := by
  have hA : A ≠ 0 := by omega
  have l1 : 2 ^ A.log2 ≤ A := Nat.log2_self_le hA
  have l2 : A < 2 ^ (A.log2 + 1) := Nat.lt_log2_self
  have l3 : 53 ≤ A.log2 := by
    have : 2 ^ 53 < 2 ^ (A.log2 + 1) := Nat.lt_trans h1 l2
    have := (Nat.pow_lt_pow_iff_right (by decide : 1 < 2)).mp this
    omega
  have l4 : A.log2 ≤ 63 := by
    have : 2 ^ A.log2 ≤ 2 ^ 63 := Nat.le_trans l1 h2
    exact (Nat.pow_le_pow_iff_right (by decide : 1 < 2)).mp this
  have hlead : leading A 1 = (A.log2 : Int) := by
    unfold leading
    have e1 : (Nat.log2 1 : Nat) = 0 := by decide
    simp only [e1]
    rw [if_pos]
    · simp
    · simpa using l1
  have hq : quantum b64 A 1 0 = ((A.log2 - 52 : Nat) : Int) := by
    unfold quantum
    rw [hlead]
    have e1 : b64.qmin = -1074 := by decide
    have e2 : (b64.p : Int) = 53 := by decide
    rw [e1, e2]
    omega
  have hc := nearest_units_le (f := b64) (A := A) (B := 1) (by omega) (by decide) 0
  unfold roundRatio
  rw [if_neg hA]
  unfold roundAt
  rw [hq] at hc ⊢
  have hn : unitsNum A 0 ((A.log2 - 52 : Nat) : Int) = A := by
    unfold unitsNum
    rw [show (0 - ((A.log2 - 52 : Nat) : Int)).toNat = 0 by omega]
    simp
  have hd : unitsDen 1 0 ((A.log2 - 52 : Nat) : Int) = 2 ^ (A.log2 - 52) := by
    unfold unitsDen
    rw [show (((A.log2 - 52 : Nat) : Int) - 0).toNat = A.log2 - 52 by omega]
    simp
  rw [hn, hd] at hc ⊢
  have hp : b64.p = 53 := by decide
  have hmax : b64.qmax = 971 := by decide
  have htl : b64.tails = 2 ^ 52 := by decide
  rw [hp] at hc
  refine ⟨nearest A (2 ^ (A.log2 - 52)) * 2 ^ (A.log2 - 52), ?_, ?_⟩
  · unfold settle
    rw [hp]
    split
    · unfold bound
      rw [if_pos (by rw [hmax]; omega)]
      show signed s _ = signed s _ * _
      rw [show (-((A.log2 - 52 : Nat) : Int)).toNat = 0 by omega, show (((A.log2 - 52 : Nat) : Int)).toNat = A.log2 - 52 by omega]
      simp
    · rename_i hlt
      have he : nearest A (2 ^ (A.log2 - 52)) = 2 ^ 53 := by omega
      unfold bound
      rw [if_pos (by rw [hmax]; omega), he, htl]
      show signed s _ = signed s _ * _
      rw [show (-(((A.log2 - 52 : Nat) : Int) + 1)).toNat = 0 by omega, show ((((A.log2 - 52 : Nat) : Int) + 1)).toNat = A.log2 - 52 + 1 by omega]
      rw [show (2 : Nat) ^ 52 * 2 ^ (A.log2 - 52 + 1) = 2 ^ 53 * 2 ^ (A.log2 - 52) by rw [← Nat.pow_add, ← Nat.pow_add]; congr 1; omega]
      simp
  · have key : ∀ B : Nat, 0 < B → B ≤ 2048 → nearest A B * B ≤ A + 1024 ∧ A ≤ nearest A B * B + 1024 := by
      intro B hB0 hB
      have e1 := Nat.div_add_mod A B
      have e2 := Nat.mod_lt A hB0
      generalize hq' : A / B = qq at *
      generalize hr' : A % B = rr at *
      have e3 : qq * B = B * qq := Nat.mul_comm _ _
      have e4 : (qq + 1) * B = B * qq + B := by rw [Nat.add_mul, e3]; omega
      unfold nearest
      rw [hq', hr']
      split
      · rw [e3]; omega
      · split
        · rw [e4]; omega
        · rcases Nat.mod_two_eq_zero_or_one qq with h | h
          · rw [h, Nat.add_zero, e3]; omega
          · rw [h, e4]; omega
    have hB : 2 ^ (A.log2 - 52) ≤ 2048 := Nat.pow_le_pow_right (by decide) (show A.log2 - 52 ≤ 11 by omega)
    exact key _ (Nat.two_pow_pos _) hB
theorem own_near {i : Int} {d : Datum} (hi : i.natAbs ≤ 2 ^ 63) (h : Whole i d) : ∃ n : Int, Whole n (round b64 d) ∧ -1024 ≤ n - i ∧ n - i ≤ 1024 := by
  by_cases hs : i.natAbs ≤ 2 ^ 53
  · exact ⟨i, whole_round good_b64 wide_b64 hs h, by omega, by omega⟩
  · cases d with
    | nan => exact h.elim
    | inf => exact h.elim
    | fin s c q =>
      have h0 : i ≠ 0 := by omega
      have hsg := whole_sign h h0
      obtain ⟨n, w, n1, n2⟩ := own_nearNat i.natAbs (by omega) hi s
      rw [round_whole h]
      refine ⟨signed s n, w, ?_⟩
      rw [hsg]
      unfold signed
      by_cases hneg : i < 0 <;> simp [hneg] <;> omega
/-- one rounding of one whole number: the same number, whatever the road -/
theorem own_cmpRound {i : Int} {d d' : Datum} (h : Whole i d) (h' : Whole i d') {u v : UInt64} (hu : val64 u = round b64 d) (hv : val64 v = round b64 d') : FP.dcmp u v = some (compare 0 0) := by
  show order (val64 u) (val64 v) = _
  rw [hu, hv]
  by_cases h0 : i = 0
  · subst h0
    exact order_whole (whole_round good_b64 wide_b64 (by decide) h) (whole_round good_b64 wide_b64 (by decide) h')
  · cases d with
    | nan => exact h.elim
    | inf => exact h.elim
    | fin s c q =>
      cases d' with
      | nan => exact h'.elim
      | inf => exact h'.elim
      | fin s' c' q' =>
        have e1 : round b64 (.fin s c q) = round b64 (.fin s' c' q') := by rw [round_whole h, round_whole h', whole_sign h h0, whole_sign h' h0]
        rw [e1]
        refine (order_self ?_).trans rfl
        rw [← hv]
        intro hq
        rw [hv, round_whole h'] at hq
        exact roundRatio_ne_nan _ _ _ _ _ hq
end Kahan
section Tally
open Jvm.FP Jvm.FP.Core Jvm.Free.Fl
theorem own_l2dn (D : Int64) : ∃ n : Int, DInt n (FP.l2d D) ∧ -1024 ≤ n - D.toInt ∧ n - D.toInt ≤ 1024 ∧ (D.toInt.natAbs ≤ 2 ^ 53 → n = D.toInt) := by
  by_cases hs : D.toInt.natAbs ≤ 2 ^ 53
  · exact ⟨D.toInt, l2d_int hs, by omega, by omega, fun _ => rfl⟩
  · have r := rng64 D
    obtain ⟨n, h1, h2, h3⟩ := own_near (i := D.toInt) (d := ofInt D.toInt) (by omega) (whole_ofInt _)
    refine ⟨n, ?_, h2, h3, fun q => absurd q hs⟩
    show Whole n (val64 (Core.l2d D))
    rw [val64_l2d]; exact h1
theorem own_leMax {x : UInt64} (h : DFin x) (n : NoNaN64 x) : ∃ i j : Int, FP.dcmp (x &&& 0x7fffffffffffffff) 9218868437227405311 = some (compare i j) ∧ i ≤ j := by
  rcases (le_max (noNaN64_no.mp n)).mpr h with q | q
  · exact ⟨0, 1, q.trans rfl, by decide⟩
  · exact ⟨0, 0, q.trans rfl, by decide⟩
theorem own_intfin {i : Int} {x : UInt64} (h : DInt i x) : DFin x := by
  have h' : Whole i (val64 x) := h
  unfold DFin
  cases e : val64 x with
  | nan => rw [e] at h'; exact h'.elim
  | inf => rw [e] at h'; exact h'.elim
  | fin s c q => exact ⟨s, c, q, rfl⟩
theorem own_pickF {i j : Int} {k : Nat} {a b : UInt64} (g : Bool) (ha : DFix i k a) (hb : DFix j k b) : DFix (if g then max i j else min i j) k (Jvm.Native.java_lang_Math.nans.pick64 g a b) := by
  have hc : FP.dcmp a b = some (compare i j) := own_fixcmp ha hb
  unfold Jvm.Native.java_lang_Math.nans.pick64
  rw [hc]
  have C : i < j ∨ i = j ∨ j < i := by omega
  rcases C with C | C | C
  · rw [show compare i j = .lt from by rw [compare_ite]; simp [C]]
    cases g
    · show DFix (min i j) k a; rw [show min i j = i by omega]; exact ha
    · show DFix (max i j) k b; rw [show max i j = j by omega]; exact hb
  · subst C
    rw [show compare i i = .eq from by rw [compare_ite]; simp]
    have e1 : (if g then max i i else min i i) = i := by cases g <;> simp
    rw [e1]
    dsimp only
    split <;> assumption
  · rw [show compare i j = .gt from by rw [compare_ite]; simp [show ¬ i < j by omega, show ¬ i = j by omega]]
    cases g
    · show DFix (min i j) k b; rw [show min i j = j by omega]; exact hb
    · show DFix (max i j) k a; rw [show max i j = i by omega]; exact ha
theorem own_minF {i j : Int} {k : Nat} {a b : UInt64} (ha : DFix i k a) (hb : DFix j k b) : DFix (min i j) k (Jvm.Native.java_lang_Math.nans.pick64 false a b) := own_pickF false ha hb
theorem own_maxF {i j : Int} {k : Nat} {a b : UInt64} (ha : DFix i k a) (hb : DFix j k b) : DFix (max i j) k (Jvm.Native.java_lang_Math.nans.pick64 true a b) := own_pickF true ha hb
theorem own_fixz (k : Nat) : DFix 0 k (0 : UInt64) := by
  have := own_fixint own_dzero k
  rwa [Int.zero_mul] at this
theorem own_thou : DInt 1000 (4652007308841189376 : UInt64) := own_dlit false 8796093022208000 (-43) (by decide +kernel) (by decide +kernel)
theorem own_cyc {cm : Int32} {t : Int} (h : cm.toInt * 8 = t * 1000) (b : 0 ≤ t ∧ t ≤ 1048576) : DFix t 3 (FP.ddiv (FP.i2d cm) 4652007308841189376) := by
  refine own_fixdiv (own_fix0.mpr (i2d_int cm)) (own_fix0.mpr own_thou) (by decide) ?_ (by omega) (by decide)
  show cm.toInt * 8 = t * 1000 * 1
  omega
end Tally
theorem d5_0 : decode prog_6_method_1_code 0 = .ok (.aload_n 0, 1) := by decide +kernel
theorem d5_1 : decode prog_6_method_1_code 1 = .ok (.invokespecial 1, 3) := by decide +kernel
theorem d5_4 : decode prog_6_method_1_code 4 = .ok (.return_, 1) := by decide +kernel
theorem own_pf0 : plainFor (⟨"com/example/iso_throttle/isothrottle/CompensatedSum", "<init>", "()V"⟩ : MethodName) = true := plainFor_of_name (by first | (simp [plainName, overriddenIn]; done) | decide +kernel)
def Q_rmCS (n0 : Nat) (h0 : Heap) (v : Option Value) (h : Heap) (L : List Loc) : Prop := v = none ∧ Fr n0 L ∧ h = h0
theorem ef_rmCS (a : Addr) (m : MethodId) : entryFrame m #[(.ref a)] 1 = mkF m 0 #[.val (.ref a)] [] := by first | (simp [entryFrame, mkF, argsToLocals, Value.category]; done) | rfl
set_option maxRecDepth 65536 in
set_option maxHeartbeats 40000000 in
theorem rmCS (l : Launch) (Z : State) (a0 : Array Value) (hw : ∀ d ∈ tables_1, d.before a0 Z = true) (a : Addr) (h0 : Heap) (n0 : Nat) (Z0 : n0 ≤ h0.size)  :
    MetFree l (⟨"com/example/iso_throttle/isothrottle/CompensatedSum", "<init>", "()V"⟩ : MethodName) (head1 [Jvm.Cond.code (⟨"com/example/iso_throttle/isothrottle/CompensatedSum", "<init>", "()V"⟩ : MethodName) prog_6_method_1_code 1 none] ({ frames := 1, cells := 0, slots := 0, locals := 12 } : Room)) (fun as_ U => as_ = #[(.ref a)] ∧ Z.Warmed39 U.vm ∧ U.heap = h0) (fun _ _ _ _ _ => True) (fun _ U o U' => ∃ v L, o = .returned v ∧ Q_rmCS n0 h0 v U'.heap L ∧ FrameEnd U o U' L ({ frames := 1, cells := 0, slots := 0, locals := 12 } : Room).cells ({ frames := 1, cells := 0, slots := 0, locals := 12 } : Room).slots) := by
  refine own_met own_pf0 (ef_rmCS a) ?_
  intro p e s m below meth c T0 X0 hx hby hml hret hlk hnm hown hZ e0
  have N0 := Fr.nil n0
  refine g_aloadN X0 hx 1 (hb hby d5_0) rfl rfl rfl ?_
  refine g_objinit X0 hx hZ hown (hw _ (List.mem_of_getElem? (i := 24) rfl)) (hw _ (List.mem_of_getElem? (i := 16) rfl)) (hw _ (List.mem_of_getElem? (i := 17) rfl)) e0 0 4 (hb hby d5_1) rfl (by rw [hml]; rfl) (by decide) (Nat.le_refl _) (by decide) ?_
  intro T1 X1 e1
  exact g_retV X1 hx hlk hret (hb hby d5_4) (by decide) (by decide) e1 ⟨rfl, N0, rfl⟩
theorem d6_0 : decode jdk_117_method_7_code 0 = .ok (.dload_n 0, 1) := by decide +kernel
theorem d6_1 : decode jdk_117_method_7_code 1 = .ok (.invokestatic 38, 3) := by decide +kernel
theorem d6_4 : decode jdk_117_method_7_code 4 = .ok (.ldc2_w 111, 3) := by decide +kernel
theorem d6_7 : decode jdk_117_method_7_code 7 = .ok (.dcmp .l, 1) := by decide +kernel
theorem d6_8 : decode jdk_117_method_7_code 8 = .ok (.ifCond .le 7, 3) := by decide +kernel
theorem d6_11 : decode jdk_117_method_7_code 11 = .ok (.iconst 1, 1) := by decide +kernel
theorem d6_12 : decode jdk_117_method_7_code 12 = .ok (.goto 4, 3) := by decide +kernel
theorem d6_15 : decode jdk_117_method_7_code 15 = .ok (.iconst 0, 1) := by decide +kernel
theorem d6_16 : decode jdk_117_method_7_code 16 = .ok (.ireturn, 1) := by decide +kernel
theorem own_pf1 : plainFor (⟨"java/lang/Double", "isInfinite", "(D)Z"⟩ : MethodName) = true := plainFor_of_name (by first | (simp [plainName, overriddenIn]; done) | decide +kernel)
def Q_rmInf (n0 : Nat) (h0 : Heap) (v : Option Value) (h : Heap) (L : List Loc) : Prop := v = some (.int 0) ∧ Fr n0 L ∧ h = h0
theorem ef_rmInf (x : UInt64) (m : MethodId) : entryFrame m #[(.double x)] 2 = mkF m 0 #[.val (.double x), .second] [] := by first | (simp [entryFrame, mkF, argsToLocals, Value.category]; done) | rfl
set_option maxRecDepth 65536 in
set_option maxHeartbeats 40000000 in
theorem rmInf (l : Launch) (Z : State) (a0 : Array Value) (hw : ∀ d ∈ tables_1, d.before a0 Z = true) (x : UInt64) (h0 : Heap) (n0 : Nat) (Z0 : n0 ≤ h0.size) (hfin : Jvm.FP.Core.DFin x) (nn : Jvm.Free.Fl.NoNaN64 x) :
    MetFree l (⟨"java/lang/Double", "isInfinite", "(D)Z"⟩ : MethodName) (head1 [Jvm.Cond.code (⟨"java/lang/Double", "isInfinite", "(D)Z"⟩ : MethodName) jdk_117_method_7_code 2 (some .boolean)] ({ frames := 1, cells := 0, slots := 0, locals := 13 } : Room)) (fun as_ U => as_ = #[(.double x)] ∧ Z.Warmed39 U.vm ∧ U.heap = h0) (fun _ _ _ _ _ => True) (fun _ U o U' => ∃ v L, o = .returned v ∧ Q_rmInf n0 h0 v U'.heap L ∧ FrameEnd U o U' L ({ frames := 1, cells := 0, slots := 0, locals := 13 } : Room).cells ({ frames := 1, cells := 0, slots := 0, locals := 13 } : Room).slots) := by
  refine own_met own_pf1 (ef_rmInf x) ?_
  intro p e s m below meth c T0 X0 hx hby hml hret hlk hnm hown hZ e0
  have N0 := Fr.nil n0
  refine g_dloadN X0 hx 1 (hb hby d6_0) rfl rfl ?_
  obtain ⟨i, j, hij, le⟩ := own_leMax hfin nn
  refine g_absD X0 hx hZ hown (hw _ (List.mem_of_getElem? (i := 33) rfl)) (hw _ (List.mem_of_getElem? (i := 34) rfl)) (hw _ (List.mem_of_getElem? (i := 35) rfl)) (hw _ (List.mem_of_getElem? (i := 36) rfl)) rfl e0 nn 0 4 (hb hby d6_1) rfl (by rw [hml]; rfl) (Nat.le_refl _) (by decide) (by decide) (by decide) (by decide) own_pd4 ?_
  intro T2 X2 e2
  refine g_ldc2D X2 hx 7 hZ hown (hw _ (List.mem_of_getElem? (i := 37) rfl)) (hb hby d6_4) rfl ?_
  refine g_dc_le X2 hx 8 15 11 (hb hby d6_7) rfl (hb hby d6_8) (by decide) (by decide) rfl hij (fun c3 => ?_) (fun c3 => ?_)
  · skip
    refine g_iconst X2 hx (0 : Int32) 16 (hb hby d6_15) rfl (by decide) ?_
    exact g_retZ X2 hx hlk hret (hb hby d6_16) (by decide) (by decide) e2 ⟨rfl, N0, rfl⟩
  · skip
    exfalso; omega
theorem d10_0 : decode jdk_117_method_8_code 0 = .ok (.dload_n 0, 1) := by decide +kernel
theorem d10_1 : decode jdk_117_method_8_code 1 = .ok (.invokestatic 38, 3) := by decide +kernel
theorem d10_4 : decode jdk_117_method_8_code 4 = .ok (.ldc2_w 111, 3) := by decide +kernel
theorem d10_7 : decode jdk_117_method_8_code 7 = .ok (.dcmp .g, 1) := by decide +kernel
theorem d10_8 : decode jdk_117_method_8_code 8 = .ok (.ifCond .gt 7, 3) := by decide +kernel
theorem d10_11 : decode jdk_117_method_8_code 11 = .ok (.iconst 1, 1) := by decide +kernel
theorem d10_12 : decode jdk_117_method_8_code 12 = .ok (.goto 4, 3) := by decide +kernel
theorem d10_15 : decode jdk_117_method_8_code 15 = .ok (.iconst 0, 1) := by decide +kernel
theorem d10_16 : decode jdk_117_method_8_code 16 = .ok (.ireturn, 1) := by decide +kernel
theorem own_pf2 : plainFor (⟨"java/lang/Double", "isFinite", "(D)Z"⟩ : MethodName) = true := plainFor_of_name (by first | (simp [plainName, overriddenIn]; done) | decide +kernel)
def Q_rmFin (n0 : Nat) (h0 : Heap) (v : Option Value) (h : Heap) (L : List Loc) : Prop := v = some (.int 1) ∧ Fr n0 L ∧ h = h0
theorem ef_rmFin (x : UInt64) (m : MethodId) : entryFrame m #[(.double x)] 2 = mkF m 0 #[.val (.double x), .second] [] := by first | (simp [entryFrame, mkF, argsToLocals, Value.category]; done) | rfl
set_option maxRecDepth 65536 in
set_option maxHeartbeats 40000000 in
theorem rmFin (l : Launch) (Z : State) (a0 : Array Value) (hw : ∀ d ∈ tables_1, d.before a0 Z = true) (x : UInt64) (h0 : Heap) (n0 : Nat) (Z0 : n0 ≤ h0.size) (hfin : Jvm.FP.Core.DFin x) (nn : Jvm.Free.Fl.NoNaN64 x) :
    MetFree l (⟨"java/lang/Double", "isFinite", "(D)Z"⟩ : MethodName) (head1 [Jvm.Cond.code (⟨"java/lang/Double", "isFinite", "(D)Z"⟩ : MethodName) jdk_117_method_8_code 2 (some .boolean)] ({ frames := 1, cells := 0, slots := 0, locals := 13 } : Room)) (fun as_ U => as_ = #[(.double x)] ∧ Z.Warmed39 U.vm ∧ U.heap = h0) (fun _ _ _ _ _ => True) (fun _ U o U' => ∃ v L, o = .returned v ∧ Q_rmFin n0 h0 v U'.heap L ∧ FrameEnd U o U' L ({ frames := 1, cells := 0, slots := 0, locals := 13 } : Room).cells ({ frames := 1, cells := 0, slots := 0, locals := 13 } : Room).slots) := by
  refine own_met own_pf2 (ef_rmFin x) ?_
  intro p e s m below meth c T0 X0 hx hby hml hret hlk hnm hown hZ e0
  have N0 := Fr.nil n0
  refine g_dloadN X0 hx 1 (hb hby d10_0) rfl rfl ?_
  obtain ⟨i, j, hij, le⟩ := own_leMax hfin nn
  refine g_absD X0 hx hZ hown (hw _ (List.mem_of_getElem? (i := 33) rfl)) (hw _ (List.mem_of_getElem? (i := 34) rfl)) (hw _ (List.mem_of_getElem? (i := 35) rfl)) (hw _ (List.mem_of_getElem? (i := 36) rfl)) rfl e0 nn 0 4 (hb hby d10_1) rfl (by rw [hml]; rfl) (Nat.le_refl _) (by decide) (by decide) (by decide) (by decide) own_pd4 ?_
  intro T4 X4 e4
  refine g_ldc2D X4 hx 7 hZ hown (hw _ (List.mem_of_getElem? (i := 37) rfl)) (hb hby d10_4) rfl ?_
  refine g_dc_gt X4 hx 8 15 11 (hb hby d10_7) rfl (hb hby d10_8) (by decide) (by decide) rfl hij (fun c5 => ?_) (fun c5 => ?_)
  · skip
    exfalso; omega
  · skip
    refine g_iconst X4 hx (1 : Int32) 12 (hb hby d10_11) rfl (by decide) ?_
    refine g_goto X4 hx 16 (hb hby d10_12) (by decide) (by decide) ?_
    exact g_retZ X4 hx hlk hret (hb hby d10_16) (by decide) (by decide) e4 ⟨rfl, N0, rfl⟩
theorem d3_0 : decode prog_1_method_1_code 0 = .ok (.aload_n 0, 1) := by decide +kernel
theorem d3_1 : decode prog_1_method_1_code 1 = .ok (.invokespecial 1, 3) := by decide +kernel
theorem d3_4 : decode prog_1_method_1_code 4 = .ok (.aload_n 0, 1) := by decide +kernel
theorem d3_5 : decode prog_1_method_1_code 5 = .ok (.new 7, 3) := by decide +kernel
theorem d3_8 : decode prog_1_method_1_code 8 = .ok (.dup, 1) := by decide +kernel
theorem d3_9 : decode prog_1_method_1_code 9 = .ok (.invokespecial 9, 3) := by decide +kernel
theorem d3_12 : decode prog_1_method_1_code 12 = .ok (.putfield 10, 3) := by decide +kernel
theorem d3_15 : decode prog_1_method_1_code 15 = .ok (.aload_n 0, 1) := by decide +kernel
theorem d3_16 : decode prog_1_method_1_code 16 = .ok (.new 7, 3) := by decide +kernel
theorem d3_19 : decode prog_1_method_1_code 19 = .ok (.dup, 1) := by decide +kernel
theorem d3_20 : decode prog_1_method_1_code 20 = .ok (.invokespecial 9, 3) := by decide +kernel
theorem d3_23 : decode prog_1_method_1_code 23 = .ok (.putfield 16, 3) := by decide +kernel
theorem d3_26 : decode prog_1_method_1_code 26 = .ok (.dload_n 1, 1) := by decide +kernel
theorem d3_27 : decode prog_1_method_1_code 27 = .ok (.dconst 0, 1) := by decide +kernel
theorem d3_28 : decode prog_1_method_1_code 28 = .ok (.dcmp .l, 1) := by decide +kernel
theorem d3_29 : decode prog_1_method_1_code 29 = .ok (.ifCond .le 10, 3) := by decide +kernel
theorem d3_32 : decode prog_1_method_1_code 32 = .ok (.dload_n 1, 1) := by decide +kernel
theorem d3_33 : decode prog_1_method_1_code 33 = .ok (.invokestatic 19, 3) := by decide +kernel
theorem d3_36 : decode prog_1_method_1_code 36 = .ok (.ifCond .eq 17, 3) := by decide +kernel
theorem d3_39 : decode prog_1_method_1_code 39 = .ok (.new 25, 3) := by decide +kernel
theorem d3_42 : decode prog_1_method_1_code 42 = .ok (.dup, 1) := by decide +kernel
theorem d3_43 : decode prog_1_method_1_code 43 = .ok (.dload_n 1, 1) := by decide +kernel
theorem d3_49 : decode prog_1_method_1_code 49 = .ok (.invokespecial 31, 3) := by decide +kernel
theorem d3_52 : decode prog_1_method_1_code 52 = .ok (.athrow, 1) := by decide +kernel
theorem d3_53 : decode prog_1_method_1_code 53 = .ok (.iload_n 3, 1) := by decide +kernel
theorem d3_54 : decode prog_1_method_1_code 54 = .ok (.ifCond .gt 17, 3) := by decide +kernel
theorem d3_57 : decode prog_1_method_1_code 57 = .ok (.new 25, 3) := by decide +kernel
theorem d3_60 : decode prog_1_method_1_code 60 = .ok (.dup, 1) := by decide +kernel
theorem d3_61 : decode prog_1_method_1_code 61 = .ok (.iload_n 3, 1) := by decide +kernel
theorem d3_67 : decode prog_1_method_1_code 67 = .ok (.invokespecial 31, 3) := by decide +kernel
theorem d3_70 : decode prog_1_method_1_code 70 = .ok (.athrow, 1) := by decide +kernel
theorem d3_71 : decode prog_1_method_1_code 71 = .ok (.aload_n 0, 1) := by decide +kernel
theorem d3_72 : decode prog_1_method_1_code 72 = .ok (.dload_n 1, 1) := by decide +kernel
theorem d3_73 : decode prog_1_method_1_code 73 = .ok (.putfield 37, 3) := by decide +kernel
theorem d3_76 : decode prog_1_method_1_code 76 = .ok (.aload_n 0, 1) := by decide +kernel
theorem d3_77 : decode prog_1_method_1_code 77 = .ok (.iload_n 3, 1) := by decide +kernel
theorem d3_78 : decode prog_1_method_1_code 78 = .ok (.i2d, 1) := by decide +kernel
theorem d3_79 : decode prog_1_method_1_code 79 = .ok (.ldc2_w 41, 3) := by decide +kernel
theorem d3_82 : decode prog_1_method_1_code 82 = .ok (.ddiv, 1) := by decide +kernel
theorem d3_83 : decode prog_1_method_1_code 83 = .ok (.putfield 43, 3) := by decide +kernel
theorem d3_86 : decode prog_1_method_1_code 86 = .ok (.return_, 1) := by decide +kernel
theorem own_pf3 : plainFor (⟨"com/example/iso_throttle/isothrottle/AdmissionTally", "<init>", "(DI)V"⟩ : MethodName) = true := plainFor_of_name (by first | (simp [plainName, overriddenIn]; done) | decide +kernel)
def Q_rmInit (Z : State) (a : Addr) (lim : UInt64) (cm : Int32) (n0 : Nat) (h0 : Heap) (v : Option Value) (h : Heap) (L : List Loc) : Prop := v = none ∧ Fr n0 L ∧ Keep h0 h [a] ∧ Fld Z h a "com/example/iso_throttle/isothrottle/AdmissionTally" "limit" "D" (.double lim) ∧ Fld Z h a "com/example/iso_throttle/isothrottle/AdmissionTally" "cycleSeconds" "D" (.double (FP.ddiv (FP.i2d cm) 4652007308841189376)) ∧ ∃ b1 b2 : Addr, Fld Z h a "com/example/iso_throttle/isothrottle/AdmissionTally" "idealTotal" "Lcom/example/iso_throttle/isothrottle/CompensatedSum;" (.ref b1) ∧ Fld Z h a "com/example/iso_throttle/isothrottle/AdmissionTally" "admittedTotal" "Lcom/example/iso_throttle/isothrottle/CompensatedSum;" (.ref b2) ∧ b1 ≠ b2 ∧ Exa Z h b1 "com/example/iso_throttle/isothrottle/CompensatedSum" ∧ Exa Z h b2 "com/example/iso_throttle/isothrottle/CompensatedSum" ∧ Fld Z h b1 "com/example/iso_throttle/isothrottle/CompensatedSum" "sum" "D" (.double 0) ∧ Fld Z h b1 "com/example/iso_throttle/isothrottle/CompensatedSum" "compensation" "D" (.double 0) ∧ Fld Z h b2 "com/example/iso_throttle/isothrottle/CompensatedSum" "sum" "D" (.double 0) ∧ Fld Z h b2 "com/example/iso_throttle/isothrottle/CompensatedSum" "compensation" "D" (.double 0) ∧ h0.size ≤ b1 ∧ h0.size ≤ b2 ∧ n0 ≤ b1 ∧ n0 ≤ b2
theorem ef_rmInit (a : Addr) (lim : UInt64) (cm : Int32) (m : MethodId) : entryFrame m #[(.ref a), (.double lim), (.int cm)] 4 = mkF m 0 #[.val (.ref a), .val (.double lim), .second, .val (.int cm)] [] := by first | (simp [entryFrame, mkF, argsToLocals, Value.category]; done) | rfl
set_option maxRecDepth 65536 in
set_option maxHeartbeats 40000000 in
theorem rmInit (l : Launch) (Z : State) (a0 : Array Value) (hw : ∀ d ∈ tables_1, d.before a0 Z = true) (a : Addr) (lim : UInt64) (cm : Int32) (h0 : Heap) (n0 : Nat) (Z0 : n0 ≤ h0.size) (il : Int) (hlim : Jvm.FP.Core.DInt il lim) (pl : 0 < il) (pc : 0 < cm.toInt) (nc : Jvm.Free.Fl.NoNaN64 (FP.ddiv (FP.i2d cm) 4652007308841189376)) (Ea : Exa Z h0 a "com/example/iso_throttle/isothrottle/AdmissionTally") (ga : n0 ≤ a) (F_idealTotal : Fld Z h0 a "com/example/iso_throttle/isothrottle/AdmissionTally" "idealTotal" "Lcom/example/iso_throttle/isothrottle/CompensatedSum;" .null) (F_admittedTotal : Fld Z h0 a "com/example/iso_throttle/isothrottle/AdmissionTally" "admittedTotal" "Lcom/example/iso_throttle/isothrottle/CompensatedSum;" .null) (F_limit : Fld Z h0 a "com/example/iso_throttle/isothrottle/AdmissionTally" "limit" "D" (.double 0)) (F_cycleSeconds : Fld Z h0 a "com/example/iso_throttle/isothrottle/AdmissionTally" "cycleSeconds" "D" (.double 0)) :
    MetFree l (⟨"com/example/iso_throttle/isothrottle/AdmissionTally", "<init>", "(DI)V"⟩ : MethodName) (head1 [Jvm.Cond.code (⟨"com/example/iso_throttle/isothrottle/AdmissionTally", "<init>", "(DI)V"⟩ : MethodName) prog_1_method_1_code 4 none] ({ frames := 2, cells := 2, slots := 4, locals := 32 } : Room)) (fun as_ U => as_ = #[(.ref a), (.double lim), (.int cm)] ∧ Z.Warmed39 U.vm ∧ U.heap = h0) (fun _ _ _ _ _ => True) (fun _ U o U' => ∃ v L, o = .returned v ∧ Q_rmInit Z a lim cm n0 h0 v U'.heap L ∧ FrameEnd U o U' L ({ frames := 2, cells := 2, slots := 4, locals := 32 } : Room).cells ({ frames := 2, cells := 2, slots := 4, locals := 32 } : Room).slots) := by
  refine own_met own_pf3 (ef_rmInit a lim cm) ?_
  intro p e s m below meth c T0 X0 hx hby hml hret hlk hnm hown hZ e0
  have N0 := Fr.nil n0
  refine g_aloadN X0 hx 1 (hb hby d3_0) rfl rfl rfl ?_
  refine g_objinit X0 hx hZ hown (hw _ (List.mem_of_getElem? (i := 15) rfl)) (hw _ (List.mem_of_getElem? (i := 16) rfl)) (hw _ (List.mem_of_getElem? (i := 17) rfl)) e0 0 4 (hb hby d3_1) rfl (by rw [hml]; rfl) (by decide) (Nat.le_refl _) (by decide) ?_
  intro T6 X6 e6
  refine g_aloadN X6 hx 5 (hb hby d3_4) rfl rfl rfl ?_
  refine g_new X6 hx hZ hown (hw _ (List.mem_of_getElem? (i := 18) rfl)) (hw _ (List.mem_of_getElem? (i := 19) rfl)) (hw _ (List.mem_of_getElem? (i := 20) rfl)) e6 8 (hb hby d3_5) rfl (by decide) (by decide) ?_
  intro T7 h7 a7 g7 X7 e7 E7 A7 D7
  have ne8 : a ≠ a7 := Nat.ne_of_lt (by rw [g7]; exact Ea.lt)
  have ge9 : n0 ≤ a7 := by rw [g7]; exact Z0
  have sz10 : h0.size ≤ a7 := by rw [g7]; exact (Keep.refl h0 [a]).1
  have F11 := Ea.ext E7
  have F12 := F_idealTotal.ext E7
  have F13 := F_admittedTotal.ext E7
  have F14 := F_limit.ext E7
  have F15 := F_cycleSeconds.ext E7
  have K16 := (Keep.refl h0 [a]).ext E7
  have Z17 : n0 ≤ h7.size := Nat.le_trans Z0 E7.1
  have F18 : Fld Z h7 a7 "com/example/iso_throttle/isothrottle/CompensatedSum" "compensation" "D" (.double (0 : UInt64)) := D7 (Or.inl (hw _ (List.mem_of_getElem? (i := 70) rfl))) (ty := .double) (by decide)
  have F19 : Fld Z h7 a7 "com/example/iso_throttle/isothrottle/CompensatedSum" "sum" "D" (.double (0 : UInt64)) := D7 (Or.inl (hw _ (List.mem_of_getElem? (i := 72) rfl))) (ty := .double) (by decide)
  refine g_dup X7 hx 9 (hb hby d3_8) rfl rfl ?_
  refine g_init X7 hx hZ rfl hown (hw _ (List.mem_of_getElem? (i := 21) rfl)) (hw _ (List.mem_of_getElem? (i := 22) rfl)) (hw _ (List.mem_of_getElem? (i := 20) rfl)) (hw _ (List.mem_of_getElem? (i := 23) rfl)) (by decide) (rmCS l Z a0 hw a7 h7 n0 Z17) e7 (a := a7) (argsL := []) (rest := [(.ref a7), (.ref a)]) rfl rfl 2 12 rfl (by rw [hml]; rfl) (lenOf own_pd2 rfl) (Nat.le_refl _) (by decide) (by decide) (by decide) (by decide) (hb hby d3_9) ?_
  intro v20 T20 L20 X20 hQ20
  obtain ⟨rfl, N20, q20⟩ := hQ20
  have N21 := Fr.app N0 N20
  show Go p e below _ T20 (mkF m 12 #[.val (.ref a), .val (.double lim), .second, .val (.int cm)] [(.ref a7), (.ref a)])
  refine g_putF X20 hx hZ hown (hw _ (List.mem_of_getElem? (i := 25) rfl)) Via.refl q20 F12 F11 (Or.inr ⟨(hw _ (List.mem_of_getElem? (i := 26) rfl)), rfl, hnm⟩) (hw _ (List.mem_of_getElem? (i := 10) rfl)) (ty := (.object "com/example/iso_throttle/isothrottle/CompensatedSum")) (by decide) rfl rfl 15 (hb hby d3_12) rfl ?_
  intro T22 h22 X22 e22 W22
  have F23 : Fld Z h22 a "com/example/iso_throttle/isothrottle/AdmissionTally" "idealTotal" "Lcom/example/iso_throttle/isothrottle/CompensatedSum;" (.ref a7) := F12.same W22
  have F24 := F11.wr W22
  have F25 := F13.other W22 (Or.inr (slot_ne (Or.inr (hw _ (List.mem_of_getElem? (i := 28) rfl))) (Or.inr (hw _ (List.mem_of_getElem? (i := 26) rfl))) (by decide) (t := (.object "com/example/iso_throttle/isothrottle/CompensatedSum")) (t' := (.object "com/example/iso_throttle/isothrottle/CompensatedSum")) (by decide) (by decide)))
  have F26 := F14.other W22 (Or.inr (slot_ne (Or.inr (hw _ (List.mem_of_getElem? (i := 39) rfl))) (Or.inr (hw _ (List.mem_of_getElem? (i := 26) rfl))) (by decide) (t := .double) (t' := (.object "com/example/iso_throttle/isothrottle/CompensatedSum")) (by decide) (by decide)))
  have F27 := F15.other W22 (Or.inr (slot_ne (Or.inr (hw _ (List.mem_of_getElem? (i := 42) rfl))) (Or.inr (hw _ (List.mem_of_getElem? (i := 26) rfl))) (by decide) (t := .double) (t' := (.object "com/example/iso_throttle/isothrottle/CompensatedSum")) (by decide) (by decide)))
  have F28 := A7.wr W22
  have F29 := F18.other W22 (Or.inl (Ne.symm ne8))
  have F30 := F19.other W22 (Or.inl (Ne.symm ne8))
  have K31 := K16.wr W22 (Or.inl (List.mem_of_getElem? (i := 0) rfl))
  have N32 := Fr.snoc X22 N21 ga
  have Z33 : n0 ≤ h22.size := by rw [W22.size]; exact Z17
  refine g_aloadN X22 hx 16 (hb hby d3_15) rfl rfl rfl ?_
  refine g_new X22 hx hZ hown (hw _ (List.mem_of_getElem? (i := 18) rfl)) (hw _ (List.mem_of_getElem? (i := 19) rfl)) (hw _ (List.mem_of_getElem? (i := 20) rfl)) e22 19 (hb hby d3_16) rfl (by decide) (by decide) ?_
  intro T34 h34 a34 g34 X34 e34 E34 A34 D34
  have ne35 : a ≠ a34 := Nat.ne_of_lt (by rw [g34]; exact F24.lt)
  have ne36 : a7 ≠ a34 := Nat.ne_of_lt (by rw [g34]; exact F28.lt)
  have ge37 : n0 ≤ a34 := by rw [g34]; exact Z33
  have sz38 : h0.size ≤ a34 := by rw [g34]; exact K31.1
  have F39 := F24.ext E34
  have F40 := F25.ext E34
  have F41 := F26.ext E34
  have F42 := F27.ext E34
  have F43 := F28.ext E34
  have F44 := F29.ext E34
  have F45 := F30.ext E34
  have F46 := F23.ext E34
  have K47 := K31.ext E34
  have Z48 : n0 ≤ h34.size := Nat.le_trans Z33 E34.1
  have F49 : Fld Z h34 a34 "com/example/iso_throttle/isothrottle/CompensatedSum" "compensation" "D" (.double (0 : UInt64)) := D34 (Or.inl (hw _ (List.mem_of_getElem? (i := 70) rfl))) (ty := .double) (by decide)
  have F50 : Fld Z h34 a34 "com/example/iso_throttle/isothrottle/CompensatedSum" "sum" "D" (.double (0 : UInt64)) := D34 (Or.inl (hw _ (List.mem_of_getElem? (i := 72) rfl))) (ty := .double) (by decide)
  refine g_dup X34 hx 20 (hb hby d3_19) rfl rfl ?_
  refine g_init X34 hx hZ rfl hown (hw _ (List.mem_of_getElem? (i := 21) rfl)) (hw _ (List.mem_of_getElem? (i := 22) rfl)) (hw _ (List.mem_of_getElem? (i := 20) rfl)) (hw _ (List.mem_of_getElem? (i := 23) rfl)) (by decide) (rmCS l Z a0 hw a34 h34 n0 Z48) e34 (a := a34) (argsL := []) (rest := [(.ref a34), (.ref a)]) rfl rfl 2 23 rfl (by rw [hml]; rfl) (lenOf own_pd2 rfl) (Nat.le_refl _) (by decide) (by decide) (by decide) (by decide) (hb hby d3_20) ?_
  intro v51 T51 L51 X51 hQ51
  obtain ⟨rfl, N51, q51⟩ := hQ51
  have N52 := Fr.app N32 N51
  show Go p e below _ T51 (mkF m 23 #[.val (.ref a), .val (.double lim), .second, .val (.int cm)] [(.ref a34), (.ref a)])
  refine g_putF X51 hx hZ hown (hw _ (List.mem_of_getElem? (i := 27) rfl)) Via.refl q51 F40 F39 (Or.inr ⟨(hw _ (List.mem_of_getElem? (i := 28) rfl)), rfl, hnm⟩) (hw _ (List.mem_of_getElem? (i := 10) rfl)) (ty := (.object "com/example/iso_throttle/isothrottle/CompensatedSum")) (by decide) rfl rfl 26 (hb hby d3_23) rfl ?_
  intro T53 h53 X53 e53 W53
  have F54 : Fld Z h53 a "com/example/iso_throttle/isothrottle/AdmissionTally" "admittedTotal" "Lcom/example/iso_throttle/isothrottle/CompensatedSum;" (.ref a34) := F40.same W53
  have F55 := F39.wr W53
  have F56 := F41.other W53 (Or.inr (slot_ne (Or.inr (hw _ (List.mem_of_getElem? (i := 39) rfl))) (Or.inr (hw _ (List.mem_of_getElem? (i := 28) rfl))) (by decide) (t := .double) (t' := (.object "com/example/iso_throttle/isothrottle/CompensatedSum")) (by decide) (by decide)))
  have F57 := F42.other W53 (Or.inr (slot_ne (Or.inr (hw _ (List.mem_of_getElem? (i := 42) rfl))) (Or.inr (hw _ (List.mem_of_getElem? (i := 28) rfl))) (by decide) (t := .double) (t' := (.object "com/example/iso_throttle/isothrottle/CompensatedSum")) (by decide) (by decide)))
  have F58 := F43.wr W53
  have F59 := F44.other W53 (Or.inl (Ne.symm ne8))
  have F60 := F45.other W53 (Or.inl (Ne.symm ne8))
  have F61 := F46.other W53 (Or.inr (slot_ne (Or.inr (hw _ (List.mem_of_getElem? (i := 26) rfl))) (Or.inr (hw _ (List.mem_of_getElem? (i := 28) rfl))) (by decide) (t := (.object "com/example/iso_throttle/isothrottle/CompensatedSum")) (t' := (.object "com/example/iso_throttle/isothrottle/CompensatedSum")) (by decide) (by decide)))
  have F62 := A34.wr W53
  have F63 := F49.other W53 (Or.inl (Ne.symm ne35))
  have F64 := F50.other W53 (Or.inl (Ne.symm ne35))
  have K65 := K47.wr W53 (Or.inl (List.mem_of_getElem? (i := 0) rfl))
  have N66 := Fr.snoc X53 N52 ga
  have Z67 : n0 ≤ h53.size := by rw [W53.size]; exact Z48
  refine g_dloadN X53 hx 27 (hb hby d3_26) rfl rfl ?_
  refine g_dconst0 X53 hx 28 (hb hby d3_27) rfl ?_
  refine g_dc_le X53 hx 29 39 32 (hb hby d3_28) rfl (hb hby d3_29) (by decide) (by decide) rfl (Jvm.FP.Core.dcmp_int hlim own_dzero) (fun c68 => ?_) (fun c68 => ?_)
  · skip
    exfalso; omega
  · skip
    refine g_dloadN X53 hx 33 (hb hby d3_32) rfl rfl ?_
    refine g_static X53 hx hZ hown (hw _ (List.mem_of_getElem? (i := 29) rfl)) (hw _ (List.mem_of_getElem? (i := 30) rfl)) (hw _ (List.mem_of_getElem? (i := 31) rfl)) (hw _ (List.mem_of_getElem? (i := 32) rfl)) (by decide) (rmInf l Z a0 hw lim h53 n0 Z67 (own_intfin hlim) (own_dnn hlim)) e53 (argsL := [(.double lim)]) (rest := []) rfl rfl 0 36 rfl (by rw [hml]; rfl) (lenOf own_pd3 rfl) (Nat.le_refl _) (by decide) (by decide) (by decide) (by decide) (hb hby d3_33) ?_
    intro v69 T69 L69 X69 hQ69
    obtain ⟨rfl, N69, q69⟩ := hQ69
    have N70 := Fr.app N66 N69
    show Go p e below _ T69 (mkF m 36 #[.val (.ref a), .val (.double lim), .second, .val (.int cm)] [(.int (0 : Int32))])
    have ll72 : ((0 : Int32) : Int32).toInt = 0 := by decide
    refine g_if_eq X69 hx 53 39 (hb hby d3_36) (by decide) (by decide) rfl (fun c71 => ?_) (fun c71 => ?_)
    · skip
      refine g_iloadN X69 hx 54 (hb hby d3_53) rfl rfl ?_
      refine g_if_gt X69 hx 71 57 (hb hby d3_54) (by decide) (by decide) rfl (fun c73 => ?_) (fun c73 => ?_)
      · skip
        refine g_aloadN X69 hx 72 (hb hby d3_71) rfl rfl rfl ?_
        refine g_dloadN X69 hx 73 (hb hby d3_72) rfl rfl ?_
        refine g_putF X69 hx hZ hown (hw _ (List.mem_of_getElem? (i := 38) rfl)) Via.refl q69 F56 F55 (Or.inr ⟨(hw _ (List.mem_of_getElem? (i := 39) rfl)), rfl, hnm⟩) (hw _ (List.mem_of_getElem? (i := 10) rfl)) (ty := .double) (by decide) rfl rfl 76 (hb hby d3_73) rfl ?_
        intro T74 h74 X74 e74 W74
        have F75 : Fld Z h74 a "com/example/iso_throttle/isothrottle/AdmissionTally" "limit" "D" (.double lim) := F56.same W74
        have F76 := F55.wr W74
        have F77 := F57.other W74 (Or.inr (slot_ne (Or.inr (hw _ (List.mem_of_getElem? (i := 42) rfl))) (Or.inr (hw _ (List.mem_of_getElem? (i := 39) rfl))) (by decide) (t := .double) (t' := .double) (by decide) (by decide)))
        have F78 := F58.wr W74
        have F79 := F59.other W74 (Or.inl (Ne.symm ne8))
        have F80 := F60.other W74 (Or.inl (Ne.symm ne8))
        have F81 := F61.other W74 (Or.inr (slot_ne (Or.inr (hw _ (List.mem_of_getElem? (i := 26) rfl))) (Or.inr (hw _ (List.mem_of_getElem? (i := 39) rfl))) (by decide) (t := (.object "com/example/iso_throttle/isothrottle/CompensatedSum")) (t' := .double) (by decide) (by decide)))
        have F82 := F62.wr W74
        have F83 := F63.other W74 (Or.inl (Ne.symm ne35))
        have F84 := F64.other W74 (Or.inl (Ne.symm ne35))
        have F85 := F54.other W74 (Or.inr (slot_ne (Or.inr (hw _ (List.mem_of_getElem? (i := 28) rfl))) (Or.inr (hw _ (List.mem_of_getElem? (i := 39) rfl))) (by decide) (t := (.object "com/example/iso_throttle/isothrottle/CompensatedSum")) (t' := .double) (by decide) (by decide)))
        have K86 := K65.wr W74 (Or.inl (List.mem_of_getElem? (i := 0) rfl))
        have N87 := Fr.snoc X74 N70 ga
        have Z88 : n0 ≤ h74.size := by rw [W74.size]; exact Z67
        refine g_aloadN X74 hx 77 (hb hby d3_76) rfl rfl rfl ?_
        refine g_iloadN X74 hx 78 (hb hby d3_77) rfl rfl ?_
        refine g_i2d X74 hx 79 (hb hby d3_78) rfl ?_
        refine g_ldc2D X74 hx 82 hZ hown (hw _ (List.mem_of_getElem? (i := 40) rfl)) (hb hby d3_79) rfl ?_
        refine g_ddiv X74 hx 83 (hb hby d3_82) rfl nc ?_
        refine g_putF X74 hx hZ hown (hw _ (List.mem_of_getElem? (i := 41) rfl)) Via.refl e74 F77 F76 (Or.inr ⟨(hw _ (List.mem_of_getElem? (i := 42) rfl)), rfl, hnm⟩) (hw _ (List.mem_of_getElem? (i := 10) rfl)) (ty := .double) (by decide) rfl rfl 86 (hb hby d3_83) rfl ?_
        intro T89 h89 X89 e89 W89
        have F90 : Fld Z h89 a "com/example/iso_throttle/isothrottle/AdmissionTally" "cycleSeconds" "D" (.double (FP.ddiv (FP.i2d cm) (4652007308841189376 : UInt64))) := F77.same W89
        have F91 := F76.wr W89
        have F92 := F78.wr W89
        have F93 := F79.other W89 (Or.inl (Ne.symm ne8))
        have F94 := F80.other W89 (Or.inl (Ne.symm ne8))
        have F95 := F81.other W89 (Or.inr (slot_ne (Or.inr (hw _ (List.mem_of_getElem? (i := 26) rfl))) (Or.inr (hw _ (List.mem_of_getElem? (i := 42) rfl))) (by decide) (t := (.object "com/example/iso_throttle/isothrottle/CompensatedSum")) (t' := .double) (by decide) (by decide)))
        have F96 := F82.wr W89
        have F97 := F83.other W89 (Or.inl (Ne.symm ne35))
        have F98 := F84.other W89 (Or.inl (Ne.symm ne35))
        have F99 := F85.other W89 (Or.inr (slot_ne (Or.inr (hw _ (List.mem_of_getElem? (i := 28) rfl))) (Or.inr (hw _ (List.mem_of_getElem? (i := 42) rfl))) (by decide) (t := (.object "com/example/iso_throttle/isothrottle/CompensatedSum")) (t' := .double) (by decide) (by decide)))
        have F100 := F75.other W89 (Or.inr (slot_ne (Or.inr (hw _ (List.mem_of_getElem? (i := 39) rfl))) (Or.inr (hw _ (List.mem_of_getElem? (i := 42) rfl))) (by decide) (t := .double) (t' := .double) (by decide) (by decide)))
        have K101 := K86.wr W89 (Or.inl (List.mem_of_getElem? (i := 0) rfl))
        have N102 := Fr.snoc X89 N87 ga
        have Z103 : n0 ≤ h89.size := by rw [W89.size]; exact Z88
        exact g_retV X89 hx hlk hret (hb hby d3_86) (by decide) (by decide) e89 ⟨rfl, N102, K101, F100, F90, a7, a34, F95, F99, ne36, F92, F96, F94, F93, F98, F97, sz10, sz38, ge9, ge37⟩
      · skip
        exfalso; omega
    · skip
      exfalso; revert c71; decide
theorem d9_0 : decode prog_1_method_2_code 0 = .ok (.dload_n 1, 1) := by decide +kernel
theorem d9_1 : decode prog_1_method_2_code 1 = .ok (.invokestatic 46, 3) := by decide +kernel
theorem d9_4 : decode prog_1_method_2_code 4 = .ok (.ifCond .ne 17, 3) := by decide +kernel
theorem d9_7 : decode prog_1_method_2_code 7 = .ok (.new 25, 3) := by decide +kernel
theorem d9_10 : decode prog_1_method_2_code 10 = .ok (.dup, 1) := by decide +kernel
theorem d9_11 : decode prog_1_method_2_code 11 = .ok (.dload_n 1, 1) := by decide +kernel
theorem d9_17 : decode prog_1_method_2_code 17 = .ok (.invokespecial 31, 3) := by decide +kernel
theorem d9_20 : decode prog_1_method_2_code 20 = .ok (.athrow, 1) := by decide +kernel
theorem d9_21 : decode prog_1_method_2_code 21 = .ok (.lload_n 3, 1) := by decide +kernel
theorem d9_22 : decode prog_1_method_2_code 22 = .ok (.lconst 0, 1) := by decide +kernel
theorem d9_23 : decode prog_1_method_2_code 23 = .ok (.lcmp, 1) := by decide +kernel
theorem d9_24 : decode prog_1_method_2_code 24 = .ok (.ifCond .ge 17, 3) := by decide +kernel
theorem d9_27 : decode prog_1_method_2_code 27 = .ok (.new 25, 3) := by decide +kernel
theorem d9_30 : decode prog_1_method_2_code 30 = .ok (.dup, 1) := by decide +kernel
theorem d9_31 : decode prog_1_method_2_code 31 = .ok (.lload_n 3, 1) := by decide +kernel
theorem d9_37 : decode prog_1_method_2_code 37 = .ok (.invokespecial 31, 3) := by decide +kernel
theorem d9_40 : decode prog_1_method_2_code 40 = .ok (.athrow, 1) := by decide +kernel
theorem d9_41 : decode prog_1_method_2_code 41 = .ok (.dconst 0, 1) := by decide +kernel
theorem d9_42 : decode prog_1_method_2_code 42 = .ok (.dload_n 1, 1) := by decide +kernel
theorem d9_43 : decode prog_1_method_2_code 43 = .ok (.aload_n 0, 1) := by decide +kernel
theorem d9_44 : decode prog_1_method_2_code 44 = .ok (.getfield 43, 3) := by decide +kernel
theorem d9_47 : decode prog_1_method_2_code 47 = .ok (.dmul, 1) := by decide +kernel
theorem d9_48 : decode prog_1_method_2_code 48 = .ok (.lload_n 3, 1) := by decide +kernel
theorem d9_49 : decode prog_1_method_2_code 49 = .ok (.l2d, 1) := by decide +kernel
theorem d9_50 : decode prog_1_method_2_code 50 = .ok (.invokestatic 53, 3) := by decide +kernel
theorem d9_53 : decode prog_1_method_2_code 53 = .ok (.invokestatic 59, 3) := by decide +kernel
theorem d9_56 : decode prog_1_method_2_code 56 = .ok (.dreturn, 1) := by decide +kernel
theorem own_pf4 : plainFor (⟨"com/example/iso_throttle/isothrottle/AdmissionTally", "admitted", "(DJ)D"⟩ : MethodName) = true := plainFor_of_name (by first | (simp [plainName, overriddenIn]; done) | decide +kernel)
def Q_rmAdm (P D : Int) (K : Nat) (n0 : Nat) (h0 : Heap) (v : Option Value) (h : Heap) (L : List Loc) : Prop := ∃ r : UInt64, v = some (.double r) ∧ DFix (max 0 (min P D)) K r ∧ Fr n0 L ∧ h = h0
theorem ef_rmAdm (a : Addr) (x : UInt64) (d : Int64) (m : MethodId) : entryFrame m #[(.ref a), (.double x), (.long d)] 5 = mkF m 0 #[.val (.ref a), .val (.double x), .second, .val (.long d), .second] [] := by first | (simp [entryFrame, mkF, argsToLocals, Value.category]; done) | rfl
set_option maxRecDepth 65536 in
set_option maxHeartbeats 40000000 in
theorem rmAdm (l : Launch) (Z : State) (a0 : Array Value) (hw : ∀ d ∈ tables_1, d.before a0 Z = true) (a : Addr) (x : UInt64) (d : Int64) (h0 : Heap) (n0 : Nat) (Z0 : n0 ≤ h0.size) (s : Int) (hx1 : Jvm.FP.Core.DInt s x) (hd0 : 0 ≤ d.toInt) (cy : UInt64) (F_cyc : Fld Z h0 a "com/example/iso_throttle/isothrottle/AdmissionTally" "cycleSeconds" "D" (.double cy)) (P D : Int) (K : Nat) (hp : DFix P K (FP.dmul x cy)) (hD : DFix D K (FP.l2d d)) :
    MetFree l (⟨"com/example/iso_throttle/isothrottle/AdmissionTally", "admitted", "(DJ)D"⟩ : MethodName) (head1 [Jvm.Cond.code (⟨"com/example/iso_throttle/isothrottle/AdmissionTally", "admitted", "(DJ)D"⟩ : MethodName) prog_1_method_2_code 5 (some .double)] ({ frames := 2, cells := 0, slots := 0, locals := 32 } : Room)) (fun as_ U => as_ = #[(.ref a), (.double x), (.long d)] ∧ Z.Warmed39 U.vm ∧ U.heap = h0) (fun _ _ _ _ _ => True) (fun _ U o U' => ∃ v L, o = .returned v ∧ Q_rmAdm P D K n0 h0 v U'.heap L ∧ FrameEnd U o U' L ({ frames := 2, cells := 0, slots := 0, locals := 32 } : Room).cells ({ frames := 2, cells := 0, slots := 0, locals := 32 } : Room).slots) := by
  refine own_met own_pf4 (ef_rmAdm a x d) ?_
  intro p e s m below meth c T0 X0 hx hby hml hret hlk hnm hown hZ e0
  have N0 := Fr.nil n0
  refine g_dloadN X0 hx 1 (hb hby d9_0) rfl rfl ?_
  refine g_static X0 hx hZ hown (hw _ (List.mem_of_getElem? (i := 55) rfl)) (hw _ (List.mem_of_getElem? (i := 56) rfl)) (hw _ (List.mem_of_getElem? (i := 31) rfl)) (hw _ (List.mem_of_getElem? (i := 57) rfl)) (by decide) (rmFin l Z a0 hw x h0 n0 Z0 (own_intfin hx1) (own_dnn hx1)) e0 (argsL := [(.double x)]) (rest := []) rfl rfl 0 4 rfl (by rw [hml]; rfl) (lenOf own_pd3 rfl) (Nat.le_refl _) (by decide) (by decide) (by decide) (by decide) (hb hby d9_1) ?_
  intro v104 T104 L104 X104 hQ104
  obtain ⟨rfl, N104, q104⟩ := hQ104
  have N105 := Fr.app N0 N104
  show Go p e below _ T104 (mkF m 4 #[.val (.ref a), .val (.double x), .second, .val (.long d), .second] [(.int (1 : Int32))])
  have ll107 : ((1 : Int32) : Int32).toInt = 1 := by decide
  refine g_if_ne X104 hx 21 7 (hb hby d9_4) (by decide) (by decide) rfl (fun c106 => ?_) (fun c106 => ?_)
  · skip
    refine g_lloadN X104 hx 22 (hb hby d9_21) rfl rfl ?_
    refine g_lconst X104 hx (0 : Int64) 23 (hb hby d9_22) rfl (by decide) ?_
    have ll109 : ((0 : Int64) : Int64).toInt = 0 := by decide
    refine g_lc_ge X104 hx 24 41 27 (hb hby d9_23) rfl (hb hby d9_24) (by decide) (by decide) rfl (fun c108 => ?_) (fun c108 => ?_)
    · skip
      refine g_dconst0 X104 hx 42 (hb hby d9_41) rfl ?_
      refine g_dloadN X104 hx 43 (hb hby d9_42) rfl rfl ?_
      refine g_aloadN X104 hx 44 (hb hby d9_43) rfl rfl rfl ?_
      refine g_getF X104 hx hZ hown (hw _ (List.mem_of_getElem? (i := 41) rfl)) Via.refl q104 F_cyc 47 (hb hby d9_44) rfl ?_
      intro T110 X110 e110
      refine g_dmul X110 hx 48 (hb hby d9_47) rfl (own_fixnn hp) ?_
      refine g_lloadN X110 hx 49 (hb hby d9_48) rfl rfl ?_
      refine g_l2d X110 hx 50 (hb hby d9_49) rfl ?_
      have M1 := own_minF hp hD
      have M2 := own_maxF (own_fixz K) M1
      refine g_minD X110 hx hZ hown (hw _ (List.mem_of_getElem? (i := 58) rfl)) (hw _ (List.mem_of_getElem? (i := 59) rfl)) (hw _ (List.mem_of_getElem? (i := 35) rfl)) (hw _ (List.mem_of_getElem? (i := 60) rfl)) rfl e110 (own_fixnn hp) (own_fixnn hD) (r := (Jvm.Native.java_lang_Math.nans.pick64 false (FP.dmul x cy) (FP.l2d d))) rfl 2 53 (hb hby d9_50) rfl (by rw [hml]; rfl) (Nat.le_refl _) (by decide) (by decide) (by decide) (by decide) own_pd7 ?_
      intro T111 X111 e111
      refine g_maxD X111 hx hZ hown (hw _ (List.mem_of_getElem? (i := 61) rfl)) (hw _ (List.mem_of_getElem? (i := 62) rfl)) (hw _ (List.mem_of_getElem? (i := 35) rfl)) (hw _ (List.mem_of_getElem? (i := 63) rfl)) rfl e111 (own_fixnn (own_fixz K)) (own_fixnn M1) (r := (Jvm.Native.java_lang_Math.nans.pick64 true 0 (Jvm.Native.java_lang_Math.nans.pick64 false (FP.dmul x cy) (FP.l2d d)))) rfl 0 56 (hb hby d9_53) rfl (by rw [hml]; rfl) (Nat.le_refl _) (by decide) (by decide) (by decide) (by decide) own_pd7 ?_
      intro T112 X112 e112
      exact g_retD X112 hx hlk hret (hb hby d9_56) (by decide) (by decide) e112 ⟨_, rfl, M2, N105, rfl⟩
    · skip
      exfalso; omega
  · skip
    exfalso; revert c106; decide
theorem d13_0 : decode prog_6_method_2_code 0 = .ok (.dload_n 1, 1) := by decide +kernel
theorem d13_1 : decode prog_6_method_2_code 1 = .ok (.aload_n 0, 1) := by decide +kernel
theorem d13_2 : decode prog_6_method_2_code 2 = .ok (.getfield 7, 3) := by decide +kernel
theorem d13_5 : decode prog_6_method_2_code 5 = .ok (.dsub, 1) := by decide +kernel
theorem d13_6 : decode prog_6_method_2_code 6 = .ok (.dstore_n 3, 1) := by decide +kernel
theorem d13_7 : decode prog_6_method_2_code 7 = .ok (.aload_n 0, 1) := by decide +kernel
theorem d13_8 : decode prog_6_method_2_code 8 = .ok (.getfield 13, 3) := by decide +kernel
theorem d13_11 : decode prog_6_method_2_code 11 = .ok (.dload_n 3, 1) := by decide +kernel
theorem d13_12 : decode prog_6_method_2_code 12 = .ok (.dadd, 1) := by decide +kernel
theorem d13_13 : decode prog_6_method_2_code 13 = .ok (.dstore 5, 2) := by decide +kernel
theorem d13_15 : decode prog_6_method_2_code 15 = .ok (.aload_n 0, 1) := by decide +kernel
theorem d13_16 : decode prog_6_method_2_code 16 = .ok (.dload 5, 2) := by decide +kernel
theorem d13_18 : decode prog_6_method_2_code 18 = .ok (.aload_n 0, 1) := by decide +kernel
theorem d13_19 : decode prog_6_method_2_code 19 = .ok (.getfield 13, 3) := by decide +kernel
theorem d13_22 : decode prog_6_method_2_code 22 = .ok (.dsub, 1) := by decide +kernel
theorem d13_23 : decode prog_6_method_2_code 23 = .ok (.dload_n 3, 1) := by decide +kernel
theorem d13_24 : decode prog_6_method_2_code 24 = .ok (.dsub, 1) := by decide +kernel
theorem d13_25 : decode prog_6_method_2_code 25 = .ok (.putfield 7, 3) := by decide +kernel
theorem d13_28 : decode prog_6_method_2_code 28 = .ok (.aload_n 0, 1) := by decide +kernel
theorem d13_29 : decode prog_6_method_2_code 29 = .ok (.dload 5, 2) := by decide +kernel
theorem d13_31 : decode prog_6_method_2_code 31 = .ok (.putfield 13, 3) := by decide +kernel
theorem d13_34 : decode prog_6_method_2_code 34 = .ok (.return_, 1) := by decide +kernel
theorem own_as {i j : Int} {a : UInt64} (e : i = j) (h : Jvm.FP.Core.DInt i a) : Jvm.FP.Core.DInt j a := e ▸ h
theorem own_pf5 : plainFor (⟨"com/example/iso_throttle/isothrottle/CompensatedSum", "add", "(D)V"⟩ : MethodName) = true := plainFor_of_name (by first | (simp [plainName, overriddenIn]; done) | decide +kernel)
def Q_rmAdd (Z : State) (a : Addr) (Ti Si : Int) (n0 : Nat) (h0 : Heap) (v : Option Value) (h : Heap) (L : List Loc) : Prop := v = none ∧ Fr n0 L ∧ Keep h0 h [a] ∧ ∃ c1 s1 : UInt64, Fld Z h a "com/example/iso_throttle/isothrottle/CompensatedSum" "compensation" "D" (.double c1) ∧ Fld Z h a "com/example/iso_throttle/isothrottle/CompensatedSum" "sum" "D" (.double s1) ∧ Jvm.FP.Core.DInt 0 c1 ∧ Jvm.FP.Core.DInt (Si + Ti) s1
theorem ef_rmAdd (a : Addr) (t : UInt64) (m : MethodId) : entryFrame m #[(.ref a), (.double t)] 7 = mkF m 0 #[.val (.ref a), .val (.double t), .second, .unset, .unset, .unset, .unset] [] := by first | (simp [entryFrame, mkF, argsToLocals, Value.category]; done) | rfl
set_option maxRecDepth 65536 in
set_option maxHeartbeats 40000000 in
theorem rmAdd (l : Launch) (Z : State) (a0 : Array Value) (hw : ∀ d ∈ tables_1, d.before a0 Z = true) (a : Addr) (t : UInt64) (h0 : Heap) (n0 : Nat) (Z0 : n0 ≤ h0.size) (c0 s0 : UInt64) (Ti Si : Int) (ht : Jvm.FP.Core.DInt Ti t) (hc0 : Jvm.FP.Core.DInt 0 c0) (hs0 : Jvm.FP.Core.DInt Si s0) (bT : -1000000000 ≤ Ti ∧ Ti ≤ 1000000000) (bS : -1000000000 ≤ Si ∧ Si ≤ 1000000000) (Ea : Exa Z h0 a "com/example/iso_throttle/isothrottle/CompensatedSum") (ga : n0 ≤ a) (Fc : Fld Z h0 a "com/example/iso_throttle/isothrottle/CompensatedSum" "compensation" "D" (.double c0)) (Fs : Fld Z h0 a "com/example/iso_throttle/isothrottle/CompensatedSum" "sum" "D" (.double s0)) :
    MetFree l (⟨"com/example/iso_throttle/isothrottle/CompensatedSum", "add", "(D)V"⟩ : MethodName) (head1 [Jvm.Cond.code (⟨"com/example/iso_throttle/isothrottle/CompensatedSum", "add", "(D)V"⟩ : MethodName) prog_6_method_2_code 7 none] ({ frames := 0, cells := 0, slots := 0, locals := 0 } : Room)) (fun as_ U => as_ = #[(.ref a), (.double t)] ∧ Z.Warmed39 U.vm ∧ U.heap = h0) (fun _ _ _ _ _ => True) (fun _ U o U' => ∃ v L, o = .returned v ∧ Q_rmAdd Z a Ti Si n0 h0 v U'.heap L ∧ FrameEnd U o U' L ({ frames := 0, cells := 0, slots := 0, locals := 0 } : Room).cells ({ frames := 0, cells := 0, slots := 0, locals := 0 } : Room).slots) := by
  refine own_met own_pf5 (ef_rmAdd a t) ?_
  intro p e s m below meth c T0 X0 hx hby hml hret hlk hnm hown hZ e0
  have N0 := Fr.nil n0
  have k1 := Jvm.FP.Core.dsub_int ht hc0 (by omega)
  have k2 := Jvm.FP.Core.dadd_int hs0 k1 (by omega)
  have k3 := Jvm.FP.Core.dsub_int k2 hs0 (by omega)
  have k4 := Jvm.FP.Core.dsub_int k3 k1 (by omega)
  refine g_dloadN X0 hx 1 (hb hby d13_0) rfl rfl ?_
  refine g_aloadN X0 hx 2 (hb hby d13_1) rfl rfl rfl ?_
  refine g_getF X0 hx hZ hown (hw _ (List.mem_of_getElem? (i := 69) rfl)) Via.refl e0 Fc 5 (hb hby d13_2) rfl ?_
  intro T113 X113 e113
  refine g_dsub X113 hx 6 (hb hby d13_5) rfl (own_dnn k1) ?_
  refine g_dstoreN (l' := #[.val (.ref a), .val (.double t), .second, .val (.double (FP.dsub t c0)), .second, .unset, .unset]) X113 hx 7 (hb hby d13_6) rfl rfl ?_
  refine g_aloadN X113 hx 8 (hb hby d13_7) rfl rfl rfl ?_
  refine g_getF X113 hx hZ hown (hw _ (List.mem_of_getElem? (i := 71) rfl)) Via.refl e113 Fs 11 (hb hby d13_8) rfl ?_
  intro T114 X114 e114
  refine g_dloadN X114 hx 12 (hb hby d13_11) rfl rfl ?_
  refine g_dadd X114 hx 13 (hb hby d13_12) rfl (own_dnn k2) ?_
  refine g_dstore (l' := #[.val (.ref a), .val (.double t), .second, .val (.double (FP.dsub t c0)), .second, .val (.double (FP.dadd s0 (FP.dsub t c0))), .second]) X114 hx 15 (hb hby d13_13) rfl rfl ?_
  refine g_aloadN X114 hx 16 (hb hby d13_15) rfl rfl rfl ?_
  refine g_dload X114 hx 18 (hb hby d13_16) rfl rfl ?_
  refine g_aloadN X114 hx 19 (hb hby d13_18) rfl rfl rfl ?_
  refine g_getF X114 hx hZ hown (hw _ (List.mem_of_getElem? (i := 71) rfl)) Via.refl e114 Fs 22 (hb hby d13_19) rfl ?_
  intro T115 X115 e115
  refine g_dsub X115 hx 23 (hb hby d13_22) rfl (own_dnn k3) ?_
  refine g_dloadN X115 hx 24 (hb hby d13_23) rfl rfl ?_
  refine g_dsub X115 hx 25 (hb hby d13_24) rfl (own_dnn k4) ?_
  refine g_putF X115 hx hZ hown (hw _ (List.mem_of_getElem? (i := 69) rfl)) Via.refl e115 Fc Ea (Or.inl (hw _ (List.mem_of_getElem? (i := 70) rfl))) (hw _ (List.mem_of_getElem? (i := 19) rfl)) (ty := .double) (by decide) rfl rfl 28 (hb hby d13_25) rfl ?_
  intro T116 h116 X116 e116 W116
  have F117 : Fld Z h116 a "com/example/iso_throttle/isothrottle/CompensatedSum" "compensation" "D" (.double (FP.dsub (FP.dsub (FP.dadd s0 (FP.dsub t c0)) s0) (FP.dsub t c0))) := Fc.same W116
  have F118 := Ea.wr W116
  have F119 := Fs.other W116 (Or.inr (slot_ne (Or.inl (hw _ (List.mem_of_getElem? (i := 72) rfl))) (Or.inl (hw _ (List.mem_of_getElem? (i := 70) rfl))) (by decide) (t := .double) (t' := .double) (by decide) (by decide)))
  have K120 := (Keep.refl h0 [a]).wr W116 (Or.inl (List.mem_of_getElem? (i := 0) rfl))
  have N121 := Fr.snoc X116 N0 ga
  have Z122 : n0 ≤ h116.size := by rw [W116.size]; exact Z0
  refine g_aloadN X116 hx 29 (hb hby d13_28) rfl rfl rfl ?_
  refine g_dload X116 hx 31 (hb hby d13_29) rfl rfl ?_
  refine g_putF X116 hx hZ hown (hw _ (List.mem_of_getElem? (i := 71) rfl)) Via.refl e116 F119 F118 (Or.inl (hw _ (List.mem_of_getElem? (i := 72) rfl))) (hw _ (List.mem_of_getElem? (i := 19) rfl)) (ty := .double) (by decide) rfl rfl 34 (hb hby d13_31) rfl ?_
  intro T123 h123 X123 e123 W123
  have F124 : Fld Z h123 a "com/example/iso_throttle/isothrottle/CompensatedSum" "sum" "D" (.double (FP.dadd s0 (FP.dsub t c0))) := F119.same W123
  have F125 := F118.wr W123
  have F126 := F117.other W123 (Or.inr (slot_ne (Or.inl (hw _ (List.mem_of_getElem? (i := 70) rfl))) (Or.inl (hw _ (List.mem_of_getElem? (i := 72) rfl))) (by decide) (t := .double) (t' := .double) (by decide) (by decide)))
  have K127 := K120.wr W123 (Or.inl (List.mem_of_getElem? (i := 0) rfl))
  have N128 := Fr.snoc X123 N121 ga
  have Z129 : n0 ≤ h123.size := by rw [W123.size]; exact Z122
  exact g_retV X123 hx hlk hret (hb hby d13_34) (by decide) (by decide) e123 ⟨rfl, N128, K127, _, _, F126, F124, own_as (by omega) k4, own_as (by omega) k2⟩
theorem d15_0 : decode prog_6_method_3_code 0 = .ok (.aload_n 0, 1) := by decide +kernel
theorem d15_1 : decode prog_6_method_3_code 1 = .ok (.getfield 13, 3) := by decide +kernel
theorem d15_4 : decode prog_6_method_3_code 4 = .ok (.dreturn, 1) := by decide +kernel
theorem own_pf6 : plainFor (⟨"com/example/iso_throttle/isothrottle/CompensatedSum", "value", "()D"⟩ : MethodName) = true := plainFor_of_name (by first | (simp [plainName, overriddenIn]; done) | decide +kernel)
def Q_rmVal (s0 : UInt64) (n0 : Nat) (h0 : Heap) (v : Option Value) (h : Heap) (L : List Loc) : Prop := v = some (.double s0) ∧ Fr n0 L ∧ h = h0
theorem ef_rmVal (a : Addr) (m : MethodId) : entryFrame m #[(.ref a)] 1 = mkF m 0 #[.val (.ref a)] [] := by first | (simp [entryFrame, mkF, argsToLocals, Value.category]; done) | rfl
set_option maxRecDepth 65536 in
set_option maxHeartbeats 40000000 in
theorem rmVal (l : Launch) (Z : State) (a0 : Array Value) (hw : ∀ d ∈ tables_1, d.before a0 Z = true) (a : Addr) (h0 : Heap) (n0 : Nat) (Z0 : n0 ≤ h0.size) (s0 : UInt64) (Fs : Fld Z h0 a "com/example/iso_throttle/isothrottle/CompensatedSum" "sum" "D" (.double s0)) :
    MetFree l (⟨"com/example/iso_throttle/isothrottle/CompensatedSum", "value", "()D"⟩ : MethodName) (head1 [Jvm.Cond.code (⟨"com/example/iso_throttle/isothrottle/CompensatedSum", "value", "()D"⟩ : MethodName) prog_6_method_3_code 1 (some .double)] ({ frames := 0, cells := 0, slots := 0, locals := 0 } : Room)) (fun as_ U => as_ = #[(.ref a)] ∧ Z.Warmed39 U.vm ∧ U.heap = h0) (fun _ _ _ _ _ => True) (fun _ U o U' => ∃ v L, o = .returned v ∧ Q_rmVal s0 n0 h0 v U'.heap L ∧ FrameEnd U o U' L ({ frames := 0, cells := 0, slots := 0, locals := 0 } : Room).cells ({ frames := 0, cells := 0, slots := 0, locals := 0 } : Room).slots) := by
  refine own_met own_pf6 (ef_rmVal a) ?_
  intro p e s m below meth c T0 X0 hx hby hml hret hlk hnm hown hZ e0
  have N0 := Fr.nil n0
  refine g_aloadN X0 hx 1 (hb hby d15_0) rfl rfl rfl ?_
  refine g_getF X0 hx hZ hown (hw _ (List.mem_of_getElem? (i := 71) rfl)) Via.refl e0 Fs 4 (hb hby d15_1) rfl ?_
  intro T130 X130 e130
  exact g_retD X130 hx hlk hret (hb hby d15_4) (by decide) (by decide) e130 ⟨rfl, N0, rfl⟩
def own_ad (s c d : Int) : Int := max 0 (min (s * c) d)
theorem own_ad_b {s c d : Int} (h : 0 ≤ d) : 0 ≤ own_ad s c d ∧ own_ad s c d ≤ d := by unfold own_ad; omega
def own_idl (x y : Int) : Int := min x y
theorem own_idl_b {x y : Int} (h : 0 ≤ x) (h' : 0 ≤ y) : 0 ≤ own_idl x y ∧ own_idl x y ≤ y := by unfold own_idl; omega
theorem own_bit {x y : Int64} (h : (x ^^^ y).toInt < 0) (hx : 0 ≤ x.toInt) (hy : 0 ≤ y.toInt) : False := by
  have := (c_xorSL x y).2.2.2 hx hy
  omega
theorem d14_0 : decode jdk_29_method_25_code 0 = .ok (.lload_n 0, 1) := by decide +kernel
theorem d14_1 : decode jdk_29_method_25_code 1 = .ok (.lload_n 2, 1) := by decide +kernel
theorem d14_2 : decode jdk_29_method_25_code 2 = .ok (.ladd, 1) := by decide +kernel
theorem d14_3 : decode jdk_29_method_25_code 3 = .ok (.lstore 4, 2) := by decide +kernel
theorem d14_5 : decode jdk_29_method_25_code 5 = .ok (.lload_n 0, 1) := by decide +kernel
theorem d14_6 : decode jdk_29_method_25_code 6 = .ok (.lload 4, 2) := by decide +kernel
theorem d14_8 : decode jdk_29_method_25_code 8 = .ok (.lxor, 1) := by decide +kernel
theorem d14_9 : decode jdk_29_method_25_code 9 = .ok (.lload_n 2, 1) := by decide +kernel
theorem d14_10 : decode jdk_29_method_25_code 10 = .ok (.lload 4, 2) := by decide +kernel
theorem d14_12 : decode jdk_29_method_25_code 12 = .ok (.lxor, 1) := by decide +kernel
theorem d14_13 : decode jdk_29_method_25_code 13 = .ok (.land, 1) := by decide +kernel
theorem d14_14 : decode jdk_29_method_25_code 14 = .ok (.lconst 0, 1) := by decide +kernel
theorem d14_15 : decode jdk_29_method_25_code 15 = .ok (.lcmp, 1) := by decide +kernel
theorem d14_16 : decode jdk_29_method_25_code 16 = .ok (.ifCond .ge 13, 3) := by decide +kernel
theorem d14_19 : decode jdk_29_method_25_code 19 = .ok (.new 109, 3) := by decide +kernel
theorem d14_22 : decode jdk_29_method_25_code 22 = .ok (.dup, 1) := by decide +kernel
theorem d14_23 : decode jdk_29_method_25_code 23 = .ok (.ldc 116, 2) := by decide +kernel
theorem d14_25 : decode jdk_29_method_25_code 25 = .ok (.invokespecial 113, 3) := by decide +kernel
theorem d14_28 : decode jdk_29_method_25_code 28 = .ok (.athrow, 1) := by decide +kernel
theorem d14_29 : decode jdk_29_method_25_code 29 = .ok (.lload 4, 2) := by decide +kernel
theorem d14_31 : decode jdk_29_method_25_code 31 = .ok (.lreturn, 1) := by decide +kernel
theorem own_pf7 : plainFor (⟨"java/lang/Math", "addExact", "(JJ)J"⟩ : MethodName) = true := Jvm.Free.JP.mathPlain rfl (by decide)
def Q_rmAE (x y : Int64) (n0 : Nat) (h0 : Heap) (v : Option Value) (h : Heap) (L : List Loc) : Prop := ∃ r : Int64, v = some (.long r) ∧ r.toInt = x.toInt + y.toInt ∧ Fr n0 L ∧ h = h0
theorem ef_rmAE (x y : Int64) (m : MethodId) : entryFrame m #[(.long x), (.long y)] 6 = mkF m 0 #[.val (.long x), .second, .val (.long y), .second, .unset, .unset] [] := by first | (simp [entryFrame, mkF, argsToLocals, Value.category]; done) | rfl
set_option maxRecDepth 65536 in
set_option maxHeartbeats 40000000 in
theorem rmAE (l : Launch) (Z : State) (a0 : Array Value) (hw : ∀ d ∈ tables_1, d.before a0 Z = true) (x y : Int64) (h0 : Heap) (n0 : Nat) (Z0 : n0 ≤ h0.size) (bx : 0 ≤ x.toInt ∧ x.toInt ≤ 100000) (by_ : 0 ≤ y.toInt ∧ y.toInt ≤ 100000) :
    MetFree l (⟨"java/lang/Math", "addExact", "(JJ)J"⟩ : MethodName) (head1 [Jvm.Cond.code (⟨"java/lang/Math", "addExact", "(JJ)J"⟩ : MethodName) jdk_29_method_25_code 6 (some .long)] ({ frames := 0, cells := 0, slots := 0, locals := 0 } : Room)) (fun as_ U => as_ = #[(.long x), (.long y)] ∧ Z.Warmed39 U.vm ∧ U.heap = h0) (fun _ _ _ _ _ => True) (fun _ U o U' => ∃ v L, o = .returned v ∧ Q_rmAE x y n0 h0 v U'.heap L ∧ FrameEnd U o U' L ({ frames := 0, cells := 0, slots := 0, locals := 0 } : Room).cells ({ frames := 0, cells := 0, slots := 0, locals := 0 } : Room).slots) := by
  refine own_met own_pf7 (ef_rmAE x y) ?_
  intro p e s m below meth c T0 X0 hx hby hml hret hlk hnm hown hZ e0
  have N0 := Fr.nil n0
  have e1 := c_ladd x y
  have e2 := rng64 (x + y)
  refine g_lloadN X0 hx 1 (hb hby d14_0) rfl rfl ?_
  refine g_lloadN X0 hx 2 (hb hby d14_1) rfl rfl ?_
  refine g_ladd X0 hx 3 (hb hby d14_2) rfl ?_
  refine g_lstore (l' := #[.val (.long x), .second, .val (.long y), .second, .val (.long (x + y)), .second]) X0 hx 5 (hb hby d14_3) rfl rfl ?_
  generalize hr : (x + y) = r
  rw [hr] at e1 e2
  have e3 := (c_andSL (x ^^^ r) (y ^^^ r)).2.1 ((c_xorSL x r).2.2.2 (by omega) (by omega))
  refine g_lloadN X0 hx 6 (hb hby d14_5) rfl rfl ?_
  refine g_lload X0 hx 8 (hb hby d14_6) rfl rfl ?_
  refine g_lxor X0 hx 9 (hb hby d14_8) rfl ?_
  refine g_lloadN X0 hx 10 (hb hby d14_9) rfl rfl ?_
  refine g_lload X0 hx 12 (hb hby d14_10) rfl rfl ?_
  refine g_lxor X0 hx 13 (hb hby d14_12) rfl ?_
  refine g_land X0 hx 14 (hb hby d14_13) rfl ?_
  refine g_lconst X0 hx (0 : Int64) 15 (hb hby d14_14) rfl (by decide) ?_
  have ll132 : ((0 : Int64) : Int64).toInt = 0 := by decide
  refine g_lc_ge X0 hx 16 29 19 (hb hby d14_15) rfl (hb hby d14_16) (by decide) (by decide) rfl (fun c131 => ?_) (fun c131 => ?_)
  · skip
    refine g_lload X0 hx 31 (hb hby d14_29) rfl rfl ?_
    exact g_retJ X0 hx hlk hret (hb hby d14_31) (by decide) (by decide) e0 ⟨_, rfl, by omega, N0, rfl⟩
  · skip
    exfalso; omega
theorem d16_0 : decode jdk_29_method_70_code 0 = .ok (.lload_n 0, 1) := by decide +kernel
theorem d16_1 : decode jdk_29_method_70_code 1 = .ok (.lload_n 2, 1) := by decide +kernel
theorem d16_2 : decode jdk_29_method_70_code 2 = .ok (.lcmp, 1) := by decide +kernel
theorem d16_3 : decode jdk_29_method_70_code 3 = .ok (.ifCond .gt 7, 3) := by decide +kernel
theorem d16_6 : decode jdk_29_method_70_code 6 = .ok (.lload_n 0, 1) := by decide +kernel
theorem d16_7 : decode jdk_29_method_70_code 7 = .ok (.goto 4, 3) := by decide +kernel
theorem d16_10 : decode jdk_29_method_70_code 10 = .ok (.lload_n 2, 1) := by decide +kernel
theorem d16_11 : decode jdk_29_method_70_code 11 = .ok (.lreturn, 1) := by decide +kernel
theorem own_pf8 : plainFor (⟨"java/lang/Math", "min", "(JJ)J"⟩ : MethodName) = true := Jvm.Free.JP.mathPlain rfl (by decide)
def Q_rmMinJ (x y : Int64) (n0 : Nat) (h0 : Heap) (v : Option Value) (h : Heap) (L : List Loc) : Prop := ∃ r : Int64, v = some (.long r) ∧ r.toInt = own_idl x.toInt y.toInt ∧ Fr n0 L ∧ h = h0
theorem ef_rmMinJ (x y : Int64) (m : MethodId) : entryFrame m #[(.long x), (.long y)] 4 = mkF m 0 #[.val (.long x), .second, .val (.long y), .second] [] := by first | (simp [entryFrame, mkF, argsToLocals, Value.category]; done) | rfl
set_option maxRecDepth 65536 in
set_option maxHeartbeats 40000000 in
theorem rmMinJ (l : Launch) (Z : State) (a0 : Array Value) (hw : ∀ d ∈ tables_1, d.before a0 Z = true) (x y : Int64) (h0 : Heap) (n0 : Nat) (Z0 : n0 ≤ h0.size)  :
    MetFree l (⟨"java/lang/Math", "min", "(JJ)J"⟩ : MethodName) (head1 [Jvm.Cond.code (⟨"java/lang/Math", "min", "(JJ)J"⟩ : MethodName) jdk_29_method_70_code 4 (some .long)] ({ frames := 0, cells := 0, slots := 0, locals := 0 } : Room)) (fun as_ U => as_ = #[(.long x), (.long y)] ∧ Z.Warmed39 U.vm ∧ U.heap = h0) (fun _ _ _ _ _ => True) (fun _ U o U' => ∃ v L, o = .returned v ∧ Q_rmMinJ x y n0 h0 v U'.heap L ∧ FrameEnd U o U' L ({ frames := 0, cells := 0, slots := 0, locals := 0 } : Room).cells ({ frames := 0, cells := 0, slots := 0, locals := 0 } : Room).slots) := by
  refine own_met own_pf8 (ef_rmMinJ x y) ?_
  intro p e s m below meth c T0 X0 hx hby hml hret hlk hnm hown hZ e0
  have N0 := Fr.nil n0
  refine g_lloadN X0 hx 1 (hb hby d16_0) rfl rfl ?_
  refine g_lloadN X0 hx 2 (hb hby d16_1) rfl rfl ?_
  refine g_lc_gt X0 hx 3 10 6 (hb hby d16_2) rfl (hb hby d16_3) (by decide) (by decide) rfl (fun c133 => ?_) (fun c133 => ?_)
  · skip
    refine g_lloadN X0 hx 11 (hb hby d16_10) rfl rfl ?_
    exact g_retJ X0 hx hlk hret (hb hby d16_11) (by decide) (by decide) e0 ⟨_, rfl, by unfold own_idl; omega, N0, rfl⟩
  · skip
    refine g_lloadN X0 hx 7 (hb hby d16_6) rfl rfl ?_
    refine g_goto X0 hx 11 (hb hby d16_7) (by decide) (by decide) ?_
    exact g_retJ X0 hx hlk hret (hb hby d16_11) (by decide) (by decide) e0 ⟨_, rfl, by unfold own_idl; omega, N0, rfl⟩
theorem own_m11 (x : Int64) : 0 ≤ (x &&& (2047 : Int64)).toInt ∧ (x &&& (2047 : Int64)).toInt ≤ 2047 := by
  have := c_maskL x 2047 11 (by decide) (by decide)
  have e : ((2 ^ 11 : Nat) : Int) = 2048 := rfl
  rw [e] at this
  omega
theorem own_pb {s c : Int} (hs : -1024 ≤ s ∧ s ≤ 1024) (hc : 1 ≤ c ∧ c ≤ 4) : (-4096 ≤ s * c ∧ s * c ≤ 4096) ∧ (s ≤ 0 → s * c ≤ 0) ∧ (0 < s → 0 < s * c) := by
  have C : c = 1 ∨ c = 2 ∨ c = 3 ∨ c = 4 := by omega
  rcases C with rfl | rfl | rfl | rfl <;> omega
theorem d1_0 : decode method_3_code 0 = .ok (.lload_n 0, 1) := by decide +kernel
theorem d1_1 : decode method_3_code 1 = .ok (.iload_n 2, 1) := by decide +kernel
theorem d1_2 : decode method_3_code 2 = .ok (.lushr, 1) := by decide +kernel
theorem d1_3 : decode method_3_code 3 = .ok (.ldc2_w 41, 3) := by decide +kernel
theorem d1_6 : decode method_3_code 6 = .ok (.land, 1) := by decide +kernel
theorem d1_7 : decode method_3_code 7 = .ok (.ldc2_w 43, 3) := by decide +kernel
theorem d1_10 : decode method_3_code 10 = .ok (.lsub, 1) := by decide +kernel
theorem d1_11 : decode method_3_code 11 = .ok (.lreturn, 1) := by decide +kernel
theorem own_pf9 : plainFor (⟨"com/example/iso_throttle/isothrottle/AdmissionTallyOverThrottlingPctPinLaw", "share", "(JI)J"⟩ : MethodName) = true := plainFor_of_name (by first | (simp [plainName, overriddenIn]; done) | decide +kernel)
def Q_rmSh (n0 : Nat) (h0 : Heap) (v : Option Value) (h : Heap) (L : List Loc) : Prop := ∃ r : Int64, v = some (.long r) ∧ (-1024 ≤ r.toInt ∧ r.toInt ≤ 1024) ∧ Fr n0 L ∧ h = h0
theorem ef_rmSh (x : Int64) (k : Int32) (m : MethodId) : entryFrame m #[(.long x), (.int k)] 3 = mkF m 0 #[.val (.long x), .second, .val (.int k)] [] := by first | (simp [entryFrame, mkF, argsToLocals, Value.category]; done) | rfl
set_option maxRecDepth 65536 in
set_option maxHeartbeats 40000000 in
theorem rmSh (l : Launch) (Z : State) (a0 : Array Value) (hw : ∀ d ∈ tables_1, d.before a0 Z = true) (x : Int64) (k : Int32) (h0 : Heap) (n0 : Nat) (Z0 : n0 ≤ h0.size)  :
    MetFree l (⟨"com/example/iso_throttle/isothrottle/AdmissionTallyOverThrottlingPctPinLaw", "share", "(JI)J"⟩ : MethodName) (head1 [Jvm.Cond.code (⟨"com/example/iso_throttle/isothrottle/AdmissionTallyOverThrottlingPctPinLaw", "share", "(JI)J"⟩ : MethodName) method_3_code 3 (some .long)] ({ frames := 0, cells := 0, slots := 0, locals := 0 } : Room)) (fun as_ U => as_ = #[(.long x), (.int k)] ∧ Z.Warmed39 U.vm ∧ U.heap = h0) (fun _ _ _ _ _ => True) (fun _ U o U' => ∃ v L, o = .returned v ∧ Q_rmSh n0 h0 v U'.heap L ∧ FrameEnd U o U' L ({ frames := 0, cells := 0, slots := 0, locals := 0 } : Room).cells ({ frames := 0, cells := 0, slots := 0, locals := 0 } : Room).slots) := by
  refine own_met own_pf9 (ef_rmSh x k) ?_
  intro p e s m below meth c T0 X0 hx hby hml hret hlk hnm hown hZ e0
  have N0 := Fr.nil n0
  refine g_lloadN X0 hx 1 (hb hby d1_0) rfl rfl ?_
  refine g_iloadN X0 hx 2 (hb hby d1_1) rfl rfl ?_
  refine g_lushr X0 hx 3 (hb hby d1_2) rfl ?_
  refine g_ldc2J X0 hx 6 hZ hown (hw _ (List.mem_of_getElem? (i := 4) rfl)) (hb hby d1_3) rfl ?_
  refine g_land X0 hx 7 (hb hby d1_6) rfl ?_
  generalize hz : (((x.toUInt64 >>> (k &&& 0x3f).toInt64.toUInt64).toInt64) &&& (2047 : Int64)) = z
  have e1 := own_m11 ((x.toUInt64 >>> (k &&& 0x3f).toInt64.toUInt64).toInt64)
  rw [hz] at e1
  have e2 := c_lsub z 1024
  have e3 := rng64 (z - 1024)
  have l0 : (1024 : Int64).toInt = 1024 := by decide
  rw [l0] at e2
  refine g_ldc2J X0 hx 10 hZ hown (hw _ (List.mem_of_getElem? (i := 5) rfl)) (hb hby d1_7) rfl ?_
  refine g_lsub X0 hx 11 (hb hby d1_10) rfl ?_
  exact g_retJ X0 hx hlk hret (hb hby d1_11) (by decide) (by decide) e0 ⟨_, rfl, by omega, N0, rfl⟩
theorem d2_0 : decode method_4_code 0 = .ok (.lload_n 0, 1) := by decide +kernel
theorem d2_1 : decode method_4_code 1 = .ok (.iload_n 2, 1) := by decide +kernel
theorem d2_2 : decode method_4_code 2 = .ok (.lushr, 1) := by decide +kernel
theorem d2_3 : decode method_4_code 3 = .ok (.ldc2_w 41, 3) := by decide +kernel
theorem d2_6 : decode method_4_code 6 = .ok (.land, 1) := by decide +kernel
theorem d2_7 : decode method_4_code 7 = .ok (.lreturn, 1) := by decide +kernel
theorem own_pf10 : plainFor (⟨"com/example/iso_throttle/isothrottle/AdmissionTallyOverThrottlingPctPinLaw", "demand", "(JI)J"⟩ : MethodName) = true := plainFor_of_name (by first | (simp [plainName, overriddenIn]; done) | decide +kernel)
def Q_rmDe (n0 : Nat) (h0 : Heap) (v : Option Value) (h : Heap) (L : List Loc) : Prop := ∃ r : Int64, v = some (.long r) ∧ (0 ≤ r.toInt ∧ r.toInt ≤ 2047) ∧ Fr n0 L ∧ h = h0
theorem ef_rmDe (x : Int64) (k : Int32) (m : MethodId) : entryFrame m #[(.long x), (.int k)] 3 = mkF m 0 #[.val (.long x), .second, .val (.int k)] [] := by first | (simp [entryFrame, mkF, argsToLocals, Value.category]; done) | rfl
set_option maxRecDepth 65536 in
set_option maxHeartbeats 40000000 in
theorem rmDe (l : Launch) (Z : State) (a0 : Array Value) (hw : ∀ d ∈ tables_1, d.before a0 Z = true) (x : Int64) (k : Int32) (h0 : Heap) (n0 : Nat) (Z0 : n0 ≤ h0.size)  :
    MetFree l (⟨"com/example/iso_throttle/isothrottle/AdmissionTallyOverThrottlingPctPinLaw", "demand", "(JI)J"⟩ : MethodName) (head1 [Jvm.Cond.code (⟨"com/example/iso_throttle/isothrottle/AdmissionTallyOverThrottlingPctPinLaw", "demand", "(JI)J"⟩ : MethodName) method_4_code 3 (some .long)] ({ frames := 0, cells := 0, slots := 0, locals := 0 } : Room)) (fun as_ U => as_ = #[(.long x), (.int k)] ∧ Z.Warmed39 U.vm ∧ U.heap = h0) (fun _ _ _ _ _ => True) (fun _ U o U' => ∃ v L, o = .returned v ∧ Q_rmDe n0 h0 v U'.heap L ∧ FrameEnd U o U' L ({ frames := 0, cells := 0, slots := 0, locals := 0 } : Room).cells ({ frames := 0, cells := 0, slots := 0, locals := 0 } : Room).slots) := by
  refine own_met own_pf10 (ef_rmDe x k) ?_
  intro p e s m below meth c T0 X0 hx hby hml hret hlk hnm hown hZ e0
  have N0 := Fr.nil n0
  refine g_lloadN X0 hx 1 (hb hby d2_0) rfl rfl ?_
  refine g_iloadN X0 hx 2 (hb hby d2_1) rfl rfl ?_
  refine g_lushr X0 hx 3 (hb hby d2_2) rfl ?_
  refine g_ldc2J X0 hx 6 hZ hown (hw _ (List.mem_of_getElem? (i := 4) rfl)) (hb hby d2_3) rfl ?_
  refine g_land X0 hx 7 (hb hby d2_6) rfl ?_
  exact g_retJ X0 hx hlk hret (hb hby d2_7) (by decide) (by decide) e0 ⟨_, rfl, own_m11 _, N0, rfl⟩
theorem d17_0 : decode method_5_code 0 = .ok (.lload_n 0, 1) := by decide +kernel
theorem d17_1 : decode method_5_code 1 = .ok (.lconst 0, 1) := by decide +kernel
theorem d17_2 : decode method_5_code 2 = .ok (.lcmp, 1) := by decide +kernel
theorem d17_3 : decode method_5_code 3 = .ok (.ifCond .gt 5, 3) := by decide +kernel
theorem d17_6 : decode method_5_code 6 = .ok (.lconst 0, 1) := by decide +kernel
theorem d17_7 : decode method_5_code 7 = .ok (.lreturn, 1) := by decide +kernel
theorem d17_8 : decode method_5_code 8 = .ok (.lload_n 0, 1) := by decide +kernel
theorem d17_9 : decode method_5_code 9 = .ok (.iload 4, 2) := by decide +kernel
theorem d17_11 : decode method_5_code 11 = .ok (.i2l, 1) := by decide +kernel
theorem d17_12 : decode method_5_code 12 = .ok (.lmul, 1) := by decide +kernel
theorem d17_13 : decode method_5_code 13 = .ok (.lstore 5, 2) := by decide +kernel
theorem d17_15 : decode method_5_code 15 = .ok (.lload 5, 2) := by decide +kernel
theorem d17_17 : decode method_5_code 17 = .ok (.lload_n 2, 1) := by decide +kernel
theorem d17_18 : decode method_5_code 18 = .ok (.lcmp, 1) := by decide +kernel
theorem d17_19 : decode method_5_code 19 = .ok (.ifCond .ge 6, 3) := by decide +kernel
theorem d17_22 : decode method_5_code 22 = .ok (.lload 5, 2) := by decide +kernel
theorem d17_24 : decode method_5_code 24 = .ok (.lreturn, 1) := by decide +kernel
theorem d17_25 : decode method_5_code 25 = .ok (.lload_n 2, 1) := by decide +kernel
theorem d17_26 : decode method_5_code 26 = .ok (.lreturn, 1) := by decide +kernel
theorem own_pf11 : plainFor (⟨"com/example/iso_throttle/isothrottle/AdmissionTallyOverThrottlingPctPinLaw", "admit", "(JJI)J"⟩ : MethodName) = true := plainFor_of_name (by first | (simp [plainName, overriddenIn]; done) | decide +kernel)
def Q_rmAd (ss d : Int64) (cc : Int32) (n0 : Nat) (h0 : Heap) (v : Option Value) (h : Heap) (L : List Loc) : Prop := ∃ r : Int64, v = some (.long r) ∧ r.toInt = own_ad ss.toInt cc.toInt d.toInt ∧ Fr n0 L ∧ h = h0
theorem ef_rmAd (ss d : Int64) (cc : Int32) (m : MethodId) : entryFrame m #[(.long ss), (.long d), (.int cc)] 7 = mkF m 0 #[.val (.long ss), .second, .val (.long d), .second, .val (.int cc), .unset, .unset] [] := by first | (simp [entryFrame, mkF, argsToLocals, Value.category]; done) | rfl
set_option maxRecDepth 65536 in
set_option maxHeartbeats 40000000 in
theorem rmAd (l : Launch) (Z : State) (a0 : Array Value) (hw : ∀ d ∈ tables_1, d.before a0 Z = true) (ss d : Int64) (cc : Int32) (h0 : Heap) (n0 : Nat) (Z0 : n0 ≤ h0.size) (bs : -1024 ≤ ss.toInt ∧ ss.toInt ≤ 1024) (bd : 0 ≤ d.toInt ∧ d.toInt ≤ 2047) (bc : 1 ≤ cc.toInt ∧ cc.toInt ≤ 4) :
    MetFree l (⟨"com/example/iso_throttle/isothrottle/AdmissionTallyOverThrottlingPctPinLaw", "admit", "(JJI)J"⟩ : MethodName) (head1 [Jvm.Cond.code (⟨"com/example/iso_throttle/isothrottle/AdmissionTallyOverThrottlingPctPinLaw", "admit", "(JJI)J"⟩ : MethodName) method_5_code 7 (some .long)] ({ frames := 0, cells := 0, slots := 0, locals := 0 } : Room)) (fun as_ U => as_ = #[(.long ss), (.long d), (.int cc)] ∧ Z.Warmed39 U.vm ∧ U.heap = h0) (fun _ _ _ _ _ => True) (fun _ U o U' => ∃ v L, o = .returned v ∧ Q_rmAd ss d cc n0 h0 v U'.heap L ∧ FrameEnd U o U' L ({ frames := 0, cells := 0, slots := 0, locals := 0 } : Room).cells ({ frames := 0, cells := 0, slots := 0, locals := 0 } : Room).slots) := by
  refine own_met own_pf11 (ef_rmAd ss d cc) ?_
  intro p e s m below meth c T0 X0 hx hby hml hret hlk hnm hown hZ e0
  have N0 := Fr.nil n0
  have pb := own_pb bs bc
  refine g_lloadN X0 hx 1 (hb hby d17_0) rfl rfl ?_
  refine g_lconst X0 hx (0 : Int64) 2 (hb hby d17_1) rfl (by decide) ?_
  have ll135 : ((0 : Int64) : Int64).toInt = 0 := by decide
  refine g_lc_gt X0 hx 3 8 6 (hb hby d17_2) rfl (hb hby d17_3) (by decide) (by decide) rfl (fun c134 => ?_) (fun c134 => ?_)
  · skip
    refine g_lloadN X0 hx 9 (hb hby d17_8) rfl rfl ?_
    refine g_iload X0 hx 11 (hb hby d17_9) rfl rfl ?_
    refine g_i2l X0 hx 12 (hb hby d17_11) rfl ?_
    refine g_lmul X0 hx 13 (hb hby d17_12) rfl ?_
    refine g_lstore (l' := #[.val (.long ss), .second, .val (.long d), .second, .val (.int cc), .val (.long (ss * (cc.toInt64))), .second]) X0 hx 15 (hb hby d17_13) rfl rfl ?_
    generalize hz : (ss * (cc.toInt64)) = z
    have e1 := c_lmul ss cc.toInt64
    have e2 := rng64 z
    rw [hz, c_i2l] at e1
    refine g_lload X0 hx 17 (hb hby d17_15) rfl rfl ?_
    refine g_lloadN X0 hx 18 (hb hby d17_17) rfl rfl ?_
    refine g_lc_ge X0 hx 19 25 22 (hb hby d17_18) rfl (hb hby d17_19) (by decide) (by decide) rfl (fun c136 => ?_) (fun c136 => ?_)
    · skip
      refine g_lloadN X0 hx 26 (hb hby d17_25) rfl rfl ?_
      exact g_retJ X0 hx hlk hret (hb hby d17_26) (by decide) (by decide) e0 ⟨_, rfl, by unfold own_ad; omega, N0, rfl⟩
    · skip
      refine g_lload X0 hx 24 (hb hby d17_22) rfl rfl ?_
      exact g_retJ X0 hx hlk hret (hb hby d17_24) (by decide) (by decide) e0 ⟨_, rfl, by unfold own_ad; omega, N0, rfl⟩
  · skip
    refine g_lconst X0 hx (0 : Int64) 7 (hb hby d17_6) rfl (by decide) ?_
    have l0 : (0 : Int64).toInt = 0 := by decide
    exact g_retJ X0 hx hlk hret (hb hby d17_7) (by decide) (by decide) e0 ⟨_, rfl, by unfold own_ad; omega, N0, rfl⟩
theorem d8_0 : decode prog_1_method_3_code 0 = .ok (.aload_n 1, 1) := by decide +kernel
theorem d8_1 : decode prog_1_method_3_code 1 = .ok (.arraylength, 1) := by decide +kernel
theorem d8_2 : decode prog_1_method_3_code 2 = .ok (.aload_n 2, 1) := by decide +kernel
theorem d8_3 : decode prog_1_method_3_code 3 = .ok (.arraylength, 1) := by decide +kernel
theorem d8_4 : decode prog_1_method_3_code 4 = .ok (.if_icmp .eq 20, 3) := by decide +kernel
theorem d8_7 : decode prog_1_method_3_code 7 = .ok (.new 25, 3) := by decide +kernel
theorem d8_10 : decode prog_1_method_3_code 10 = .ok (.dup, 1) := by decide +kernel
theorem d8_11 : decode prog_1_method_3_code 11 = .ok (.aload_n 1, 1) := by decide +kernel
theorem d8_12 : decode prog_1_method_3_code 12 = .ok (.arraylength, 1) := by decide +kernel
theorem d8_13 : decode prog_1_method_3_code 13 = .ok (.aload_n 2, 1) := by decide +kernel
theorem d8_14 : decode prog_1_method_3_code 14 = .ok (.arraylength, 1) := by decide +kernel
theorem d8_20 : decode prog_1_method_3_code 20 = .ok (.invokespecial 31, 3) := by decide +kernel
theorem d8_23 : decode prog_1_method_3_code 23 = .ok (.athrow, 1) := by decide +kernel
theorem d8_24 : decode prog_1_method_3_code 24 = .ok (.new 7, 3) := by decide +kernel
theorem d8_27 : decode prog_1_method_3_code 27 = .ok (.dup, 1) := by decide +kernel
theorem d8_28 : decode prog_1_method_3_code 28 = .ok (.invokespecial 9, 3) := by decide +kernel
theorem d8_31 : decode prog_1_method_3_code 31 = .ok (.astore_n 3, 1) := by decide +kernel
theorem d8_32 : decode prog_1_method_3_code 32 = .ok (.lconst 0, 1) := by decide +kernel
theorem d8_33 : decode prog_1_method_3_code 33 = .ok (.lstore 4, 2) := by decide +kernel
theorem d8_35 : decode prog_1_method_3_code 35 = .ok (.iconst 0, 1) := by decide +kernel
theorem d8_36 : decode prog_1_method_3_code 36 = .ok (.istore 6, 2) := by decide +kernel
theorem d8_38 : decode prog_1_method_3_code 38 = .ok (.iload 6, 2) := by decide +kernel
theorem d8_40 : decode prog_1_method_3_code 40 = .ok (.aload_n 1, 1) := by decide +kernel
theorem d8_41 : decode prog_1_method_3_code 41 = .ok (.arraylength, 1) := by decide +kernel
theorem d8_42 : decode prog_1_method_3_code 42 = .ok (.if_icmp .ge 36, 3) := by decide +kernel
theorem d8_45 : decode prog_1_method_3_code 45 = .ok (.aload_n 3, 1) := by decide +kernel
theorem d8_46 : decode prog_1_method_3_code 46 = .ok (.aload_n 0, 1) := by decide +kernel
theorem d8_47 : decode prog_1_method_3_code 47 = .ok (.aload_n 1, 1) := by decide +kernel
theorem d8_48 : decode prog_1_method_3_code 48 = .ok (.iload 6, 2) := by decide +kernel
theorem d8_50 : decode prog_1_method_3_code 50 = .ok (.daload, 1) := by decide +kernel
theorem d8_51 : decode prog_1_method_3_code 51 = .ok (.aload_n 2, 1) := by decide +kernel
theorem d8_52 : decode prog_1_method_3_code 52 = .ok (.iload 6, 2) := by decide +kernel
theorem d8_54 : decode prog_1_method_3_code 54 = .ok (.laload, 1) := by decide +kernel
theorem d8_55 : decode prog_1_method_3_code 55 = .ok (.invokevirtual 65, 3) := by decide +kernel
theorem d8_58 : decode prog_1_method_3_code 58 = .ok (.invokevirtual 69, 3) := by decide +kernel
theorem d8_61 : decode prog_1_method_3_code 61 = .ok (.lload 4, 2) := by decide +kernel
theorem d8_63 : decode prog_1_method_3_code 63 = .ok (.aload_n 2, 1) := by decide +kernel
theorem d8_64 : decode prog_1_method_3_code 64 = .ok (.iload 6, 2) := by decide +kernel
theorem d8_66 : decode prog_1_method_3_code 66 = .ok (.laload, 1) := by decide +kernel
theorem d8_67 : decode prog_1_method_3_code 67 = .ok (.invokestatic 73, 3) := by decide +kernel
theorem d8_70 : decode prog_1_method_3_code 70 = .ok (.lstore 4, 2) := by decide +kernel
theorem d8_72 : decode prog_1_method_3_code 72 = .ok (.iinc 6 1, 3) := by decide +kernel
theorem d8_75 : decode prog_1_method_3_code 75 = .ok (.goto (-37), 3) := by decide +kernel
theorem d8_78 : decode prog_1_method_3_code 78 = .ok (.aload_n 3, 1) := by decide +kernel
theorem d8_79 : decode prog_1_method_3_code 79 = .ok (.invokevirtual 77, 3) := by decide +kernel
theorem d8_82 : decode prog_1_method_3_code 82 = .ok (.dstore 6, 2) := by decide +kernel
theorem d8_84 : decode prog_1_method_3_code 84 = .ok (.aload_n 0, 1) := by decide +kernel
theorem d8_85 : decode prog_1_method_3_code 85 = .ok (.getfield 10, 3) := by decide +kernel
theorem d8_88 : decode prog_1_method_3_code 88 = .ok (.aload_n 0, 1) := by decide +kernel
theorem d8_89 : decode prog_1_method_3_code 89 = .ok (.getfield 37, 3) := by decide +kernel
theorem d8_92 : decode prog_1_method_3_code 92 = .ok (.aload_n 0, 1) := by decide +kernel
theorem d8_93 : decode prog_1_method_3_code 93 = .ok (.getfield 43, 3) := by decide +kernel
theorem d8_96 : decode prog_1_method_3_code 96 = .ok (.dmul, 1) := by decide +kernel
theorem d8_97 : decode prog_1_method_3_code 97 = .ok (.lload 4, 2) := by decide +kernel
theorem d8_99 : decode prog_1_method_3_code 99 = .ok (.l2d, 1) := by decide +kernel
theorem d8_100 : decode prog_1_method_3_code 100 = .ok (.invokestatic 53, 3) := by decide +kernel
theorem d8_103 : decode prog_1_method_3_code 103 = .ok (.invokevirtual 69, 3) := by decide +kernel
theorem d8_106 : decode prog_1_method_3_code 106 = .ok (.aload_n 0, 1) := by decide +kernel
theorem d8_107 : decode prog_1_method_3_code 107 = .ok (.getfield 16, 3) := by decide +kernel
theorem d8_110 : decode prog_1_method_3_code 110 = .ok (.dload 6, 2) := by decide +kernel
theorem d8_112 : decode prog_1_method_3_code 112 = .ok (.invokevirtual 69, 3) := by decide +kernel
theorem d8_115 : decode prog_1_method_3_code 115 = .ok (.dload 6, 2) := by decide +kernel
theorem d8_117 : decode prog_1_method_3_code 117 = .ok (.dreturn, 1) := by decide +kernel
theorem own_pf12 : plainFor (⟨"com/example/iso_throttle/isothrottle/AdmissionTally", "addCycle", "([D[J)D"⟩ : MethodName) = true := plainFor_of_name (by first | (simp [plainName, overriddenIn]; done) | decide +kernel)
def Q_rmCyc (Z : State) (b1 b2 : Addr) (li ci I A i0 i1 : Int) (d0 d1 : Int64) (n0 : Nat) (h0 : Heap) (v : Option Value) (h : Heap) (L : List Loc) : Prop := ∃ r : UInt64, v = some (.double r) ∧ Fr n0 L ∧ Keep h0 h [b1, b2] ∧ ∃ s1 c1 s2 c2 : UInt64, Fld Z h b1 "com/example/iso_throttle/isothrottle/CompensatedSum" "sum" "D" (.double s1) ∧ Fld Z h b1 "com/example/iso_throttle/isothrottle/CompensatedSum" "compensation" "D" (.double c1) ∧ Fld Z h b2 "com/example/iso_throttle/isothrottle/CompensatedSum" "sum" "D" (.double s2) ∧ Fld Z h b2 "com/example/iso_throttle/isothrottle/CompensatedSum" "compensation" "D" (.double c2) ∧ Jvm.FP.Core.DInt 0 c1 ∧ Jvm.FP.Core.DInt (I + own_idl (li * ci) (d0.toInt + d1.toInt)) s1 ∧ Jvm.FP.Core.DInt 0 c2 ∧ Jvm.FP.Core.DInt (A + (own_ad i0 ci d0.toInt + own_ad i1 ci d1.toInt)) s2
theorem ef_rmCyc (a b d : Addr) (m : MethodId) : entryFrame m #[(.ref a), (.ref b), (.ref d)] 8 = mkF m 0 #[.val (.ref a), .val (.ref b), .val (.ref d), .unset, .unset, .unset, .unset, .unset] [] := by first | (simp [entryFrame, mkF, argsToLocals, Value.category]; done) | rfl
set_option maxRecDepth 65536 in
set_option maxHeartbeats 40000000 in
theorem rmCyc (l : Launch) (Z : State) (a0 : Array Value) (hw : ∀ d ∈ tables_1, d.before a0 Z = true) (a b d : Addr) (h0 : Heap) (n0 : Nat) (Z0 : n0 ≤ h0.size) (b1 b2 : Addr) (kb kd : ClassId) (lim cy sb1 cb1 sb2 cb2 x0 x1 : UInt64) (d0 d1 : Int64) (li ci I A i0 i1 : Int) (hlim : Jvm.FP.Core.DInt li lim) (hcy : Jvm.FP.Core.DInt ci cy) (hsb1 : Jvm.FP.Core.DInt I sb1) (hcb1 : Jvm.FP.Core.DInt 0 cb1) (hsb2 : Jvm.FP.Core.DInt A sb2) (hcb2 : Jvm.FP.Core.DInt 0 cb2) (hx0 : Jvm.FP.Core.DInt i0 x0) (hx1 : Jvm.FP.Core.DInt i1 x1) (bl : 1 ≤ li ∧ li ≤ 1024) (bc : 1 ≤ ci ∧ ci ≤ 4) (bI : 0 ≤ I ∧ I ≤ 100000) (bA : 0 ≤ A ∧ A ≤ 100000) (bx0 : -1024 ≤ i0 ∧ i0 ≤ 1024) (bx1 : -1024 ≤ i1 ∧ i1 ≤ 1024) (bd0 : 0 ≤ d0.toInt ∧ d0.toInt ≤ 2047) (bd1 : 0 ≤ d1.toInt ∧ d1.toInt ≤ 2047) (bm : 0 ≤ li * ci ∧ li * ci ≤ 4096) (Ea : Exa Z h0 a "com/example/iso_throttle/isothrottle/AdmissionTally") (Eb1 : Exa Z h0 b1 "com/example/iso_throttle/isothrottle/CompensatedSum") (Eb2 : Exa Z h0 b2 "com/example/iso_throttle/isothrottle/CompensatedSum") (gb1 : n0 ≤ b1) (gb2 : n0 ≤ b2) (F_limit : Fld Z h0 a "com/example/iso_throttle/isothrottle/AdmissionTally" "limit" "D" (.double lim)) (F_cycleSeconds : Fld Z h0 a "com/example/iso_throttle/isothrottle/AdmissionTally" "cycleSeconds" "D" (.double cy)) (F_idealTotal : Fld Z h0 a "com/example/iso_throttle/isothrottle/AdmissionTally" "idealTotal" "Lcom/example/iso_throttle/isothrottle/CompensatedSum;" (.ref b1)) (F_admittedTotal : Fld Z h0 a "com/example/iso_throttle/isothrottle/AdmissionTally" "admittedTotal" "Lcom/example/iso_throttle/isothrottle/CompensatedSum;" (.ref b2)) (F_sum_b1 : Fld Z h0 b1 "com/example/iso_throttle/isothrottle/CompensatedSum" "sum" "D" (.double sb1)) (F_compensation_b1 : Fld Z h0 b1 "com/example/iso_throttle/isothrottle/CompensatedSum" "compensation" "D" (.double cb1)) (F_sum_b2 : Fld Z h0 b2 "com/example/iso_throttle/isothrottle/CompensatedSum" "sum" "D" (.double sb2)) (F_compensation_b2 : Fld Z h0 b2 "com/example/iso_throttle/isothrottle/CompensatedSum" "compensation" "D" (.double cb2)) (Vb : Arv Z h0 b kb .double 2 [.double x0, .double x1] (.double 0)) (Vd : Arv Z h0 d kd .long 2 [.long d0, .long d1] (.long 0)) (n_a_b1 : a ≠ b1) (n_a_b2 : a ≠ b2) (n_b_b1 : b ≠ b1) (n_b_b2 : b ≠ b2) (n_d_b1 : d ≠ b1) (n_d_b2 : d ≠ b2) (n_b1_b2 : b1 ≠ b2) :
    MetFree l (⟨"com/example/iso_throttle/isothrottle/AdmissionTally", "addCycle", "([D[J)D"⟩ : MethodName) (head1 [Jvm.Cond.code (⟨"com/example/iso_throttle/isothrottle/AdmissionTally", "addCycle", "([D[J)D"⟩ : MethodName) prog_1_method_3_code 8 (some .double)] ({ frames := 3, cells := 1, slots := 2, locals := 64 } : Room)) (fun as_ U => as_ = #[(.ref a), (.ref b), (.ref d)] ∧ Z.Warmed39 U.vm ∧ U.heap = h0) (fun _ _ _ _ _ => True) (fun _ U o U' => ∃ v L, o = .returned v ∧ Q_rmCyc Z b1 b2 li ci I A i0 i1 d0 d1 n0 h0 v U'.heap L ∧ FrameEnd U o U' L ({ frames := 3, cells := 1, slots := 2, locals := 64 } : Room).cells ({ frames := 3, cells := 1, slots := 2, locals := 64 } : Room).slots) := by
  refine own_met own_pf12 (ef_rmCyc a b d) ?_
  intro p e s m below meth c T0 X0 hx hby hml hret hlk hnm hown hZ e0
  have N0 := Fr.nil n0
  have pb0 := own_pb bx0 bc
  have pb1 := own_pb bx1 bc
  have lb := own_pb (s := 0) (c := ci) (by omega) bc
  have HP0 := own_fix0.mpr (Jvm.FP.Core.dmul_int hx0 hcy (by omega))
  have HD0 := own_fix0.mpr (Jvm.FP.Core.l2d_int (a := d0) (by omega))
  have HP1 := own_fix0.mpr (Jvm.FP.Core.dmul_int hx1 hcy (by omega))
  have HD1 := own_fix0.mpr (Jvm.FP.Core.l2d_int (a := d1) (by omega))
  have lz : (0 : Int64).toInt = 0 := by decide
  refine g_aloadN X0 hx 1 (hb hby d8_0) rfl rfl rfl ?_
  refine g_len X0 hx hZ e0 Vb 2 (hb hby d8_1) rfl ?_
  refine g_aloadN X0 hx 3 (hb hby d8_2) rfl rfl rfl ?_
  refine g_len X0 hx hZ e0 Vd 4 (hb hby d8_3) rfl ?_
  have ll138 : ((2 : Int32) : Int32).toInt = 2 := by decide
  have ll139 : ((2 : Int32) : Int32).toInt = 2 := by decide
  refine g_ic_eq X0 hx 24 7 (hb hby d8_4) (by decide) (by decide) rfl (fun c137 => ?_) (fun c137 => ?_)
  · skip
    refine g_new X0 hx hZ hown (hw _ (List.mem_of_getElem? (i := 18) rfl)) (hw _ (List.mem_of_getElem? (i := 19) rfl)) (hw _ (List.mem_of_getElem? (i := 20) rfl)) e0 27 (hb hby d8_24) rfl (by decide) (by decide) ?_
    intro T140 h140 a140 g140 X140 e140 E140 A140 D140
    have ne141 : a ≠ a140 := Nat.ne_of_lt (by rw [g140]; exact Ea.lt)
    have ne142 : b1 ≠ a140 := Nat.ne_of_lt (by rw [g140]; exact Eb1.lt)
    have ne143 : b2 ≠ a140 := Nat.ne_of_lt (by rw [g140]; exact Eb2.lt)
    have ne144 : b ≠ a140 := Nat.ne_of_lt (by rw [g140]; exact Vb.lt)
    have ne145 : d ≠ a140 := Nat.ne_of_lt (by rw [g140]; exact Vd.lt)
    have ge146 : n0 ≤ a140 := by rw [g140]; exact Z0
    have sz147 : h0.size ≤ a140 := by rw [g140]; exact (Keep.refl h0 [b1, b2]).1
    have F148 := Ea.ext E140
    have F149 := Eb1.ext E140
    have F150 := Eb2.ext E140
    have F151 := F_limit.ext E140
    have F152 := F_cycleSeconds.ext E140
    have F153 := F_idealTotal.ext E140
    have F154 := F_admittedTotal.ext E140
    have F155 := F_sum_b1.ext E140
    have F156 := F_compensation_b1.ext E140
    have F157 := F_sum_b2.ext E140
    have F158 := F_compensation_b2.ext E140
    have F159 := Vb.ext E140
    have F160 := Vd.ext E140
    have K161 := (Keep.refl h0 [b1, b2]).ext E140
    have Z162 : n0 ≤ h140.size := Nat.le_trans Z0 E140.1
    have F163 : Fld Z h140 a140 "com/example/iso_throttle/isothrottle/CompensatedSum" "compensation" "D" (.double (0 : UInt64)) := D140 (Or.inl (hw _ (List.mem_of_getElem? (i := 70) rfl))) (ty := .double) (by decide)
    have F164 : Fld Z h140 a140 "com/example/iso_throttle/isothrottle/CompensatedSum" "sum" "D" (.double (0 : UInt64)) := D140 (Or.inl (hw _ (List.mem_of_getElem? (i := 72) rfl))) (ty := .double) (by decide)
    refine g_dup X140 hx 28 (hb hby d8_27) rfl rfl ?_
    refine g_init X140 hx hZ rfl hown (hw _ (List.mem_of_getElem? (i := 21) rfl)) (hw _ (List.mem_of_getElem? (i := 22) rfl)) (hw _ (List.mem_of_getElem? (i := 20) rfl)) (hw _ (List.mem_of_getElem? (i := 23) rfl)) (by decide) (rmCS l Z a0 hw a140 h140 n0 Z162) e140 (a := a140) (argsL := []) (rest := [(.ref a140)]) rfl rfl 1 31 rfl (by rw [hml]; rfl) (lenOf own_pd2 rfl) (Nat.le_refl _) (by decide) (by decide) (by decide) (by decide) (hb hby d8_28) ?_
    intro v165 T165 L165 X165 hQ165
    obtain ⟨rfl, N165, q165⟩ := hQ165
    have N166 := Fr.app N0 N165
    show Go p e below _ T165 (mkF m 31 #[.val (.ref a), .val (.ref b), .val (.ref d), .unset, .unset, .unset, .unset, .unset] [(.ref a140)])
    refine g_astoreN (l' := #[.val (.ref a), .val (.ref b), .val (.ref d), .val (.ref a140), .unset, .unset, .unset, .unset]) X165 hx 32 (hb hby d8_31) rfl rfl rfl ?_
    refine g_lconst X165 hx (0 : Int64) 33 (hb hby d8_32) rfl (by decide) ?_
    refine g_lstore (l' := #[.val (.ref a), .val (.ref b), .val (.ref d), .val (.ref a140), .val (.long (0 : Int64)), .second, .unset, .unset]) X165 hx 35 (hb hby d8_33) rfl rfl ?_
    refine g_iconst X165 hx (0 : Int32) 36 (hb hby d8_35) rfl (by decide) ?_
    refine g_istore (l' := #[.val (.ref a), .val (.ref b), .val (.ref d), .val (.ref a140), .val (.long (0 : Int64)), .second, .val (.int (0 : Int32)), .unset]) X165 hx 38 (hb hby d8_36) rfl rfl ?_
    refine g_iload X165 hx 40 (hb hby d8_38) rfl rfl ?_
    refine g_aloadN X165 hx 41 (hb hby d8_40) rfl rfl rfl ?_
    refine g_len X165 hx hZ q165 F159 42 (hb hby d8_41) rfl ?_
    have ll168 : ((2 : Int32) : Int32).toInt = 2 := by decide
    have ll169 : ((0 : Int32) : Int32).toInt = 0 := by decide
    refine g_ic_ge X165 hx 78 45 (hb hby d8_42) (by decide) (by decide) rfl (fun c167 => ?_) (fun c167 => ?_)
    · skip
      exfalso; revert c167; decide
    · skip
      refine g_aloadN X165 hx 46 (hb hby d8_45) rfl rfl rfl ?_
      refine g_aloadN X165 hx 47 (hb hby d8_46) rfl rfl rfl ?_
      refine g_aloadN X165 hx 48 (hb hby d8_47) rfl rfl rfl ?_
      refine g_iload X165 hx 50 (hb hby d8_48) rfl rfl ?_
      refine g_daload X165 hx hZ q165 F159 (by decide) (by decide) (by rw [show ((0 : Int32) : Int32).toNatClampNeg = 0 by decide] <;> rfl) 51 (hb hby d8_50) rfl ?_
      refine g_aloadN X165 hx 52 (hb hby d8_51) rfl rfl rfl ?_
      refine g_iload X165 hx 54 (hb hby d8_52) rfl rfl ?_
      refine g_laload X165 hx hZ q165 F160 (by decide) (by decide) (by rw [show ((0 : Int32) : Int32).toNatClampNeg = 0 by decide] <;> rfl) 55 (hb hby d8_54) rfl ?_
      refine g_virt X165 hx hZ (C := "com/example/iso_throttle/isothrottle/AdmissionTally") hown (hw _ (List.mem_of_getElem? (i := 50) rfl)) (hw _ (List.mem_of_getElem? (i := 51) rfl)) (hw _ (List.mem_of_getElem? (i := 53) rfl)) (hw _ (List.mem_of_getElem? (i := 53) rfl)) (hw _ (List.mem_of_getElem? (i := 52) rfl)) (hw _ (List.mem_of_getElem? (i := 11) rfl)) (hw _ (List.mem_of_getElem? (i := 54) rfl)) (by decide) (rmAdm l Z a0 hw a x0 d0 h140 n0 Z162 _ hx0 bd0.1 cy F152 _ _ 0 HP0 HD0) q165 (b := a) F148 (argsL := [(.double x0), (.long d0)]) (rest := [(.ref a140)]) rfl rfl 1 58 rfl (by rw [hml]; rfl) (lenOf own_pd6 rfl) (Nat.le_refl _) (by decide) (by decide) (by decide) (by decide) (hb hby d8_55) ?_
      intro v170 T170 L170 X170 hQ170
      obtain ⟨g0, rfl, hg0, N170, q170⟩ := hQ170
      have hg0 : Jvm.FP.Core.DInt (own_ad i0 ci d0.toInt) g0 := own_fix0.mp hg0
      have ab0 := own_ad_b (s := i0) (c := ci) bd0.1
      have N171 := Fr.app N166 N170
      show Go p e below _ T170 (mkF m 58 #[.val (.ref a), .val (.ref b), .val (.ref d), .val (.ref a140), .val (.long (0 : Int64)), .second, .val (.int (0 : Int32)), .unset] [(.double g0), (.ref a140)])
      refine g_virt X170 hx hZ (C := "com/example/iso_throttle/isothrottle/CompensatedSum") hown (hw _ (List.mem_of_getElem? (i := 64) rfl)) (hw _ (List.mem_of_getElem? (i := 65) rfl)) (hw _ (List.mem_of_getElem? (i := 67) rfl)) (hw _ (List.mem_of_getElem? (i := 67) rfl)) (hw _ (List.mem_of_getElem? (i := 66) rfl)) (hw _ (List.mem_of_getElem? (i := 20) rfl)) (hw _ (List.mem_of_getElem? (i := 68) rfl)) (by decide) (rmAdd l Z a0 hw a140 g0 h140 n0 Z162 (0 : UInt64) (0 : UInt64) _ _ hg0 own_dzero own_dzero (by omega) (by omega) A140 ge146 F163 F164) q170 (b := a140) A140 (argsL := [(.double g0)]) (rest := []) rfl rfl 0 61 rfl (by rw [hml]; rfl) (lenOf own_pd8 rfl) (Nat.le_refl _) (by decide) (by decide) (by decide) (by decide) (hb hby d8_58) ?_
      intro v172 T172 L172 X172 hQ172
      obtain ⟨rfl, N172, K172, c172, s172, Fc172, Fs172, dc172, ds172⟩ := hQ172
      have N173 := Fr.app N171 N172
      have F174 := F148.keep K172
      have F175 := F149.keep K172
      have F176 := F150.keep K172
      have F177 := F151.keep K172 (ninS ne141 nin0)
      have F178 := F152.keep K172 (ninS ne141 nin0)
      have F179 := F153.keep K172 (ninS ne141 nin0)
      have F180 := F154.keep K172 (ninS ne141 nin0)
      have F181 := F155.keep K172 (ninS ne142 nin0)
      have F182 := F156.keep K172 (ninS ne142 nin0)
      have F183 := F157.keep K172 (ninS ne143 nin0)
      have F184 := F158.keep K172 (ninS ne143 nin0)
      have F185 := F159.keep K172 (ninS ne144 nin0)
      have F186 := F160.keep K172 (ninS ne145 nin0)
      have F187 := A140.keep K172
      have Z190 : n0 ≤ T172.heap.size := Nat.le_trans Z162 K172.1
      have K191 := K161.trans K172 (allS (Or.inr sz147) all0)
      show Go p e below _ T172 (mkF m 61 #[.val (.ref a), .val (.ref b), .val (.ref d), .val (.ref a140), .val (.long (0 : Int64)), .second, .val (.int (0 : Int32)), .unset] [])
      refine g_lload X172 hx 63 (hb hby d8_61) rfl rfl ?_
      refine g_aloadN X172 hx 64 (hb hby d8_63) rfl rfl rfl ?_
      refine g_iload X172 hx 66 (hb hby d8_64) rfl rfl ?_
      refine g_laload X172 hx hZ rfl F186 (by decide) (by decide) (by rw [show ((0 : Int32) : Int32).toNatClampNeg = 0 by decide] <;> rfl) 67 (hb hby d8_66) rfl ?_
      refine g_static X172 hx hZ hown (hw _ (List.mem_of_getElem? (i := 73) rfl)) (hw _ (List.mem_of_getElem? (i := 74) rfl)) (hw _ (List.mem_of_getElem? (i := 35) rfl)) (hw _ (List.mem_of_getElem? (i := 75) rfl)) (by decide) (rmAE l Z a0 hw (0 : Int64) d0 T172.heap n0 Z190 (by omega) (by omega)) rfl (argsL := [(.long (0 : Int64)), (.long d0)]) (rest := []) rfl rfl 0 70 rfl (by rw [hml]; rfl) (lenOf own_pd9 rfl) (Nat.le_refl _) (by decide) (by decide) (by decide) (by decide) (hb hby d8_67) ?_
      intro v192 T192 L192 X192 hQ192
      obtain ⟨r0, rfl, hr0, N192, q192⟩ := hQ192
      have N193 := Fr.app N173 N192
      show Go p e below _ T192 (mkF m 70 #[.val (.ref a), .val (.ref b), .val (.ref d), .val (.ref a140), .val (.long (0 : Int64)), .second, .val (.int (0 : Int32)), .unset] [(.long r0)])
      refine g_lstore (l' := #[.val (.ref a), .val (.ref b), .val (.ref d), .val (.ref a140), .val (.long r0), .second, .val (.int (0 : Int32)), .unset]) X192 hx 72 (hb hby d8_70) rfl rfl ?_
      refine g_iinc (w := (1 : Int32)) (l' := #[.val (.ref a), .val (.ref b), .val (.ref d), .val (.ref a140), .val (.long r0), .second, .val (.int ((0 : Int32) + (1 : Int32))), .unset]) X192 hx 75 (hb hby d8_72) rfl rfl (by decide) rfl ?_
      refine g_goto X192 hx 38 (hb hby d8_75) (by decide) (by decide) ?_
      refine g_iload X192 hx 40 (hb hby d8_38) rfl rfl ?_
      refine g_aloadN X192 hx 41 (hb hby d8_40) rfl rfl rfl ?_
      refine g_len X192 hx hZ q192 F185 42 (hb hby d8_41) rfl ?_
      have ll195 : ((2 : Int32) : Int32).toInt = 2 := by decide
      have ll196 : (((0 : Int32) + (1 : Int32)) : Int32).toInt = 1 := by decide
      refine g_ic_ge X192 hx 78 45 (hb hby d8_42) (by decide) (by decide) rfl (fun c194 => ?_) (fun c194 => ?_)
      · skip
        exfalso; revert c194; decide
      · skip
        refine g_aloadN X192 hx 46 (hb hby d8_45) rfl rfl rfl ?_
        refine g_aloadN X192 hx 47 (hb hby d8_46) rfl rfl rfl ?_
        refine g_aloadN X192 hx 48 (hb hby d8_47) rfl rfl rfl ?_
        refine g_iload X192 hx 50 (hb hby d8_48) rfl rfl ?_
        refine g_daload X192 hx hZ q192 F185 (by decide) (by decide) (by rw [show (((0 : Int32) + (1 : Int32)) : Int32).toNatClampNeg = 1 by decide] <;> rfl) 51 (hb hby d8_50) rfl ?_
        refine g_aloadN X192 hx 52 (hb hby d8_51) rfl rfl rfl ?_
        refine g_iload X192 hx 54 (hb hby d8_52) rfl rfl ?_
        refine g_laload X192 hx hZ q192 F186 (by decide) (by decide) (by rw [show (((0 : Int32) + (1 : Int32)) : Int32).toNatClampNeg = 1 by decide] <;> rfl) 55 (hb hby d8_54) rfl ?_
        refine g_virt X192 hx hZ (C := "com/example/iso_throttle/isothrottle/AdmissionTally") hown (hw _ (List.mem_of_getElem? (i := 50) rfl)) (hw _ (List.mem_of_getElem? (i := 51) rfl)) (hw _ (List.mem_of_getElem? (i := 53) rfl)) (hw _ (List.mem_of_getElem? (i := 53) rfl)) (hw _ (List.mem_of_getElem? (i := 52) rfl)) (hw _ (List.mem_of_getElem? (i := 11) rfl)) (hw _ (List.mem_of_getElem? (i := 54) rfl)) (by decide) (rmAdm l Z a0 hw a x1 d1 T172.heap n0 Z190 _ hx1 bd1.1 cy F178 _ _ 0 HP1 HD1) q192 (b := a) F174 (argsL := [(.double x1), (.long d1)]) (rest := [(.ref a140)]) rfl rfl 1 58 rfl (by rw [hml]; rfl) (lenOf own_pd6 rfl) (Nat.le_refl _) (by decide) (by decide) (by decide) (by decide) (hb hby d8_55) ?_
        intro v197 T197 L197 X197 hQ197
        obtain ⟨g1, rfl, hg1, N197, q197⟩ := hQ197
        have hg1 : Jvm.FP.Core.DInt (own_ad i1 ci d1.toInt) g1 := own_fix0.mp hg1
        have ab1 := own_ad_b (s := i1) (c := ci) bd1.1
        have N198 := Fr.app N193 N197
        show Go p e below _ T197 (mkF m 58 #[.val (.ref a), .val (.ref b), .val (.ref d), .val (.ref a140), .val (.long r0), .second, .val (.int ((0 : Int32) + (1 : Int32))), .unset] [(.double g1), (.ref a140)])
        refine g_virt X197 hx hZ (C := "com/example/iso_throttle/isothrottle/CompensatedSum") hown (hw _ (List.mem_of_getElem? (i := 64) rfl)) (hw _ (List.mem_of_getElem? (i := 65) rfl)) (hw _ (List.mem_of_getElem? (i := 67) rfl)) (hw _ (List.mem_of_getElem? (i := 67) rfl)) (hw _ (List.mem_of_getElem? (i := 66) rfl)) (hw _ (List.mem_of_getElem? (i := 20) rfl)) (hw _ (List.mem_of_getElem? (i := 68) rfl)) (by decide) (rmAdd l Z a0 hw a140 g1 T172.heap n0 Z190 c172 s172 _ _ hg1 dc172 ds172 (by omega) (by omega) F187 ge146 Fc172 Fs172) q197 (b := a140) F187 (argsL := [(.double g1)]) (rest := []) rfl rfl 0 61 rfl (by rw [hml]; rfl) (lenOf own_pd8 rfl) (Nat.le_refl _) (by decide) (by decide) (by decide) (by decide) (hb hby d8_58) ?_
        intro v199 T199 L199 X199 hQ199
        obtain ⟨rfl, N199, K199, c199, s199, Fc199, Fs199, dc199, ds199⟩ := hQ199
        have N200 := Fr.app N198 N199
        have F201 := F174.keep K199
        have F202 := F175.keep K199
        have F203 := F176.keep K199
        have F204 := F177.keep K199 (ninS ne141 nin0)
        have F205 := F178.keep K199 (ninS ne141 nin0)
        have F206 := F179.keep K199 (ninS ne141 nin0)
        have F207 := F180.keep K199 (ninS ne141 nin0)
        have F208 := F181.keep K199 (ninS ne142 nin0)
        have F209 := F182.keep K199 (ninS ne142 nin0)
        have F210 := F183.keep K199 (ninS ne143 nin0)
        have F211 := F184.keep K199 (ninS ne143 nin0)
        have F212 := F185.keep K199 (ninS ne144 nin0)
        have F213 := F186.keep K199 (ninS ne145 nin0)
        have F214 := F187.keep K199
        have Z217 : n0 ≤ T199.heap.size := Nat.le_trans Z190 K199.1
        have K218 := K191.trans K199 (allS (Or.inr sz147) all0)
        show Go p e below _ T199 (mkF m 61 #[.val (.ref a), .val (.ref b), .val (.ref d), .val (.ref a140), .val (.long r0), .second, .val (.int ((0 : Int32) + (1 : Int32))), .unset] [])
        refine g_lload X199 hx 63 (hb hby d8_61) rfl rfl ?_
        refine g_aloadN X199 hx 64 (hb hby d8_63) rfl rfl rfl ?_
        refine g_iload X199 hx 66 (hb hby d8_64) rfl rfl ?_
        refine g_laload X199 hx hZ rfl F213 (by decide) (by decide) (by rw [show (((0 : Int32) + (1 : Int32)) : Int32).toNatClampNeg = 1 by decide] <;> rfl) 67 (hb hby d8_66) rfl ?_
        refine g_static X199 hx hZ hown (hw _ (List.mem_of_getElem? (i := 73) rfl)) (hw _ (List.mem_of_getElem? (i := 74) rfl)) (hw _ (List.mem_of_getElem? (i := 35) rfl)) (hw _ (List.mem_of_getElem? (i := 75) rfl)) (by decide) (rmAE l Z a0 hw r0 d1 T199.heap n0 Z217 (by omega) (by omega)) rfl (argsL := [(.long r0), (.long d1)]) (rest := []) rfl rfl 0 70 rfl (by rw [hml]; rfl) (lenOf own_pd9 rfl) (Nat.le_refl _) (by decide) (by decide) (by decide) (by decide) (hb hby d8_67) ?_
        intro v219 T219 L219 X219 hQ219
        obtain ⟨r1, rfl, hr1, N219, q219⟩ := hQ219
        have N220 := Fr.app N200 N219
        show Go p e below _ T219 (mkF m 70 #[.val (.ref a), .val (.ref b), .val (.ref d), .val (.ref a140), .val (.long r0), .second, .val (.int ((0 : Int32) + (1 : Int32))), .unset] [(.long r1)])
        refine g_lstore (l' := #[.val (.ref a), .val (.ref b), .val (.ref d), .val (.ref a140), .val (.long r1), .second, .val (.int ((0 : Int32) + (1 : Int32))), .unset]) X219 hx 72 (hb hby d8_70) rfl rfl ?_
        refine g_iinc (w := (1 : Int32)) (l' := #[.val (.ref a), .val (.ref b), .val (.ref d), .val (.ref a140), .val (.long r1), .second, .val (.int (((0 : Int32) + (1 : Int32)) + (1 : Int32))), .unset]) X219 hx 75 (hb hby d8_72) rfl rfl (by decide) rfl ?_
        refine g_goto X219 hx 38 (hb hby d8_75) (by decide) (by decide) ?_
        refine g_iload X219 hx 40 (hb hby d8_38) rfl rfl ?_
        refine g_aloadN X219 hx 41 (hb hby d8_40) rfl rfl rfl ?_
        refine g_len X219 hx hZ q219 F212 42 (hb hby d8_41) rfl ?_
        have ll222 : ((2 : Int32) : Int32).toInt = 2 := by decide
        have ll223 : ((((0 : Int32) + (1 : Int32)) + (1 : Int32)) : Int32).toInt = 2 := by decide
        refine g_ic_ge X219 hx 78 45 (hb hby d8_42) (by decide) (by decide) rfl (fun c221 => ?_) (fun c221 => ?_)
        · skip
          refine g_aloadN X219 hx 79 (hb hby d8_78) rfl rfl rfl ?_
          refine g_virt X219 hx hZ (C := "com/example/iso_throttle/isothrottle/CompensatedSum") hown (hw _ (List.mem_of_getElem? (i := 76) rfl)) (hw _ (List.mem_of_getElem? (i := 77) rfl)) (hw _ (List.mem_of_getElem? (i := 79) rfl)) (hw _ (List.mem_of_getElem? (i := 79) rfl)) (hw _ (List.mem_of_getElem? (i := 78) rfl)) (hw _ (List.mem_of_getElem? (i := 20) rfl)) (hw _ (List.mem_of_getElem? (i := 80) rfl)) (by decide) (rmVal l Z a0 hw a140 T199.heap n0 Z217 s199 Fs199) q219 (b := a140) F214 (argsL := []) (rest := []) rfl rfl 0 82 rfl (by rw [hml]; rfl) (lenOf own_pd10 rfl) (Nat.le_refl _) (by decide) (by decide) (by decide) (by decide) (hb hby d8_79) ?_
          intro v224 T224 L224 X224 hQ224
          obtain ⟨rfl, N224, q224⟩ := hQ224
          have N225 := Fr.app N220 N224
          show Go p e below _ T224 (mkF m 82 #[.val (.ref a), .val (.ref b), .val (.ref d), .val (.ref a140), .val (.long r1), .second, .val (.int (((0 : Int32) + (1 : Int32)) + (1 : Int32))), .unset] [(.double s199)])
          have HL := Jvm.FP.Core.dmul_int hlim hcy (by omega)
          have HR := Jvm.FP.Core.l2d_int (a := r1) (by omega)
          have HM : Jvm.FP.Core.DInt (own_idl (li * ci) r1.toInt) _ := own_minD HL HR
          rw [show r1.toInt = d0.toInt + d1.toInt by omega] at HM
          have ib := own_idl_b (x := li * ci) (y := d0.toInt + d1.toInt) (by omega) (by omega)
          refine g_dstore (l' := #[.val (.ref a), .val (.ref b), .val (.ref d), .val (.ref a140), .val (.long r1), .second, .val (.double s199), .second]) X224 hx 84 (hb hby d8_82) rfl rfl ?_
          refine g_aloadN X224 hx 85 (hb hby d8_84) rfl rfl rfl ?_
          refine g_getF X224 hx hZ hown (hw _ (List.mem_of_getElem? (i := 25) rfl)) Via.refl q224 F206 88 (hb hby d8_85) rfl ?_
          intro T226 X226 e226
          refine g_aloadN X226 hx 89 (hb hby d8_88) rfl rfl rfl ?_
          refine g_getF X226 hx hZ hown (hw _ (List.mem_of_getElem? (i := 38) rfl)) Via.refl e226 F204 92 (hb hby d8_89) rfl ?_
          intro T227 X227 e227
          refine g_aloadN X227 hx 93 (hb hby d8_92) rfl rfl rfl ?_
          refine g_getF X227 hx hZ hown (hw _ (List.mem_of_getElem? (i := 41) rfl)) Via.refl e227 F205 96 (hb hby d8_93) rfl ?_
          intro T228 X228 e228
          refine g_dmul X228 hx 97 (hb hby d8_96) rfl (own_dnn HL) ?_
          refine g_lload X228 hx 99 (hb hby d8_97) rfl rfl ?_
          refine g_l2d X228 hx 100 (hb hby d8_99) rfl ?_
          refine g_minD X228 hx hZ hown (hw _ (List.mem_of_getElem? (i := 58) rfl)) (hw _ (List.mem_of_getElem? (i := 59) rfl)) (hw _ (List.mem_of_getElem? (i := 35) rfl)) (hw _ (List.mem_of_getElem? (i := 60) rfl)) rfl e228 (own_dnn HL) (own_dnn HR) (r := (Jvm.Native.java_lang_Math.nans.pick64 false (FP.dmul lim cy) (FP.l2d r1))) rfl 1 103 (hb hby d8_100) rfl (by rw [hml]; rfl) (Nat.le_refl _) (by decide) (by decide) (by decide) (by decide) own_pd7 ?_
          intro T229 X229 e229
          refine g_virt X229 hx hZ (C := "com/example/iso_throttle/isothrottle/CompensatedSum") hown (hw _ (List.mem_of_getElem? (i := 64) rfl)) (hw _ (List.mem_of_getElem? (i := 65) rfl)) (hw _ (List.mem_of_getElem? (i := 67) rfl)) (hw _ (List.mem_of_getElem? (i := 67) rfl)) (hw _ (List.mem_of_getElem? (i := 66) rfl)) (hw _ (List.mem_of_getElem? (i := 20) rfl)) (hw _ (List.mem_of_getElem? (i := 68) rfl)) (by decide) (rmAdd l Z a0 hw b1 (Jvm.Native.java_lang_Math.nans.pick64 false (FP.dmul lim cy) (FP.l2d r1)) T199.heap n0 Z217 cb1 sb1 _ _ HM hcb1 hsb1 (by omega) (by omega) F202 gb1 F209 F208) e229 (b := b1) F202 (argsL := [(.double (Jvm.Native.java_lang_Math.nans.pick64 false (FP.dmul lim cy) (FP.l2d r1)))]) (rest := []) rfl rfl 0 106 rfl (by rw [hml]; rfl) (lenOf own_pd8 rfl) (Nat.le_refl _) (by decide) (by decide) (by decide) (by decide) (hb hby d8_103) ?_
          intro v230 T230 L230 X230 hQ230
          obtain ⟨rfl, N230, K230, c230, s230, Fc230, Fs230, dc230, ds230⟩ := hQ230
          have N231 := Fr.app N225 N230
          have F232 := F201.keep K230
          have F233 := F202.keep K230
          have F234 := F203.keep K230
          have F235 := F204.keep K230 (ninS n_a_b1 nin0)
          have F236 := F205.keep K230 (ninS n_a_b1 nin0)
          have F237 := F206.keep K230 (ninS n_a_b1 nin0)
          have F238 := F207.keep K230 (ninS n_a_b1 nin0)
          have F241 := F210.keep K230 (ninS (Ne.symm n_b1_b2) nin0)
          have F242 := F211.keep K230 (ninS (Ne.symm n_b1_b2) nin0)
          have F243 := F212.keep K230 (ninS n_b_b1 nin0)
          have F244 := F213.keep K230 (ninS n_d_b1 nin0)
          have F245 := F214.keep K230
          have F246 := Fc199.keep K230 (ninS (Ne.symm ne142) nin0)
          have F247 := Fs199.keep K230 (ninS (Ne.symm ne142) nin0)
          have Z248 : n0 ≤ T230.heap.size := Nat.le_trans Z217 K230.1
          have K249 := K218.trans K230 (allS (Or.inl (List.mem_of_getElem? (i := 0) rfl)) all0)
          show Go p e below _ T230 (mkF m 106 #[.val (.ref a), .val (.ref b), .val (.ref d), .val (.ref a140), .val (.long r1), .second, .val (.double s199), .second] [])
          refine g_aloadN X230 hx 107 (hb hby d8_106) rfl rfl rfl ?_
          refine g_getF X230 hx hZ hown (hw _ (List.mem_of_getElem? (i := 27) rfl)) Via.refl rfl F238 110 (hb hby d8_107) rfl ?_
          intro T250 X250 e250
          refine g_dload X250 hx 112 (hb hby d8_110) rfl rfl ?_
          refine g_virt X250 hx hZ (C := "com/example/iso_throttle/isothrottle/CompensatedSum") hown (hw _ (List.mem_of_getElem? (i := 64) rfl)) (hw _ (List.mem_of_getElem? (i := 65) rfl)) (hw _ (List.mem_of_getElem? (i := 67) rfl)) (hw _ (List.mem_of_getElem? (i := 67) rfl)) (hw _ (List.mem_of_getElem? (i := 66) rfl)) (hw _ (List.mem_of_getElem? (i := 20) rfl)) (hw _ (List.mem_of_getElem? (i := 68) rfl)) (by decide) (rmAdd l Z a0 hw b2 s199 T230.heap n0 Z248 cb2 sb2 _ _ ds199 hcb2 hsb2 (by omega) (by omega) F234 gb2 F242 F241) e250 (b := b2) F234 (argsL := [(.double s199)]) (rest := []) rfl rfl 0 115 rfl (by rw [hml]; rfl) (lenOf own_pd8 rfl) (Nat.le_refl _) (by decide) (by decide) (by decide) (by decide) (hb hby d8_112) ?_
          intro v251 T251 L251 X251 hQ251
          obtain ⟨rfl, N251, K251, c251, s251, Fc251, Fs251, dc251, ds251⟩ := hQ251
          have N252 := Fr.app N231 N251
          have F253 := F232.keep K251
          have F254 := F233.keep K251
          have F255 := F234.keep K251
          have F256 := F235.keep K251 (ninS n_a_b2 nin0)
          have F257 := F236.keep K251 (ninS n_a_b2 nin0)
          have F258 := F237.keep K251 (ninS n_a_b2 nin0)
          have F259 := F238.keep K251 (ninS n_a_b2 nin0)
          have F262 := F243.keep K251 (ninS n_b_b2 nin0)
          have F263 := F244.keep K251 (ninS n_d_b2 nin0)
          have F264 := F245.keep K251
          have F265 := F246.keep K251 (ninS (Ne.symm ne143) nin0)
          have F266 := F247.keep K251 (ninS (Ne.symm ne143) nin0)
          have F267 := Fc230.keep K251 (ninS n_b1_b2 nin0)
          have F268 := Fs230.keep K251 (ninS n_b1_b2 nin0)
          have Z269 : n0 ≤ T251.heap.size := Nat.le_trans Z248 K251.1
          have K270 := K249.trans K251 (allS (Or.inl (List.mem_of_getElem? (i := 1) rfl)) all0)
          show Go p e below _ T251 (mkF m 115 #[.val (.ref a), .val (.ref b), .val (.ref d), .val (.ref a140), .val (.long r1), .second, .val (.double s199), .second] [])
          refine g_dload X251 hx 117 (hb hby d8_115) rfl rfl ?_
          exact g_retD X251 hx hlk hret (hb hby d8_117) (by decide) (by decide) rfl ⟨_, rfl, N252, K270, _, _, _, _, F268, F267, Fs251, Fc251, dc230, own_as (by omega) ds230, dc251, own_as (by omega) ds251⟩
        · skip
          exfalso; revert c221; decide
  · skip
    exfalso; revert c137; decide
theorem d19_0 : decode prog_1_method_4_code 0 = .ok (.aload_n 0, 1) := by decide +kernel
theorem d19_1 : decode prog_1_method_4_code 1 = .ok (.getfield 10, 3) := by decide +kernel
theorem d19_4 : decode prog_1_method_4_code 4 = .ok (.invokevirtual 77, 3) := by decide +kernel
theorem d19_7 : decode prog_1_method_4_code 7 = .ok (.dreturn, 1) := by decide +kernel
theorem own_pf13 : plainFor (⟨"com/example/iso_throttle/isothrottle/AdmissionTally", "idealTotal", "()D"⟩ : MethodName) = true := plainFor_of_name (by first | (simp [plainName, overriddenIn]; done) | decide +kernel)
def Q_rmIT (s0 : UInt64) (n0 : Nat) (h0 : Heap) (v : Option Value) (h : Heap) (L : List Loc) : Prop := v = some (.double s0) ∧ Fr n0 L ∧ h = h0
theorem ef_rmIT (a : Addr) (m : MethodId) : entryFrame m #[(.ref a)] 1 = mkF m 0 #[.val (.ref a)] [] := by first | (simp [entryFrame, mkF, argsToLocals, Value.category]; done) | rfl
set_option maxRecDepth 65536 in
set_option maxHeartbeats 40000000 in
theorem rmIT (l : Launch) (Z : State) (a0 : Array Value) (hw : ∀ d ∈ tables_1, d.before a0 Z = true) (a : Addr) (h0 : Heap) (n0 : Nat) (Z0 : n0 ≤ h0.size) (b : Addr) (s0 : UInt64) (Fa : Fld Z h0 a "com/example/iso_throttle/isothrottle/AdmissionTally" "idealTotal" "Lcom/example/iso_throttle/isothrottle/CompensatedSum;" (.ref b)) (Eb : Exa Z h0 b "com/example/iso_throttle/isothrottle/CompensatedSum") (Fs : Fld Z h0 b "com/example/iso_throttle/isothrottle/CompensatedSum" "sum" "D" (.double s0)) :
    MetFree l (⟨"com/example/iso_throttle/isothrottle/AdmissionTally", "idealTotal", "()D"⟩ : MethodName) (head1 [Jvm.Cond.code (⟨"com/example/iso_throttle/isothrottle/AdmissionTally", "idealTotal", "()D"⟩ : MethodName) prog_1_method_4_code 1 (some .double)] ({ frames := 1, cells := 0, slots := 0, locals := 12 } : Room)) (fun as_ U => as_ = #[(.ref a)] ∧ Z.Warmed39 U.vm ∧ U.heap = h0) (fun _ _ _ _ _ => True) (fun _ U o U' => ∃ v L, o = .returned v ∧ Q_rmIT s0 n0 h0 v U'.heap L ∧ FrameEnd U o U' L ({ frames := 1, cells := 0, slots := 0, locals := 12 } : Room).cells ({ frames := 1, cells := 0, slots := 0, locals := 12 } : Room).slots) := by
  refine own_met own_pf13 (ef_rmIT a) ?_
  intro p e s m below meth c T0 X0 hx hby hml hret hlk hnm hown hZ e0
  have N0 := Fr.nil n0
  refine g_aloadN X0 hx 1 (hb hby d19_0) rfl rfl rfl ?_
  refine g_getF X0 hx hZ hown (hw _ (List.mem_of_getElem? (i := 25) rfl)) Via.refl e0 Fa 4 (hb hby d19_1) rfl ?_
  intro T271 X271 e271
  refine g_virt X271 hx hZ (C := "com/example/iso_throttle/isothrottle/CompensatedSum") hown (hw _ (List.mem_of_getElem? (i := 76) rfl)) (hw _ (List.mem_of_getElem? (i := 77) rfl)) (hw _ (List.mem_of_getElem? (i := 79) rfl)) (hw _ (List.mem_of_getElem? (i := 79) rfl)) (hw _ (List.mem_of_getElem? (i := 78) rfl)) (hw _ (List.mem_of_getElem? (i := 20) rfl)) (hw _ (List.mem_of_getElem? (i := 80) rfl)) (by decide) (rmVal l Z a0 hw b h0 n0 Z0 s0 Fs) e271 (b := b) Eb (argsL := []) (rest := []) rfl rfl 0 7 rfl (by rw [hml]; rfl) (lenOf own_pd10 rfl) (Nat.le_refl _) (by decide) (by decide) (by decide) (by decide) (hb hby d19_4) ?_
  intro v272 T272 L272 X272 hQ272
  obtain ⟨rfl, N272, q272⟩ := hQ272
  have N273 := Fr.app N0 N272
  show Go p e below _ T272 (mkF m 7 #[.val (.ref a)] [(.double s0)])
  exact g_retD X272 hx hlk hret (hb hby d19_7) (by decide) (by decide) q272 ⟨rfl, N273, rfl⟩
theorem d20_0 : decode prog_1_method_5_code 0 = .ok (.aload_n 0, 1) := by decide +kernel
theorem d20_1 : decode prog_1_method_5_code 1 = .ok (.getfield 16, 3) := by decide +kernel
theorem d20_4 : decode prog_1_method_5_code 4 = .ok (.invokevirtual 77, 3) := by decide +kernel
theorem d20_7 : decode prog_1_method_5_code 7 = .ok (.dreturn, 1) := by decide +kernel
theorem own_pf14 : plainFor (⟨"com/example/iso_throttle/isothrottle/AdmissionTally", "admittedTotal", "()D"⟩ : MethodName) = true := plainFor_of_name (by first | (simp [plainName, overriddenIn]; done) | decide +kernel)
def Q_rmAT (s0 : UInt64) (n0 : Nat) (h0 : Heap) (v : Option Value) (h : Heap) (L : List Loc) : Prop := v = some (.double s0) ∧ Fr n0 L ∧ h = h0
theorem ef_rmAT (a : Addr) (m : MethodId) : entryFrame m #[(.ref a)] 1 = mkF m 0 #[.val (.ref a)] [] := by first | (simp [entryFrame, mkF, argsToLocals, Value.category]; done) | rfl
set_option maxRecDepth 65536 in
set_option maxHeartbeats 40000000 in
theorem rmAT (l : Launch) (Z : State) (a0 : Array Value) (hw : ∀ d ∈ tables_1, d.before a0 Z = true) (a : Addr) (h0 : Heap) (n0 : Nat) (Z0 : n0 ≤ h0.size) (b : Addr) (s0 : UInt64) (Fa : Fld Z h0 a "com/example/iso_throttle/isothrottle/AdmissionTally" "admittedTotal" "Lcom/example/iso_throttle/isothrottle/CompensatedSum;" (.ref b)) (Eb : Exa Z h0 b "com/example/iso_throttle/isothrottle/CompensatedSum") (Fs : Fld Z h0 b "com/example/iso_throttle/isothrottle/CompensatedSum" "sum" "D" (.double s0)) :
    MetFree l (⟨"com/example/iso_throttle/isothrottle/AdmissionTally", "admittedTotal", "()D"⟩ : MethodName) (head1 [Jvm.Cond.code (⟨"com/example/iso_throttle/isothrottle/AdmissionTally", "admittedTotal", "()D"⟩ : MethodName) prog_1_method_5_code 1 (some .double)] ({ frames := 1, cells := 0, slots := 0, locals := 12 } : Room)) (fun as_ U => as_ = #[(.ref a)] ∧ Z.Warmed39 U.vm ∧ U.heap = h0) (fun _ _ _ _ _ => True) (fun _ U o U' => ∃ v L, o = .returned v ∧ Q_rmAT s0 n0 h0 v U'.heap L ∧ FrameEnd U o U' L ({ frames := 1, cells := 0, slots := 0, locals := 12 } : Room).cells ({ frames := 1, cells := 0, slots := 0, locals := 12 } : Room).slots) := by
  refine own_met own_pf14 (ef_rmAT a) ?_
  intro p e s m below meth c T0 X0 hx hby hml hret hlk hnm hown hZ e0
  have N0 := Fr.nil n0
  refine g_aloadN X0 hx 1 (hb hby d20_0) rfl rfl rfl ?_
  refine g_getF X0 hx hZ hown (hw _ (List.mem_of_getElem? (i := 27) rfl)) Via.refl e0 Fa 4 (hb hby d20_1) rfl ?_
  intro T274 X274 e274
  refine g_virt X274 hx hZ (C := "com/example/iso_throttle/isothrottle/CompensatedSum") hown (hw _ (List.mem_of_getElem? (i := 76) rfl)) (hw _ (List.mem_of_getElem? (i := 77) rfl)) (hw _ (List.mem_of_getElem? (i := 79) rfl)) (hw _ (List.mem_of_getElem? (i := 79) rfl)) (hw _ (List.mem_of_getElem? (i := 78) rfl)) (hw _ (List.mem_of_getElem? (i := 20) rfl)) (hw _ (List.mem_of_getElem? (i := 80) rfl)) (by decide) (rmVal l Z a0 hw b h0 n0 Z0 s0 Fs) e274 (b := b) Eb (argsL := []) (rest := []) rfl rfl 0 7 rfl (by rw [hml]; rfl) (lenOf own_pd10 rfl) (Nat.le_refl _) (by decide) (by decide) (by decide) (by decide) (hb hby d20_4) ?_
  intro v275 T275 L275 X275 hQ275
  obtain ⟨rfl, N275, q275⟩ := hQ275
  have N276 := Fr.app N0 N275
  show Go p e below _ T275 (mkF m 7 #[.val (.ref a)] [(.double s0)])
  exact g_retD X275 hx hlk hret (hb hby d20_7) (by decide) (by decide) q275 ⟨rfl, N276, rfl⟩
theorem own_hun : Jvm.FP.Core.DInt 100 (4636737291354636288 : UInt64) := own_dlit false 7036874417766400 (-46) (by decide +kernel) (by decide +kernel)
theorem own_nz {i : Int} {a : UInt64} (h : Jvm.FP.Core.DInt i a) (hi : i ≠ 0) : ¬ Jvm.FP.Core.DZero a := by
  rintro ⟨s, q, e⟩
  have h' : Jvm.FP.Core.Whole i (Jvm.FP.Core.val64 a) := h
  rw [e] at h'
  exact hi ((Jvm.FP.Core.whole_zero h').mp rfl)
theorem own_dvn {i j : Int} {a b : UInt64} (ha : Jvm.FP.Core.DInt i a) (hb : Jvm.FP.Core.DInt j b) (hj : j ≠ 0) : Jvm.Free.Fl.NoNaN64 (FP.ddiv a b) := Jvm.Free.Fl.noNaN64_no.mpr (Jvm.FP.Core.ddiv_out (Jvm.Free.Fl.noNaN64_no.mp (own_dnn ha)) (own_intfin hb) (own_nz hb hj))
theorem own_dveq {i j : Int} {a b a' b' : UInt64} (ha : Jvm.FP.Core.DInt i a) (hb : Jvm.FP.Core.DInt j b) (ha' : Jvm.FP.Core.DInt i a') (hb' : Jvm.FP.Core.DInt j b') (hj : j ≠ 0) : FP.dcmp (FP.ddiv a b) (FP.ddiv a' b') = some (compare (0 : Int) 0) := by
  obtain rfl : b = b' := Jvm.FP.Core.dint_unique hj hb hb'
  by_cases hi : i = 0
  · subst hi
    have z1 := own_fixdiv (t := 0) (M := 0) (own_fix0.mpr ha) (own_fix0.mpr hb) hj (by simp) (by decide) (by decide)
    have z2 := own_fixdiv (t := 0) (M := 0) (own_fix0.mpr ha') (own_fix0.mpr hb) hj (by simp) (by decide) (by decide)
    exact own_fixcmp z1 z2
  · obtain rfl : a = a' := Jvm.FP.Core.dint_unique hi ha ha'
    exact (Jvm.FP.Core.dcmp_refl (Jvm.Free.Fl.noNaN64_no.mp (own_dvn ha hb hj))).trans rfl
theorem d18_0 : decode prog_1_method_6_code 0 = .ok (.aload_n 0, 1) := by decide +kernel
theorem d18_1 : decode prog_1_method_6_code 1 = .ok (.invokevirtual 81, 3) := by decide +kernel
theorem d18_4 : decode prog_1_method_6_code 4 = .ok (.dstore_n 1, 1) := by decide +kernel
theorem d18_5 : decode prog_1_method_6_code 5 = .ok (.dload_n 1, 1) := by decide +kernel
theorem d18_6 : decode prog_1_method_6_code 6 = .ok (.dconst 0, 1) := by decide +kernel
theorem d18_7 : decode prog_1_method_6_code 7 = .ok (.dcmp .l, 1) := by decide +kernel
theorem d18_8 : decode prog_1_method_6_code 8 = .ok (.ifCond .ne 5, 3) := by decide +kernel
theorem d18_11 : decode prog_1_method_6_code 11 = .ok (.dconst 0, 1) := by decide +kernel
theorem d18_12 : decode prog_1_method_6_code 12 = .ok (.dreturn, 1) := by decide +kernel
theorem d18_13 : decode prog_1_method_6_code 13 = .ok (.ldc2_w 83, 3) := by decide +kernel
theorem d18_16 : decode prog_1_method_6_code 16 = .ok (.dload_n 1, 1) := by decide +kernel
theorem d18_17 : decode prog_1_method_6_code 17 = .ok (.aload_n 0, 1) := by decide +kernel
theorem d18_18 : decode prog_1_method_6_code 18 = .ok (.invokevirtual 85, 3) := by decide +kernel
theorem d18_21 : decode prog_1_method_6_code 21 = .ok (.dsub, 1) := by decide +kernel
theorem d18_22 : decode prog_1_method_6_code 22 = .ok (.dmul, 1) := by decide +kernel
theorem d18_23 : decode prog_1_method_6_code 23 = .ok (.dload_n 1, 1) := by decide +kernel
theorem d18_24 : decode prog_1_method_6_code 24 = .ok (.ddiv, 1) := by decide +kernel
theorem d18_25 : decode prog_1_method_6_code 25 = .ok (.dreturn, 1) := by decide +kernel
theorem own_pf15 : plainFor (⟨"com/example/iso_throttle/isothrottle/AdmissionTally", "overThrottlingPct", "()D"⟩ : MethodName) = true := plainFor_of_name (by first | (simp [plainName, overriddenIn]; done) | decide +kernel)
def Q_rmPct (s1 : UInt64) (I A : Int) (n0 : Nat) (h0 : Heap) (v : Option Value) (h : Heap) (L : List Loc) : Prop := ∃ r : UInt64, v = some (.double r) ∧ (I = 0 → r = 0) ∧ (I ≠ 0 → ∃ x : UInt64, r = FP.ddiv x s1 ∧ Jvm.FP.Core.DInt (100 * (I - A)) x) ∧ Fr n0 L ∧ h = h0
theorem ef_rmPct (a : Addr) (m : MethodId) : entryFrame m #[(.ref a)] 3 = mkF m 0 #[.val (.ref a), .unset, .unset] [] := by first | (simp [entryFrame, mkF, argsToLocals, Value.category]; done) | rfl
set_option maxRecDepth 65536 in
set_option maxHeartbeats 40000000 in
theorem rmPct (l : Launch) (Z : State) (a0 : Array Value) (hw : ∀ d ∈ tables_1, d.before a0 Z = true) (a : Addr) (h0 : Heap) (n0 : Nat) (Z0 : n0 ≤ h0.size) (b1 b2 : Addr) (s1 s2 : UInt64) (I A : Int) (h1 : Jvm.FP.Core.DInt I s1) (h2 : Jvm.FP.Core.DInt A s2) (bI : 0 ≤ I ∧ I ≤ 1000000) (bA : 0 ≤ A ∧ A ≤ 1000000) (Ea : Exa Z h0 a "com/example/iso_throttle/isothrottle/AdmissionTally") (F1 : Fld Z h0 a "com/example/iso_throttle/isothrottle/AdmissionTally" "idealTotal" "Lcom/example/iso_throttle/isothrottle/CompensatedSum;" (.ref b1)) (F2 : Fld Z h0 a "com/example/iso_throttle/isothrottle/AdmissionTally" "admittedTotal" "Lcom/example/iso_throttle/isothrottle/CompensatedSum;" (.ref b2)) (Eb1 : Exa Z h0 b1 "com/example/iso_throttle/isothrottle/CompensatedSum") (Eb2 : Exa Z h0 b2 "com/example/iso_throttle/isothrottle/CompensatedSum") (Fs1 : Fld Z h0 b1 "com/example/iso_throttle/isothrottle/CompensatedSum" "sum" "D" (.double s1)) (Fs2 : Fld Z h0 b2 "com/example/iso_throttle/isothrottle/CompensatedSum" "sum" "D" (.double s2)) :
    MetFree l (⟨"com/example/iso_throttle/isothrottle/AdmissionTally", "overThrottlingPct", "()D"⟩ : MethodName) (head1 [Jvm.Cond.code (⟨"com/example/iso_throttle/isothrottle/AdmissionTally", "overThrottlingPct", "()D"⟩ : MethodName) prog_1_method_6_code 3 (some .double)] ({ frames := 2, cells := 0, slots := 0, locals := 32 } : Room)) (fun as_ U => as_ = #[(.ref a)] ∧ Z.Warmed39 U.vm ∧ U.heap = h0) (fun _ _ _ _ _ => True) (fun _ U o U' => ∃ v L, o = .returned v ∧ Q_rmPct s1 I A n0 h0 v U'.heap L ∧ FrameEnd U o U' L ({ frames := 2, cells := 0, slots := 0, locals := 32 } : Room).cells ({ frames := 2, cells := 0, slots := 0, locals := 32 } : Room).slots) := by
  refine own_met own_pf15 (ef_rmPct a) ?_
  intro p e s m below meth c T0 X0 hx hby hml hret hlk hnm hown hZ e0
  have N0 := Fr.nil n0
  refine g_aloadN X0 hx 1 (hb hby d18_0) rfl rfl rfl ?_
  refine g_virt X0 hx hZ (C := "com/example/iso_throttle/isothrottle/AdmissionTally") hown (hw _ (List.mem_of_getElem? (i := 93) rfl)) (hw _ (List.mem_of_getElem? (i := 94) rfl)) (hw _ (List.mem_of_getElem? (i := 96) rfl)) (hw _ (List.mem_of_getElem? (i := 96) rfl)) (hw _ (List.mem_of_getElem? (i := 95) rfl)) (hw _ (List.mem_of_getElem? (i := 11) rfl)) (hw _ (List.mem_of_getElem? (i := 97) rfl)) (by decide) (rmIT l Z a0 hw a h0 n0 Z0 b1 s1 F1 Eb1 Fs1) e0 (b := a) Ea (argsL := []) (rest := []) rfl rfl 0 4 rfl (by rw [hml]; rfl) (lenOf own_pd10 rfl) (Nat.le_refl _) (by decide) (by decide) (by decide) (by decide) (hb hby d18_1) ?_
  intro v277 T277 L277 X277 hQ277
  obtain ⟨rfl, N277, q277⟩ := hQ277
  have N278 := Fr.app N0 N277
  show Go p e below _ T277 (mkF m 4 #[.val (.ref a), .unset, .unset] [(.double s1)])
  refine g_dstoreN (l' := #[.val (.ref a), .val (.double s1), .second]) X277 hx 5 (hb hby d18_4) rfl rfl ?_
  refine g_dloadN X277 hx 6 (hb hby d18_5) rfl rfl ?_
  refine g_dconst0 X277 hx 7 (hb hby d18_6) rfl ?_
  refine g_dc_ne X277 hx 8 13 11 (hb hby d18_7) rfl (hb hby d18_8) (by decide) (by decide) rfl (Jvm.FP.Core.dcmp_int h1 own_dzero) (fun c279 => ?_) (fun c279 => ?_)
  · skip
    refine g_ldc2D X277 hx 16 hZ hown (hw _ (List.mem_of_getElem? (i := 98) rfl)) (hb hby d18_13) rfl ?_
    refine g_dloadN X277 hx 17 (hb hby d18_16) rfl rfl ?_
    refine g_aloadN X277 hx 18 (hb hby d18_17) rfl rfl rfl ?_
    refine g_virt X277 hx hZ (C := "com/example/iso_throttle/isothrottle/AdmissionTally") hown (hw _ (List.mem_of_getElem? (i := 99) rfl)) (hw _ (List.mem_of_getElem? (i := 100) rfl)) (hw _ (List.mem_of_getElem? (i := 102) rfl)) (hw _ (List.mem_of_getElem? (i := 102) rfl)) (hw _ (List.mem_of_getElem? (i := 101) rfl)) (hw _ (List.mem_of_getElem? (i := 11) rfl)) (hw _ (List.mem_of_getElem? (i := 103) rfl)) (by decide) (rmAT l Z a0 hw a h0 n0 Z0 b2 s2 F2 Eb2 Fs2) q277 (b := a) Ea (argsL := []) (rest := [(.double s1), (.double (4636737291354636288 : UInt64))]) rfl rfl 4 21 rfl (by rw [hml]; rfl) (lenOf own_pd10 rfl) (Nat.le_refl _) (by decide) (by decide) (by decide) (by decide) (hb hby d18_18) ?_
    intro v280 T280 L280 X280 hQ280
    obtain ⟨rfl, N280, q280⟩ := hQ280
    have N281 := Fr.app N278 N280
    show Go p e below _ T280 (mkF m 21 #[.val (.ref a), .val (.double s1), .second] [(.double s2), (.double s1), (.double (4636737291354636288 : UInt64))])
    have k1 := Jvm.FP.Core.dsub_int h1 h2 (by omega)
    have k2 := Jvm.FP.Core.dmul_int own_hun k1 (by omega)
    refine g_dsub X280 hx 22 (hb hby d18_21) rfl (own_dnn k1) ?_
    refine g_dmul X280 hx 23 (hb hby d18_22) rfl (own_dnn k2) ?_
    refine g_dloadN X280 hx 24 (hb hby d18_23) rfl rfl ?_
    refine g_ddiv X280 hx 25 (hb hby d18_24) rfl (own_dvn k2 h1 c279) ?_
    exact g_retD X280 hx hlk hret (hb hby d18_25) (by decide) (by decide) q280 ⟨_, rfl, fun q => absurd q c279, fun _ => ⟨_, rfl, k2⟩, N281, rfl⟩
  · skip
    refine g_dconst0 X277 hx 12 (hb hby d18_11) rfl ?_
    exact g_retD X277 hx hlk hret (hb hby d18_12) (by decide) (by decide) q277 ⟨_, rfl, fun _ => rfl, fun q => absurd c279 q, N278, rfl⟩
theorem own_pbl {s c : Int} (hs : 1 ≤ s ∧ s ≤ 1024) (hc : 1 ≤ c ∧ c ≤ 4) : 0 ≤ s * c ∧ s * c ≤ 4096 := by
  have C : c = 1 ∨ c = 2 ∨ c = 3 ∨ c = 4 := by omega
  rcases C with rfl | rfl | rfl | rfl <;> omega
set_option maxRecDepth 65536 in
set_option maxHeartbeats 40000000 in
theorem rm0_133 {p : Program} {l : Launch} {e : Env} {s : State} {m : MethodId} {args : Array Value} {below : List Frame} {meth : Method} {c : Code} {T0 Z : State} {a0 : Array Value} {h0 : Heap} {n0 : Nat} {p0 p1 p4 : Int32} {p2 p3 : Int64} {cc : Int32} {lim s1 s2 s3 s4 d1 d2 d3 d4 : Int64} {s10 : Slot} {L0 : List Loc} (X0 : Stand p l e room_1 s m args below meth c T0 L0 0 0) (hx : p.tables.exec = Jvm.exec) (hby : c.code = code) (hml : c.maxLocals = maxLocals) (hret : meth.sig.returnType = ret) (hlk : meth.locks = false) (hown : s.vm.findClass "com/example/iso_throttle/isothrottle/AdmissionTallyOverThrottlingPctPinLaw" = some m.cls) (hZ : Z.Warmed39 s.vm) (hw : ∀ d ∈ tables_1, d.before a0 Z = true) (e0 : T0.heap = h0) (Z0 : n0 ≤ h0.size) (N0 : Fr n0 L0) (bc : 1 ≤ cc.toInt ∧ cc.toInt ≤ 4) (blim : 1 ≤ lim.toInt ∧ lim.toInt ≤ 1024) (bs1 : -1024 ≤ s1.toInt ∧ s1.toInt ≤ 1024) (bs2 : -1024 ≤ s2.toInt ∧ s2.toInt ≤ 1024) (bs3 : -1024 ≤ s3.toInt ∧ s3.toInt ≤ 1024) (bs4 : -1024 ≤ s4.toInt ∧ s4.toInt ≤ 1024) (bd1 : 0 ≤ d1.toInt ∧ d1.toInt ≤ 2047) (bd2 : 0 ≤ d2.toInt ∧ d2.toInt ≤ 2047) (bd3 : 0 ≤ d3.toInt ∧ d3.toInt ≤ 2047) (bd4 : 0 ≤ d4.toInt ∧ d4.toInt ≤ 2047) :
    Go p e below (EndQ s (Q_rm0 n0) 32 128) T0 (mkF m 133 #[.val (.int p0), .val (.int p1), .val (.long p2), .second, .val (.long p3), .second, .val (.int p4), .val (.int cc), .val (.long lim), .second, s10, .val (.long s1), .second, .val (.long s2), .second, .val (.long d1), .second, .val (.long d2), .second, .val (.long s3), .second, .val (.long s4), .second, .val (.long d3), .second, .val (.long d4), .second, .unset, .unset, .unset, .unset, .unset, .unset, .unset, .unset, .unset] []) := by
  refine g_new X0 hx hZ hown (hw _ (List.mem_of_getElem? (i := 9) rfl)) (hw _ (List.mem_of_getElem? (i := 10) rfl)) (hw _ (List.mem_of_getElem? (i := 11) rfl)) e0 136 (hb hby at_133) rfl (by decide) (by decide) ?_
  intro T282 h282 a282 g282 X282 e282 E282 A282 D282
  have ge283 : n0 ≤ a282 := by rw [g282]; exact Z0
  have Z284 : n0 ≤ h282.size := Nat.le_trans Z0 E282.1
  have F285 : Fld Z h282 a282 "com/example/iso_throttle/isothrottle/AdmissionTally" "idealTotal" "Lcom/example/iso_throttle/isothrottle/CompensatedSum;" .null := D282 (Or.inr (hw _ (List.mem_of_getElem? (i := 26) rfl))) (ty := (.object "com/example/iso_throttle/isothrottle/CompensatedSum")) (by decide)
  have F286 : Fld Z h282 a282 "com/example/iso_throttle/isothrottle/AdmissionTally" "admittedTotal" "Lcom/example/iso_throttle/isothrottle/CompensatedSum;" .null := D282 (Or.inr (hw _ (List.mem_of_getElem? (i := 28) rfl))) (ty := (.object "com/example/iso_throttle/isothrottle/CompensatedSum")) (by decide)
  have F287 : Fld Z h282 a282 "com/example/iso_throttle/isothrottle/AdmissionTally" "limit" "D" (.double (0 : UInt64)) := D282 (Or.inr (hw _ (List.mem_of_getElem? (i := 39) rfl))) (ty := .double) (by decide)
  have F288 : Fld Z h282 a282 "com/example/iso_throttle/isothrottle/AdmissionTally" "cycleSeconds" "D" (.double (0 : UInt64)) := D282 (Or.inr (hw _ (List.mem_of_getElem? (i := 42) rfl))) (ty := .double) (by decide)
  refine g_dup X282 hx 137 (hb hby at_136) rfl rfl ?_
  refine g_lload X282 hx 139 (hb hby at_137) rfl rfl ?_
  refine g_l2d X282 hx 140 (hb hby at_139) rfl ?_
  refine g_sipush X282 hx (1000 : Int32) 143 (hb hby at_140) rfl (by decide) ?_
  refine g_iload X282 hx 145 (hb hby at_143) rfl rfl ?_
  refine g_imul X282 hx 146 (hb hby at_145) rfl ?_
  generalize hcm : ((1000 : Int32) * cc) = cm
  have hcm' : cm.toInt = 1000 * cc.toInt := by
    have e1 := c_imul 1000 cc
    have e2 := rng32 cm
    have l0 : (1000 : Int32).toInt = 1000 := by decide
    rw [hcm, l0] at e1
    omega
  have HL := Jvm.FP.Core.l2d_int (a := lim) (by omega)
  have HC : Jvm.FP.Core.DInt cc.toInt (FP.ddiv (FP.i2d cm) 4652007308841189376) := own_fix0.mp (own_fixdiv (t := cc.toInt) (M := 0) (own_fix0.mpr (Jvm.FP.Core.i2d_int cm)) (own_fix0.mpr own_thou) (by decide) (by show cm.toInt * 1 = cc.toInt * 1000 * 1; omega) (by omega) (by decide))
  have bm := own_pbl (s := lim.toInt) blim bc
  refine g_init X282 hx hZ rfl hown (hw _ (List.mem_of_getElem? (i := 12) rfl)) (hw _ (List.mem_of_getElem? (i := 13) rfl)) (hw _ (List.mem_of_getElem? (i := 11) rfl)) (hw _ (List.mem_of_getElem? (i := 14) rfl)) (by decide) (rmInit l Z a0 hw a282 (FP.l2d lim) cm h282 n0 Z284 lim.toInt HL (by omega) (by omega) (own_dnn HC) A282 ge283 F285 F286 F287 F288) e282 (a := a282) (argsL := [(.double (FP.l2d lim)), (.int cm)]) (rest := [(.ref a282)]) rfl rfl 1 149 rfl (by rw [hml]; rfl) (lenOf own_pd1 rfl) (Nat.le_refl _) (by decide) (by decide) (by decide) (by decide) (hb hby at_146) ?_
  intro v289 T289 L289 X289 hQ289
  obtain ⟨rfl, N289, K289, Fl, Fy, b1, b2, Fi, Fm, nb, Eb1, Eb2, Fs1, Fc1, Fs2, Fc2, zb1, zb2, gb1, gb2⟩ := hQ289
  have N290 := Fr.app N0 N289
  have F291 := A282.keep K289
  have Z296 : n0 ≤ T289.heap.size := Nat.le_trans Z284 K289.1
  have ne297 : a282 ≠ b1 := Nat.ne_of_lt (Nat.lt_of_lt_of_le A282.lt zb1)
  have ne298 : a282 ≠ b2 := Nat.ne_of_lt (Nat.lt_of_lt_of_le A282.lt zb2)
  show Go p e below _ T289 (mkF m 149 #[.val (.int p0), .val (.int p1), .val (.long p2), .second, .val (.long p3), .second, .val (.int p4), .val (.int cc), .val (.long lim), .second, s10, .val (.long s1), .second, .val (.long s2), .second, .val (.long d1), .second, .val (.long d2), .second, .val (.long s3), .second, .val (.long s4), .second, .val (.long d3), .second, .val (.long d4), .second, .unset, .unset, .unset, .unset, .unset, .unset, .unset, .unset, .unset] [(.ref a282)])
  refine g_astore (l' := #[.val (.int p0), .val (.int p1), .val (.long p2), .second, .val (.long p3), .second, .val (.int p4), .val (.int cc), .val (.long lim), .second, s10, .val (.long s1), .second, .val (.long s2), .second, .val (.long d1), .second, .val (.long d2), .second, .val (.long s3), .second, .val (.long s4), .second, .val (.long d3), .second, .val (.long d4), .second, .val (.ref a282), .unset, .unset, .unset, .unset, .unset, .unset, .unset, .unset]) X289 hx 151 (hb hby at_149) rfl rfl rfl ?_
  refine g_aload X289 hx 153 (hb hby at_151) rfl rfl rfl ?_
  refine g_iconst X289 hx (2 : Int32) 154 (hb hby at_153) rfl (by decide) ?_
  refine g_newP X289 hx hZ (aty := .double) (hw _ (List.mem_of_getElem? (i := 43) rfl)) rfl (by decide) (cap := 2) (by decide) (by decide) 156 (hb hby at_154) rfl (by decide) (by decide) (ad := "[D") (by decide) ?_
  intro T299 h299 k299 a299 g299 X299 e299 E299 V299 A299
  have ne300 : a282 ≠ a299 := Nat.ne_of_lt (by rw [g299]; exact F291.lt)
  have ne301 : b1 ≠ a299 := Nat.ne_of_lt (by rw [g299]; exact Eb1.lt)
  have ne302 : b2 ≠ a299 := Nat.ne_of_lt (by rw [g299]; exact Eb2.lt)
  have ge303 : n0 ≤ a299 := by rw [g299]; exact Z296
  have F304 := F291.ext E299
  have F305 := Eb1.ext E299
  have F306 := Eb2.ext E299
  have F307 := Fl.ext E299
  have F308 := Fy.ext E299
  have F309 := Fi.ext E299
  have F310 := Fm.ext E299
  have F311 := Fs1.ext E299
  have F312 := Fc1.ext E299
  have F313 := Fs2.ext E299
  have F314 := Fc2.ext E299
  have Z315 : n0 ≤ h299.size := Nat.le_trans Z296 E299.1
  have V299' : Arv Z h299 a299 k299 .double (2 : Int32) [(.double (0 : UInt64)), (.double (0 : UInt64))] (.double (0 : UInt64)) := V299.pad (pad_rep [] (.double (0 : UInt64)) 2)
  refine g_dup X299 hx 157 (hb hby at_156) rfl rfl ?_
  refine g_iconst X299 hx (0 : Int32) 158 (hb hby at_157) rfl (by decide) ?_
  refine g_lload X299 hx 160 (hb hby at_158) rfl rfl ?_
  refine g_l2d X299 hx 161 (hb hby at_160) rfl ?_
  refine g_dastore X299 hx hZ e299 V299' 0 (by decide) (by decide) (by show 0 < 2; decide) 162 (hb hby at_161) rfl ?_
  intro T316 h316 X316 e316 W316 V316
  have F317 := F304.wr W316
  have F318 := F305.wr W316
  have F319 := F306.wr W316
  have F320 := F307.other W316 (Or.inl ne300)
  have F321 := F308.other W316 (Or.inl ne300)
  have F322 := F309.other W316 (Or.inl ne300)
  have F323 := F310.other W316 (Or.inl ne300)
  have F324 := F311.other W316 (Or.inl ne301)
  have F325 := F312.other W316 (Or.inl ne301)
  have F326 := F313.other W316 (Or.inl ne302)
  have F327 := F314.other W316 (Or.inl ne302)
  have F328 := A299.wr W316
  have N330 := Fr.snoc X316 N290 ge303
  have Z331 : n0 ≤ h316.size := by rw [W316.size]; exact Z315
  have V316' : Arv Z h316 a299 k299 .double (2 : Int32) [(.double (FP.l2d s1)), (.double (0 : UInt64))] (.double (0 : UInt64)) := V316
  refine g_dup X316 hx 163 (hb hby at_162) rfl rfl ?_
  refine g_iconst X316 hx (1 : Int32) 164 (hb hby at_163) rfl (by decide) ?_
  refine g_lload X316 hx 166 (hb hby at_164) rfl rfl ?_
  refine g_l2d X316 hx 167 (hb hby at_166) rfl ?_
  refine g_dastore X316 hx hZ e316 V316' 1 (by decide) (by decide) (by show 1 < 2; decide) 168 (hb hby at_167) rfl ?_
  intro T332 h332 X332 e332 W332 V332
  have F333 := F317.wr W332
  have F334 := F318.wr W332
  have F335 := F319.wr W332
  have F336 := F320.other W332 (Or.inl ne300)
  have F337 := F321.other W332 (Or.inl ne300)
  have F338 := F322.other W332 (Or.inl ne300)
  have F339 := F323.other W332 (Or.inl ne300)
  have F340 := F324.other W332 (Or.inl ne301)
  have F341 := F325.other W332 (Or.inl ne301)
  have F342 := F326.other W332 (Or.inl ne302)
  have F343 := F327.other W332 (Or.inl ne302)
  have F344 := F328.wr W332
  have N346 := Fr.snoc X332 N330 ge303
  have Z347 : n0 ≤ h332.size := by rw [W332.size]; exact Z331
  have V332' : Arv Z h332 a299 k299 .double (2 : Int32) [(.double (FP.l2d s1)), (.double (FP.l2d s2))] (.double (0 : UInt64)) := V332
  refine g_iconst X332 hx (2 : Int32) 169 (hb hby at_168) rfl (by decide) ?_
  refine g_newP X332 hx hZ (aty := .long) (hw _ (List.mem_of_getElem? (i := 44) rfl)) e332 (by decide) (cap := 2) (by decide) (by decide) 171 (hb hby at_169) rfl (by decide) (by decide) (ad := "[J") (by decide) ?_
  intro T348 h348 k348 a348 g348 X348 e348 E348 V348 A348
  have ne349 : a282 ≠ a348 := Nat.ne_of_lt (by rw [g348]; exact F333.lt)
  have ne350 : b1 ≠ a348 := Nat.ne_of_lt (by rw [g348]; exact F334.lt)
  have ne351 : b2 ≠ a348 := Nat.ne_of_lt (by rw [g348]; exact F335.lt)
  have ne352 : a299 ≠ a348 := Nat.ne_of_lt (by rw [g348]; exact F344.lt)
  have ge353 : n0 ≤ a348 := by rw [g348]; exact Z347
  have F354 := F333.ext E348
  have F355 := F334.ext E348
  have F356 := F335.ext E348
  have F357 := F336.ext E348
  have F358 := F337.ext E348
  have F359 := F338.ext E348
  have F360 := F339.ext E348
  have F361 := F340.ext E348
  have F362 := F341.ext E348
  have F363 := F342.ext E348
  have F364 := F343.ext E348
  have F365 := F344.ext E348
  have F366 := V332'.ext E348
  have Z367 : n0 ≤ h348.size := Nat.le_trans Z347 E348.1
  have V348' : Arv Z h348 a348 k348 .long (2 : Int32) [(.long (0 : Int64)), (.long (0 : Int64))] (.long (0 : Int64)) := V348.pad (pad_rep [] (.long (0 : Int64)) 2)
  refine g_dup X348 hx 172 (hb hby at_171) rfl rfl ?_
  refine g_iconst X348 hx (0 : Int32) 173 (hb hby at_172) rfl (by decide) ?_
  refine g_lload X348 hx 175 (hb hby at_173) rfl rfl ?_
  refine g_lastore X348 hx hZ e348 V348' 0 (by decide) (by decide) (by show 0 < 2; decide) 176 (hb hby at_175) rfl ?_
  intro T368 h368 X368 e368 W368 V368
  have F369 := F354.wr W368
  have F370 := F355.wr W368
  have F371 := F356.wr W368
  have F372 := F357.other W368 (Or.inl ne349)
  have F373 := F358.other W368 (Or.inl ne349)
  have F374 := F359.other W368 (Or.inl ne349)
  have F375 := F360.other W368 (Or.inl ne349)
  have F376 := F361.other W368 (Or.inl ne350)
  have F377 := F362.other W368 (Or.inl ne350)
  have F378 := F363.other W368 (Or.inl ne351)
  have F379 := F364.other W368 (Or.inl ne351)
  have F380 := F365.wr W368
  have F381 := F366.other W368 ne352
  have F382 := A348.wr W368
  have N384 := Fr.snoc X368 N346 ge353
  have Z385 : n0 ≤ h368.size := by rw [W368.size]; exact Z367
  have V368' : Arv Z h368 a348 k348 .long (2 : Int32) [(.long d1), (.long (0 : Int64))] (.long (0 : Int64)) := V368
  refine g_dup X368 hx 177 (hb hby at_176) rfl rfl ?_
  refine g_iconst X368 hx (1 : Int32) 178 (hb hby at_177) rfl (by decide) ?_
  refine g_lload X368 hx 180 (hb hby at_178) rfl rfl ?_
  refine g_lastore X368 hx hZ e368 V368' 1 (by decide) (by decide) (by show 1 < 2; decide) 181 (hb hby at_180) rfl ?_
  intro T386 h386 X386 e386 W386 V386
  have F387 := F369.wr W386
  have F388 := F370.wr W386
  have F389 := F371.wr W386
  have F390 := F372.other W386 (Or.inl ne349)
  have F391 := F373.other W386 (Or.inl ne349)
  have F392 := F374.other W386 (Or.inl ne349)
  have F393 := F375.other W386 (Or.inl ne349)
  have F394 := F376.other W386 (Or.inl ne350)
  have F395 := F377.other W386 (Or.inl ne350)
  have F396 := F378.other W386 (Or.inl ne351)
  have F397 := F379.other W386 (Or.inl ne351)
  have F398 := F380.wr W386
  have F399 := F381.other W386 ne352
  have F400 := F382.wr W386
  have N402 := Fr.snoc X386 N384 ge353
  have Z403 : n0 ≤ h386.size := by rw [W386.size]; exact Z385
  have V386' : Arv Z h386 a348 k348 .long (2 : Int32) [(.long d1), (.long d2)] (.long (0 : Int64)) := V386
  refine g_virt X386 hx hZ (C := "com/example/iso_throttle/isothrottle/AdmissionTally") hown (hw _ (List.mem_of_getElem? (i := 45) rfl)) (hw _ (List.mem_of_getElem? (i := 46) rfl)) (hw _ (List.mem_of_getElem? (i := 48) rfl)) (hw _ (List.mem_of_getElem? (i := 48) rfl)) (hw _ (List.mem_of_getElem? (i := 47) rfl)) (hw _ (List.mem_of_getElem? (i := 11) rfl)) (hw _ (List.mem_of_getElem? (i := 49) rfl)) (by decide) (rmCyc l Z a0 hw a282 a299 a348 h386 n0 Z403 b1 b2 k299 k348 (FP.l2d lim) (FP.ddiv (FP.i2d cm) 4652007308841189376) (0 : UInt64) (0 : UInt64) (0 : UInt64) (0 : UInt64) (FP.l2d s1) (FP.l2d s2) d1 d2 lim.toInt cc.toInt 0 0 s1.toInt s2.toInt HL HC own_dzero own_dzero own_dzero own_dzero (Jvm.FP.Core.l2d_int (by omega)) (Jvm.FP.Core.l2d_int (by omega)) blim bc (by omega) (by omega) bs1 bs2 bd1 bd2 bm F387 F388 F389 gb1 gb2 F390 F391 F392 F393 F394 F395 F396 F397 F399 V386' ne297 ne298 (Ne.symm ne301) (Ne.symm ne302) (Ne.symm ne350) (Ne.symm ne351) nb) e386 (b := a282) F387 (argsL := [(.ref a299), (.ref a348)]) (rest := []) rfl rfl 0 184 rfl (by rw [hml]; rfl) (lenOf own_pd5 rfl) (Nat.le_refl _) (by decide) (by decide) (by decide) (by decide) (hb hby at_181) ?_
  intro v404 T404 L404 X404 hQ404
  obtain ⟨q0, rfl, N404, K404, S1404, C1404, S2404, C2404, Fa404, Fb404, Fc404, Fd404, hc1404, hs1404, hc2404, hs2404⟩ := hQ404
  have N405 := Fr.app N402 N404
  have F406 := F387.keep K404
  have F407 := F388.keep K404
  have F408 := F389.keep K404
  have F409 := F390.keep K404 (ninS ne297 (ninS ne298 nin0))
  have F410 := F391.keep K404 (ninS ne297 (ninS ne298 nin0))
  have F411 := F392.keep K404 (ninS ne297 (ninS ne298 nin0))
  have F412 := F393.keep K404 (ninS ne297 (ninS ne298 nin0))
  have F417 := F398.keep K404
  have F418 := F399.keep K404 (ninS (Ne.symm ne301) (ninS (Ne.symm ne302) nin0))
  have F419 := F400.keep K404
  have F420 := V386'.keep K404 (ninS (Ne.symm ne350) (ninS (Ne.symm ne351) nin0))
  have Z421 : n0 ≤ T404.heap.size := Nat.le_trans Z403 K404.1
  have ib0 := own_idl_b (x := lim.toInt * cc.toInt) (y := d1.toInt + d2.toInt) (by omega) (by omega)
  have ab0 := own_ad_b (s := s1.toInt) (c := cc.toInt) bd1.1
  have ac0 := own_ad_b (s := s2.toInt) (c := cc.toInt) bd2.1
  generalize hI0 : 0 + own_idl (lim.toInt * cc.toInt) (d1.toInt + d2.toInt) = I0 at hs1404
  generalize hA0 : 0 + (own_ad s1.toInt cc.toInt d1.toInt + own_ad s2.toInt cc.toInt d2.toInt) = A0 at hs2404
  show Go p e below _ T404 (mkF m 184 #[.val (.int p0), .val (.int p1), .val (.long p2), .second, .val (.long p3), .second, .val (.int p4), .val (.int cc), .val (.long lim), .second, s10, .val (.long s1), .second, .val (.long s2), .second, .val (.long d1), .second, .val (.long d2), .second, .val (.long s3), .second, .val (.long s4), .second, .val (.long d3), .second, .val (.long d4), .second, .val (.ref a282), .unset, .unset, .unset, .unset, .unset, .unset, .unset, .unset] [(.double q0)])
  refine g_pop2 X404 hx 185 (hb hby at_184) rfl rfl ?_
  refine g_aload X404 hx 187 (hb hby at_185) rfl rfl rfl ?_
  refine g_iconst X404 hx (2 : Int32) 188 (hb hby at_187) rfl (by decide) ?_
  refine g_newP X404 hx hZ (aty := .double) (hw _ (List.mem_of_getElem? (i := 43) rfl)) rfl (by decide) (cap := 2) (by decide) (by decide) 190 (hb hby at_188) rfl (by decide) (by decide) (ad := "[D") (by decide) ?_
  intro T422 h422 k422 a422 g422 X422 e422 E422 V422 A422
  have ne423 : a282 ≠ a422 := Nat.ne_of_lt (by rw [g422]; exact F406.lt)
  have ne424 : b1 ≠ a422 := Nat.ne_of_lt (by rw [g422]; exact F407.lt)
  have ne425 : b2 ≠ a422 := Nat.ne_of_lt (by rw [g422]; exact F408.lt)
  have ne426 : a299 ≠ a422 := Nat.ne_of_lt (by rw [g422]; exact F417.lt)
  have ne427 : a348 ≠ a422 := Nat.ne_of_lt (by rw [g422]; exact F419.lt)
  have ge428 : n0 ≤ a422 := by rw [g422]; exact Z421
  have F429 := F406.ext E422
  have F430 := F407.ext E422
  have F431 := F408.ext E422
  have F432 := F409.ext E422
  have F433 := F410.ext E422
  have F434 := F411.ext E422
  have F435 := F412.ext E422
  have F436 := F417.ext E422
  have F437 := F418.ext E422
  have F438 := F419.ext E422
  have F439 := F420.ext E422
  have F440 := Fa404.ext E422
  have F441 := Fb404.ext E422
  have F442 := Fc404.ext E422
  have F443 := Fd404.ext E422
  have Z444 : n0 ≤ h422.size := Nat.le_trans Z421 E422.1
  have V422' : Arv Z h422 a422 k422 .double (2 : Int32) [(.double (0 : UInt64)), (.double (0 : UInt64))] (.double (0 : UInt64)) := V422.pad (pad_rep [] (.double (0 : UInt64)) 2)
  refine g_dup X422 hx 191 (hb hby at_190) rfl rfl ?_
  refine g_iconst X422 hx (0 : Int32) 192 (hb hby at_191) rfl (by decide) ?_
  refine g_lload X422 hx 194 (hb hby at_192) rfl rfl ?_
  refine g_l2d X422 hx 195 (hb hby at_194) rfl ?_
  refine g_dastore X422 hx hZ e422 V422' 0 (by decide) (by decide) (by show 0 < 2; decide) 196 (hb hby at_195) rfl ?_
  intro T445 h445 X445 e445 W445 V445
  have F446 := F429.wr W445
  have F447 := F430.wr W445
  have F448 := F431.wr W445
  have F449 := F432.other W445 (Or.inl ne423)
  have F450 := F433.other W445 (Or.inl ne423)
  have F451 := F434.other W445 (Or.inl ne423)
  have F452 := F435.other W445 (Or.inl ne423)
  have F453 := F436.wr W445
  have F454 := F437.other W445 ne426
  have F455 := F438.wr W445
  have F456 := F439.other W445 ne427
  have F457 := F440.other W445 (Or.inl ne424)
  have F458 := F441.other W445 (Or.inl ne424)
  have F459 := F442.other W445 (Or.inl ne425)
  have F460 := F443.other W445 (Or.inl ne425)
  have F461 := A422.wr W445
  have N463 := Fr.snoc X445 N405 ge428
  have Z464 : n0 ≤ h445.size := by rw [W445.size]; exact Z444
  have V445' : Arv Z h445 a422 k422 .double (2 : Int32) [(.double (FP.l2d s3)), (.double (0 : UInt64))] (.double (0 : UInt64)) := V445
  refine g_dup X445 hx 197 (hb hby at_196) rfl rfl ?_
  refine g_iconst X445 hx (1 : Int32) 198 (hb hby at_197) rfl (by decide) ?_
  refine g_lload X445 hx 200 (hb hby at_198) rfl rfl ?_
  refine g_l2d X445 hx 201 (hb hby at_200) rfl ?_
  refine g_dastore X445 hx hZ e445 V445' 1 (by decide) (by decide) (by show 1 < 2; decide) 202 (hb hby at_201) rfl ?_
  intro T465 h465 X465 e465 W465 V465
  have F466 := F446.wr W465
  have F467 := F447.wr W465
  have F468 := F448.wr W465
  have F469 := F449.other W465 (Or.inl ne423)
  have F470 := F450.other W465 (Or.inl ne423)
  have F471 := F451.other W465 (Or.inl ne423)
  have F472 := F452.other W465 (Or.inl ne423)
  have F473 := F453.wr W465
  have F474 := F454.other W465 ne426
  have F475 := F455.wr W465
  have F476 := F456.other W465 ne427
  have F477 := F457.other W465 (Or.inl ne424)
  have F478 := F458.other W465 (Or.inl ne424)
  have F479 := F459.other W465 (Or.inl ne425)
  have F480 := F460.other W465 (Or.inl ne425)
  have F481 := F461.wr W465
  have N483 := Fr.snoc X465 N463 ge428
  have Z484 : n0 ≤ h465.size := by rw [W465.size]; exact Z464
  have V465' : Arv Z h465 a422 k422 .double (2 : Int32) [(.double (FP.l2d s3)), (.double (FP.l2d s4))] (.double (0 : UInt64)) := V465
  refine g_iconst X465 hx (2 : Int32) 203 (hb hby at_202) rfl (by decide) ?_
  refine g_newP X465 hx hZ (aty := .long) (hw _ (List.mem_of_getElem? (i := 44) rfl)) e465 (by decide) (cap := 2) (by decide) (by decide) 205 (hb hby at_203) rfl (by decide) (by decide) (ad := "[J") (by decide) ?_
  intro T485 h485 k485 a485 g485 X485 e485 E485 V485 A485
  have ne486 : a282 ≠ a485 := Nat.ne_of_lt (by rw [g485]; exact F466.lt)
  have ne487 : b1 ≠ a485 := Nat.ne_of_lt (by rw [g485]; exact F467.lt)
  have ne488 : b2 ≠ a485 := Nat.ne_of_lt (by rw [g485]; exact F468.lt)
  have ne489 : a299 ≠ a485 := Nat.ne_of_lt (by rw [g485]; exact F473.lt)
  have ne490 : a348 ≠ a485 := Nat.ne_of_lt (by rw [g485]; exact F475.lt)
  have ne491 : a422 ≠ a485 := Nat.ne_of_lt (by rw [g485]; exact F481.lt)
  have ge492 : n0 ≤ a485 := by rw [g485]; exact Z484
  have F493 := F466.ext E485
  have F494 := F467.ext E485
  have F495 := F468.ext E485
  have F496 := F469.ext E485
  have F497 := F470.ext E485
  have F498 := F471.ext E485
  have F499 := F472.ext E485
  have F500 := F473.ext E485
  have F501 := F474.ext E485
  have F502 := F475.ext E485
  have F503 := F476.ext E485
  have F504 := F477.ext E485
  have F505 := F478.ext E485
  have F506 := F479.ext E485
  have F507 := F480.ext E485
  have F508 := F481.ext E485
  have F509 := V465'.ext E485
  have Z510 : n0 ≤ h485.size := Nat.le_trans Z484 E485.1
  have V485' : Arv Z h485 a485 k485 .long (2 : Int32) [(.long (0 : Int64)), (.long (0 : Int64))] (.long (0 : Int64)) := V485.pad (pad_rep [] (.long (0 : Int64)) 2)
  refine g_dup X485 hx 206 (hb hby at_205) rfl rfl ?_
  refine g_iconst X485 hx (0 : Int32) 207 (hb hby at_206) rfl (by decide) ?_
  refine g_lload X485 hx 209 (hb hby at_207) rfl rfl ?_
  refine g_lastore X485 hx hZ e485 V485' 0 (by decide) (by decide) (by show 0 < 2; decide) 210 (hb hby at_209) rfl ?_
  intro T511 h511 X511 e511 W511 V511
  have F512 := F493.wr W511
  have F513 := F494.wr W511
  have F514 := F495.wr W511
  have F515 := F496.other W511 (Or.inl ne486)
  have F516 := F497.other W511 (Or.inl ne486)
  have F517 := F498.other W511 (Or.inl ne486)
  have F518 := F499.other W511 (Or.inl ne486)
  have F519 := F500.wr W511
  have F520 := F501.other W511 ne489
  have F521 := F502.wr W511
  have F522 := F503.other W511 ne490
  have F523 := F504.other W511 (Or.inl ne487)
  have F524 := F505.other W511 (Or.inl ne487)
  have F525 := F506.other W511 (Or.inl ne488)
  have F526 := F507.other W511 (Or.inl ne488)
  have F527 := F508.wr W511
  have F528 := F509.other W511 ne491
  have F529 := A485.wr W511
  have N531 := Fr.snoc X511 N483 ge492
  have Z532 : n0 ≤ h511.size := by rw [W511.size]; exact Z510
  have V511' : Arv Z h511 a485 k485 .long (2 : Int32) [(.long d3), (.long (0 : Int64))] (.long (0 : Int64)) := V511
  refine g_dup X511 hx 211 (hb hby at_210) rfl rfl ?_
  refine g_iconst X511 hx (1 : Int32) 212 (hb hby at_211) rfl (by decide) ?_
  refine g_lload X511 hx 214 (hb hby at_212) rfl rfl ?_
  refine g_lastore X511 hx hZ e511 V511' 1 (by decide) (by decide) (by show 1 < 2; decide) 215 (hb hby at_214) rfl ?_
  intro T533 h533 X533 e533 W533 V533
  have F534 := F512.wr W533
  have F535 := F513.wr W533
  have F536 := F514.wr W533
  have F537 := F515.other W533 (Or.inl ne486)
  have F538 := F516.other W533 (Or.inl ne486)
  have F539 := F517.other W533 (Or.inl ne486)
  have F540 := F518.other W533 (Or.inl ne486)
  have F541 := F519.wr W533
  have F542 := F520.other W533 ne489
  have F543 := F521.wr W533
  have F544 := F522.other W533 ne490
  have F545 := F523.other W533 (Or.inl ne487)
  have F546 := F524.other W533 (Or.inl ne487)
  have F547 := F525.other W533 (Or.inl ne488)
  have F548 := F526.other W533 (Or.inl ne488)
  have F549 := F527.wr W533
  have F550 := F528.other W533 ne491
  have F551 := F529.wr W533
  have N553 := Fr.snoc X533 N531 ge492
  have Z554 : n0 ≤ h533.size := by rw [W533.size]; exact Z532
  have V533' : Arv Z h533 a485 k485 .long (2 : Int32) [(.long d3), (.long d4)] (.long (0 : Int64)) := V533
  refine g_virt X533 hx hZ (C := "com/example/iso_throttle/isothrottle/AdmissionTally") hown (hw _ (List.mem_of_getElem? (i := 45) rfl)) (hw _ (List.mem_of_getElem? (i := 46) rfl)) (hw _ (List.mem_of_getElem? (i := 48) rfl)) (hw _ (List.mem_of_getElem? (i := 48) rfl)) (hw _ (List.mem_of_getElem? (i := 47) rfl)) (hw _ (List.mem_of_getElem? (i := 11) rfl)) (hw _ (List.mem_of_getElem? (i := 49) rfl)) (by decide) (rmCyc l Z a0 hw a282 a422 a485 h533 n0 Z554 b1 b2 k422 k485 (FP.l2d lim) (FP.ddiv (FP.i2d cm) 4652007308841189376) S1404 C1404 S2404 C2404 (FP.l2d s3) (FP.l2d s4) d3 d4 lim.toInt cc.toInt I0 A0 s3.toInt s4.toInt HL HC hs1404 hc1404 hs2404 hc2404 (Jvm.FP.Core.l2d_int (by omega)) (Jvm.FP.Core.l2d_int (by omega)) blim bc (by omega) (by omega) bs3 bs4 bd3 bd4 bm F534 F535 F536 gb1 gb2 F537 F538 F539 F540 F545 F546 F547 F548 F550 V533' ne297 ne298 (Ne.symm ne424) (Ne.symm ne425) (Ne.symm ne487) (Ne.symm ne488) nb) e533 (b := a282) F534 (argsL := [(.ref a422), (.ref a485)]) (rest := []) rfl rfl 0 218 rfl (by rw [hml]; rfl) (lenOf own_pd5 rfl) (Nat.le_refl _) (by decide) (by decide) (by decide) (by decide) (hb hby at_215) ?_
  intro v555 T555 L555 X555 hQ555
  obtain ⟨q1, rfl, N555, K555, S1555, C1555, S2555, C2555, Fa555, Fb555, Fc555, Fd555, hc1555, hs1555, hc2555, hs2555⟩ := hQ555
  have N556 := Fr.app N553 N555
  have F557 := F534.keep K555
  have F558 := F535.keep K555
  have F559 := F536.keep K555
  have F560 := F537.keep K555 (ninS ne297 (ninS ne298 nin0))
  have F561 := F538.keep K555 (ninS ne297 (ninS ne298 nin0))
  have F562 := F539.keep K555 (ninS ne297 (ninS ne298 nin0))
  have F563 := F540.keep K555 (ninS ne297 (ninS ne298 nin0))
  have F564 := F541.keep K555
  have F565 := F542.keep K555 (ninS (Ne.symm ne301) (ninS (Ne.symm ne302) nin0))
  have F566 := F543.keep K555
  have F567 := F544.keep K555 (ninS (Ne.symm ne350) (ninS (Ne.symm ne351) nin0))
  have F572 := F549.keep K555
  have F573 := F550.keep K555 (ninS (Ne.symm ne424) (ninS (Ne.symm ne425) nin0))
  have F574 := F551.keep K555
  have F575 := V533'.keep K555 (ninS (Ne.symm ne487) (ninS (Ne.symm ne488) nin0))
  have Z576 : n0 ≤ T555.heap.size := Nat.le_trans Z554 K555.1
  have ib1 := own_idl_b (x := lim.toInt * cc.toInt) (y := d3.toInt + d4.toInt) (by omega) (by omega)
  have ab1 := own_ad_b (s := s3.toInt) (c := cc.toInt) bd3.1
  have ac1 := own_ad_b (s := s4.toInt) (c := cc.toInt) bd4.1
  generalize hI1 : I0 + own_idl (lim.toInt * cc.toInt) (d3.toInt + d4.toInt) = I1 at hs1555
  generalize hA1 : A0 + (own_ad s3.toInt cc.toInt d3.toInt + own_ad s4.toInt cc.toInt d4.toInt) = A1 at hs2555
  show Go p e below _ T555 (mkF m 218 #[.val (.int p0), .val (.int p1), .val (.long p2), .second, .val (.long p3), .second, .val (.int p4), .val (.int cc), .val (.long lim), .second, s10, .val (.long s1), .second, .val (.long s2), .second, .val (.long d1), .second, .val (.long d2), .second, .val (.long s3), .second, .val (.long s4), .second, .val (.long d3), .second, .val (.long d4), .second, .val (.ref a282), .unset, .unset, .unset, .unset, .unset, .unset, .unset, .unset] [(.double q1)])
  refine g_pop2 X555 hx 219 (hb hby at_218) rfl rfl ?_
  refine g_lload X555 hx 221 (hb hby at_219) rfl rfl ?_
  refine g_iload X555 hx 223 (hb hby at_221) rfl rfl ?_
  refine g_i2l X555 hx 224 (hb hby at_223) rfl ?_
  refine g_lmul X555 hx 225 (hb hby at_224) rfl ?_
  refine g_lstore (l' := #[.val (.int p0), .val (.int p1), .val (.long p2), .second, .val (.long p3), .second, .val (.int p4), .val (.int cc), .val (.long lim), .second, s10, .val (.long s1), .second, .val (.long s2), .second, .val (.long d1), .second, .val (.long d2), .second, .val (.long s3), .second, .val (.long s4), .second, .val (.long d3), .second, .val (.long d4), .second, .val (.ref a282), .val (.long (lim * (cc.toInt64))), .second, .unset, .unset, .unset, .unset, .unset, .unset]) X555 hx 227 (hb hby at_225) rfl rfl ?_
  generalize hcap : (lim * (cc.toInt64)) = cap
  have hcap' : cap.toInt = lim.toInt * cc.toInt := by
    have e1 := c_lmul lim cc.toInt64
    have e2 := rng64 cap
    rw [hcap, c_i2l] at e1
    omega
  refine g_lload X555 hx 229 (hb hby at_227) rfl rfl ?_
  refine g_lload X555 hx 231 (hb hby at_229) rfl rfl ?_
  refine g_lload X555 hx 233 (hb hby at_231) rfl rfl ?_
  refine g_ladd X555 hx 234 (hb hby at_233) rfl ?_
  have i1a := c_ladd d1 d2
  have i1b := rng64 (d1 + d2)
  refine g_static X555 hx hZ hown (hw _ (List.mem_of_getElem? (i := 81) rfl)) (hw _ (List.mem_of_getElem? (i := 82) rfl)) (hw _ (List.mem_of_getElem? (i := 35) rfl)) (hw _ (List.mem_of_getElem? (i := 83) rfl)) (by decide) (rmMinJ l Z a0 hw cap (d1 + d2) T555.heap n0 Z576) rfl (argsL := [(.long cap), (.long (d1 + d2))]) (rest := []) rfl rfl 0 237 rfl (by rw [hml]; rfl) (lenOf own_pd9 rfl) (Nat.le_refl _) (by decide) (by decide) (by decide) (by decide) (hb hby at_234) ?_
  intro v577 T577 L577 X577 hQ577
  obtain ⟨i1, rfl, hi1, N577, q577⟩ := hQ577
  have N578 := Fr.app N556 N577
  show Go p e below _ T577 (mkF m 237 #[.val (.int p0), .val (.int p1), .val (.long p2), .second, .val (.long p3), .second, .val (.int p4), .val (.int cc), .val (.long lim), .second, s10, .val (.long s1), .second, .val (.long s2), .second, .val (.long d1), .second, .val (.long d2), .second, .val (.long s3), .second, .val (.long s4), .second, .val (.long d3), .second, .val (.long d4), .second, .val (.ref a282), .val (.long cap), .second, .unset, .unset, .unset, .unset, .unset, .unset] [(.long i1)])
  rw [hcap', show (d1 + d2).toInt = d1.toInt + d2.toInt by omega] at hi1
  refine g_lload X577 hx 239 (hb hby at_237) rfl rfl ?_
  refine g_lload X577 hx 241 (hb hby at_239) rfl rfl ?_
  refine g_lload X577 hx 243 (hb hby at_241) rfl rfl ?_
  refine g_ladd X577 hx 244 (hb hby at_243) rfl ?_
  have i2a := c_ladd d3 d4
  have i2b := rng64 (d3 + d4)
  refine g_static X577 hx hZ hown (hw _ (List.mem_of_getElem? (i := 81) rfl)) (hw _ (List.mem_of_getElem? (i := 82) rfl)) (hw _ (List.mem_of_getElem? (i := 35) rfl)) (hw _ (List.mem_of_getElem? (i := 83) rfl)) (by decide) (rmMinJ l Z a0 hw cap (d3 + d4) T555.heap n0 Z576) q577 (argsL := [(.long cap), (.long (d3 + d4))]) (rest := [(.long i1)]) rfl rfl 2 247 rfl (by rw [hml]; rfl) (lenOf own_pd9 rfl) (Nat.le_refl _) (by decide) (by decide) (by decide) (by decide) (hb hby at_244) ?_
  intro v579 T579 L579 X579 hQ579
  obtain ⟨i2, rfl, hi2, N579, q579⟩ := hQ579
  have N580 := Fr.app N578 N579
  show Go p e below _ T579 (mkF m 247 #[.val (.int p0), .val (.int p1), .val (.long p2), .second, .val (.long p3), .second, .val (.int p4), .val (.int cc), .val (.long lim), .second, s10, .val (.long s1), .second, .val (.long s2), .second, .val (.long d1), .second, .val (.long d2), .second, .val (.long s3), .second, .val (.long s4), .second, .val (.long d3), .second, .val (.long d4), .second, .val (.ref a282), .val (.long cap), .second, .unset, .unset, .unset, .unset, .unset, .unset] [(.long i2), (.long i1)])
  rw [hcap', show (d3 + d4).toInt = d3.toInt + d4.toInt by omega] at hi2
  refine g_ladd X579 hx 248 (hb hby at_247) rfl ?_
  refine g_lstore (l' := #[.val (.int p0), .val (.int p1), .val (.long p2), .second, .val (.long p3), .second, .val (.int p4), .val (.int cc), .val (.long lim), .second, s10, .val (.long s1), .second, .val (.long s2), .second, .val (.long d1), .second, .val (.long d2), .second, .val (.long s3), .second, .val (.long s4), .second, .val (.long d3), .second, .val (.long d4), .second, .val (.ref a282), .val (.long cap), .second, .val (.long (i1 + i2)), .second, .unset, .unset, .unset, .unset]) X579 hx 250 (hb hby at_248) rfl rfl ?_
  refine g_lload X579 hx 252 (hb hby at_250) rfl rfl ?_
  refine g_lload X579 hx 254 (hb hby at_252) rfl rfl ?_
  refine g_iload X579 hx 256 (hb hby at_254) rfl rfl ?_
  refine g_static X579 hx hZ hown (hw _ (List.mem_of_getElem? (i := 84) rfl)) (hw _ (List.mem_of_getElem? (i := 85) rfl)) (hw _ (List.mem_of_getElem? (i := 2) rfl)) (hw _ (List.mem_of_getElem? (i := 86) rfl)) (by decide) (rmAd l Z a0 hw s1 d1 cc T555.heap n0 Z576 bs1 bd1 bc) q579 (argsL := [(.long s1), (.long d1), (.int cc)]) (rest := []) rfl rfl 0 259 rfl (by rw [hml]; rfl) (lenOf own_pd11 rfl) (Nat.le_refl _) (by decide) (by decide) (by decide) (by decide) (hb hby at_256) ?_
  intro v581 T581 L581 X581 hQ581
  obtain ⟨m1, rfl, hm1, N581, q581⟩ := hQ581
  have N582 := Fr.app N580 N581
  show Go p e below _ T581 (mkF m 259 #[.val (.int p0), .val (.int p1), .val (.long p2), .second, .val (.long p3), .second, .val (.int p4), .val (.int cc), .val (.long lim), .second, s10, .val (.long s1), .second, .val (.long s2), .second, .val (.long d1), .second, .val (.long d2), .second, .val (.long s3), .second, .val (.long s4), .second, .val (.long d3), .second, .val (.long d4), .second, .val (.ref a282), .val (.long cap), .second, .val (.long (i1 + i2)), .second, .unset, .unset, .unset, .unset] [(.long m1)])
  refine g_lload X581 hx 261 (hb hby at_259) rfl rfl ?_
  refine g_lload X581 hx 263 (hb hby at_261) rfl rfl ?_
  refine g_iload X581 hx 265 (hb hby at_263) rfl rfl ?_
  refine g_static X581 hx hZ hown (hw _ (List.mem_of_getElem? (i := 84) rfl)) (hw _ (List.mem_of_getElem? (i := 85) rfl)) (hw _ (List.mem_of_getElem? (i := 2) rfl)) (hw _ (List.mem_of_getElem? (i := 86) rfl)) (by decide) (rmAd l Z a0 hw s2 d2 cc T555.heap n0 Z576 bs2 bd2 bc) q581 (argsL := [(.long s2), (.long d2), (.int cc)]) (rest := [(.long m1)]) rfl rfl 2 268 rfl (by rw [hml]; rfl) (lenOf own_pd11 rfl) (Nat.le_refl _) (by decide) (by decide) (by decide) (by decide) (hb hby at_265) ?_
  intro v583 T583 L583 X583 hQ583
  obtain ⟨m2, rfl, hm2, N583, q583⟩ := hQ583
  have N584 := Fr.app N582 N583
  show Go p e below _ T583 (mkF m 268 #[.val (.int p0), .val (.int p1), .val (.long p2), .second, .val (.long p3), .second, .val (.int p4), .val (.int cc), .val (.long lim), .second, s10, .val (.long s1), .second, .val (.long s2), .second, .val (.long d1), .second, .val (.long d2), .second, .val (.long s3), .second, .val (.long s4), .second, .val (.long d3), .second, .val (.long d4), .second, .val (.ref a282), .val (.long cap), .second, .val (.long (i1 + i2)), .second, .unset, .unset, .unset, .unset] [(.long m2), (.long m1)])
  refine g_ladd X583 hx 269 (hb hby at_268) rfl ?_
  refine g_lload X583 hx 271 (hb hby at_269) rfl rfl ?_
  refine g_lload X583 hx 273 (hb hby at_271) rfl rfl ?_
  refine g_iload X583 hx 275 (hb hby at_273) rfl rfl ?_
  refine g_static X583 hx hZ hown (hw _ (List.mem_of_getElem? (i := 84) rfl)) (hw _ (List.mem_of_getElem? (i := 85) rfl)) (hw _ (List.mem_of_getElem? (i := 2) rfl)) (hw _ (List.mem_of_getElem? (i := 86) rfl)) (by decide) (rmAd l Z a0 hw s3 d3 cc T555.heap n0 Z576 bs3 bd3 bc) q583 (argsL := [(.long s3), (.long d3), (.int cc)]) (rest := [(.long (m1 + m2))]) rfl rfl 2 278 rfl (by rw [hml]; rfl) (lenOf own_pd11 rfl) (Nat.le_refl _) (by decide) (by decide) (by decide) (by decide) (hb hby at_275) ?_
  intro v585 T585 L585 X585 hQ585
  obtain ⟨m3, rfl, hm3, N585, q585⟩ := hQ585
  have N586 := Fr.app N584 N585
  show Go p e below _ T585 (mkF m 278 #[.val (.int p0), .val (.int p1), .val (.long p2), .second, .val (.long p3), .second, .val (.int p4), .val (.int cc), .val (.long lim), .second, s10, .val (.long s1), .second, .val (.long s2), .second, .val (.long d1), .second, .val (.long d2), .second, .val (.long s3), .second, .val (.long s4), .second, .val (.long d3), .second, .val (.long d4), .second, .val (.ref a282), .val (.long cap), .second, .val (.long (i1 + i2)), .second, .unset, .unset, .unset, .unset] [(.long m3), (.long (m1 + m2))])
  refine g_ladd X585 hx 279 (hb hby at_278) rfl ?_
  refine g_lload X585 hx 281 (hb hby at_279) rfl rfl ?_
  refine g_lload X585 hx 283 (hb hby at_281) rfl rfl ?_
  refine g_iload X585 hx 285 (hb hby at_283) rfl rfl ?_
  refine g_static X585 hx hZ hown (hw _ (List.mem_of_getElem? (i := 84) rfl)) (hw _ (List.mem_of_getElem? (i := 85) rfl)) (hw _ (List.mem_of_getElem? (i := 2) rfl)) (hw _ (List.mem_of_getElem? (i := 86) rfl)) (by decide) (rmAd l Z a0 hw s4 d4 cc T555.heap n0 Z576 bs4 bd4 bc) q585 (argsL := [(.long s4), (.long d4), (.int cc)]) (rest := [(.long ((m1 + m2) + m3))]) rfl rfl 2 288 rfl (by rw [hml]; rfl) (lenOf own_pd11 rfl) (Nat.le_refl _) (by decide) (by decide) (by decide) (by decide) (hb hby at_285) ?_
  intro v587 T587 L587 X587 hQ587
  obtain ⟨m4, rfl, hm4, N587, q587⟩ := hQ587
  have N588 := Fr.app N586 N587
  show Go p e below _ T587 (mkF m 288 #[.val (.int p0), .val (.int p1), .val (.long p2), .second, .val (.long p3), .second, .val (.int p4), .val (.int cc), .val (.long lim), .second, s10, .val (.long s1), .second, .val (.long s2), .second, .val (.long d1), .second, .val (.long d2), .second, .val (.long s3), .second, .val (.long s4), .second, .val (.long d3), .second, .val (.long d4), .second, .val (.ref a282), .val (.long cap), .second, .val (.long (i1 + i2)), .second, .unset, .unset, .unset, .unset] [(.long m4), (.long ((m1 + m2) + m3))])
  refine g_ladd X587 hx 289 (hb hby at_288) rfl ?_
  refine g_lstore (l' := #[.val (.int p0), .val (.int p1), .val (.long p2), .second, .val (.long p3), .second, .val (.int p4), .val (.int cc), .val (.long lim), .second, s10, .val (.long s1), .second, .val (.long s2), .second, .val (.long d1), .second, .val (.long d2), .second, .val (.long s3), .second, .val (.long s4), .second, .val (.long d3), .second, .val (.long d4), .second, .val (.ref a282), .val (.long cap), .second, .val (.long (i1 + i2)), .second, .val (.long (((m1 + m2) + m3) + m4)), .second, .unset, .unset]) X587 hx 291 (hb hby at_289) rfl rfl ?_
  refine g_lload X587 hx 293 (hb hby at_291) rfl rfl ?_
  refine g_lconst X587 hx (0 : Int64) 294 (hb hby at_293) rfl (by decide) ?_
  generalize hid : (i1 + i2) = id
  generalize had : (((m1 + m2) + m3) + m4) = ad
  have hid' : id.toInt = I1 ∧ 0 ≤ I1 ∧ I1 ≤ 100000 := by
    have e1 := c_ladd i1 i2
    have e2 := rng64 id
    rw [hid] at e1
    omega
  have k1 := c_ladd m1 m2
  have k2 := rng64 (m1 + m2)
  have k3 := c_ladd (m1 + m2) m3
  have k4 := rng64 (m1 + m2 + m3)
  have k5 := c_ladd (m1 + m2 + m3) m4
  have k6 := rng64 ad
  rw [had] at k5
  have had' : ad.toInt = A1 ∧ 0 ≤ A1 ∧ A1 ≤ 100000 := by omega
  have ll590 : ((0 : Int64) : Int64).toInt = 0 := by decide
  refine g_lc_ne X587 hx 295 304 298 (hb hby at_294) rfl (hb hby at_295) (by decide) (by decide) rfl (fun c589 => ?_) (fun c589 => ?_)
  · skip
    refine g_ldc2J X587 hx 307 hZ hown (hw _ (List.mem_of_getElem? (i := 87) rfl)) (hb hby at_304) rfl ?_
    refine g_lload X587 hx 309 (hb hby at_307) rfl rfl ?_
    refine g_lload X587 hx 311 (hb hby at_309) rfl rfl ?_
    refine g_lsub X587 hx 312 (hb hby at_311) rfl ?_
    refine g_lmul X587 hx 313 (hb hby at_312) rfl ?_
    generalize hnu : ((100 : Int64) * (id - ad)) = nu
    have hnu' : nu.toInt = 100 * (I1 - A1) := by
      have e1 := c_lsub id ad
      have e2 := rng64 (id - ad)
      have e3 := c_lmul 100 (id - ad)
      have e4 := rng64 nu
      have l0 : (100 : Int64).toInt = 100 := by decide
      rw [hnu, l0] at e3
      omega
    have K1 := own_as hnu' (Jvm.FP.Core.l2d_int (a := nu) (by omega))
    have K2 := own_as hid'.1 (Jvm.FP.Core.l2d_int (a := id) (by omega))
    have nz : I1 ≠ 0 := by omega
    refine g_l2d X587 hx 314 (hb hby at_313) rfl ?_
    refine g_lload X587 hx 316 (hb hby at_314) rfl rfl ?_
    refine g_l2d X587 hx 317 (hb hby at_316) rfl ?_
    refine g_ddiv X587 hx 318 (hb hby at_317) rfl (own_dvn K1 K2 nz) ?_
    refine g_dstore (l' := #[.val (.int p0), .val (.int p1), .val (.long p2), .second, .val (.long p3), .second, .val (.int p4), .val (.int cc), .val (.long lim), .second, s10, .val (.long s1), .second, .val (.long s2), .second, .val (.long d1), .second, .val (.long d2), .second, .val (.long s3), .second, .val (.long s4), .second, .val (.long d3), .second, .val (.long d4), .second, .val (.ref a282), .val (.long cap), .second, .val (.long id), .second, .val (.long ad), .second, .val (.double (FP.ddiv (FP.l2d nu) (FP.l2d id))), .second]) X587 hx 320 (hb hby at_318) rfl rfl ?_
    refine g_aload X587 hx 322 (hb hby at_320) rfl rfl rfl ?_
    refine g_virt X587 hx hZ (C := "com/example/iso_throttle/isothrottle/AdmissionTally") hown (hw _ (List.mem_of_getElem? (i := 88) rfl)) (hw _ (List.mem_of_getElem? (i := 89) rfl)) (hw _ (List.mem_of_getElem? (i := 91) rfl)) (hw _ (List.mem_of_getElem? (i := 91) rfl)) (hw _ (List.mem_of_getElem? (i := 90) rfl)) (hw _ (List.mem_of_getElem? (i := 11) rfl)) (hw _ (List.mem_of_getElem? (i := 92) rfl)) (by decide) (rmPct l Z a0 hw a282 T555.heap n0 Z576 b1 b2 S1555 S2555 I1 A1 hs1555 hs2555 (by omega) (by omega) F557 F562 F563 F558 F559 Fa555 Fc555) q587 (b := a282) F557 (argsL := []) (rest := []) rfl rfl 0 325 rfl (by rw [hml]; rfl) (lenOf own_pd10 rfl) (Nat.le_refl _) (by decide) (by decide) (by decide) (by decide) (hb hby at_322) ?_
    intro v591 T591 L591 X591 hQ591
    obtain ⟨got, rfl, g1, g2, N591, q591⟩ := hQ591
    have N592 := Fr.app N588 N591
    show Go p e below _ T591 (mkF m 325 #[.val (.int p0), .val (.int p1), .val (.long p2), .second, .val (.long p3), .second, .val (.int p4), .val (.int cc), .val (.long lim), .second, s10, .val (.long s1), .second, .val (.long s2), .second, .val (.long d1), .second, .val (.long d2), .second, .val (.long s3), .second, .val (.long s4), .second, .val (.long d3), .second, .val (.long d4), .second, .val (.ref a282), .val (.long cap), .second, .val (.long id), .second, .val (.long ad), .second, .val (.double (FP.ddiv (FP.l2d nu) (FP.l2d id))), .second] [(.double got)])
    refine g_dload X591 hx 327 (hb hby at_325) rfl rfl ?_
    obtain ⟨x, rfl, hx'⟩ := g2 nz
    refine g_dc_ne X591 hx 328 335 331 (hb hby at_327) rfl (hb hby at_328) (by decide) (by decide) rfl (own_dveq hx' hs1555 K1 K2 nz) (fun c593 => ?_) (fun c593 => ?_)
    · skip
      exact absurd rfl c593
    · skip
      refine g_iconst X591 hx (1 : Int32) 332 (hb hby at_331) rfl (by decide) ?_
      refine g_goto X591 hx 336 (hb hby at_332) (by decide) (by decide) ?_
      exact g_retZ X591 hx hlk hret (hb hby at_336) (by decide) (by decide) q591 ⟨rfl, N592⟩
  · skip
    refine g_dconst0 X587 hx 299 (hb hby at_298) rfl ?_
    refine g_dstore (l' := #[.val (.int p0), .val (.int p1), .val (.long p2), .second, .val (.long p3), .second, .val (.int p4), .val (.int cc), .val (.long lim), .second, s10, .val (.long s1), .second, .val (.long s2), .second, .val (.long d1), .second, .val (.long d2), .second, .val (.long s3), .second, .val (.long s4), .second, .val (.long d3), .second, .val (.long d4), .second, .val (.ref a282), .val (.long cap), .second, .val (.long id), .second, .val (.long ad), .second, .val (.double 0), .second]) X587 hx 301 (hb hby at_299) rfl rfl ?_
    refine g_goto X587 hx 320 (hb hby at_301) (by decide) (by decide) ?_
    refine g_aload X587 hx 322 (hb hby at_320) rfl rfl rfl ?_
    refine g_virt X587 hx hZ (C := "com/example/iso_throttle/isothrottle/AdmissionTally") hown (hw _ (List.mem_of_getElem? (i := 88) rfl)) (hw _ (List.mem_of_getElem? (i := 89) rfl)) (hw _ (List.mem_of_getElem? (i := 91) rfl)) (hw _ (List.mem_of_getElem? (i := 91) rfl)) (hw _ (List.mem_of_getElem? (i := 90) rfl)) (hw _ (List.mem_of_getElem? (i := 11) rfl)) (hw _ (List.mem_of_getElem? (i := 92) rfl)) (by decide) (rmPct l Z a0 hw a282 T555.heap n0 Z576 b1 b2 S1555 S2555 I1 A1 hs1555 hs2555 (by omega) (by omega) F557 F562 F563 F558 F559 Fa555 Fc555) q587 (b := a282) F557 (argsL := []) (rest := []) rfl rfl 0 325 rfl (by rw [hml]; rfl) (lenOf own_pd10 rfl) (Nat.le_refl _) (by decide) (by decide) (by decide) (by decide) (hb hby at_322) ?_
    intro v594 T594 L594 X594 hQ594
    obtain ⟨got, rfl, g1, g2, N594, q594⟩ := hQ594
    have N595 := Fr.app N588 N594
    show Go p e below _ T594 (mkF m 325 #[.val (.int p0), .val (.int p1), .val (.long p2), .second, .val (.long p3), .second, .val (.int p4), .val (.int cc), .val (.long lim), .second, s10, .val (.long s1), .second, .val (.long s2), .second, .val (.long d1), .second, .val (.long d2), .second, .val (.long s3), .second, .val (.long s4), .second, .val (.long d3), .second, .val (.long d4), .second, .val (.ref a282), .val (.long cap), .second, .val (.long id), .second, .val (.long ad), .second, .val (.double 0), .second] [(.double got)])
    refine g_dload X594 hx 327 (hb hby at_325) rfl rfl ?_
    obtain rfl := g1 (by omega)
    refine g_dc_ne X594 hx 328 335 331 (hb hby at_327) rfl (hb hby at_328) (by decide) (by decide) rfl (Jvm.FP.Core.dcmp_int own_dzero own_dzero) (fun c596 => ?_) (fun c596 => ?_)
    · skip
      exact absurd rfl c596
    · skip
      refine g_iconst X594 hx (1 : Int32) 332 (hb hby at_331) rfl (by decide) ?_
      refine g_goto X594 hx 336 (hb hby at_332) (by decide) (by decide) ?_
      exact g_retZ X594 hx hlk hret (hb hby at_336) (by decide) (by decide) q594 ⟨rfl, N595⟩
theorem own_c {p c : Int32} (h : (1 : Int32) + (p &&& (3 : Int32)) = c) : 1 ≤ c.toInt ∧ c.toInt ≤ 4 := by
  have e1 := c_mask p 3 2 (by decide) (by decide)
  have e2 := c_iadd 1 (p &&& 3)
  have e3 := rng32 c
  have l0 : (1 : Int32).toInt = 1 := by decide
  rw [h, l0] at e2
  omega
theorem own_lim {p : Int32} {c : Int64} (h : (1 : Int64) + (p &&& (1023 : Int32)).toInt64 = c) : 1 ≤ c.toInt ∧ c.toInt ≤ 1024 := by
  have e1 := c_mask p 1023 10 (by decide) (by decide)
  have e0 := c_i2l (p &&& 1023)
  have e2 := c_ladd 1 (p &&& 1023).toInt64
  have e3 := rng64 c
  have l0 : (1 : Int64).toInt = 1 := by decide
  rw [h, l0] at e2
  omega
theorem own_pfx : plainFor x = true := plainFor_of_name (show plainName "com/example/iso_throttle/isothrottle/AdmissionTallyOverThrottlingPctPinLaw" = true by first | (simp [plainName, overriddenIn]; done) | decide +kernel)
theorem ef_rm0 (p0 : Int32) (p1 : Int32) (p2 : Int64) (p3 : Int64) (p4 : Int32) (m : MethodId) : entryFrame m #[(.int p0), (.int p1), (.long p2), (.long p3), (.int p4)] maxLocals = mkF m 0 #[.val (.int p0), .val (.int p1), .val (.long p2), .second, .val (.long p3), .second, .val (.int p4), .unset, .unset, .unset, .unset, .unset, .unset, .unset, .unset, .unset, .unset, .unset, .unset, .unset, .unset, .unset, .unset, .unset, .unset, .unset, .unset, .unset, .unset, .unset, .unset, .unset, .unset, .unset, .unset, .unset] [] := by first | (simp [entryFrame, mkF, argsToLocals, Value.category, maxLocals]; done) | rfl
set_option maxRecDepth 65536 in
set_option maxHeartbeats 40000000 in
theorem rm0 (l : Launch) (Z : State) (a0 : Array Value) (hw : ∀ d ∈ tables_1, d.before a0 Z = true) (ws : List Jvm.Cond) (p0 : Int32) (p1 : Int32) (p2 : Int64) (p3 : Int64) (p4 : Int32) (h0 : Heap) (n0 : Nat) (Z0 : n0 ≤ h0.size)  :
    MetFree l x (head1 (Jvm.Cond.code x code maxLocals ret :: ws) room_1) (fun as_ U => as_ = #[(.int p0), (.int p1), (.long p2), (.long p3), (.int p4)] ∧ Z.Warmed39 U.vm ∧ U.heap = h0) (fun _ _ _ _ _ => True) (fun _ U o U' => ∃ v L, o = .returned v ∧ Q_rm0 n0 v U'.heap L ∧ FrameEnd U o U' L 32 128) := by
  refine own_met own_pfx (ef_rm0 p0 p1 p2 p3 p4) ?_
  intro p e s m below meth c T0 X0 hx hby hml hret hlk hnm hown hZ e0
  have N0 := Fr.nil n0
  refine g_iconst X0 hx (1 : Int32) 1 (hb hby at_0) rfl (by decide) ?_
  refine g_iloadN X0 hx 2 (hb hby at_1) rfl rfl ?_
  refine g_iconst X0 hx (3 : Int32) 3 (hb hby at_2) rfl (by decide) ?_
  refine g_iand X0 hx 4 (hb hby at_3) rfl ?_
  refine g_iadd X0 hx 5 (hb hby at_4) rfl ?_
  refine g_istore (l' := #[.val (.int p0), .val (.int p1), .val (.long p2), .second, .val (.long p3), .second, .val (.int p4), .val (.int ((1 : Int32) + (p1 &&& (3 : Int32)))), .unset, .unset, .unset, .unset, .unset, .unset, .unset, .unset, .unset, .unset, .unset, .unset, .unset, .unset, .unset, .unset, .unset, .unset, .unset, .unset, .unset, .unset, .unset, .unset, .unset, .unset, .unset, .unset]) X0 hx 7 (hb hby at_5) rfl rfl ?_
  refine g_lconst X0 hx (1 : Int64) 8 (hb hby at_7) rfl (by decide) ?_
  refine g_iloadN X0 hx 9 (hb hby at_8) rfl rfl ?_
  refine g_sipush X0 hx (1023 : Int32) 12 (hb hby at_9) rfl (by decide) ?_
  refine g_iand X0 hx 13 (hb hby at_12) rfl ?_
  refine g_i2l X0 hx 14 (hb hby at_13) rfl ?_
  refine g_ladd X0 hx 15 (hb hby at_14) rfl ?_
  refine g_lstore (l' := #[.val (.int p0), .val (.int p1), .val (.long p2), .second, .val (.long p3), .second, .val (.int p4), .val (.int ((1 : Int32) + (p1 &&& (3 : Int32)))), .val (.long ((1 : Int64) + ((p0 &&& (1023 : Int32)).toInt64))), .second, .unset, .unset, .unset, .unset, .unset, .unset, .unset, .unset, .unset, .unset, .unset, .unset, .unset, .unset, .unset, .unset, .unset, .unset, .unset, .unset, .unset, .unset, .unset, .unset, .unset, .unset]) X0 hx 17 (hb hby at_15) rfl rfl ?_
  generalize hcc : ((1 : Int32) + (p1 &&& (3 : Int32))) = cc
  generalize hlim : ((1 : Int64) + ((p0 &&& (1023 : Int32)).toInt64)) = lim
  have bc := own_c hcc
  have blim := own_lim hlim
  have bz : 0 ≤ (0 : Int64).toInt ∧ (0 : Int64).toInt ≤ 2047 := by decide
  refine g_iload X0 hx 19 (hb hby at_17) rfl rfl ?_
  refine g_iconst X0 hx (3 : Int32) 20 (hb hby at_19) rfl (by decide) ?_
  refine g_iand X0 hx 21 (hb hby at_20) rfl ?_
  refine g_if_ne X0 hx 28 24 (hb hby at_21) (by decide) (by decide) rfl (fun c597 => ?_) (fun c597 => ?_)
  · skip
    refine g_iconst X0 hx (0 : Int32) 29 (hb hby at_28) rfl (by decide) ?_
    refine g_istore (l' := #[.val (.int p0), .val (.int p1), .val (.long p2), .second, .val (.long p3), .second, .val (.int p4), .val (.int cc), .val (.long lim), .second, .val (.int (0 : Int32)), .unset, .unset, .unset, .unset, .unset, .unset, .unset, .unset, .unset, .unset, .unset, .unset, .unset, .unset, .unset, .unset, .unset, .unset, .unset, .unset, .unset, .unset, .unset, .unset, .unset]) X0 hx 31 (hb hby at_29) rfl rfl ?_
    refine g_lloadN X0 hx 32 (hb hby at_31) rfl rfl ?_
    refine g_iconst X0 hx (0 : Int32) 33 (hb hby at_32) rfl (by decide) ?_
    refine g_static X0 hx hZ hown (hw _ (List.mem_of_getElem? (i := 0) rfl)) (hw _ (List.mem_of_getElem? (i := 1) rfl)) (hw _ (List.mem_of_getElem? (i := 2) rfl)) (hw _ (List.mem_of_getElem? (i := 3) rfl)) (by decide) (rmSh l Z a0 hw p2 (0 : Int32) h0 n0 Z0) e0 (argsL := [(.long p2), (.int (0 : Int32))]) (rest := []) rfl rfl 0 36 rfl (by rw [hml]; rfl) (lenOf own_pd0 rfl) (Nat.le_refl _) (by decide) (by decide) (by decide) (by decide) (hb hby at_33) ?_
    intro v599 T599 L599 X599 hQ599
    obtain ⟨r598, rfl, br598, N599, q599⟩ := hQ599
    have N600 := Fr.app N0 N599
    show Go p e below _ T599 (mkF m 36 #[.val (.int p0), .val (.int p1), .val (.long p2), .second, .val (.long p3), .second, .val (.int p4), .val (.int cc), .val (.long lim), .second, .val (.int (0 : Int32)), .unset, .unset, .unset, .unset, .unset, .unset, .unset, .unset, .unset, .unset, .unset, .unset, .unset, .unset, .unset, .unset, .unset, .unset, .unset, .unset, .unset, .unset, .unset, .unset, .unset] [(.long r598)])
    refine g_lstore (l' := #[.val (.int p0), .val (.int p1), .val (.long p2), .second, .val (.long p3), .second, .val (.int p4), .val (.int cc), .val (.long lim), .second, .val (.int (0 : Int32)), .val (.long r598), .second, .unset, .unset, .unset, .unset, .unset, .unset, .unset, .unset, .unset, .unset, .unset, .unset, .unset, .unset, .unset, .unset, .unset, .unset, .unset, .unset, .unset, .unset, .unset]) X599 hx 38 (hb hby at_36) rfl rfl ?_
    refine g_lloadN X599 hx 39 (hb hby at_38) rfl rfl ?_
    refine g_bipush X599 hx (11 : Int32) 41 (hb hby at_39) rfl (by decide) ?_
    refine g_static X599 hx hZ hown (hw _ (List.mem_of_getElem? (i := 0) rfl)) (hw _ (List.mem_of_getElem? (i := 1) rfl)) (hw _ (List.mem_of_getElem? (i := 2) rfl)) (hw _ (List.mem_of_getElem? (i := 3) rfl)) (by decide) (rmSh l Z a0 hw p2 (11 : Int32) h0 n0 Z0) q599 (argsL := [(.long p2), (.int (11 : Int32))]) (rest := []) rfl rfl 0 44 rfl (by rw [hml]; rfl) (lenOf own_pd0 rfl) (Nat.le_refl _) (by decide) (by decide) (by decide) (by decide) (hb hby at_41) ?_
    intro v602 T602 L602 X602 hQ602
    obtain ⟨r601, rfl, br601, N602, q602⟩ := hQ602
    have N603 := Fr.app N600 N602
    show Go p e below _ T602 (mkF m 44 #[.val (.int p0), .val (.int p1), .val (.long p2), .second, .val (.long p3), .second, .val (.int p4), .val (.int cc), .val (.long lim), .second, .val (.int (0 : Int32)), .val (.long r598), .second, .unset, .unset, .unset, .unset, .unset, .unset, .unset, .unset, .unset, .unset, .unset, .unset, .unset, .unset, .unset, .unset, .unset, .unset, .unset, .unset, .unset, .unset, .unset] [(.long r601)])
    refine g_lstore (l' := #[.val (.int p0), .val (.int p1), .val (.long p2), .second, .val (.long p3), .second, .val (.int p4), .val (.int cc), .val (.long lim), .second, .val (.int (0 : Int32)), .val (.long r598), .second, .val (.long r601), .second, .unset, .unset, .unset, .unset, .unset, .unset, .unset, .unset, .unset, .unset, .unset, .unset, .unset, .unset, .unset, .unset, .unset, .unset, .unset, .unset, .unset]) X602 hx 46 (hb hby at_44) rfl rfl ?_
    refine g_iload X602 hx 48 (hb hby at_46) rfl rfl ?_
    have ll605 : ((0 : Int32) : Int32).toInt = 0 := by decide
    refine g_if_eq X602 hx 55 51 (hb hby at_48) (by decide) (by decide) rfl (fun c604 => ?_) (fun c604 => ?_)
    · skip
      refine g_lloadN X602 hx 56 (hb hby at_55) rfl rfl ?_
      refine g_bipush X602 hx (22 : Int32) 58 (hb hby at_56) rfl (by decide) ?_
      refine g_static X602 hx hZ hown (hw _ (List.mem_of_getElem? (i := 6) rfl)) (hw _ (List.mem_of_getElem? (i := 7) rfl)) (hw _ (List.mem_of_getElem? (i := 2) rfl)) (hw _ (List.mem_of_getElem? (i := 8) rfl)) (by decide) (rmDe l Z a0 hw p2 (22 : Int32) h0 n0 Z0) q602 (argsL := [(.long p2), (.int (22 : Int32))]) (rest := []) rfl rfl 0 61 rfl (by rw [hml]; rfl) (lenOf own_pd0 rfl) (Nat.le_refl _) (by decide) (by decide) (by decide) (by decide) (hb hby at_58) ?_
      intro v607 T607 L607 X607 hQ607
      obtain ⟨r606, rfl, br606, N607, q607⟩ := hQ607
      have N608 := Fr.app N603 N607
      show Go p e below _ T607 (mkF m 61 #[.val (.int p0), .val (.int p1), .val (.long p2), .second, .val (.long p3), .second, .val (.int p4), .val (.int cc), .val (.long lim), .second, .val (.int (0 : Int32)), .val (.long r598), .second, .val (.long r601), .second, .unset, .unset, .unset, .unset, .unset, .unset, .unset, .unset, .unset, .unset, .unset, .unset, .unset, .unset, .unset, .unset, .unset, .unset, .unset, .unset, .unset] [(.long r606)])
      refine g_lstore (l' := #[.val (.int p0), .val (.int p1), .val (.long p2), .second, .val (.long p3), .second, .val (.int p4), .val (.int cc), .val (.long lim), .second, .val (.int (0 : Int32)), .val (.long r598), .second, .val (.long r601), .second, .val (.long r606), .second, .unset, .unset, .unset, .unset, .unset, .unset, .unset, .unset, .unset, .unset, .unset, .unset, .unset, .unset, .unset, .unset, .unset, .unset, .unset]) X607 hx 63 (hb hby at_61) rfl rfl ?_
      refine g_iload X607 hx 65 (hb hby at_63) rfl rfl ?_
      have ll610 : ((0 : Int32) : Int32).toInt = 0 := by decide
      refine g_if_eq X607 hx 72 68 (hb hby at_65) (by decide) (by decide) rfl (fun c609 => ?_) (fun c609 => ?_)
      · skip
        refine g_lloadN X607 hx 73 (hb hby at_72) rfl rfl ?_
        refine g_bipush X607 hx (33 : Int32) 75 (hb hby at_73) rfl (by decide) ?_
        refine g_static X607 hx hZ hown (hw _ (List.mem_of_getElem? (i := 6) rfl)) (hw _ (List.mem_of_getElem? (i := 7) rfl)) (hw _ (List.mem_of_getElem? (i := 2) rfl)) (hw _ (List.mem_of_getElem? (i := 8) rfl)) (by decide) (rmDe l Z a0 hw p2 (33 : Int32) h0 n0 Z0) q607 (argsL := [(.long p2), (.int (33 : Int32))]) (rest := []) rfl rfl 0 78 rfl (by rw [hml]; rfl) (lenOf own_pd0 rfl) (Nat.le_refl _) (by decide) (by decide) (by decide) (by decide) (hb hby at_75) ?_
        intro v612 T612 L612 X612 hQ612
        obtain ⟨r611, rfl, br611, N612, q612⟩ := hQ612
        have N613 := Fr.app N608 N612
        show Go p e below _ T612 (mkF m 78 #[.val (.int p0), .val (.int p1), .val (.long p2), .second, .val (.long p3), .second, .val (.int p4), .val (.int cc), .val (.long lim), .second, .val (.int (0 : Int32)), .val (.long r598), .second, .val (.long r601), .second, .val (.long r606), .second, .unset, .unset, .unset, .unset, .unset, .unset, .unset, .unset, .unset, .unset, .unset, .unset, .unset, .unset, .unset, .unset, .unset, .unset, .unset] [(.long r611)])
        refine g_lstore (l' := #[.val (.int p0), .val (.int p1), .val (.long p2), .second, .val (.long p3), .second, .val (.int p4), .val (.int cc), .val (.long lim), .second, .val (.int (0 : Int32)), .val (.long r598), .second, .val (.long r601), .second, .val (.long r606), .second, .val (.long r611), .second, .unset, .unset, .unset, .unset, .unset, .unset, .unset, .unset, .unset, .unset, .unset, .unset, .unset, .unset, .unset, .unset, .unset]) X612 hx 80 (hb hby at_78) rfl rfl ?_
        refine g_lload X612 hx 82 (hb hby at_80) rfl rfl ?_
        refine g_iconst X612 hx (0 : Int32) 83 (hb hby at_82) rfl (by decide) ?_
        refine g_static X612 hx hZ hown (hw _ (List.mem_of_getElem? (i := 0) rfl)) (hw _ (List.mem_of_getElem? (i := 1) rfl)) (hw _ (List.mem_of_getElem? (i := 2) rfl)) (hw _ (List.mem_of_getElem? (i := 3) rfl)) (by decide) (rmSh l Z a0 hw p3 (0 : Int32) h0 n0 Z0) q612 (argsL := [(.long p3), (.int (0 : Int32))]) (rest := []) rfl rfl 0 86 rfl (by rw [hml]; rfl) (lenOf own_pd0 rfl) (Nat.le_refl _) (by decide) (by decide) (by decide) (by decide) (hb hby at_83) ?_
        intro v615 T615 L615 X615 hQ615
        obtain ⟨r614, rfl, br614, N615, q615⟩ := hQ615
        have N616 := Fr.app N613 N615
        show Go p e below _ T615 (mkF m 86 #[.val (.int p0), .val (.int p1), .val (.long p2), .second, .val (.long p3), .second, .val (.int p4), .val (.int cc), .val (.long lim), .second, .val (.int (0 : Int32)), .val (.long r598), .second, .val (.long r601), .second, .val (.long r606), .second, .val (.long r611), .second, .unset, .unset, .unset, .unset, .unset, .unset, .unset, .unset, .unset, .unset, .unset, .unset, .unset, .unset, .unset, .unset, .unset] [(.long r614)])
        refine g_lstore (l' := #[.val (.int p0), .val (.int p1), .val (.long p2), .second, .val (.long p3), .second, .val (.int p4), .val (.int cc), .val (.long lim), .second, .val (.int (0 : Int32)), .val (.long r598), .second, .val (.long r601), .second, .val (.long r606), .second, .val (.long r611), .second, .val (.long r614), .second, .unset, .unset, .unset, .unset, .unset, .unset, .unset, .unset, .unset, .unset, .unset, .unset, .unset, .unset, .unset]) X615 hx 88 (hb hby at_86) rfl rfl ?_
        refine g_lload X615 hx 90 (hb hby at_88) rfl rfl ?_
        refine g_bipush X615 hx (11 : Int32) 92 (hb hby at_90) rfl (by decide) ?_
        refine g_static X615 hx hZ hown (hw _ (List.mem_of_getElem? (i := 0) rfl)) (hw _ (List.mem_of_getElem? (i := 1) rfl)) (hw _ (List.mem_of_getElem? (i := 2) rfl)) (hw _ (List.mem_of_getElem? (i := 3) rfl)) (by decide) (rmSh l Z a0 hw p3 (11 : Int32) h0 n0 Z0) q615 (argsL := [(.long p3), (.int (11 : Int32))]) (rest := []) rfl rfl 0 95 rfl (by rw [hml]; rfl) (lenOf own_pd0 rfl) (Nat.le_refl _) (by decide) (by decide) (by decide) (by decide) (hb hby at_92) ?_
        intro v618 T618 L618 X618 hQ618
        obtain ⟨r617, rfl, br617, N618, q618⟩ := hQ618
        have N619 := Fr.app N616 N618
        show Go p e below _ T618 (mkF m 95 #[.val (.int p0), .val (.int p1), .val (.long p2), .second, .val (.long p3), .second, .val (.int p4), .val (.int cc), .val (.long lim), .second, .val (.int (0 : Int32)), .val (.long r598), .second, .val (.long r601), .second, .val (.long r606), .second, .val (.long r611), .second, .val (.long r614), .second, .unset, .unset, .unset, .unset, .unset, .unset, .unset, .unset, .unset, .unset, .unset, .unset, .unset, .unset, .unset] [(.long r617)])
        refine g_lstore (l' := #[.val (.int p0), .val (.int p1), .val (.long p2), .second, .val (.long p3), .second, .val (.int p4), .val (.int cc), .val (.long lim), .second, .val (.int (0 : Int32)), .val (.long r598), .second, .val (.long r601), .second, .val (.long r606), .second, .val (.long r611), .second, .val (.long r614), .second, .val (.long r617), .second, .unset, .unset, .unset, .unset, .unset, .unset, .unset, .unset, .unset, .unset, .unset, .unset, .unset]) X618 hx 97 (hb hby at_95) rfl rfl ?_
        refine g_iload X618 hx 99 (hb hby at_97) rfl rfl ?_
        have ll621 : ((0 : Int32) : Int32).toInt = 0 := by decide
        refine g_if_eq X618 hx 106 102 (hb hby at_99) (by decide) (by decide) rfl (fun c620 => ?_) (fun c620 => ?_)
        · skip
          refine g_lload X618 hx 108 (hb hby at_106) rfl rfl ?_
          refine g_bipush X618 hx (22 : Int32) 110 (hb hby at_108) rfl (by decide) ?_
          refine g_static X618 hx hZ hown (hw _ (List.mem_of_getElem? (i := 6) rfl)) (hw _ (List.mem_of_getElem? (i := 7) rfl)) (hw _ (List.mem_of_getElem? (i := 2) rfl)) (hw _ (List.mem_of_getElem? (i := 8) rfl)) (by decide) (rmDe l Z a0 hw p3 (22 : Int32) h0 n0 Z0) q618 (argsL := [(.long p3), (.int (22 : Int32))]) (rest := []) rfl rfl 0 113 rfl (by rw [hml]; rfl) (lenOf own_pd0 rfl) (Nat.le_refl _) (by decide) (by decide) (by decide) (by decide) (hb hby at_110) ?_
          intro v623 T623 L623 X623 hQ623
          obtain ⟨r622, rfl, br622, N623, q623⟩ := hQ623
          have N624 := Fr.app N619 N623
          show Go p e below _ T623 (mkF m 113 #[.val (.int p0), .val (.int p1), .val (.long p2), .second, .val (.long p3), .second, .val (.int p4), .val (.int cc), .val (.long lim), .second, .val (.int (0 : Int32)), .val (.long r598), .second, .val (.long r601), .second, .val (.long r606), .second, .val (.long r611), .second, .val (.long r614), .second, .val (.long r617), .second, .unset, .unset, .unset, .unset, .unset, .unset, .unset, .unset, .unset, .unset, .unset, .unset, .unset] [(.long r622)])
          refine g_lstore (l' := #[.val (.int p0), .val (.int p1), .val (.long p2), .second, .val (.long p3), .second, .val (.int p4), .val (.int cc), .val (.long lim), .second, .val (.int (0 : Int32)), .val (.long r598), .second, .val (.long r601), .second, .val (.long r606), .second, .val (.long r611), .second, .val (.long r614), .second, .val (.long r617), .second, .val (.long r622), .second, .unset, .unset, .unset, .unset, .unset, .unset, .unset, .unset, .unset, .unset, .unset]) X623 hx 115 (hb hby at_113) rfl rfl ?_
          refine g_iload X623 hx 117 (hb hby at_115) rfl rfl ?_
          have ll626 : ((0 : Int32) : Int32).toInt = 0 := by decide
          refine g_if_eq X623 hx 124 120 (hb hby at_117) (by decide) (by decide) rfl (fun c625 => ?_) (fun c625 => ?_)
          · skip
            refine g_lload X623 hx 126 (hb hby at_124) rfl rfl ?_
            refine g_bipush X623 hx (33 : Int32) 128 (hb hby at_126) rfl (by decide) ?_
            refine g_static X623 hx hZ hown (hw _ (List.mem_of_getElem? (i := 6) rfl)) (hw _ (List.mem_of_getElem? (i := 7) rfl)) (hw _ (List.mem_of_getElem? (i := 2) rfl)) (hw _ (List.mem_of_getElem? (i := 8) rfl)) (by decide) (rmDe l Z a0 hw p3 (33 : Int32) h0 n0 Z0) q623 (argsL := [(.long p3), (.int (33 : Int32))]) (rest := []) rfl rfl 0 131 rfl (by rw [hml]; rfl) (lenOf own_pd0 rfl) (Nat.le_refl _) (by decide) (by decide) (by decide) (by decide) (hb hby at_128) ?_
            intro v628 T628 L628 X628 hQ628
            obtain ⟨r627, rfl, br627, N628, q628⟩ := hQ628
            have N629 := Fr.app N624 N628
            show Go p e below _ T628 (mkF m 131 #[.val (.int p0), .val (.int p1), .val (.long p2), .second, .val (.long p3), .second, .val (.int p4), .val (.int cc), .val (.long lim), .second, .val (.int (0 : Int32)), .val (.long r598), .second, .val (.long r601), .second, .val (.long r606), .second, .val (.long r611), .second, .val (.long r614), .second, .val (.long r617), .second, .val (.long r622), .second, .unset, .unset, .unset, .unset, .unset, .unset, .unset, .unset, .unset, .unset, .unset] [(.long r627)])
            refine g_lstore (l' := #[.val (.int p0), .val (.int p1), .val (.long p2), .second, .val (.long p3), .second, .val (.int p4), .val (.int cc), .val (.long lim), .second, .val (.int (0 : Int32)), .val (.long r598), .second, .val (.long r601), .second, .val (.long r606), .second, .val (.long r611), .second, .val (.long r614), .second, .val (.long r617), .second, .val (.long r622), .second, .val (.long r627), .second, .unset, .unset, .unset, .unset, .unset, .unset, .unset, .unset, .unset]) X628 hx 133 (hb hby at_131) rfl rfl ?_
            exact rm0_133 X628 hx hby hml hret hlk hown hZ hw q628 Z0 N629 bc blim br598 br601 br614 br617 br606 br611 br622 br627
          · skip
            exfalso; revert c625; decide
        · skip
          exfalso; revert c620; decide
      · skip
        exfalso; revert c609; decide
    · skip
      exfalso; revert c604; decide
  · skip
    refine g_iconst X0 hx (1 : Int32) 25 (hb hby at_24) rfl (by decide) ?_
    refine g_goto X0 hx 29 (hb hby at_25) (by decide) (by decide) ?_
    refine g_istore (l' := #[.val (.int p0), .val (.int p1), .val (.long p2), .second, .val (.long p3), .second, .val (.int p4), .val (.int cc), .val (.long lim), .second, .val (.int (1 : Int32)), .unset, .unset, .unset, .unset, .unset, .unset, .unset, .unset, .unset, .unset, .unset, .unset, .unset, .unset, .unset, .unset, .unset, .unset, .unset, .unset, .unset, .unset, .unset, .unset, .unset]) X0 hx 31 (hb hby at_29) rfl rfl ?_
    refine g_lloadN X0 hx 32 (hb hby at_31) rfl rfl ?_
    refine g_iconst X0 hx (0 : Int32) 33 (hb hby at_32) rfl (by decide) ?_
    refine g_static X0 hx hZ hown (hw _ (List.mem_of_getElem? (i := 0) rfl)) (hw _ (List.mem_of_getElem? (i := 1) rfl)) (hw _ (List.mem_of_getElem? (i := 2) rfl)) (hw _ (List.mem_of_getElem? (i := 3) rfl)) (by decide) (rmSh l Z a0 hw p2 (0 : Int32) h0 n0 Z0) e0 (argsL := [(.long p2), (.int (0 : Int32))]) (rest := []) rfl rfl 0 36 rfl (by rw [hml]; rfl) (lenOf own_pd0 rfl) (Nat.le_refl _) (by decide) (by decide) (by decide) (by decide) (hb hby at_33) ?_
    intro v631 T631 L631 X631 hQ631
    obtain ⟨r630, rfl, br630, N631, q631⟩ := hQ631
    have N632 := Fr.app N0 N631
    show Go p e below _ T631 (mkF m 36 #[.val (.int p0), .val (.int p1), .val (.long p2), .second, .val (.long p3), .second, .val (.int p4), .val (.int cc), .val (.long lim), .second, .val (.int (1 : Int32)), .unset, .unset, .unset, .unset, .unset, .unset, .unset, .unset, .unset, .unset, .unset, .unset, .unset, .unset, .unset, .unset, .unset, .unset, .unset, .unset, .unset, .unset, .unset, .unset, .unset] [(.long r630)])
    refine g_lstore (l' := #[.val (.int p0), .val (.int p1), .val (.long p2), .second, .val (.long p3), .second, .val (.int p4), .val (.int cc), .val (.long lim), .second, .val (.int (1 : Int32)), .val (.long r630), .second, .unset, .unset, .unset, .unset, .unset, .unset, .unset, .unset, .unset, .unset, .unset, .unset, .unset, .unset, .unset, .unset, .unset, .unset, .unset, .unset, .unset, .unset, .unset]) X631 hx 38 (hb hby at_36) rfl rfl ?_
    refine g_lloadN X631 hx 39 (hb hby at_38) rfl rfl ?_
    refine g_bipush X631 hx (11 : Int32) 41 (hb hby at_39) rfl (by decide) ?_
    refine g_static X631 hx hZ hown (hw _ (List.mem_of_getElem? (i := 0) rfl)) (hw _ (List.mem_of_getElem? (i := 1) rfl)) (hw _ (List.mem_of_getElem? (i := 2) rfl)) (hw _ (List.mem_of_getElem? (i := 3) rfl)) (by decide) (rmSh l Z a0 hw p2 (11 : Int32) h0 n0 Z0) q631 (argsL := [(.long p2), (.int (11 : Int32))]) (rest := []) rfl rfl 0 44 rfl (by rw [hml]; rfl) (lenOf own_pd0 rfl) (Nat.le_refl _) (by decide) (by decide) (by decide) (by decide) (hb hby at_41) ?_
    intro v634 T634 L634 X634 hQ634
    obtain ⟨r633, rfl, br633, N634, q634⟩ := hQ634
    have N635 := Fr.app N632 N634
    show Go p e below _ T634 (mkF m 44 #[.val (.int p0), .val (.int p1), .val (.long p2), .second, .val (.long p3), .second, .val (.int p4), .val (.int cc), .val (.long lim), .second, .val (.int (1 : Int32)), .val (.long r630), .second, .unset, .unset, .unset, .unset, .unset, .unset, .unset, .unset, .unset, .unset, .unset, .unset, .unset, .unset, .unset, .unset, .unset, .unset, .unset, .unset, .unset, .unset, .unset] [(.long r633)])
    refine g_lstore (l' := #[.val (.int p0), .val (.int p1), .val (.long p2), .second, .val (.long p3), .second, .val (.int p4), .val (.int cc), .val (.long lim), .second, .val (.int (1 : Int32)), .val (.long r630), .second, .val (.long r633), .second, .unset, .unset, .unset, .unset, .unset, .unset, .unset, .unset, .unset, .unset, .unset, .unset, .unset, .unset, .unset, .unset, .unset, .unset, .unset, .unset, .unset]) X634 hx 46 (hb hby at_44) rfl rfl ?_
    refine g_iload X634 hx 48 (hb hby at_46) rfl rfl ?_
    have ll637 : ((1 : Int32) : Int32).toInt = 1 := by decide
    refine g_if_eq X634 hx 55 51 (hb hby at_48) (by decide) (by decide) rfl (fun c636 => ?_) (fun c636 => ?_)
    · skip
      exfalso; revert c636; decide
    · skip
      refine g_lconst X634 hx (0 : Int64) 52 (hb hby at_51) rfl (by decide) ?_
      refine g_goto X634 hx 61 (hb hby at_52) (by decide) (by decide) ?_
      refine g_lstore (l' := #[.val (.int p0), .val (.int p1), .val (.long p2), .second, .val (.long p3), .second, .val (.int p4), .val (.int cc), .val (.long lim), .second, .val (.int (1 : Int32)), .val (.long r630), .second, .val (.long r633), .second, .val (.long (0 : Int64)), .second, .unset, .unset, .unset, .unset, .unset, .unset, .unset, .unset, .unset, .unset, .unset, .unset, .unset, .unset, .unset, .unset, .unset, .unset, .unset]) X634 hx 63 (hb hby at_61) rfl rfl ?_
      refine g_iload X634 hx 65 (hb hby at_63) rfl rfl ?_
      have ll639 : ((1 : Int32) : Int32).toInt = 1 := by decide
      refine g_if_eq X634 hx 72 68 (hb hby at_65) (by decide) (by decide) rfl (fun c638 => ?_) (fun c638 => ?_)
      · skip
        exfalso; revert c638; decide
      · skip
        refine g_lconst X634 hx (0 : Int64) 69 (hb hby at_68) rfl (by decide) ?_
        refine g_goto X634 hx 78 (hb hby at_69) (by decide) (by decide) ?_
        refine g_lstore (l' := #[.val (.int p0), .val (.int p1), .val (.long p2), .second, .val (.long p3), .second, .val (.int p4), .val (.int cc), .val (.long lim), .second, .val (.int (1 : Int32)), .val (.long r630), .second, .val (.long r633), .second, .val (.long (0 : Int64)), .second, .val (.long (0 : Int64)), .second, .unset, .unset, .unset, .unset, .unset, .unset, .unset, .unset, .unset, .unset, .unset, .unset, .unset, .unset, .unset, .unset, .unset]) X634 hx 80 (hb hby at_78) rfl rfl ?_
        refine g_lload X634 hx 82 (hb hby at_80) rfl rfl ?_
        refine g_iconst X634 hx (0 : Int32) 83 (hb hby at_82) rfl (by decide) ?_
        refine g_static X634 hx hZ hown (hw _ (List.mem_of_getElem? (i := 0) rfl)) (hw _ (List.mem_of_getElem? (i := 1) rfl)) (hw _ (List.mem_of_getElem? (i := 2) rfl)) (hw _ (List.mem_of_getElem? (i := 3) rfl)) (by decide) (rmSh l Z a0 hw p3 (0 : Int32) h0 n0 Z0) q634 (argsL := [(.long p3), (.int (0 : Int32))]) (rest := []) rfl rfl 0 86 rfl (by rw [hml]; rfl) (lenOf own_pd0 rfl) (Nat.le_refl _) (by decide) (by decide) (by decide) (by decide) (hb hby at_83) ?_
        intro v641 T641 L641 X641 hQ641
        obtain ⟨r640, rfl, br640, N641, q641⟩ := hQ641
        have N642 := Fr.app N635 N641
        show Go p e below _ T641 (mkF m 86 #[.val (.int p0), .val (.int p1), .val (.long p2), .second, .val (.long p3), .second, .val (.int p4), .val (.int cc), .val (.long lim), .second, .val (.int (1 : Int32)), .val (.long r630), .second, .val (.long r633), .second, .val (.long (0 : Int64)), .second, .val (.long (0 : Int64)), .second, .unset, .unset, .unset, .unset, .unset, .unset, .unset, .unset, .unset, .unset, .unset, .unset, .unset, .unset, .unset, .unset, .unset] [(.long r640)])
        refine g_lstore (l' := #[.val (.int p0), .val (.int p1), .val (.long p2), .second, .val (.long p3), .second, .val (.int p4), .val (.int cc), .val (.long lim), .second, .val (.int (1 : Int32)), .val (.long r630), .second, .val (.long r633), .second, .val (.long (0 : Int64)), .second, .val (.long (0 : Int64)), .second, .val (.long r640), .second, .unset, .unset, .unset, .unset, .unset, .unset, .unset, .unset, .unset, .unset, .unset, .unset, .unset, .unset, .unset]) X641 hx 88 (hb hby at_86) rfl rfl ?_
        refine g_lload X641 hx 90 (hb hby at_88) rfl rfl ?_
        refine g_bipush X641 hx (11 : Int32) 92 (hb hby at_90) rfl (by decide) ?_
        refine g_static X641 hx hZ hown (hw _ (List.mem_of_getElem? (i := 0) rfl)) (hw _ (List.mem_of_getElem? (i := 1) rfl)) (hw _ (List.mem_of_getElem? (i := 2) rfl)) (hw _ (List.mem_of_getElem? (i := 3) rfl)) (by decide) (rmSh l Z a0 hw p3 (11 : Int32) h0 n0 Z0) q641 (argsL := [(.long p3), (.int (11 : Int32))]) (rest := []) rfl rfl 0 95 rfl (by rw [hml]; rfl) (lenOf own_pd0 rfl) (Nat.le_refl _) (by decide) (by decide) (by decide) (by decide) (hb hby at_92) ?_
        intro v644 T644 L644 X644 hQ644
        obtain ⟨r643, rfl, br643, N644, q644⟩ := hQ644
        have N645 := Fr.app N642 N644
        show Go p e below _ T644 (mkF m 95 #[.val (.int p0), .val (.int p1), .val (.long p2), .second, .val (.long p3), .second, .val (.int p4), .val (.int cc), .val (.long lim), .second, .val (.int (1 : Int32)), .val (.long r630), .second, .val (.long r633), .second, .val (.long (0 : Int64)), .second, .val (.long (0 : Int64)), .second, .val (.long r640), .second, .unset, .unset, .unset, .unset, .unset, .unset, .unset, .unset, .unset, .unset, .unset, .unset, .unset, .unset, .unset] [(.long r643)])
        refine g_lstore (l' := #[.val (.int p0), .val (.int p1), .val (.long p2), .second, .val (.long p3), .second, .val (.int p4), .val (.int cc), .val (.long lim), .second, .val (.int (1 : Int32)), .val (.long r630), .second, .val (.long r633), .second, .val (.long (0 : Int64)), .second, .val (.long (0 : Int64)), .second, .val (.long r640), .second, .val (.long r643), .second, .unset, .unset, .unset, .unset, .unset, .unset, .unset, .unset, .unset, .unset, .unset, .unset, .unset]) X644 hx 97 (hb hby at_95) rfl rfl ?_
        refine g_iload X644 hx 99 (hb hby at_97) rfl rfl ?_
        have ll647 : ((1 : Int32) : Int32).toInt = 1 := by decide
        refine g_if_eq X644 hx 106 102 (hb hby at_99) (by decide) (by decide) rfl (fun c646 => ?_) (fun c646 => ?_)
        · skip
          exfalso; revert c646; decide
        · skip
          refine g_lconst X644 hx (0 : Int64) 103 (hb hby at_102) rfl (by decide) ?_
          refine g_goto X644 hx 113 (hb hby at_103) (by decide) (by decide) ?_
          refine g_lstore (l' := #[.val (.int p0), .val (.int p1), .val (.long p2), .second, .val (.long p3), .second, .val (.int p4), .val (.int cc), .val (.long lim), .second, .val (.int (1 : Int32)), .val (.long r630), .second, .val (.long r633), .second, .val (.long (0 : Int64)), .second, .val (.long (0 : Int64)), .second, .val (.long r640), .second, .val (.long r643), .second, .val (.long (0 : Int64)), .second, .unset, .unset, .unset, .unset, .unset, .unset, .unset, .unset, .unset, .unset, .unset]) X644 hx 115 (hb hby at_113) rfl rfl ?_
          refine g_iload X644 hx 117 (hb hby at_115) rfl rfl ?_
          have ll649 : ((1 : Int32) : Int32).toInt = 1 := by decide
          refine g_if_eq X644 hx 124 120 (hb hby at_117) (by decide) (by decide) rfl (fun c648 => ?_) (fun c648 => ?_)
          · skip
            exfalso; revert c648; decide
          · skip
            refine g_lconst X644 hx (0 : Int64) 121 (hb hby at_120) rfl (by decide) ?_
            refine g_goto X644 hx 131 (hb hby at_121) (by decide) (by decide) ?_
            refine g_lstore (l' := #[.val (.int p0), .val (.int p1), .val (.long p2), .second, .val (.long p3), .second, .val (.int p4), .val (.int cc), .val (.long lim), .second, .val (.int (1 : Int32)), .val (.long r630), .second, .val (.long r633), .second, .val (.long (0 : Int64)), .second, .val (.long (0 : Int64)), .second, .val (.long r640), .second, .val (.long r643), .second, .val (.long (0 : Int64)), .second, .val (.long (0 : Int64)), .second, .unset, .unset, .unset, .unset, .unset, .unset, .unset, .unset, .unset]) X644 hx 133 (hb hby at_131) rfl rfl ?_
            exact rm0_133 X644 hx hby hml hret hlk hown hZ hw q644 Z0 N645 bc blim br630 br633 br640 br643 bz bz bz bz
set_option maxRecDepth 65536 in
set_option maxHeartbeats 40000000 in
theorem comes_1 {Post : Tables → Env → Array Value → State → Outcome → State → Prop} (hpost : ∀ tb e args s v u, (limb_1_1.after args s (.returned v) u = true ∧ limb_1_2.after args s (.returned v) u = true ∧ True) → FrameEnd s (.returned v) u (Jvm.fieldLocs frame_1_writes args s ++ Jvm.arrayLocs frame_1_arrays args s ++ Jvm.staticLocs frame_1_statics s) 32 128 → Post tb e args s (.returned v) u) :
    ArmFor flags0 classFile x code maxLocals ret World_1 tables_1 room_1 Calls_1 rest_1 Pre_1 Post := by
  intro l hfl _ _ p e ha hc hk s m args below hf hA hF happ hP
  obtain ⟨hcalls, hrest, hpre⟩ := hP
  obtain ⟨-, -, -, hnamed, -, -, -, hat⟩ := (Spec.applies_iff hf).mp happ
  obtain ⟨hg, hn⟩ := and_e (Cond.before_iff.mp (show (Jvm.Cond.and given_1 narrow_1).before args s = true from hpre))
  obtain ⟨h1, g0⟩ := and_e hg
  obtain ⟨t0, g1⟩ := and_e g0
  obtain ⟨t1, g2⟩ := and_e g1
  obtain ⟨t2, g3⟩ := and_e g2
  obtain ⟨t3, g4⟩ := and_e g3
  have t4 := g4
  obtain ⟨w0, w1, w2, w3, w4, rfl⟩ : ∃ w0 w1 w2 w3 w4 : Value, args = #[w0, w1, w2, w3, w4] := by
    have hs : args.size = 5 := by simpa [Cond.value, given_1] using h1
    obtain ⟨L⟩ := args
    match L, hs with
    | [w0, w1, w2, w3, w4], _ => exact ⟨w0, w1, w2, w3, w4, rfl⟩
  have hw := fun d (hd : d ∈ tables_1) => atoms_spec (ws := Jvm.Cond.code x code maxLocals ret :: tables_1) hat d (List.mem_cons_of_mem _ hd)
  obtain ⟨i0, e0⟩ := is_v t0
  obtain rfl : w0 = (.int i0) := Option.some.inj e0
  obtain ⟨i1, e1⟩ := is_v t1
  obtain rfl : w1 = (.int i1) := Option.some.inj e1
  obtain ⟨i2, e2⟩ := isL_v t2
  obtain rfl : w2 = (.long i2) := Option.some.inj e2
  obtain ⟨i3, e3⟩ := isL_v t3
  obtain rfl : w3 = (.long i3) := Option.some.inj e3
  obtain ⟨i4, e4⟩ := is_v t4
  obtain rfl : w4 = (.int i4) := Option.some.inj e4
  obtain ⟨n, o, h1, h2, h3, _, L, rfl, ⟨rfl, N⟩, hq⟩ := rm0 l s _ hw tables_1 i0 i1 i2 i3 i4 s.heap s.heap.size (Nat.le_refl _)  p e ha hc hk s m _ below hf ((Spec.applies_iff_loose hf).mp happ).1 ⟨rfl, State.Warmed39.refl s, rfl⟩ trivial
  refine ⟨n, _, h1, h2, h3, hpost _ _ _ _ _ _ ⟨Cond.after_iff.mpr rfl, Cond.after_iff.mpr (eq_i res_at (Term.int_eval (1)) rfl), trivial⟩ ⟨hq.1, hq.2.1, (hq.2.2.sift fun y hy => Or.inr (N y hy)).mono (by decide) (by decide)⟩⟩
theorem main_1_1 : Claimed_1_1 := comes_1 fun _ _ _ _ _ _ h hF => ⟨h.1, hF⟩
theorem main_1_2 : Claimed_1_2 := comes_1 fun _ _ _ _ _ _ h hF => ⟨h.2.1, hF⟩
end Jvm.Pilot.@@N@@
namespace Jvm.Pilot.@@N@@
open Jvm Jvm.ClassFile Sem Op Lib Jvm.Free Jvm.Stand Jvm.Pilot.@@N@@.Jvm.D
/-! MADE BY PROGRAM (witnessworld.py) out of the Statement's table words and the real class files: 20 classes; the members and pool entries that the words name. The judged class is class 1, her method 1. -/
namespace start1
open Jvm.ClassFile
def u (s : String) : CpInfo := .utf8 (stringToUtf16 s)
/-- a pool by its gaps: so many unusable entries, then the entry; so many at the end -/
def gap : Nat → List CpInfo → List CpInfo
  | 0, r => r
  | n + 1, r => .unusable :: gap n r
def poolList (es : List (Nat × CpInfo)) (last : Nat) : List CpInfo := es.foldr (fun e r => gap e.1 (e.2 :: r)) (gap last [])
def pool (es : List (Nat × CpInfo)) (last : Nat) : Array CpInfo := ⟨poolList es last⟩
def fileOf (pool : Array CpInfo) (this : Nat) (attrs : Array Attribute := #[]) (ms : Array MethodInfo := #[]) (fl : Nat := 33) (sup : Nat := 0) (ifs : Array Nat := #[]) (fds : Array FieldInfo := #[]) : ClassFile where
  minorVersion := 0
  majorVersion := 65
  constantPool := pool
  accessFlags := fl
  thisClass := this
  superClass := sup
  interfaces := ifs
  fields := fds
  methods := ms
  attributes := attrs
def plain (name : String) (sup : Option ClassId) : Class where
  name := name
  kind := .ordinary
  loader := none
  accessFlags := 33
  super := sup
  interfaces := #[]
  cf := none
  fields := #[]
  methods := #[]
  instanceTypes := #[]
  staticTypes := #[]
  resolved := #[]
  callSites := []
  init := .initialized
  statics := none
  mirror := none

def pool0 : Array CpInfo := pool [(5, u "<init>"), (0, u "()V"), (1, .class_ 10), (1, u "java/lang/Object")] 113

def k0c0 : Code := { maxStack := 0, maxLocals := 1, code := object_method_1_code, exceptionTable := #[], attributes := #[] }
def k0m0 : Method := { name := "<init>", desc := "()V", sig := { parameters := [], returnType := none }, accessFlags := 1, code := some k0c0 }
/-- java/lang/Object -/
def k0 : Class := { plain "java/lang/Object" none with
  accessFlags := 33
  interfaces := #[]
  cf := some (fileOf pool0 8 #[] #[{ accessFlags := 1, nameIndex := 5, descriptorIndex := 6, attributes := #[] }] 33 0 #[] #[])
  fields := #[]
  methods := #[k0m0]
  instanceTypes := #[]
  staticTypes := #[]
  resolved := Array.replicate 124 none
  statics := none }

def pool1 : Array CpInfo := pool [(2, .class_ 4), (1, u "java/lang/Object"), (0, u "<init>"), (0, u "()V"), (0, .methodref 8 9), (0, .class_ 10), (0, .nameAndType 11 12), (0, u "com/example/iso_throttle/isothrottle/AdmissionTallyOverThrottlingPctPinLaw"), (0, u "share"), (0, u "(JI)J"), (0, .methodref 8 14), (0, .nameAndType 15 12), (0, u "demand"), (0, .class_ 17), (0, u "com/example/iso_throttle/isothrottle/AdmissionTally"), (0, .methodref 16 19), (0, .nameAndType 5 20), (0, u "(DI)V"), (0, .methodref 16 22), (0, .nameAndType 23 24), (0, u "addCycle"), (0, u "([D[J)D"), (0, .methodref 26 27), (0, .class_ 28), (0, .nameAndType 29 30), (0, u "java/lang/Math"), (0, u "min"), (0, u "(JJ)J"), (0, .methodref 8 32), (0, .nameAndType 33 34), (0, u "admit"), (0, u "(JJI)J"), (0, .long 100), (1, .methodref 16 38), (0, .nameAndType 39 40), (0, u "overThrottlingPct"), (0, u "()D"), (0, .long 2047), (1, .long 1024), (3, u "law"), (0, u "(IIJJI)Z")] 3

def k1m0 : Method := { name := "<init>", desc := "()V", sig := { parameters := [], returnType := none }, accessFlags := 1, code := none }
def k1c1 : Code := { maxStack := 8, maxLocals := 36, code := code, exceptionTable := #[], attributes := #[] }
def k1m1 : Method := { name := "law", desc := "(IIJJI)Z", sig := { parameters := [.int, .int, .long, .long, .int], returnType := some .boolean }, accessFlags := 9, code := some k1c1 }
def k1c2 : Code := { maxStack := 4, maxLocals := 3, code := method_3_code, exceptionTable := #[], attributes := #[] }
def k1m2 : Method := { name := "share", desc := "(JI)J", sig := { parameters := [.long, .int], returnType := some .long }, accessFlags := 10, code := some k1c2 }
def k1c3 : Code := { maxStack := 4, maxLocals := 3, code := method_4_code, exceptionTable := #[], attributes := #[] }
def k1m3 : Method := { name := "demand", desc := "(JI)J", sig := { parameters := [.long, .int], returnType := some .long }, accessFlags := 10, code := some k1c3 }
def k1c4 : Code := { maxStack := 4, maxLocals := 7, code := method_5_code, exceptionTable := #[], attributes := #[] }
def k1m4 : Method := { name := "admit", desc := "(JJI)J", sig := { parameters := [.long, .long, .int], returnType := some .long }, accessFlags := 10, code := some k1c4 }
/-- com/example/iso_throttle/isothrottle/AdmissionTallyOverThrottlingPctPinLaw -/
def k1 : Class := { plain "com/example/iso_throttle/isothrottle/AdmissionTallyOverThrottlingPctPinLaw" (some 0) with
  accessFlags := 49
  interfaces := #[]
  cf := some (fileOf pool1 8 #[] #[{ accessFlags := 1, nameIndex := 5, descriptorIndex := 6, attributes := #[] }, { accessFlags := 9, nameIndex := 47, descriptorIndex := 48, attributes := #[] }, { accessFlags := 10, nameIndex := 11, descriptorIndex := 12, attributes := #[] }, { accessFlags := 10, nameIndex := 15, descriptorIndex := 12, attributes := #[] }, { accessFlags := 10, nameIndex := 33, descriptorIndex := 34, attributes := #[] }] 49 2 #[] #[])
  fields := #[]
  methods := #[k1m0, k1m1, k1m2, k1m3, k1m4]
  instanceTypes := #[]
  staticTypes := #[]
  resolved := Array.replicate 52 none
  statics := none }

def pool2 : Array CpInfo := pool [(1, .methodref 2 3), (0, .class_ 4), (0, .nameAndType 5 6), (0, u "java/lang/Object"), (0, u "<init>"), (0, u "()V"), (0, .class_ 8), (0, u "com/example/iso_throttle/isothrottle/CompensatedSum"), (0, .methodref 7 3), (0, .fieldref 11 12), (0, .class_ 13), (0, .nameAndType 14 15), (0, u "com/example/iso_throttle/isothrottle/AdmissionTally"), (0, u "idealTotal"), (0, u "Lcom/example/iso_throttle/isothrottle/CompensatedSum;"), (0, .fieldref 11 17), (0, .nameAndType 18 15), (0, u "admittedTotal"), (0, .methodref 20 21), (0, .class_ 22), (0, .nameAndType 23 24), (0, u "java/lang/Double"), (0, u "isInfinite"), (0, u "(D)Z"), (12, .fieldref 11 38), (0, .nameAndType 39 40), (0, u "limit"), (0, u "D"), (0, .double 4652007308841189376), (1, .fieldref 11 44), (0, .nameAndType 45 40), (0, u "cycleSeconds"), (0, .methodref 20 47), (0, .nameAndType 48 24), (0, u "isFinite"), (4, .methodref 54 55), (0, .class_ 56), (0, .nameAndType 57 58), (0, u "java/lang/Math"), (0, u "min"), (0, u "(DD)D"), (0, .methodref 54 60), (0, .nameAndType 61 58), (0, u "max"), (3, .methodref 11 66), (0, .nameAndType 67 68), (0, u "admitted"), (0, u "(DJ)D"), (0, .methodref 7 70), (0, .nameAndType 71 72), (0, u "add"), (0, u "(D)V"), (0, .methodref 54 74), (0, .nameAndType 75 76), (0, u "addExact"), (0, u "(JJ)J"), (0, .methodref 7 78), (0, .nameAndType 79 80), (0, u "value"), (0, u "()D"), (0, .methodref 11 82), (0, .nameAndType 14 80), (0, .double 4636737291354636288), (1, .methodref 11 86), (0, .nameAndType 18 80), (0, u "(DI)V"), (3, u "addCycle"), (0, u "([D[J)D"), (0, u "overThrottlingPct")] 25

def k2c0 : Code := { maxStack := 5, maxLocals := 4, code := prog_1_method_1_code, exceptionTable := #[], attributes := #[] }
def k2m0 : Method := { name := "<init>", desc := "(DI)V", sig := { parameters := [.double, .int], returnType := none }, accessFlags := 1, code := some k2c0 }
def k2c1 : Code := { maxStack := 6, maxLocals := 5, code := prog_1_method_2_code, exceptionTable := #[], attributes := #[] }
def k2m1 : Method := { name := "admitted", desc := "(DJ)D", sig := { parameters := [.double, .long], returnType := some .double }, accessFlags := 1, code := some k2c1 }
def k2c2 : Code := { maxStack := 6, maxLocals := 8, code := prog_1_method_3_code, exceptionTable := #[], attributes := #[] }
def k2m2 : Method := { name := "addCycle", desc := "([D[J)D", sig := { parameters := [(.array .double), (.array .long)], returnType := some .double }, accessFlags := 1, code := some k2c2 }
def k2c3 : Code := { maxStack := 2, maxLocals := 1, code := prog_1_method_4_code, exceptionTable := #[], attributes := #[] }
def k2m3 : Method := { name := "idealTotal", desc := "()D", sig := { parameters := [], returnType := some .double }, accessFlags := 1, code := some k2c3 }
def k2c4 : Code := { maxStack := 2, maxLocals := 1, code := prog_1_method_5_code, exceptionTable := #[], attributes := #[] }
def k2m4 : Method := { name := "admittedTotal", desc := "()D", sig := { parameters := [], returnType := some .double }, accessFlags := 1, code := some k2c4 }
def k2c5 : Code := { maxStack := 6, maxLocals := 3, code := prog_1_method_6_code, exceptionTable := #[], attributes := #[] }
def k2m5 : Method := { name := "overThrottlingPct", desc := "()D", sig := { parameters := [], returnType := some .double }, accessFlags := 1, code := some k2c5 }
/-- com/example/iso_throttle/isothrottle/AdmissionTally -/
def k2 : Class := { plain "com/example/iso_throttle/isothrottle/AdmissionTally" (some 0) with
  accessFlags := 49
  interfaces := #[]
  cf := some (fileOf pool2 11 #[] #[{ accessFlags := 1, nameIndex := 5, descriptorIndex := 87, attributes := #[] }, { accessFlags := 1, nameIndex := 67, descriptorIndex := 68, attributes := #[] }, { accessFlags := 1, nameIndex := 91, descriptorIndex := 92, attributes := #[] }, { accessFlags := 1, nameIndex := 14, descriptorIndex := 80, attributes := #[] }, { accessFlags := 1, nameIndex := 18, descriptorIndex := 80, attributes := #[] }, { accessFlags := 1, nameIndex := 93, descriptorIndex := 80, attributes := #[] }] 49 2 #[] #[{ accessFlags := 18, nameIndex := 39, descriptorIndex := 40, attributes := #[] }, { accessFlags := 18, nameIndex := 45, descriptorIndex := 40, attributes := #[] }, { accessFlags := 18, nameIndex := 14, descriptorIndex := 15, attributes := #[] }, { accessFlags := 18, nameIndex := 18, descriptorIndex := 15, attributes := #[] }])
  fields := #[{ name := "limit", type := .double, accessFlags := 18, slot := 0, constantValue := 0 }, { name := "cycleSeconds", type := .double, accessFlags := 18, slot := 1, constantValue := 0 }, { name := "idealTotal", type := (.object "com/example/iso_throttle/isothrottle/CompensatedSum"), accessFlags := 18, slot := 2, constantValue := 0 }, { name := "admittedTotal", type := (.object "com/example/iso_throttle/isothrottle/CompensatedSum"), accessFlags := 18, slot := 3, constantValue := 0 }]
  methods := #[k2m0, k2m1, k2m2, k2m3, k2m4, k2m5]
  instanceTypes := #[.double, .double, (.object "com/example/iso_throttle/isothrottle/CompensatedSum"), (.object "com/example/iso_throttle/isothrottle/CompensatedSum")]
  staticTypes := #[]
  resolved := Array.replicate 119 none
  statics := none }

def pool3 : Array CpInfo := pool [(1, .methodref 2 3), (0, .class_ 4), (0, .nameAndType 5 6), (0, u "java/lang/Object"), (0, u "<init>"), (0, u "()V"), (0, .fieldref 8 9), (0, .class_ 10), (0, .nameAndType 11 12), (0, u "com/example/iso_throttle/isothrottle/CompensatedSum"), (0, u "compensation"), (0, u "D"), (0, .fieldref 8 14), (0, .nameAndType 15 12), (0, u "sum"), (2, u "add"), (0, u "(D)V"), (0, u "value"), (0, u "()D")] 2

def k3c0 : Code := { maxStack := 1, maxLocals := 1, code := prog_6_method_1_code, exceptionTable := #[], attributes := #[] }
def k3m0 : Method := { name := "<init>", desc := "()V", sig := { parameters := [], returnType := none }, accessFlags := 0, code := some k3c0 }
def k3c1 : Code := { maxStack := 5, maxLocals := 7, code := prog_6_method_2_code, exceptionTable := #[], attributes := #[] }
def k3m1 : Method := { name := "add", desc := "(D)V", sig := { parameters := [.double], returnType := none }, accessFlags := 0, code := some k3c1 }
def k3c2 : Code := { maxStack := 2, maxLocals := 1, code := prog_6_method_3_code, exceptionTable := #[], attributes := #[] }
def k3m2 : Method := { name := "value", desc := "()D", sig := { parameters := [], returnType := some .double }, accessFlags := 0, code := some k3c2 }
/-- com/example/iso_throttle/isothrottle/CompensatedSum -/
def k3 : Class := { plain "com/example/iso_throttle/isothrottle/CompensatedSum" (some 0) with
  accessFlags := 48
  interfaces := #[]
  cf := some (fileOf pool3 8 #[] #[{ accessFlags := 0, nameIndex := 5, descriptorIndex := 6, attributes := #[] }, { accessFlags := 0, nameIndex := 18, descriptorIndex := 19, attributes := #[] }, { accessFlags := 0, nameIndex := 20, descriptorIndex := 21, attributes := #[] }] 48 2 #[] #[{ accessFlags := 2, nameIndex := 15, descriptorIndex := 12, attributes := #[] }, { accessFlags := 2, nameIndex := 11, descriptorIndex := 12, attributes := #[] }])
  fields := #[{ name := "sum", type := .double, accessFlags := 2, slot := 0, constantValue := 0 }, { name := "compensation", type := .double, accessFlags := 2, slot := 1, constantValue := 0 }]
  methods := #[k3m0, k3m1, k3m2]
  instanceTypes := #[.double, .double]
  staticTypes := #[]
  resolved := Array.replicate 24 none
  statics := none }

def pool4 : Array CpInfo := pool [(1, .class_ 2), (0, u "java/io/Serializable"), (0, .class_ 4), (0, u "java/lang/Object")] 2

/-- java/io/Serializable -/
def k4 : Class := { plain "java/io/Serializable" (some 0) with
  accessFlags := 1537
  interfaces := #[]
  cf := some (fileOf pool4 1 #[] #[] 1537 3 #[] #[])
  fields := #[]
  methods := #[]
  instanceTypes := #[]
  staticTypes := #[]
  resolved := Array.replicate 7 none
  statics := none }

def pool5 : Array CpInfo := pool [(2, .class_ 4), (1, u "java/lang/Object"), (0, u "<init>"), (0, u "()V"), (1, .class_ 10), (1, u "java/lang/Number"), (2, .class_ 14), (0, u "java/io/Serializable"), (0, u "serialVersionUID"), (0, u "J")] 20

def k5m0 : Method := { name := "<init>", desc := "()V", sig := { parameters := [], returnType := none }, accessFlags := 1, code := none }
/-- java/lang/Number -/
def k5 : Class := { plain "java/lang/Number" (some 0) with
  accessFlags := 1057
  interfaces := #[4]
  cf := some (fileOf pool5 8 #[] #[{ accessFlags := 1, nameIndex := 5, descriptorIndex := 6, attributes := #[] }] 1057 2 #[13] #[{ accessFlags := 26, nameIndex := 15, descriptorIndex := 16, attributes := #[] }])
  fields := #[{ name := "serialVersionUID", type := .long, accessFlags := 26, slot := 0, constantValue := 0 }]
  methods := #[k5m0]
  instanceTypes := #[]
  staticTypes := #[.long]
  resolved := Array.replicate 37 none
  statics := none }

def pool6 : Array CpInfo := pool [(1, .class_ 2), (0, u "java/lang/Comparable"), (0, .class_ 4), (0, u "java/lang/Object")] 7

/-- java/lang/Comparable -/
def k6 : Class := { plain "java/lang/Comparable" (some 0) with
  accessFlags := 1537
  interfaces := #[]
  cf := some (fileOf pool6 1 #[] #[] 1537 3 #[] #[])
  fields := #[]
  methods := #[]
  instanceTypes := #[]
  staticTypes := #[]
  resolved := Array.replicate 12 none
  statics := none }

def pool7 : Array CpInfo := pool [(1, .class_ 2), (0, u "java/lang/constant/Constable"), (0, .class_ 4), (0, u "java/lang/Object")] 6

/-- java/lang/constant/Constable -/
def k7 : Class := { plain "java/lang/constant/Constable" (some 0) with
  accessFlags := 1537
  interfaces := #[]
  cf := some (fileOf pool7 1 #[] #[] 1537 3 #[] #[])
  fields := #[]
  methods := #[]
  instanceTypes := #[]
  staticTypes := #[]
  resolved := Array.replicate 11 none
  statics := none }

def pool8 : Array CpInfo := pool [(1, .class_ 2), (0, u "java/lang/constant/ConstantDesc"), (0, .class_ 4), (0, u "java/lang/Object")] 32

/-- java/lang/constant/ConstantDesc -/
def k8 : Class := { plain "java/lang/constant/ConstantDesc" (some 0) with
  accessFlags := 1537
  interfaces := #[]
  cf := some (fileOf pool8 1 #[] #[] 1537 3 #[] #[])
  fields := #[]
  methods := #[]
  instanceTypes := #[]
  staticTypes := #[]
  resolved := Array.replicate 37 none
  statics := none }

def pool9 : Array CpInfo := pool [(1, .class_ 2), (0, u "java/lang/Double"), (10, u "isFinite"), (0, u "(D)Z"), (8, .class_ 25), (1, u "java/lang/Math"), (12, .methodref 23 39), (0, .nameAndType 40 41), (0, u "abs"), (0, u "(D)D"), (69, .double 9218868437227405311), (2, .class_ 116), (1, u "java/lang/Number"), (3, u "value"), (0, u "D"), (5, u "isInfinite"), (45, u "TYPE"), (0, u "Ljava/lang/Class;"), (0, .class_ 176), (0, u "java/lang/Comparable"), (0, .class_ 178), (0, u "java/lang/constant/Constable"), (0, .class_ 180), (0, u "java/lang/constant/ConstantDesc"), (0, u "POSITIVE_INFINITY"), (3, u "NEGATIVE_INFINITY"), (2, u "NaN"), (2, u "MAX_VALUE"), (0, u "MIN_NORMAL"), (0, u "MIN_VALUE"), (2, u "SIZE"), (0, u "I"), (1, u "PRECISION"), (1, u "MAX_EXPONENT"), (1, u "MIN_EXPONENT"), (1, u "BYTES"), (3, u "serialVersionUID"), (0, u "J")] 79

def k9c0 : Code := { maxStack := 4, maxLocals := 2, code := jdk_117_method_7_code, exceptionTable := #[], attributes := #[] }
def k9m0 : Method := { name := "isInfinite", desc := "(D)Z", sig := { parameters := [.double], returnType := some .boolean }, accessFlags := 9, code := some k9c0 }
def k9c1 : Code := { maxStack := 4, maxLocals := 2, code := jdk_117_method_8_code, exceptionTable := #[], attributes := #[] }
def k9m1 : Method := { name := "isFinite", desc := "(D)Z", sig := { parameters := [.double], returnType := some .boolean }, accessFlags := 9, code := some k9c1 }
/-- java/lang/Double -/
def k9 : Class := { plain "java/lang/Double" (some 5) with
  accessFlags := 49
  interfaces := #[6, 7, 8]
  cf := some (fileOf pool9 1 #[] #[{ accessFlags := 9, nameIndex := 127, descriptorIndex := 14, attributes := #[] }, { accessFlags := 9, nameIndex := 13, descriptorIndex := 14, attributes := #[] }] 49 114 #[175, 177, 179] #[{ accessFlags := 25, nameIndex := 181, descriptorIndex := 121, attributes := #[] }, { accessFlags := 25, nameIndex := 185, descriptorIndex := 121, attributes := #[] }, { accessFlags := 25, nameIndex := 188, descriptorIndex := 121, attributes := #[] }, { accessFlags := 25, nameIndex := 191, descriptorIndex := 121, attributes := #[] }, { accessFlags := 25, nameIndex := 192, descriptorIndex := 121, attributes := #[] }, { accessFlags := 25, nameIndex := 193, descriptorIndex := 121, attributes := #[] }, { accessFlags := 25, nameIndex := 196, descriptorIndex := 197, attributes := #[] }, { accessFlags := 25, nameIndex := 199, descriptorIndex := 197, attributes := #[] }, { accessFlags := 25, nameIndex := 201, descriptorIndex := 197, attributes := #[] }, { accessFlags := 25, nameIndex := 203, descriptorIndex := 197, attributes := #[] }, { accessFlags := 25, nameIndex := 205, descriptorIndex := 197, attributes := #[] }, { accessFlags := 25, nameIndex := 173, descriptorIndex := 174, attributes := #[] }, { accessFlags := 18, nameIndex := 120, descriptorIndex := 121, attributes := #[] }, { accessFlags := 26, nameIndex := 209, descriptorIndex := 210, attributes := #[] }])
  fields := #[{ name := "POSITIVE_INFINITY", type := .double, accessFlags := 25, slot := 0, constantValue := 0 }, { name := "NEGATIVE_INFINITY", type := .double, accessFlags := 25, slot := 1, constantValue := 0 }, { name := "NaN", type := .double, accessFlags := 25, slot := 2, constantValue := 0 }, { name := "MAX_VALUE", type := .double, accessFlags := 25, slot := 3, constantValue := 0 }, { name := "MIN_NORMAL", type := .double, accessFlags := 25, slot := 4, constantValue := 0 }, { name := "MIN_VALUE", type := .double, accessFlags := 25, slot := 5, constantValue := 0 }, { name := "SIZE", type := .int, accessFlags := 25, slot := 6, constantValue := 0 }, { name := "PRECISION", type := .int, accessFlags := 25, slot := 7, constantValue := 0 }, { name := "MAX_EXPONENT", type := .int, accessFlags := 25, slot := 8, constantValue := 0 }, { name := "MIN_EXPONENT", type := .int, accessFlags := 25, slot := 9, constantValue := 0 }, { name := "BYTES", type := .int, accessFlags := 25, slot := 10, constantValue := 0 }, { name := "TYPE", type := (.object "java/lang/Class"), accessFlags := 25, slot := 11, constantValue := 0 }, { name := "value", type := .double, accessFlags := 18, slot := 0, constantValue := 0 }, { name := "serialVersionUID", type := .long, accessFlags := 26, slot := 12, constantValue := 0 }]
  methods := #[k9m0, k9m1]
  instanceTypes := #[.double]
  staticTypes := #[.double, .double, .double, .double, .double, .double, .int, .int, .int, .int, .int, (.object "java/lang/Class"), .long]
  resolved := Array.replicate 290 none
  statics := none }

def pool10 : Array CpInfo := pool [(1, .class_ 2), (0, u "java/lang/Math"), (1, .class_ 6), (1, u "java/lang/Object"), (0, u "<init>"), (0, u "()V"), (5, u "(D)D"), (37, u "(DD)D"), (45, .class_ 100), (1, u "java/lang/Math$RandomNumberGeneratorHolder"), (20, u "(JJ)J"), (2, u "abs"), (47, u "negativeZeroFloatBits"), (0, u "J"), (2, u "negativeZeroDoubleBits"), (21, u "max"), (2, u "min"), (43, u "$assertionsDisabled"), (0, u "Z"), (91, u "twoToTheDoubleScaleDown"), (0, u "D"), (4, u "twoToTheDoubleScaleUp"), (9, u "E"), (3, u "PI"), (2, u "TAU"), (2, u "DEGREES_TO_RADIANS"), (0, u "RADIANS_TO_DEGREES"), (27, u "addExact")] 66

def k10m0 : Method := { name := "<init>", desc := "()V", sig := { parameters := [], returnType := none }, accessFlags := 2, code := none }
def k10c1 : Code := { maxStack := 6, maxLocals := 6, code := jdk_29_method_25_code, exceptionTable := #[], attributes := #[] }
def k10m1 : Method := { name := "addExact", desc := "(JJ)J", sig := { parameters := [.long, .long], returnType := some .long }, accessFlags := 9, code := some k10c1 }
def k10c2 : Code := { maxStack := 4, maxLocals := 2, code := jdk_29_method_64_code, exceptionTable := #[], attributes := #[] }
def k10m2 : Method := { name := "abs", desc := "(D)D", sig := { parameters := [.double], returnType := some .double }, accessFlags := 9, code := some k10c2 }
def k10c3 : Code := { maxStack := 4, maxLocals := 4, code := jdk_29_method_68_code, exceptionTable := #[], attributes := #[] }
def k10m3 : Method := { name := "max", desc := "(DD)D", sig := { parameters := [.double, .double], returnType := some .double }, accessFlags := 9, code := some k10c3 }
def k10c4 : Code := { maxStack := 4, maxLocals := 4, code := jdk_29_method_70_code, exceptionTable := #[], attributes := #[] }
def k10m4 : Method := { name := "min", desc := "(JJ)J", sig := { parameters := [.long, .long], returnType := some .long }, accessFlags := 9, code := some k10c4 }
def k10c5 : Code := { maxStack := 4, maxLocals := 4, code := jdk_29_method_72_code, exceptionTable := #[], attributes := #[] }
def k10m5 : Method := { name := "min", desc := "(DD)D", sig := { parameters := [.double, .double], returnType := some .double }, accessFlags := 9, code := some k10c5 }
/-- java/lang/Math -/
def k10 : Class := { plain "java/lang/Math" (some 0) with
  accessFlags := 49
  interfaces := #[]
  cf := some (fileOf pool10 1 #[.nestMembers #[98]] #[{ accessFlags := 2, nameIndex := 7, descriptorIndex := 8, attributes := #[] }, { accessFlags := 9, nameIndex := 393, descriptorIndex := 121, attributes := #[] }, { accessFlags := 9, nameIndex := 124, descriptorIndex := 14, attributes := #[] }, { accessFlags := 9, nameIndex := 198, descriptorIndex := 52, attributes := #[] }, { accessFlags := 9, nameIndex := 201, descriptorIndex := 121, attributes := #[] }, { accessFlags := 9, nameIndex := 201, descriptorIndex := 52, attributes := #[] }] 49 4 #[] #[{ accessFlags := 25, nameIndex := 354, descriptorIndex := 339, attributes := #[] }, { accessFlags := 25, nameIndex := 358, descriptorIndex := 339, attributes := #[] }, { accessFlags := 25, nameIndex := 361, descriptorIndex := 339, attributes := #[] }, { accessFlags := 26, nameIndex := 364, descriptorIndex := 339, attributes := #[] }, { accessFlags := 26, nameIndex := 365, descriptorIndex := 339, attributes := #[] }, { accessFlags := 26, nameIndex := 172, descriptorIndex := 173, attributes := #[] }, { accessFlags := 26, nameIndex := 176, descriptorIndex := 173, attributes := #[] }, { accessFlags := 8, nameIndex := 344, descriptorIndex := 339, attributes := #[] }, { accessFlags := 8, nameIndex := 338, descriptorIndex := 339, attributes := #[] }, { accessFlags := 4120, nameIndex := 245, descriptorIndex := 246, attributes := #[] }])
  fields := #[{ name := "E", type := .double, accessFlags := 25, slot := 0, constantValue := 0 }, { name := "PI", type := .double, accessFlags := 25, slot := 1, constantValue := 0 }, { name := "TAU", type := .double, accessFlags := 25, slot := 2, constantValue := 0 }, { name := "DEGREES_TO_RADIANS", type := .double, accessFlags := 26, slot := 3, constantValue := 0 }, { name := "RADIANS_TO_DEGREES", type := .double, accessFlags := 26, slot := 4, constantValue := 0 }, { name := "negativeZeroFloatBits", type := .long, accessFlags := 26, slot := 5, constantValue := 0 }, { name := "negativeZeroDoubleBits", type := .long, accessFlags := 26, slot := 6, constantValue := 0 }, { name := "twoToTheDoubleScaleUp", type := .double, accessFlags := 8, slot := 7, constantValue := 0 }, { name := "twoToTheDoubleScaleDown", type := .double, accessFlags := 8, slot := 8, constantValue := 0 }, { name := "$assertionsDisabled", type := .boolean, accessFlags := 4120, slot := 9, constantValue := 0 }]
  methods := #[k10m0, k10m1, k10m2, k10m3, k10m4, k10m5]
  instanceTypes := #[]
  staticTypes := #[.double, .double, .double, .double, .double, .long, .long, .double, .double, .boolean]
  resolved := Array.replicate 460 none
  statics := none }

def pool11 : Array CpInfo := pool [(1, u "java/lang/Cloneable"), (0, .class_ 1), (0, u "java/lang/Object"), (0, .class_ 3)] 3

/-- java/lang/Cloneable -/
def k11 : Class := { plain "java/lang/Cloneable" (some 0) with
  accessFlags := 1537
  interfaces := #[]
  cf := some (fileOf pool11 2 #[] #[] 1537 4 #[] #[])
  fields := #[]
  methods := #[]
  instanceTypes := #[]
  staticTypes := #[]
  resolved := Array.replicate 8 none
  statics := none }

/-- the primitive byte -/
def k12 : Class := { plain "byte" none with kind := .primitive 'B', accessFlags := 0x411 }
/-- [B -/
def k13 : Class := { plain "[B" (some 0) with kind := .array 12 .byte, interfaces := #[11, 4], accessFlags := 1041 }

/-- the primitive double -/
def k14 : Class := { plain "double" none with kind := .primitive 'D', accessFlags := 0x411 }
/-- [D -/
def k15 : Class := { plain "[D" (some 0) with kind := .array 14 .double, interfaces := #[11, 4], accessFlags := 1041 }

/-- the primitive int -/
def k16 : Class := { plain "int" none with kind := .primitive 'I', accessFlags := 0x411 }
/-- [I -/
def k17 : Class := { plain "[I" (some 0) with kind := .array 16 .int, interfaces := #[11, 4], accessFlags := 1041 }

/-- the primitive long -/
def k18 : Class := { plain "long" none with kind := .primitive 'J', accessFlags := 0x411 }
/-- [J -/
def k19 : Class := { plain "[J" (some 0) with kind := .array 18 .long, interfaces := #[11, 4], accessFlags := 1041 }

def heap : Heap := #[]
def classes : Array Class := #[k0, k1, k2, k3, k4, k5, k6, k7, k8, k9, k10, k11, k12, k13, k14, k15, k16, k17, k18, k19]
def interned : List (Array UInt16 × Addr) := []
def slotsUsed : Nat := 0
def theMethod : MethodId := ⟨1, 1⟩
def args0 : Array Value := #[.int 5, .int 3, .long 4, .long 7, .int 1]
def aboutOver (below : List Frame) : State where
  vm := { classes := classes, interned := interned.toArray }
  heap := heap
  slotsUsed := slotsUsed
  threads := #[{ frames := .invoking theMethod args0 :: below }]
def below0 : List Frame := [.native { method := ⟨0, 0⟩, args := #[] }]
def about1 : State := aboutOver below0
def p0 : Program := .bare "" "" ""
def e0 : Env := launch0.env 0 0 0
theorem w_frames : about1.frames = Frame.invoking theMethod args0 :: below0 := rfl
set_option maxRecDepth 65536 in
theorem w_args : argsFit about1.vm theMethod args0 = true := by decide +kernel
set_option maxRecDepth 65536 in
theorem w_heap : heapFits about1 = true := by decide +kernel
set_option maxRecDepth 65536 in
theorem w_runnable : about1.curStatus? = some .runnable := by decide +kernel
set_option maxRecDepth 65536 in
theorem w_alone : about1.alone = true := by decide +kernel
set_option maxRecDepth 65536 in
theorem w_named : about1.methodNamed? x = some theMethod := by decide +kernel
set_option maxRecDepth 65536 in
theorem w_hears : about1.hears theMethod below0 = true := by decide +kernel
set_option maxRecDepth 65536 in
theorem w_ripe : about1.ripe theMethod args0 below0 = true := by decide +kernel
theorem w_running : about1.status = .running := rfl
set_option maxRecDepth 65536 in
theorem w_room : about1.hasRoom e0.platform room_1 = true :=
  launch0.hasRoom_least _ room_1 (by decide +kernel) (by decide +kernel) (by decide +kernel) (by decide +kernel) (by decide +kernel) (by decide +kernel)
theorem allAtoms_all (ts : List Jvm.Cond) (a : Array Jvm.Value) (st : Jvm.State) : (allAtoms ts).before a st = ts.all (fun c => c.before a st) := by
  induction ts with
  | nil => rfl
  | cons c t ih =>
    show (Jvm.Cond.and c (allAtoms t)).before a st = _
    rw [Jvm.Cond.before_and, ih, List.all_cons]
def words1 : List Jvm.Cond := Jvm.Cond.code x code maxLocals ret :: tables_1
/-- a 'code' word, met by the world's own term for the bytes: nothing is compared byte by byte -/
theorem code_word {y : MethodName} {bytes : ByteArray} {mx : Nat} {rt : Option FieldType} {a : Array Value} {s : State} {m : MethodId} {meth : Method} {c : Code} (h1 : s.methodNamed? y = some m) (h2 : s.vm.method? m = some meth) (h3 : meth.code = some c) (h4 : c.code = bytes)
    (h5 : (c.maxLocals == mx && c.exceptionTable.isEmpty && decide (c.maxStack ≤ mostOperands) && decide (meth.sig.returnType = rt) && !meth.locks && decide (parseMethodDescriptor y.desc = some meth.sig)) = true) : (Jvm.Cond.code y bytes mx rt).before a s = true := by
  simp only [Bool.and_eq_true, beq_iff_eq, Bool.not_eq_true', decide_eq_true_eq] at h5
  obtain ⟨⟨⟨⟨⟨g1, g2⟩, g3⟩, g4⟩, g5⟩, g6⟩ := h5
  simp [Cond.before, Cond.holds, Cond.value, h1, h2, h3, h4, g1, g2, g3, g4, g5, g6]
def isCode : Jvm.Cond → Bool
  | .code _ _ _ _ => true
  | _ => false
theorem all_split {L : List Jvm.Cond} {P : Jvm.Cond → Bool} (h1 : L.all (fun c => isCode c || P c) = true) (h2 : ∀ c ∈ L.filter isCode, P c = true) : L.all P = true := by
  refine List.all_eq_true.mpr fun c hc => ?_
  have h := List.all_eq_true.mp h1 c hc
  rcases Bool.eq_false_or_eq_true (isCode c) with hi | hi
  · exact h2 c (List.mem_filter.mpr ⟨hc, hi⟩)
  · simpa [hi] using h
set_option maxRecDepth 65536 in
theorem w_c0 : (Jvm.Cond.code x code maxLocals ret).before args0 about1 = true := code_word (m := ⟨1, 1⟩) (meth := k1m1) (c := k1c1) (by decide +kernel) rfl rfl rfl (by decide +kernel)
set_option maxRecDepth 65536 in
theorem w_c1 : (Jvm.Cond.code ({ cls := "com/example/iso_throttle/isothrottle/AdmissionTallyOverThrottlingPctPinLaw", name := "share", desc := "(JI)J" } : Jvm.MethodName) method_3_code (3 : Nat) (Option.some Jvm.ClassFile.FieldType.long)).before args0 about1 = true := code_word (m := ⟨1, 2⟩) (meth := k1m2) (c := k1c2) (by decide +kernel) rfl rfl rfl (by decide +kernel)
set_option maxRecDepth 65536 in
theorem w_c2 : (Jvm.Cond.code ({ cls := "com/example/iso_throttle/isothrottle/AdmissionTallyOverThrottlingPctPinLaw", name := "demand", desc := "(JI)J" } : Jvm.MethodName) method_4_code (3 : Nat) (Option.some Jvm.ClassFile.FieldType.long)).before args0 about1 = true := code_word (m := ⟨1, 3⟩) (meth := k1m3) (c := k1c3) (by decide +kernel) rfl rfl rfl (by decide +kernel)
set_option maxRecDepth 65536 in
theorem w_c3 : (Jvm.Cond.code ({ cls := "com/example/iso_throttle/isothrottle/AdmissionTally", name := "<init>", desc := "(DI)V" } : Jvm.MethodName) prog_1_method_1_code (4 : Nat) (Option.none : Option Jvm.ClassFile.FieldType)).before args0 about1 = true := code_word (m := ⟨2, 0⟩) (meth := k2m0) (c := k2c0) (by decide +kernel) rfl rfl rfl (by decide +kernel)
set_option maxRecDepth 65536 in
theorem w_c4 : (Jvm.Cond.code ({ cls := "java/lang/Object", name := "<init>", desc := "()V" } : Jvm.MethodName) object_method_1_code (1 : Nat) (Option.none : Option Jvm.ClassFile.FieldType)).before args0 about1 = true := code_word (m := ⟨0, 0⟩) (meth := k0m0) (c := k0c0) (by decide +kernel) rfl rfl rfl (by decide +kernel)
set_option maxRecDepth 65536 in
theorem w_c5 : (Jvm.Cond.code ({ cls := "com/example/iso_throttle/isothrottle/CompensatedSum", name := "<init>", desc := "()V" } : Jvm.MethodName) prog_6_method_1_code (1 : Nat) (Option.none : Option Jvm.ClassFile.FieldType)).before args0 about1 = true := code_word (m := ⟨3, 0⟩) (meth := k3m0) (c := k3c0) (by decide +kernel) rfl rfl rfl (by decide +kernel)
set_option maxRecDepth 65536 in
theorem w_c6 : (Jvm.Cond.code ({ cls := "java/lang/Double", name := "isInfinite", desc := "(D)Z" } : Jvm.MethodName) jdk_117_method_7_code (2 : Nat) (Option.some Jvm.ClassFile.FieldType.boolean)).before args0 about1 = true := code_word (m := ⟨9, 0⟩) (meth := k9m0) (c := k9c0) (by decide +kernel) rfl rfl rfl (by decide +kernel)
set_option maxRecDepth 65536 in
theorem w_c7 : (Jvm.Cond.code ({ cls := "java/lang/Math", name := "abs", desc := "(D)D" } : Jvm.MethodName) jdk_29_method_64_code (2 : Nat) (Option.some Jvm.ClassFile.FieldType.double)).before args0 about1 = true := code_word (m := ⟨10, 2⟩) (meth := k10m2) (c := k10c2) (by decide +kernel) rfl rfl rfl (by decide +kernel)
set_option maxRecDepth 65536 in
theorem w_c8 : (Jvm.Cond.code ({ cls := "com/example/iso_throttle/isothrottle/AdmissionTally", name := "addCycle", desc := "([D[J)D" } : Jvm.MethodName) prog_1_method_3_code (8 : Nat) (Option.some Jvm.ClassFile.FieldType.double)).before args0 about1 = true := code_word (m := ⟨2, 2⟩) (meth := k2m2) (c := k2c2) (by decide +kernel) rfl rfl rfl (by decide +kernel)
set_option maxRecDepth 65536 in
theorem w_c9 : (Jvm.Cond.code ({ cls := "com/example/iso_throttle/isothrottle/AdmissionTally", name := "admitted", desc := "(DJ)D" } : Jvm.MethodName) prog_1_method_2_code (5 : Nat) (Option.some Jvm.ClassFile.FieldType.double)).before args0 about1 = true := code_word (m := ⟨2, 1⟩) (meth := k2m1) (c := k2c1) (by decide +kernel) rfl rfl rfl (by decide +kernel)
set_option maxRecDepth 65536 in
theorem w_c10 : (Jvm.Cond.code ({ cls := "java/lang/Double", name := "isFinite", desc := "(D)Z" } : Jvm.MethodName) jdk_117_method_8_code (2 : Nat) (Option.some Jvm.ClassFile.FieldType.boolean)).before args0 about1 = true := code_word (m := ⟨9, 1⟩) (meth := k9m1) (c := k9c1) (by decide +kernel) rfl rfl rfl (by decide +kernel)
set_option maxRecDepth 65536 in
theorem w_c11 : (Jvm.Cond.code ({ cls := "java/lang/Math", name := "min", desc := "(DD)D" } : Jvm.MethodName) jdk_29_method_72_code (4 : Nat) (Option.some Jvm.ClassFile.FieldType.double)).before args0 about1 = true := code_word (m := ⟨10, 5⟩) (meth := k10m5) (c := k10c5) (by decide +kernel) rfl rfl rfl (by decide +kernel)
set_option maxRecDepth 65536 in
theorem w_c12 : (Jvm.Cond.code ({ cls := "java/lang/Math", name := "max", desc := "(DD)D" } : Jvm.MethodName) jdk_29_method_68_code (4 : Nat) (Option.some Jvm.ClassFile.FieldType.double)).before args0 about1 = true := code_word (m := ⟨10, 3⟩) (meth := k10m3) (c := k10c3) (by decide +kernel) rfl rfl rfl (by decide +kernel)
set_option maxRecDepth 65536 in
theorem w_c13 : (Jvm.Cond.code ({ cls := "com/example/iso_throttle/isothrottle/CompensatedSum", name := "add", desc := "(D)V" } : Jvm.MethodName) prog_6_method_2_code (7 : Nat) (Option.none : Option Jvm.ClassFile.FieldType)).before args0 about1 = true := code_word (m := ⟨3, 1⟩) (meth := k3m1) (c := k3c1) (by decide +kernel) rfl rfl rfl (by decide +kernel)
set_option maxRecDepth 65536 in
theorem w_c14 : (Jvm.Cond.code ({ cls := "java/lang/Math", name := "addExact", desc := "(JJ)J" } : Jvm.MethodName) jdk_29_method_25_code (6 : Nat) (Option.some Jvm.ClassFile.FieldType.long)).before args0 about1 = true := code_word (m := ⟨10, 1⟩) (meth := k10m1) (c := k10c1) (by decide +kernel) rfl rfl rfl (by decide +kernel)
set_option maxRecDepth 65536 in
theorem w_c15 : (Jvm.Cond.code ({ cls := "com/example/iso_throttle/isothrottle/CompensatedSum", name := "value", desc := "()D" } : Jvm.MethodName) prog_6_method_3_code (1 : Nat) (Option.some Jvm.ClassFile.FieldType.double)).before args0 about1 = true := code_word (m := ⟨3, 2⟩) (meth := k3m2) (c := k3c2) (by decide +kernel) rfl rfl rfl (by decide +kernel)
set_option maxRecDepth 65536 in
theorem w_c16 : (Jvm.Cond.code ({ cls := "java/lang/Math", name := "min", desc := "(JJ)J" } : Jvm.MethodName) jdk_29_method_70_code (4 : Nat) (Option.some Jvm.ClassFile.FieldType.long)).before args0 about1 = true := code_word (m := ⟨10, 4⟩) (meth := k10m4) (c := k10c4) (by decide +kernel) rfl rfl rfl (by decide +kernel)
set_option maxRecDepth 65536 in
theorem w_c17 : (Jvm.Cond.code ({ cls := "com/example/iso_throttle/isothrottle/AdmissionTallyOverThrottlingPctPinLaw", name := "admit", desc := "(JJI)J" } : Jvm.MethodName) method_5_code (7 : Nat) (Option.some Jvm.ClassFile.FieldType.long)).before args0 about1 = true := code_word (m := ⟨1, 4⟩) (meth := k1m4) (c := k1c4) (by decide +kernel) rfl rfl rfl (by decide +kernel)
set_option maxRecDepth 65536 in
theorem w_c18 : (Jvm.Cond.code ({ cls := "com/example/iso_throttle/isothrottle/AdmissionTally", name := "overThrottlingPct", desc := "()D" } : Jvm.MethodName) prog_1_method_6_code (3 : Nat) (Option.some Jvm.ClassFile.FieldType.double)).before args0 about1 = true := code_word (m := ⟨2, 5⟩) (meth := k2m5) (c := k2c5) (by decide +kernel) rfl rfl rfl (by decide +kernel)
set_option maxRecDepth 65536 in
theorem w_c19 : (Jvm.Cond.code ({ cls := "com/example/iso_throttle/isothrottle/AdmissionTally", name := "idealTotal", desc := "()D" } : Jvm.MethodName) prog_1_method_4_code (1 : Nat) (Option.some Jvm.ClassFile.FieldType.double)).before args0 about1 = true := code_word (m := ⟨2, 3⟩) (meth := k2m3) (c := k2c3) (by decide +kernel) rfl rfl rfl (by decide +kernel)
set_option maxRecDepth 65536 in
theorem w_c20 : (Jvm.Cond.code ({ cls := "com/example/iso_throttle/isothrottle/AdmissionTally", name := "admittedTotal", desc := "()D" } : Jvm.MethodName) prog_1_method_5_code (1 : Nat) (Option.some Jvm.ClassFile.FieldType.double)).before args0 about1 = true := code_word (m := ⟨2, 4⟩) (meth := k2m4) (c := k2c4) (by decide +kernel) rfl rfl rfl (by decide +kernel)
def codes1 : List Jvm.Cond := [Jvm.Cond.code x code maxLocals ret, Jvm.Cond.code ({ cls := "com/example/iso_throttle/isothrottle/AdmissionTallyOverThrottlingPctPinLaw", name := "share", desc := "(JI)J" } : Jvm.MethodName) method_3_code (3 : Nat) (Option.some Jvm.ClassFile.FieldType.long), Jvm.Cond.code ({ cls := "com/example/iso_throttle/isothrottle/AdmissionTallyOverThrottlingPctPinLaw", name := "demand", desc := "(JI)J" } : Jvm.MethodName) method_4_code (3 : Nat) (Option.some Jvm.ClassFile.FieldType.long), Jvm.Cond.code ({ cls := "com/example/iso_throttle/isothrottle/AdmissionTally", name := "<init>", desc := "(DI)V" } : Jvm.MethodName) prog_1_method_1_code (4 : Nat) (Option.none : Option Jvm.ClassFile.FieldType), Jvm.Cond.code ({ cls := "java/lang/Object", name := "<init>", desc := "()V" } : Jvm.MethodName) object_method_1_code (1 : Nat) (Option.none : Option Jvm.ClassFile.FieldType), Jvm.Cond.code ({ cls := "com/example/iso_throttle/isothrottle/CompensatedSum", name := "<init>", desc := "()V" } : Jvm.MethodName) prog_6_method_1_code (1 : Nat) (Option.none : Option Jvm.ClassFile.FieldType), Jvm.Cond.code ({ cls := "java/lang/Double", name := "isInfinite", desc := "(D)Z" } : Jvm.MethodName) jdk_117_method_7_code (2 : Nat) (Option.some Jvm.ClassFile.FieldType.boolean), Jvm.Cond.code ({ cls := "java/lang/Math", name := "abs", desc := "(D)D" } : Jvm.MethodName) jdk_29_method_64_code (2 : Nat) (Option.some Jvm.ClassFile.FieldType.double), Jvm.Cond.code ({ cls := "com/example/iso_throttle/isothrottle/AdmissionTally", name := "addCycle", desc := "([D[J)D" } : Jvm.MethodName) prog_1_method_3_code (8 : Nat) (Option.some Jvm.ClassFile.FieldType.double), Jvm.Cond.code ({ cls := "com/example/iso_throttle/isothrottle/AdmissionTally", name := "admitted", desc := "(DJ)D" } : Jvm.MethodName) prog_1_method_2_code (5 : Nat) (Option.some Jvm.ClassFile.FieldType.double), Jvm.Cond.code ({ cls := "java/lang/Double", name := "isFinite", desc := "(D)Z" } : Jvm.MethodName) jdk_117_method_8_code (2 : Nat) (Option.some Jvm.ClassFile.FieldType.boolean), Jvm.Cond.code ({ cls := "java/lang/Math", name := "min", desc := "(DD)D" } : Jvm.MethodName) jdk_29_method_72_code (4 : Nat) (Option.some Jvm.ClassFile.FieldType.double), Jvm.Cond.code ({ cls := "java/lang/Math", name := "max", desc := "(DD)D" } : Jvm.MethodName) jdk_29_method_68_code (4 : Nat) (Option.some Jvm.ClassFile.FieldType.double), Jvm.Cond.code ({ cls := "com/example/iso_throttle/isothrottle/CompensatedSum", name := "add", desc := "(D)V" } : Jvm.MethodName) prog_6_method_2_code (7 : Nat) (Option.none : Option Jvm.ClassFile.FieldType), Jvm.Cond.code ({ cls := "java/lang/Math", name := "addExact", desc := "(JJ)J" } : Jvm.MethodName) jdk_29_method_25_code (6 : Nat) (Option.some Jvm.ClassFile.FieldType.long), Jvm.Cond.code ({ cls := "com/example/iso_throttle/isothrottle/CompensatedSum", name := "value", desc := "()D" } : Jvm.MethodName) prog_6_method_3_code (1 : Nat) (Option.some Jvm.ClassFile.FieldType.double), Jvm.Cond.code ({ cls := "java/lang/Math", name := "min", desc := "(JJ)J" } : Jvm.MethodName) jdk_29_method_70_code (4 : Nat) (Option.some Jvm.ClassFile.FieldType.long), Jvm.Cond.code ({ cls := "com/example/iso_throttle/isothrottle/AdmissionTallyOverThrottlingPctPinLaw", name := "admit", desc := "(JJI)J" } : Jvm.MethodName) method_5_code (7 : Nat) (Option.some Jvm.ClassFile.FieldType.long), Jvm.Cond.code ({ cls := "com/example/iso_throttle/isothrottle/AdmissionTally", name := "overThrottlingPct", desc := "()D" } : Jvm.MethodName) prog_1_method_6_code (3 : Nat) (Option.some Jvm.ClassFile.FieldType.double), Jvm.Cond.code ({ cls := "com/example/iso_throttle/isothrottle/AdmissionTally", name := "idealTotal", desc := "()D" } : Jvm.MethodName) prog_1_method_4_code (1 : Nat) (Option.some Jvm.ClassFile.FieldType.double), Jvm.Cond.code ({ cls := "com/example/iso_throttle/isothrottle/AdmissionTally", name := "admittedTotal", desc := "()D" } : Jvm.MethodName) prog_1_method_5_code (1 : Nat) (Option.some Jvm.ClassFile.FieldType.double)]
set_option maxRecDepth 65536 in
theorem codes_eq : words1.filter isCode = codes1 := rfl
theorem w_codes : ∀ c ∈ words1.filter isCode, c.before args0 about1 = true := by
  rw [codes_eq]
  intro c hc
  simp only [codes1, List.mem_cons, List.not_mem_nil, or_false] at hc
  rcases hc with rfl | rfl | rfl | rfl | rfl | rfl | rfl | rfl | rfl | rfl | rfl | rfl | rfl | rfl | rfl | rfl | rfl | rfl | rfl | rfl | rfl
  · exact w_c0
  · exact w_c1
  · exact w_c2
  · exact w_c3
  · exact w_c4
  · exact w_c5
  · exact w_c6
  · exact w_c7
  · exact w_c8
  · exact w_c9
  · exact w_c10
  · exact w_c11
  · exact w_c12
  · exact w_c13
  · exact w_c14
  · exact w_c15
  · exact w_c16
  · exact w_c17
  · exact w_c18
  · exact w_c19
  · exact w_c20
set_option maxRecDepth 65536 in
theorem w_t1 : (words1.take 24).all (fun c => isCode c || c.before args0 about1) = true := by decide +kernel
set_option maxRecDepth 65536 in
theorem w_t2 : ((words1.drop 24).take 24).all (fun c => isCode c || c.before args0 about1) = true := by decide +kernel
set_option maxRecDepth 65536 in
theorem w_t3 : (((words1.drop 24).drop 24).take 24).all (fun c => isCode c || c.before args0 about1) = true := by decide +kernel
set_option maxRecDepth 65536 in
theorem w_t4 : ((((words1.drop 24).drop 24).drop 24).take 24).all (fun c => isCode c || c.before args0 about1) = true := by decide +kernel
set_option maxRecDepth 65536 in
theorem w_t5 : ((((words1.drop 24).drop 24).drop 24).drop 24).all (fun c => isCode c || c.before args0 about1) = true := by decide +kernel
theorem w_tables : (allAtoms (Jvm.Cond.code x code maxLocals ret :: tables_1)).before args0 about1 = true := by
  rw [allAtoms_all]
  show words1.all (fun c => c.before args0 about1) = true
  refine all_split ?_ w_codes
  rw [← List.take_append_drop 24 words1, List.all_append, w_t1, ← List.take_append_drop 24 (words1.drop 24), List.all_append, w_t2, ← List.take_append_drop 24 ((words1.drop 24).drop 24), List.all_append, w_t3, ← List.take_append_drop 24 (((words1.drop 24).drop 24).drop 24), List.all_append, w_t4, w_t5]
  rfl
set_option maxRecDepth 65536 in
theorem w_case : (Jvm.Cond.and given_1 narrow_1).before args0 about1 = true := by decide +kernel
theorem w_applies : (headSpec (Jvm.Cond.code x code maxLocals ret :: tables_1) room_1).applies x e0.platform about1 = true :=
  (Spec.applies_iff w_frames).mpr ⟨w_running, w_runnable, w_alone, w_named, w_hears, w_ripe, w_room, w_tables⟩
theorem atStart : AtStart classFile x code maxLocals ret World_1 tables_1 room_1 Calls_1 rest_1 Pre_1 launch0 p0 e0 about1 theMethod args0 below0 :=
  ⟨lists_1, trivial, launch0.admits_env _ _ _, launch0.least_env, fairChoices_fair.cas, fairChoices_fair.clock, w_frames, w_args, w_heap, w_applies, trivial, trivial, w_case⟩
end start1
theorem witness_1 : WitnessClaimed_1 := ⟨start1.p0, start1.e0, start1.about1, start1.theMethod, start1.args0, start1.below0, start1.atStart⟩
end Jvm.Pilot.@@N@@
