import JvmDerived
import JvmDerived.Pilot.@@N@@Statement
import JvmDerived.Pilot.@@N@@Code
set_option linter.unusedVariables false
set_option linter.unusedSimpArgs false
namespace Jvm.Pilot.@@N@@
open Jvm Jvm.ClassFile Sem Op Lib Jvm.Free Jvm.Stand Jvm.LawKit Jvm.RoadKit Bundle Jvm.Pilot.@@N@@.Jvm.D
section OwnKit
variable {p : Program} {l : Launch} {e : Env} {R : Room} {s : State} {m : MethodId} {args : Array Value} {below : List Frame} {meth : Method} {c : Code} {T : State} {locs : List Loc} {cells slots : Nat} {Z : State} {a0 : Array Value} {h h' : Heap} {Ev : State → Outcome → Prop}
def Go (p : Program) (e : Env) (below : List Frame) (Ev : State → Outcome → Prop) (T : State) (g : JFrame) : Prop :=
  ∃ (U : State) (o : Outcome), Steps p.tables e below (T.setTop g) U ∧ U.status = .running ∧ Ended U below o ∧ Ev U o
theorem Go.on {T T' : State} {g g' : JFrame} (K : Go p e below Ev T' g') (st : ∀ t, Steps p.tables e below (T'.setTop g') t → Steps p.tables e below (T.setTop g) t) : Go p e below Ev T g := by
  obtain ⟨U, o, h1, h2⟩ := K
  exact ⟨U, o, st _ h1, h2⟩
/-- what a body leaves -/
abbrev EndQ (s : State) (Q : Option Value → Heap → List Loc → Prop) (K N : Nat) : State → Outcome → Prop := fun U o => ∃ (v : Option Value) (L : List Loc), o = .returned v ∧ Q v U.heap L ∧ FrameEnd s o U L K N
theorem own_met {x : MethodName} {code : ByteArray} {ml : Nat} {ret : Option FieldType} {ws : List Jvm.Cond} {rm : Room} {as : Array Value} {h0 : Heap} {Q : Option Value → Heap → List Loc → Prop} {K N : Nat} {Ls : Array Slot} (hpn : plainFor x = true) (hef : ∀ m, entryFrame m as ml = mkF m 0 Ls [])
    (body : ∀ (p : Program) (e : Env) (s : State) (m : MethodId) (below : List Frame) (meth : Method) (c : Code) (T : State), Stand p l e rm s m as below meth c T [] 0 0 → p.tables.exec = Jvm.exec → c.code = code → c.maxLocals = ml → meth.sig.returnType = ret → meth.locks = false → meth.name = x.name → s.vm.findClass x.cls = some m.cls → Z.Warmed39 s.vm → T.heap = h0 → Go p e below (EndQ s Q K N) T (mkF m 0 Ls [])) :
    MetFree l x (head1 (Jvm.Cond.code x code ml ret :: ws) rm) (fun a U => a = as ∧ Z.Warmed39 U.vm ∧ U.heap = h0) (fun _ _ _ _ _ => True) (fun _ U o U' => ∃ v L, o = .returned v ∧ Q v U'.heap L ∧ FrameEnd U o U' L K N) := by
  refine MetFree.of_bodySF hpn hisR ?_
  intro p e s m args below meth c s₁ Bd hml0 hP hK
  obtain ⟨rfl, hZ, hh⟩ := hP
  have e0 : s₁.heap = h0 := by rw [← hh, Bd.state]; rfl
  obtain ⟨U, o, h1, h2, h3, h4⟩ := body p e s m below meth c s₁ (Stand.of_body Bd) Bd.exec Bd.bytes hml0 Bd.returns (BodyLoose.notSynchronized Bd) (name_of_methodNamed Bd.named Bd.method).1 (findClass_of_methodNamed Bd.named) hZ e0
  rw [← hef m] at h1
  exact ⟨U, o, h1, h2, h3, h4⟩
theorem g_leave (X : Stand p l e R s m args below meth c T locs cells slots) (hlk : meth.locks = false) {Q : Option Value → Heap → List Loc → Prop} {K N : Nat} {g : JFrame} {v : Option Value} (hv : meth.sig.returnType = none → v = none) (hK : cells ≤ K) (hN : slots ≤ N) (eT : T.heap = h) (hQ : Q v h locs)
    (hst : ∀ fs, (∀ (f : JFrame) (acts : List Action), f.method = m → f.locked = none → f.entered = [] → (doReturn e (T.setTop f) acts v).1 = T.setFrames fs) → Steps p.tables e below (T.setTop g) (T.setFrames fs)) : Go p e below (EndQ s Q K N) T g := by
  obtain ⟨fs, hr, hrun, hended, hW, hsame⟩ := X.leave (v := v) hv hlk
  exact ⟨_, _, hst fs hr, hrun, hended, _, _, rfl, by rw [show (T.setFrames fs).heap = T.heap from rfl, eT]; exact hQ, ⟨_, rfl⟩, hW, hsame.mono hK hN⟩
theorem g_retI (X : Stand p l e R s m args below meth c T locs cells slots) (hx : p.tables.exec = Jvm.exec) (hlk : meth.locks = false) {Q : Option Value → Heap → List Loc → Prop} {K N : Nat} {pc : Nat} {Ls : Array Slot} {z : Int32} {rest : List Value} (hret : meth.sig.returnType = some .int) (hd : decode c.code pc = .ok (.ireturn, 1)) (hK : cells ≤ K) (hN : slots ≤ N) (eT : T.heap = h) (hQ : Q (some (.int z)) h locs) : Go p e below (EndQ s Q K N) T (mkF m pc Ls (.int z :: rest)) :=
  g_leave X hlk (fun q => by rw [hret] at q; cases q) hK hN eT hQ (fun fs hr => retOut X hx hret rfl (Or.inl ⟨rfl, Or.inl rfl, _, rfl⟩) hd hr)
theorem g_retZ (X : Stand p l e R s m args below meth c T locs cells slots) (hx : p.tables.exec = Jvm.exec) (hlk : meth.locks = false) {Q : Option Value → Heap → List Loc → Prop} {K N : Nat} {pc : Nat} {Ls : Array Slot} {z : Int32} {rest : List Value} (hret : meth.sig.returnType = some .boolean) (hd : decode c.code pc = .ok (.ireturn, 1)) (hK : cells ≤ K) (hN : slots ≤ N) (eT : T.heap = h) (hQ : Q (some (.int (nar .boolean z))) h locs) : Go p e below (EndQ s Q K N) T (mkF m pc Ls (.int z :: rest)) :=
  g_leave X hlk (fun q => by rw [hret] at q; cases q) hK hN eT hQ (fun fs hr => retN X hx (t := .boolean) hret (by simp) hd hr)
theorem g_retD (X : Stand p l e R s m args below meth c T locs cells slots) (hx : p.tables.exec = Jvm.exec) (hlk : meth.locks = false) {Q : Option Value → Heap → List Loc → Prop} {K N : Nat} {pc : Nat} {Ls : Array Slot} {z : UInt64} {rest : List Value} (hret : meth.sig.returnType = some .double) (hd : decode c.code pc = .ok (.dreturn, 1)) (hK : cells ≤ K) (hN : slots ≤ N) (eT : T.heap = h) (hQ : Q (some (.double z)) h locs) : Go p e below (EndQ s Q K N) T (mkF m pc Ls (.double z :: rest)) :=
  g_leave X hlk (fun q => by rw [hret] at q; cases q) hK hN eT hQ (fun fs hr => retOut X hx hret rfl (Or.inr (Or.inr (Or.inl ⟨rfl, rfl, _, rfl⟩))) hd hr)
theorem g_retJ (X : Stand p l e R s m args below meth c T locs cells slots) (hx : p.tables.exec = Jvm.exec) (hlk : meth.locks = false) {Q : Option Value → Heap → List Loc → Prop} {K N : Nat} {pc : Nat} {Ls : Array Slot} {z : Int64} {rest : List Value} (hret : meth.sig.returnType = some .long) (hd : decode c.code pc = .ok (.lreturn, 1)) (hK : cells ≤ K) (hN : slots ≤ N) (eT : T.heap = h) (hQ : Q (some (.long z)) h locs) : Go p e below (EndQ s Q K N) T (mkF m pc Ls (.long z :: rest)) :=
  g_leave X hlk (fun q => by rw [hret] at q; cases q) hK hN eT hQ (fun fs hr => retOut X hx hret rfl (Or.inr (Or.inl ⟨rfl, rfl, _, rfl⟩)) hd hr)
theorem g_retA (X : Stand p l e R s m args below meth c T locs cells slots) (hx : p.tables.exec = Jvm.exec) (hlk : meth.locks = false) {Q : Option Value → Heap → List Loc → Prop} {K N : Nat} {pc : Nat} {Ls : Array Slot} {w : Value} {rest : List Value} {t : FieldType} (hret : meth.sig.returnType = some t) (ht : t.isReference = true) (hw : w.isRef = true) (hn : narrow t w = w) (hd : decode c.code pc = .ok (.areturn, 1)) (hK : cells ≤ K) (hN : slots ≤ N) (eT : T.heap = h) (hQ : Q (some w) h locs) : Go p e below (EndQ s Q K N) T (mkF m pc Ls (w :: rest)) :=
  g_leave X hlk (fun q => by rw [hret] at q; cases q) hK hN eT hQ (fun fs hr => retOut X hx hret hn (Or.inr (Or.inr (Or.inr (Or.inr ⟨rfl, ht, hw⟩)))) hd hr)
theorem g_retV (X : Stand p l e R s m args below meth c T locs cells slots) (hx : p.tables.exec = Jvm.exec) (hlk : meth.locks = false) {Q : Option Value → Heap → List Loc → Prop} {K N : Nat} {pc : Nat} {Ls : Array Slot} (hret : meth.sig.returnType = none) (hd : decode c.code pc = .ok (.return_, 1)) (hK : cells ≤ K) (hN : slots ≤ N) (eT : T.heap = h) (hQ : Q none h locs) : Go p e below (EndQ s Q K N) T (mkF m pc Ls []) :=
  g_leave X hlk (fun _ => rfl) hK hN eT hQ (fun fs hr => X.returnOut hx hret hd hr)
theorem g_iloadN (X : Stand p l e R s m args below meth c T locs cells slots) (hx : p.tables.exec = Jvm.exec) {pc : Nat} {Ls : Array Slot} {st : List Value} {k : Fin 4} {v : Int32} (q : Nat) (hd : decode c.code pc = .ok (.iload_n k, 1)) (hq : pc + 1 = q) (hl : Ls[k.val]? = some (.val (.int v))) (K : Go p e below Ev T (mkF m q Ls (.int v :: st))) : Go p e below Ev T (mkF m pc Ls st) := by
  subst hq
  exact K.on fun _ k => XS.iloadN X.here hx rfl hd hl k
theorem g_iload (X : Stand p l e R s m args below meth c T locs cells slots) (hx : p.tables.exec = Jvm.exec) {pc : Nat} {Ls : Array Slot} {st : List Value} {k : Nat} {v : Int32} (q : Nat) (hd : decode c.code pc = .ok (.iload k, 2)) (hq : pc + 2 = q) (hl : Ls[k]? = some (.val (.int v))) (K : Go p e below Ev T (mkF m q Ls (.int v :: st))) : Go p e below Ev T (mkF m pc Ls st) := by
  subst hq
  exact K.on fun _ k => XS.iload X.here hx rfl hd hl k
theorem g_istoreN (X : Stand p l e R s m args below meth c T locs cells slots) (hx : p.tables.exec = Jvm.exec) {pc : Nat} {Ls : Array Slot} {st : List Value} {k : Fin 4} {v : Int32} {l' : Array Slot} (q : Nat) (hd : decode c.code pc = .ok (.istore_n k, 1)) (hq : pc + 1 = q) (hl : storeLocals Ls k.val (.int v) = some l') (K : Go p e below Ev T (mkF m q l' st)) : Go p e below Ev T (mkF m pc Ls (.int v :: st)) := by
  subst hq
  exact K.on fun _ k => XS.istoreN X.here hx rfl hd rfl hl k
theorem g_istore (X : Stand p l e R s m args below meth c T locs cells slots) (hx : p.tables.exec = Jvm.exec) {pc : Nat} {Ls : Array Slot} {st : List Value} {k : Nat} {v : Int32} {l' : Array Slot} (q : Nat) (hd : decode c.code pc = .ok (.istore k, 2)) (hq : pc + 2 = q) (hl : storeLocals Ls k (.int v) = some l') (K : Go p e below Ev T (mkF m q l' st)) : Go p e below Ev T (mkF m pc Ls (.int v :: st)) := by
  subst hq
  exact K.on fun _ k => XS.istore X.here hx rfl hd rfl hl k
theorem g_lloadN (X : Stand p l e R s m args below meth c T locs cells slots) (hx : p.tables.exec = Jvm.exec) {pc : Nat} {Ls : Array Slot} {st : List Value} {k : Fin 4} {v : Int64} (q : Nat) (hd : decode c.code pc = .ok (.lload_n k, 1)) (hq : pc + 1 = q) (hl : Ls[k.val]? = some (.val (.long v))) (K : Go p e below Ev T (mkF m q Ls (.long v :: st))) : Go p e below Ev T (mkF m pc Ls st) := by
  subst hq
  exact K.on fun _ k => XS.lloadN X.here hx rfl hd hl k
theorem g_lload (X : Stand p l e R s m args below meth c T locs cells slots) (hx : p.tables.exec = Jvm.exec) {pc : Nat} {Ls : Array Slot} {st : List Value} {k : Nat} {v : Int64} (q : Nat) (hd : decode c.code pc = .ok (.lload k, 2)) (hq : pc + 2 = q) (hl : Ls[k]? = some (.val (.long v))) (K : Go p e below Ev T (mkF m q Ls (.long v :: st))) : Go p e below Ev T (mkF m pc Ls st) := by
  subst hq
  exact K.on fun _ k => XS.lload X.here hx rfl hd hl k
theorem g_lstoreN (X : Stand p l e R s m args below meth c T locs cells slots) (hx : p.tables.exec = Jvm.exec) {pc : Nat} {Ls : Array Slot} {st : List Value} {k : Fin 4} {v : Int64} {l' : Array Slot} (q : Nat) (hd : decode c.code pc = .ok (.lstore_n k, 1)) (hq : pc + 1 = q) (hl : storeLocals Ls k.val (.long v) = some l') (K : Go p e below Ev T (mkF m q l' st)) : Go p e below Ev T (mkF m pc Ls (.long v :: st)) := by
  subst hq
  exact K.on fun _ k => XS.lstoreN X.here hx rfl hd rfl hl k
theorem g_lstore (X : Stand p l e R s m args below meth c T locs cells slots) (hx : p.tables.exec = Jvm.exec) {pc : Nat} {Ls : Array Slot} {st : List Value} {k : Nat} {v : Int64} {l' : Array Slot} (q : Nat) (hd : decode c.code pc = .ok (.lstore k, 2)) (hq : pc + 2 = q) (hl : storeLocals Ls k (.long v) = some l') (K : Go p e below Ev T (mkF m q l' st)) : Go p e below Ev T (mkF m pc Ls (.long v :: st)) := by
  subst hq
  exact K.on fun _ k => XS.lstore X.here hx rfl hd rfl hl k
theorem g_dloadN (X : Stand p l e R s m args below meth c T locs cells slots) (hx : p.tables.exec = Jvm.exec) {pc : Nat} {Ls : Array Slot} {st : List Value} {k : Fin 4} {v : UInt64} (q : Nat) (hd : decode c.code pc = .ok (.dload_n k, 1)) (hq : pc + 1 = q) (hl : Ls[k.val]? = some (.val (.double v))) (K : Go p e below Ev T (mkF m q Ls (.double v :: st))) : Go p e below Ev T (mkF m pc Ls st) := by
  subst hq
  exact K.on fun _ k => XS.dloadN X.here hx rfl hd hl k
theorem g_dload (X : Stand p l e R s m args below meth c T locs cells slots) (hx : p.tables.exec = Jvm.exec) {pc : Nat} {Ls : Array Slot} {st : List Value} {k : Nat} {v : UInt64} (q : Nat) (hd : decode c.code pc = .ok (.dload k, 2)) (hq : pc + 2 = q) (hl : Ls[k]? = some (.val (.double v))) (K : Go p e below Ev T (mkF m q Ls (.double v :: st))) : Go p e below Ev T (mkF m pc Ls st) := by
  subst hq
  exact K.on fun _ k => XS.dload X.here hx rfl hd hl k
theorem g_dstoreN (X : Stand p l e R s m args below meth c T locs cells slots) (hx : p.tables.exec = Jvm.exec) {pc : Nat} {Ls : Array Slot} {st : List Value} {k : Fin 4} {v : UInt64} {l' : Array Slot} (q : Nat) (hd : decode c.code pc = .ok (.dstore_n k, 1)) (hq : pc + 1 = q) (hl : storeLocals Ls k.val (.double v) = some l') (K : Go p e below Ev T (mkF m q l' st)) : Go p e below Ev T (mkF m pc Ls (.double v :: st)) := by
  subst hq
  exact K.on fun _ k => XS.dstoreN X.here hx rfl hd rfl hl k
theorem g_dstore (X : Stand p l e R s m args below meth c T locs cells slots) (hx : p.tables.exec = Jvm.exec) {pc : Nat} {Ls : Array Slot} {st : List Value} {k : Nat} {v : UInt64} {l' : Array Slot} (q : Nat) (hd : decode c.code pc = .ok (.dstore k, 2)) (hq : pc + 2 = q) (hl : storeLocals Ls k (.double v) = some l') (K : Go p e below Ev T (mkF m q l' st)) : Go p e below Ev T (mkF m pc Ls (.double v :: st)) := by
  subst hq
  exact K.on fun _ k => XS.dstore X.here hx rfl hd rfl hl k
theorem g_aloadN (X : Stand p l e R s m args below meth c T locs cells slots) (hx : p.tables.exec = Jvm.exec) {pc : Nat} {Ls : Array Slot} {st : List Value} {k : Fin 4} {v : Value} (q : Nat) (hd : decode c.code pc = .ok (.aload_n k, 1)) (hq : pc + 1 = q) (hl : Ls[k.val]? = some (.val v)) (hv : v.isRef = true) (K : Go p e below Ev T (mkF m q Ls (v :: st))) : Go p e below Ev T (mkF m pc Ls st) := by
  subst hq
  exact K.on fun _ k => XS.aloadN X.here hx rfl hd hl hv k
theorem g_aload (X : Stand p l e R s m args below meth c T locs cells slots) (hx : p.tables.exec = Jvm.exec) {pc : Nat} {Ls : Array Slot} {st : List Value} {k : Nat} {v : Value} (q : Nat) (hd : decode c.code pc = .ok (.aload k, 2)) (hq : pc + 2 = q) (hl : Ls[k]? = some (.val v)) (hv : v.isRef = true) (K : Go p e below Ev T (mkF m q Ls (v :: st))) : Go p e below Ev T (mkF m pc Ls st) := by
  subst hq
  exact K.on fun _ k => XS.aload X.here hx rfl hd hl hv k
theorem g_astoreN (X : Stand p l e R s m args below meth c T locs cells slots) (hx : p.tables.exec = Jvm.exec) {pc : Nat} {Ls : Array Slot} {st : List Value} {k : Fin 4} {v : Value} {l' : Array Slot} (q : Nat) (hd : decode c.code pc = .ok (.astore_n k, 1)) (hq : pc + 1 = q) (hv : v.isRef = true) (hl : storeLocals Ls k.val v = some l') (K : Go p e below Ev T (mkF m q l' st)) : Go p e below Ev T (mkF m pc Ls (v :: st)) := by
  subst hq
  exact K.on fun _ k => XS.astoreN X.here hx rfl hd rfl hv hl k
theorem g_astore (X : Stand p l e R s m args below meth c T locs cells slots) (hx : p.tables.exec = Jvm.exec) {pc : Nat} {Ls : Array Slot} {st : List Value} {k : Nat} {v : Value} {l' : Array Slot} (q : Nat) (hd : decode c.code pc = .ok (.astore k, 2)) (hq : pc + 2 = q) (hv : v.isRef = true) (hl : storeLocals Ls k v = some l') (K : Go p e below Ev T (mkF m q l' st)) : Go p e below Ev T (mkF m pc Ls (v :: st)) := by
  subst hq
  exact K.on fun _ k => XS.astore X.here hx rfl hd rfl hv hl k
theorem g_iconst (X : Stand p l e R s m args below meth c T locs cells slots) (hx : p.tables.exec = Jvm.exec) {pc : Nat} {Ls : Array Slot} {st : List Value} {i : Int} (v : Int32) (q : Nat) (hd : decode c.code pc = .ok (.iconst i, 1)) (hq : pc + 1 = q) (hv : Int32.ofInt i = v) (K : Go p e below Ev T (mkF m q Ls (.int v :: st))) : Go p e below Ev T (mkF m pc Ls st) := by
  subst hq
  exact K.on fun _ k => XT.iconstV X.here hx rfl v hd hv k
theorem g_bipush (X : Stand p l e R s m args below meth c T locs cells slots) (hx : p.tables.exec = Jvm.exec) {pc : Nat} {Ls : Array Slot} {st : List Value} {i : Int} (v : Int32) (q : Nat) (hd : decode c.code pc = .ok (.bipush i, 2)) (hq : pc + 2 = q) (hv : (Int8.ofInt i).toInt32 = v) (K : Go p e below Ev T (mkF m q Ls (.int v :: st))) : Go p e below Ev T (mkF m pc Ls st) := by
  subst hq
  exact K.on fun _ k => XT.bipushV X.here hx rfl v hd hv k
theorem g_sipush (X : Stand p l e R s m args below meth c T locs cells slots) (hx : p.tables.exec = Jvm.exec) {pc : Nat} {Ls : Array Slot} {st : List Value} {i : Int} (v : Int32) (q : Nat) (hd : decode c.code pc = .ok (.sipush i, 3)) (hq : pc + 3 = q) (hv : (Int16.ofInt i).toInt32 = v) (K : Go p e below Ev T (mkF m q Ls (.int v :: st))) : Go p e below Ev T (mkF m pc Ls st) := by
  subst hq
  exact K.on fun _ k => XT.sipushV X.here hx rfl v hd hv k
theorem g_lconst (X : Stand p l e R s m args below meth c T locs cells slots) (hx : p.tables.exec = Jvm.exec) {pc : Nat} {Ls : Array Slot} {st : List Value} {i : Fin 2} (v : Int64) (q : Nat) (hd : decode c.code pc = .ok (.lconst i, 1)) (hq : pc + 1 = q) (hv : Int64.ofNat i = v) (K : Go p e below Ev T (mkF m q Ls (.long v :: st))) : Go p e below Ev T (mkF m pc Ls st) := by
  subst hq
  exact K.on fun _ k => XT.lconstV X.here hx rfl v hd hv k
theorem g_dconst0 (X : Stand p l e R s m args below meth c T locs cells slots) (hx : p.tables.exec = Jvm.exec) {pc : Nat} {Ls : Array Slot} {st : List Value}  (q : Nat) (hd : decode c.code pc = .ok (.dconst 0, 1)) (hq : pc + 1 = q)  (K : Go p e below Ev T (mkF m q Ls (.double 0 :: st))) : Go p e below Ev T (mkF m pc Ls st) := by
  subst hq
  exact K.on fun _ k => XS.dconst0 X.here hx rfl hd rfl k
theorem g_dconst1 (X : Stand p l e R s m args below meth c T locs cells slots) (hx : p.tables.exec = Jvm.exec) {pc : Nat} {Ls : Array Slot} {st : List Value}  (q : Nat) (hd : decode c.code pc = .ok (.dconst 1, 1)) (hq : pc + 1 = q)  (K : Go p e below Ev T (mkF m q Ls (.double 4607182418800017408 :: st))) : Go p e below Ev T (mkF m pc Ls st) := by
  subst hq
  exact K.on fun _ k => XS.dconst1 X.here hx rfl hd rfl k
theorem g_null (X : Stand p l e R s m args below meth c T locs cells slots) (hx : p.tables.exec = Jvm.exec) {pc : Nat} {Ls : Array Slot} {st : List Value}  (q : Nat) (hd : decode c.code pc = .ok (.aconst_null, 1)) (hq : pc + 1 = q)  (K : Go p e below Ev T (mkF m q Ls (.null :: st))) : Go p e below Ev T (mkF m pc Ls st) := by
  subst hq
  exact K.on fun _ k => XS.aconstNull X.here hx rfl hd k
theorem g_iinc (X : Stand p l e R s m args below meth c T locs cells slots) (hx : p.tables.exec = Jvm.exec) {pc : Nat} {Ls : Array Slot} {st : List Value} {k : Nat} {i : Int} {v w : Int32} {l' : Array Slot} (q : Nat) (hd : decode c.code pc = .ok (.iinc k i, 3)) (hq : pc + 3 = q) (hl : Ls[k]? = some (.val (.int v))) (hv : Int32.ofInt i = w) (hl' : storeLocals Ls k (.int (v + w)) = some l') (K : Go p e below Ev T (mkF m q l' st)) : Go p e below Ev T (mkF m pc Ls st) := by
  subst hq
  exact K.on fun _ k => XT.iincV X.here hx rfl w hd hv hl hl' k
theorem g_iadd (X : Stand p l e R s m args below meth c T locs cells slots) (hx : p.tables.exec = Jvm.exec) {pc : Nat} {Ls : Array Slot} {st : List Value} {x y : Int32} (q : Nat) (hd : decode c.code pc = .ok (.iadd, 1)) (hq : pc + 1 = q)  (K : Go p e below Ev T (mkF m q Ls (.int (x + y) :: st))) : Go p e below Ev T (mkF m pc Ls (.int y :: .int x :: st)) := by
  subst hq
  exact K.on fun _ k => XS.iadd X.here hx rfl hd rfl k
theorem g_ladd (X : Stand p l e R s m args below meth c T locs cells slots) (hx : p.tables.exec = Jvm.exec) {pc : Nat} {Ls : Array Slot} {st : List Value} {x y : Int64} (q : Nat) (hd : decode c.code pc = .ok (.ladd, 1)) (hq : pc + 1 = q)  (K : Go p e below Ev T (mkF m q Ls (.long (x + y) :: st))) : Go p e below Ev T (mkF m pc Ls (.long y :: .long x :: st)) := by
  subst hq
  exact K.on fun _ k => XS.ladd X.here hx rfl hd rfl k
theorem g_isub (X : Stand p l e R s m args below meth c T locs cells slots) (hx : p.tables.exec = Jvm.exec) {pc : Nat} {Ls : Array Slot} {st : List Value} {x y : Int32} (q : Nat) (hd : decode c.code pc = .ok (.isub, 1)) (hq : pc + 1 = q)  (K : Go p e below Ev T (mkF m q Ls (.int (x - y) :: st))) : Go p e below Ev T (mkF m pc Ls (.int y :: .int x :: st)) := by
  subst hq
  exact K.on fun _ k => XS.isub X.here hx rfl hd rfl k
theorem g_lsub (X : Stand p l e R s m args below meth c T locs cells slots) (hx : p.tables.exec = Jvm.exec) {pc : Nat} {Ls : Array Slot} {st : List Value} {x y : Int64} (q : Nat) (hd : decode c.code pc = .ok (.lsub, 1)) (hq : pc + 1 = q)  (K : Go p e below Ev T (mkF m q Ls (.long (x - y) :: st))) : Go p e below Ev T (mkF m pc Ls (.long y :: .long x :: st)) := by
  subst hq
  exact K.on fun _ k => XS.lsub X.here hx rfl hd rfl k
theorem g_imul (X : Stand p l e R s m args below meth c T locs cells slots) (hx : p.tables.exec = Jvm.exec) {pc : Nat} {Ls : Array Slot} {st : List Value} {x y : Int32} (q : Nat) (hd : decode c.code pc = .ok (.imul, 1)) (hq : pc + 1 = q)  (K : Go p e below Ev T (mkF m q Ls (.int (x * y) :: st))) : Go p e below Ev T (mkF m pc Ls (.int y :: .int x :: st)) := by
  subst hq
  exact K.on fun _ k => XS.imul X.here hx rfl hd rfl k
theorem g_lmul (X : Stand p l e R s m args below meth c T locs cells slots) (hx : p.tables.exec = Jvm.exec) {pc : Nat} {Ls : Array Slot} {st : List Value} {x y : Int64} (q : Nat) (hd : decode c.code pc = .ok (.lmul, 1)) (hq : pc + 1 = q)  (K : Go p e below Ev T (mkF m q Ls (.long (x * y) :: st))) : Go p e below Ev T (mkF m pc Ls (.long y :: .long x :: st)) := by
  subst hq
  exact K.on fun _ k => XS.lmul X.here hx rfl hd rfl k
theorem g_iand (X : Stand p l e R s m args below meth c T locs cells slots) (hx : p.tables.exec = Jvm.exec) {pc : Nat} {Ls : Array Slot} {st : List Value} {x y : Int32} (q : Nat) (hd : decode c.code pc = .ok (.iand, 1)) (hq : pc + 1 = q)  (K : Go p e below Ev T (mkF m q Ls (.int (x &&& y) :: st))) : Go p e below Ev T (mkF m pc Ls (.int y :: .int x :: st)) := by
  subst hq
  exact K.on fun _ k => XS.iand X.here hx rfl hd rfl k
theorem g_land (X : Stand p l e R s m args below meth c T locs cells slots) (hx : p.tables.exec = Jvm.exec) {pc : Nat} {Ls : Array Slot} {st : List Value} {x y : Int64} (q : Nat) (hd : decode c.code pc = .ok (.land, 1)) (hq : pc + 1 = q)  (K : Go p e below Ev T (mkF m q Ls (.long (x &&& y) :: st))) : Go p e below Ev T (mkF m pc Ls (.long y :: .long x :: st)) := by
  subst hq
  exact K.on fun _ k => XS.land X.here hx rfl hd rfl k
theorem g_ior (X : Stand p l e R s m args below meth c T locs cells slots) (hx : p.tables.exec = Jvm.exec) {pc : Nat} {Ls : Array Slot} {st : List Value} {x y : Int32} (q : Nat) (hd : decode c.code pc = .ok (.ior, 1)) (hq : pc + 1 = q)  (K : Go p e below Ev T (mkF m q Ls (.int (x ||| y) :: st))) : Go p e below Ev T (mkF m pc Ls (.int y :: .int x :: st)) := by
  subst hq
  exact K.on fun _ k => XS.ior X.here hx rfl hd rfl k
theorem g_lor (X : Stand p l e R s m args below meth c T locs cells slots) (hx : p.tables.exec = Jvm.exec) {pc : Nat} {Ls : Array Slot} {st : List Value} {x y : Int64} (q : Nat) (hd : decode c.code pc = .ok (.lor, 1)) (hq : pc + 1 = q)  (K : Go p e below Ev T (mkF m q Ls (.long (x ||| y) :: st))) : Go p e below Ev T (mkF m pc Ls (.long y :: .long x :: st)) := by
  subst hq
  exact K.on fun _ k => XS.lor X.here hx rfl hd rfl k
theorem g_ixor (X : Stand p l e R s m args below meth c T locs cells slots) (hx : p.tables.exec = Jvm.exec) {pc : Nat} {Ls : Array Slot} {st : List Value} {x y : Int32} (q : Nat) (hd : decode c.code pc = .ok (.ixor, 1)) (hq : pc + 1 = q)  (K : Go p e below Ev T (mkF m q Ls (.int (x ^^^ y) :: st))) : Go p e below Ev T (mkF m pc Ls (.int y :: .int x :: st)) := by
  subst hq
  exact K.on fun _ k => XS.ixor X.here hx rfl hd rfl k
theorem g_lxor (X : Stand p l e R s m args below meth c T locs cells slots) (hx : p.tables.exec = Jvm.exec) {pc : Nat} {Ls : Array Slot} {st : List Value} {x y : Int64} (q : Nat) (hd : decode c.code pc = .ok (.lxor, 1)) (hq : pc + 1 = q)  (K : Go p e below Ev T (mkF m q Ls (.long (x ^^^ y) :: st))) : Go p e below Ev T (mkF m pc Ls (.long y :: .long x :: st)) := by
  subst hq
  exact K.on fun _ k => XS.lxor X.here hx rfl hd rfl k
theorem g_idiv (X : Stand p l e R s m args below meth c T locs cells slots) (hx : p.tables.exec = Jvm.exec) {pc : Nat} {Ls : Array Slot} {st : List Value} {x y : Int32} (q : Nat) (hd : decode c.code pc = .ok (.idiv, 1)) (hq : pc + 1 = q) (hy : y ≠ 0) (K : Go p e below Ev T (mkF m q Ls (.int (x / y) :: st))) : Go p e below Ev T (mkF m pc Ls (.int y :: .int x :: st)) := by
  subst hq
  exact K.on fun _ k => XS.idiv X.here hx rfl hd rfl hy k
theorem g_ineg (X : Stand p l e R s m args below meth c T locs cells slots) (hx : p.tables.exec = Jvm.exec) {pc : Nat} {Ls : Array Slot} {st : List Value} {x : Int32} (q : Nat) (hd : decode c.code pc = .ok (.ineg, 1)) (hq : pc + 1 = q)  (K : Go p e below Ev T (mkF m q Ls (.int (-x) :: st))) : Go p e below Ev T (mkF m pc Ls (.int x :: st)) := by
  subst hq
  exact K.on fun _ k => XS.ineg X.here hx rfl hd rfl k
theorem g_ldiv (X : Stand p l e R s m args below meth c T locs cells slots) (hx : p.tables.exec = Jvm.exec) {pc : Nat} {Ls : Array Slot} {st : List Value} {x y : Int64} (q : Nat) (hd : decode c.code pc = .ok (.ldiv, 1)) (hq : pc + 1 = q) (hy : y ≠ 0) (K : Go p e below Ev T (mkF m q Ls (.long (x / y) :: st))) : Go p e below Ev T (mkF m pc Ls (.long y :: .long x :: st)) := by
  subst hq
  exact K.on fun _ k => XS.ldiv X.here hx rfl hd rfl hy k
theorem g_lneg (X : Stand p l e R s m args below meth c T locs cells slots) (hx : p.tables.exec = Jvm.exec) {pc : Nat} {Ls : Array Slot} {st : List Value} {x : Int64} (q : Nat) (hd : decode c.code pc = .ok (.lneg, 1)) (hq : pc + 1 = q)  (K : Go p e below Ev T (mkF m q Ls (.long (-x) :: st))) : Go p e below Ev T (mkF m pc Ls (.long x :: st)) := by
  subst hq
  exact K.on fun _ k => XS.lneg X.here hx rfl hd rfl k
theorem g_irem (X : Stand p l e R s m args below meth c T locs cells slots) (hx : p.tables.exec = Jvm.exec) {pc : Nat} {Ls : Array Slot} {st : List Value} {x y : Int32} (q : Nat) (hd : decode c.code pc = .ok (.irem, 1)) (hq : pc + 1 = q) (hy : y ≠ 0) (K : Go p e below Ev T (mkF m q Ls (.int (x % y) :: st))) : Go p e below Ev T (mkF m pc Ls (.int y :: .int x :: st)) := by
  subst hq
  exact K.on fun _ k => iremM X hx rfl hd rfl hy k
theorem g_lrem (X : Stand p l e R s m args below meth c T locs cells slots) (hx : p.tables.exec = Jvm.exec) {pc : Nat} {Ls : Array Slot} {st : List Value} {x y : Int64} (q : Nat) (hd : decode c.code pc = .ok (.lrem, 1)) (hq : pc + 1 = q) (hy : y ≠ 0) (K : Go p e below Ev T (mkF m q Ls (.long (x - (x / y) * y) :: st))) : Go p e below Ev T (mkF m pc Ls (.long y :: .long x :: st)) := by
  subst hq
  exact K.on fun _ k => XS.lrem X.here hx rfl hd rfl hy k
theorem g_ishl (X : Stand p l e R s m args below meth c T locs cells slots) (hx : p.tables.exec = Jvm.exec) {pc : Nat} {Ls : Array Slot} {st : List Value} {x y : Int32} (q : Nat) (hd : decode c.code pc = .ok (.ishl, 1)) (hq : pc + 1 = q)  (K : Go p e below Ev T (mkF m q Ls (.int (x <<< (y &&& 31)) :: st))) : Go p e below Ev T (mkF m pc Ls (.int y :: .int x :: st)) := by
  subst hq
  exact K.on fun _ k => XS.ishl X.here hx rfl hd rfl k
theorem g_ishr (X : Stand p l e R s m args below meth c T locs cells slots) (hx : p.tables.exec = Jvm.exec) {pc : Nat} {Ls : Array Slot} {st : List Value} {x y : Int32} (q : Nat) (hd : decode c.code pc = .ok (.ishr, 1)) (hq : pc + 1 = q)  (K : Go p e below Ev T (mkF m q Ls (.int (x >>> (y &&& 31)) :: st))) : Go p e below Ev T (mkF m pc Ls (.int y :: .int x :: st)) := by
  subst hq
  exact K.on fun _ k => XS.ishr X.here hx rfl hd rfl k
theorem g_iushr (X : Stand p l e R s m args below meth c T locs cells slots) (hx : p.tables.exec = Jvm.exec) {pc : Nat} {Ls : Array Slot} {st : List Value} {x y : Int32} (q : Nat) (hd : decode c.code pc = .ok (.iushr, 1)) (hq : pc + 1 = q)  (K : Go p e below Ev T (mkF m q Ls (.int ((x.toUInt32 >>> (y &&& 31).toUInt32).toInt32) :: st))) : Go p e below Ev T (mkF m pc Ls (.int y :: .int x :: st)) := by
  subst hq
  exact K.on fun _ k => XS.iushr X.here hx rfl hd rfl k
theorem g_lshl (X : Stand p l e R s m args below meth c T locs cells slots) (hx : p.tables.exec = Jvm.exec) {pc : Nat} {Ls : Array Slot} {st : List Value} {x : Int64} {y : Int32} (q : Nat) (hd : decode c.code pc = .ok (.lshl, 1)) (hq : pc + 1 = q)  (K : Go p e below Ev T (mkF m q Ls (.long (x <<< (y &&& 0x3f).toInt64) :: st))) : Go p e below Ev T (mkF m pc Ls (.int y :: .long x :: st)) := by
  subst hq
  exact K.on fun _ k => XS.lshl X.here hx rfl hd rfl k
theorem g_lshr (X : Stand p l e R s m args below meth c T locs cells slots) (hx : p.tables.exec = Jvm.exec) {pc : Nat} {Ls : Array Slot} {st : List Value} {x : Int64} {y : Int32} (q : Nat) (hd : decode c.code pc = .ok (.lshr, 1)) (hq : pc + 1 = q)  (K : Go p e below Ev T (mkF m q Ls (.long (x >>> (y &&& 0x3f).toInt64) :: st))) : Go p e below Ev T (mkF m pc Ls (.int y :: .long x :: st)) := by
  subst hq
  exact K.on fun _ k => XS.lshr X.here hx rfl hd rfl k
theorem g_lushr (X : Stand p l e R s m args below meth c T locs cells slots) (hx : p.tables.exec = Jvm.exec) {pc : Nat} {Ls : Array Slot} {st : List Value} {x : Int64} {y : Int32} (q : Nat) (hd : decode c.code pc = .ok (.lushr, 1)) (hq : pc + 1 = q)  (K : Go p e below Ev T (mkF m q Ls (.long ((x.toUInt64 >>> (y &&& 0x3f).toInt64.toUInt64).toInt64) :: st))) : Go p e below Ev T (mkF m pc Ls (.int y :: .long x :: st)) := by
  subst hq
  exact K.on fun _ k => XS.lushr X.here hx rfl hd rfl k
theorem g_i2l (X : Stand p l e R s m args below meth c T locs cells slots) (hx : p.tables.exec = Jvm.exec) {pc : Nat} {Ls : Array Slot} {st : List Value} {x : Int32} (q : Nat) (hd : decode c.code pc = .ok (.i2l, 1)) (hq : pc + 1 = q)  (K : Go p e below Ev T (mkF m q Ls (.long (x.toInt64) :: st))) : Go p e below Ev T (mkF m pc Ls (.int x :: st)) := by
  subst hq
  exact K.on fun _ k => XS.i2l X.here hx rfl hd rfl k
theorem g_l2i (X : Stand p l e R s m args below meth c T locs cells slots) (hx : p.tables.exec = Jvm.exec) {pc : Nat} {Ls : Array Slot} {st : List Value} {x : Int64} (q : Nat) (hd : decode c.code pc = .ok (.l2i, 1)) (hq : pc + 1 = q)  (K : Go p e below Ev T (mkF m q Ls (.int (x.toInt32) :: st))) : Go p e below Ev T (mkF m pc Ls (.long x :: st)) := by
  subst hq
  exact K.on fun _ k => XS.l2i X.here hx rfl hd rfl k
theorem g_i2b (X : Stand p l e R s m args below meth c T locs cells slots) (hx : p.tables.exec = Jvm.exec) {pc : Nat} {Ls : Array Slot} {st : List Value} {x : Int32} (q : Nat) (hd : decode c.code pc = .ok (.i2b, 1)) (hq : pc + 1 = q)  (K : Go p e below Ev T (mkF m q Ls (.int (x.toInt8.toInt32) :: st))) : Go p e below Ev T (mkF m pc Ls (.int x :: st)) := by
  subst hq
  exact K.on fun _ k => XS.i2b X.here hx rfl hd rfl k
theorem g_i2s (X : Stand p l e R s m args below meth c T locs cells slots) (hx : p.tables.exec = Jvm.exec) {pc : Nat} {Ls : Array Slot} {st : List Value} {x : Int32} (q : Nat) (hd : decode c.code pc = .ok (.i2s, 1)) (hq : pc + 1 = q)  (K : Go p e below Ev T (mkF m q Ls (.int (x.toInt16.toInt32) :: st))) : Go p e below Ev T (mkF m pc Ls (.int x :: st)) := by
  subst hq
  exact K.on fun _ k => XS.i2s X.here hx rfl hd rfl k
theorem g_i2c (X : Stand p l e R s m args below meth c T locs cells slots) (hx : p.tables.exec = Jvm.exec) {pc : Nat} {Ls : Array Slot} {st : List Value} {x : Int32} (q : Nat) (hd : decode c.code pc = .ok (.i2c, 1)) (hq : pc + 1 = q)  (K : Go p e below Ev T (mkF m q Ls (.int (x.toUInt32.toUInt16.toUInt32.toInt32) :: st))) : Go p e below Ev T (mkF m pc Ls (.int x :: st)) := by
  subst hq
  exact K.on fun _ k => XS.i2c X.here hx rfl hd rfl k
theorem g_lcmp (X : Stand p l e R s m args below meth c T locs cells slots) (hx : p.tables.exec = Jvm.exec) {pc : Nat} {Ls : Array Slot} {st : List Value} {x y : Int64} (q : Nat) (hd : decode c.code pc = .ok (.lcmp, 1)) (hq : pc + 1 = q)  (K : Go p e below Ev T (mkF m q Ls (.int (lcmpW x y) :: st))) : Go p e below Ev T (mkF m pc Ls (.long y :: .long x :: st)) := by
  subst hq
  exact K.on fun _ k => XS.lcmp X.here hx rfl hd rfl k
theorem g_i2d (X : Stand p l e R s m args below meth c T locs cells slots) (hx : p.tables.exec = Jvm.exec) {pc : Nat} {Ls : Array Slot} {st : List Value} {x : Int32} (q : Nat) (hd : decode c.code pc = .ok (.i2d, 1)) (hq : pc + 1 = q)  (K : Go p e below Ev T (mkF m q Ls (.double (FP.i2d x) :: st))) : Go p e below Ev T (mkF m pc Ls (.int x :: st)) := by
  subst hq
  exact K.on fun _ k => XS.i2dS X.here hx rfl hd rfl rfl k
theorem g_l2d (X : Stand p l e R s m args below meth c T locs cells slots) (hx : p.tables.exec = Jvm.exec) {pc : Nat} {Ls : Array Slot} {st : List Value} {x : Int64} (q : Nat) (hd : decode c.code pc = .ok (.l2d, 1)) (hq : pc + 1 = q)  (K : Go p e below Ev T (mkF m q Ls (.double (FP.l2d x) :: st))) : Go p e below Ev T (mkF m pc Ls (.long x :: st)) := by
  subst hq
  exact K.on fun _ k => XS.l2dS X.here hx rfl hd rfl rfl k
theorem g_dneg (X : Stand p l e R s m args below meth c T locs cells slots) (hx : p.tables.exec = Jvm.exec) {pc : Nat} {Ls : Array Slot} {st : List Value} {x : UInt64} (q : Nat) (hd : decode c.code pc = .ok (.dneg, 1)) (hq : pc + 1 = q)  (K : Go p e below Ev T (mkF m q Ls (.double (FP.dneg x) :: st))) : Go p e below Ev T (mkF m pc Ls (.double x :: st)) := by
  subst hq
  exact K.on fun _ k => XS.dnegS X.here hx rfl hd rfl rfl k
theorem g_dadd (X : Stand p l e R s m args below meth c T locs cells slots) (hx : p.tables.exec = Jvm.exec) {pc : Nat} {Ls : Array Slot} {st : List Value} {x y : UInt64} (q : Nat) (hd : decode c.code pc = .ok (.dadd, 1)) (hq : pc + 1 = q) (hn : Jvm.Free.Fl.NoNaN64 (FP.dadd x y)) (K : Go p e below Ev T (mkF m q Ls (.double (FP.dadd x y) :: st))) : Go p e below Ev T (mkF m pc Ls (.double y :: .double x :: st)) := by
  subst hq
  exact K.on fun _ k => XS.daddS X.here hx rfl hd rfl hn rfl k
theorem g_dsub (X : Stand p l e R s m args below meth c T locs cells slots) (hx : p.tables.exec = Jvm.exec) {pc : Nat} {Ls : Array Slot} {st : List Value} {x y : UInt64} (q : Nat) (hd : decode c.code pc = .ok (.dsub, 1)) (hq : pc + 1 = q) (hn : Jvm.Free.Fl.NoNaN64 (FP.dsub x y)) (K : Go p e below Ev T (mkF m q Ls (.double (FP.dsub x y) :: st))) : Go p e below Ev T (mkF m pc Ls (.double y :: .double x :: st)) := by
  subst hq
  exact K.on fun _ k => XS.dsubS X.here hx rfl hd rfl hn rfl k
theorem g_dmul (X : Stand p l e R s m args below meth c T locs cells slots) (hx : p.tables.exec = Jvm.exec) {pc : Nat} {Ls : Array Slot} {st : List Value} {x y : UInt64} (q : Nat) (hd : decode c.code pc = .ok (.dmul, 1)) (hq : pc + 1 = q) (hn : Jvm.Free.Fl.NoNaN64 (FP.dmul x y)) (K : Go p e below Ev T (mkF m q Ls (.double (FP.dmul x y) :: st))) : Go p e below Ev T (mkF m pc Ls (.double y :: .double x :: st)) := by
  subst hq
  exact K.on fun _ k => XS.dmulS X.here hx rfl hd rfl hn rfl k
theorem g_ddiv (X : Stand p l e R s m args below meth c T locs cells slots) (hx : p.tables.exec = Jvm.exec) {pc : Nat} {Ls : Array Slot} {st : List Value} {x y : UInt64} (q : Nat) (hd : decode c.code pc = .ok (.ddiv, 1)) (hq : pc + 1 = q) (hn : Jvm.Free.Fl.NoNaN64 (FP.ddiv x y)) (K : Go p e below Ev T (mkF m q Ls (.double (FP.ddiv x y) :: st))) : Go p e below Ev T (mkF m pc Ls (.double y :: .double x :: st)) := by
  subst hq
  exact K.on fun _ k => XS.ddivS X.here hx rfl hd rfl hn rfl k
theorem g_dcmp (X : Stand p l e R s m args below meth c T locs cells slots) (hx : p.tables.exec = Jvm.exec) {pc : Nat} {Ls : Array Slot} {st : List Value} {x y : UInt64} {o : CmpOp} {r : Int32} (q : Nat) (hd : decode c.code pc = .ok (.dcmp o, 1)) (hq : pc + 1 = q) (hr : cmpValue (FP.dcmp x y) o = r) (K : Go p e below Ev T (mkF m q Ls (.int r :: st))) : Go p e below Ev T (mkF m pc Ls (.double y :: .double x :: st)) := by
  subst hq
  exact K.on fun _ k => XS.dcmpS X.here hx rfl hd rfl hr k
theorem g_dup (X : Stand p l e R s m args below meth c T locs cells slots) (hx : p.tables.exec = Jvm.exec) {pc : Nat} {Ls : Array Slot} {st : List Value} {x : Value} (q : Nat) (hd : decode c.code pc = .ok (.dup, 1)) (hq : pc + 1 = q) (hc : x.category = 1) (K : Go p e below Ev T (mkF m q Ls (x :: x :: st))) : Go p e below Ev T (mkF m pc Ls (x :: st)) := by
  subst hq
  exact K.on fun _ k => XS.dup X.here hx rfl hd rfl hc k
theorem g_pop (X : Stand p l e R s m args below meth c T locs cells slots) (hx : p.tables.exec = Jvm.exec) {pc : Nat} {Ls : Array Slot} {st : List Value} {x : Value} (q : Nat) (hd : decode c.code pc = .ok (.pop, 1)) (hq : pc + 1 = q) (hc : x.category = 1) (K : Go p e below Ev T (mkF m q Ls st)) : Go p e below Ev T (mkF m pc Ls (x :: st)) := by
  subst hq
  exact K.on fun _ k => XS.pop X.here hx rfl hd rfl hc k
theorem g_dupX1 (X : Stand p l e R s m args below meth c T locs cells slots) (hx : p.tables.exec = Jvm.exec) {pc : Nat} {Ls : Array Slot} {st : List Value} {x y : Value} (q : Nat) (hd : decode c.code pc = .ok (.dup_x1, 1)) (hq : pc + 1 = q) (hc : x.category = 1) (hc' : y.category = 1) (K : Go p e below Ev T (mkF m q Ls (x :: y :: x :: st))) : Go p e below Ev T (mkF m pc Ls (x :: y :: st)) := by
  subst hq
  exact K.on fun _ k => XS.dupX1 X.here hx rfl hd rfl hc hc' k
theorem g_dup2 (X : Stand p l e R s m args below meth c T locs cells slots) (hx : p.tables.exec = Jvm.exec) {pc : Nat} {Ls : Array Slot} {st : List Value} {x y : Value} (q : Nat) (hd : decode c.code pc = .ok (.dup2, 1)) (hq : pc + 1 = q) (hc : x.category = 1) (hc' : y.category = 1) (K : Go p e below Ev T (mkF m q Ls (x :: y :: x :: y :: st))) : Go p e below Ev T (mkF m pc Ls (x :: y :: st)) := by
  subst hq
  exact K.on fun _ k => XT.dup2 X.here hx rfl hd rfl hc hc' k
theorem g_ldcI (X : Stand p l e R s m args below meth c T locs cells slots) (hx : p.tables.exec = Jvm.exec) {pc : Nat} {Ls : Array Slot} {st : List Value} {own : String} {i : Nat} {v : Int32} (q : Nat) (hZ : Z.Warmed39 s.vm) (hown : s.vm.findClass own = some m.cls) (w : (Jvm.Cond.constant own i v).before a0 Z = true) (hd : decode c.code pc = .ok (.ldc i, 2)) (hq : pc + 2 = q) (K : Go p e below Ev T (mkF m q Ls (.int v :: st))) : Go p e below Ev T (mkF m pc Ls st) := by
  subst hq
  exact K.on fun _ k => X.ldcI hx hown (mvT hZ w) rfl hd k
theorem g_ldcWI (X : Stand p l e R s m args below meth c T locs cells slots) (hx : p.tables.exec = Jvm.exec) {pc : Nat} {Ls : Array Slot} {st : List Value} {own : String} {i : Nat} {v : Int32} (q : Nat) (hZ : Z.Warmed39 s.vm) (hown : s.vm.findClass own = some m.cls) (w : (Jvm.Cond.constant own i v).before a0 Z = true) (hd : decode c.code pc = .ok (.ldc_w i, 3)) (hq : pc + 3 = q) (K : Go p e below Ev T (mkF m q Ls (.int v :: st))) : Go p e below Ev T (mkF m pc Ls st) := by
  subst hq
  exact K.on fun _ k => X.ldcWI hx hown (mvT hZ w) rfl hd k
theorem g_ldc2J (X : Stand p l e R s m args below meth c T locs cells slots) (hx : p.tables.exec = Jvm.exec) {pc : Nat} {Ls : Array Slot} {st : List Value} {own : String} {i : Nat} {v : Int64} (q : Nat) (hZ : Z.Warmed39 s.vm) (hown : s.vm.findClass own = some m.cls) (w : (Jvm.Cond.constantLong own i v).before a0 Z = true) (hd : decode c.code pc = .ok (.ldc2_w i, 3)) (hq : pc + 3 = q) (K : Go p e below Ev T (mkF m q Ls (.long v :: st))) : Go p e below Ev T (mkF m pc Ls st) := by
  subst hq
  exact K.on fun _ k => X.ldc2J hx hown (mvT hZ w) rfl hd k
theorem g_ldc2D (X : Stand p l e R s m args below meth c T locs cells slots) (hx : p.tables.exec = Jvm.exec) {pc : Nat} {Ls : Array Slot} {st : List Value} {own : String} {i : Nat} {v : UInt64} (q : Nat) (hZ : Z.Warmed39 s.vm) (hown : s.vm.findClass own = some m.cls) (w : (Jvm.Cond.constantDouble own i v).before a0 Z = true) (hd : decode c.code pc = .ok (.ldc2_w i, 3)) (hq : pc + 3 = q) (K : Go p e below Ev T (mkF m q Ls (.double v :: st))) : Go p e below Ev T (mkF m pc Ls st) := by
  subst hq
  exact K.on (X.ldc2DoubleC hx hown (mvT hZ w) (g := mkF m pc Ls st) rfl hd)
theorem g_goto (X : Stand p l e R s m args below meth c T locs cells slots) (hx : p.tables.exec = Jvm.exec) {pc : Nat} {Ls : Array Slot} {st : List Value} {o : Int} (q : Nat) (hd : decode c.code pc = .ok (.goto o, 3)) (ho : 0 ≤ (pc : Int) + o) (hq : ((pc : Int) + o).toNat = q) (K : Go p e below Ev T (mkF m q Ls st)) : Go p e below Ev T (mkF m pc Ls st) :=
  K.on fun _ k => XS.goto X.here hx rfl rfl hd ho hq k
theorem own_i0 (x : Int32) : (x < 0 ↔ x.toInt < 0) ∧ (0 < x ↔ 0 < x.toInt) ∧ (x = 0 ↔ x.toInt = 0) := by
  refine ⟨by rw [Int32.lt_iff_toInt_lt]; simp, by rw [Int32.lt_iff_toInt_lt]; simp, ?_⟩
  rw [← Int32.toInt_inj]; simp
theorem g_if_eq (X : Stand p l e R s m args below meth c T locs cells slots) (hx : p.tables.exec = Jvm.exec) {pc : Nat} {Ls : Array Slot} {st : List Value} {x : Int32} {o : Int} (q1 q2 : Nat) (hd : decode c.code pc = .ok (.ifCond .eq o, 3)) (ho : 0 ≤ (pc : Int) + o) (h1 : ((pc : Int) + o).toNat = q1) (h2 : pc + 3 = q2) (Kt : x.toInt = 0 → Go p e below Ev T (mkF m q1 Ls st)) (Kf : x.toInt ≠ 0 → Go p e below Ev T (mkF m q2 Ls st)) : Go p e below Ev T (mkF m pc Ls (.int x :: st)) := by
  have Q := own_i0 x
  by_cases hc : x = 0
  · exact (Kt (by first | omega | (simp only [Q] at hc; omega))).on fun _ k => XS.ifYes X.here hx rfl rfl hd rfl (XT.i0_eq_t (by simpa using hc)) ho h1 k
  · subst h2
    exact (Kf (by first | omega | (simp only [Q] at hc; omega))).on fun _ k => XS.ifNo X.here hx rfl hd rfl (XT.i0_eq_f (by simpa using hc)) k
theorem g_if_ne (X : Stand p l e R s m args below meth c T locs cells slots) (hx : p.tables.exec = Jvm.exec) {pc : Nat} {Ls : Array Slot} {st : List Value} {x : Int32} {o : Int} (q1 q2 : Nat) (hd : decode c.code pc = .ok (.ifCond .ne o, 3)) (ho : 0 ≤ (pc : Int) + o) (h1 : ((pc : Int) + o).toNat = q1) (h2 : pc + 3 = q2) (Kt : x.toInt ≠ 0 → Go p e below Ev T (mkF m q1 Ls st)) (Kf : x.toInt = 0 → Go p e below Ev T (mkF m q2 Ls st)) : Go p e below Ev T (mkF m pc Ls (.int x :: st)) := by
  have Q := own_i0 x
  by_cases hc : ¬ x = 0
  · exact (Kt (by first | omega | (simp only [Q] at hc; omega))).on fun _ k => XS.ifYes X.here hx rfl rfl hd rfl (XT.i0_ne_t (by simpa using hc)) ho h1 k
  · subst h2
    exact (Kf (by first | omega | (simp only [Q] at hc; omega))).on fun _ k => XS.ifNo X.here hx rfl hd rfl (XT.i0_ne_f (by simpa using hc)) k
theorem g_if_lt (X : Stand p l e R s m args below meth c T locs cells slots) (hx : p.tables.exec = Jvm.exec) {pc : Nat} {Ls : Array Slot} {st : List Value} {x : Int32} {o : Int} (q1 q2 : Nat) (hd : decode c.code pc = .ok (.ifCond .lt o, 3)) (ho : 0 ≤ (pc : Int) + o) (h1 : ((pc : Int) + o).toNat = q1) (h2 : pc + 3 = q2) (Kt : x.toInt < 0 → Go p e below Ev T (mkF m q1 Ls st)) (Kf : 0 ≤ x.toInt → Go p e below Ev T (mkF m q2 Ls st)) : Go p e below Ev T (mkF m pc Ls (.int x :: st)) := by
  have Q := own_i0 x
  by_cases hc : x < 0
  · exact (Kt (by first | omega | (simp only [Q] at hc; omega))).on fun _ k => XS.ifYes X.here hx rfl rfl hd rfl (XT.i0_lt_t (by simpa using hc)) ho h1 k
  · subst h2
    exact (Kf (by first | omega | (simp only [Q] at hc; omega))).on fun _ k => XS.ifNo X.here hx rfl hd rfl (XT.i0_lt_f (by simpa using hc)) k
theorem g_if_ge (X : Stand p l e R s m args below meth c T locs cells slots) (hx : p.tables.exec = Jvm.exec) {pc : Nat} {Ls : Array Slot} {st : List Value} {x : Int32} {o : Int} (q1 q2 : Nat) (hd : decode c.code pc = .ok (.ifCond .ge o, 3)) (ho : 0 ≤ (pc : Int) + o) (h1 : ((pc : Int) + o).toNat = q1) (h2 : pc + 3 = q2) (Kt : 0 ≤ x.toInt → Go p e below Ev T (mkF m q1 Ls st)) (Kf : x.toInt < 0 → Go p e below Ev T (mkF m q2 Ls st)) : Go p e below Ev T (mkF m pc Ls (.int x :: st)) := by
  have Q := own_i0 x
  by_cases hc : ¬ x < 0
  · exact (Kt (by first | omega | (simp only [Q] at hc; omega))).on fun _ k => XS.ifYes X.here hx rfl rfl hd rfl (XT.i0_ge_t (by simpa using hc)) ho h1 k
  · subst h2
    exact (Kf (by first | omega | (simp only [Q] at hc; omega))).on fun _ k => XS.ifNo X.here hx rfl hd rfl (XT.i0_ge_f (by simpa using hc)) k
theorem g_if_gt (X : Stand p l e R s m args below meth c T locs cells slots) (hx : p.tables.exec = Jvm.exec) {pc : Nat} {Ls : Array Slot} {st : List Value} {x : Int32} {o : Int} (q1 q2 : Nat) (hd : decode c.code pc = .ok (.ifCond .gt o, 3)) (ho : 0 ≤ (pc : Int) + o) (h1 : ((pc : Int) + o).toNat = q1) (h2 : pc + 3 = q2) (Kt : 0 < x.toInt → Go p e below Ev T (mkF m q1 Ls st)) (Kf : x.toInt ≤ 0 → Go p e below Ev T (mkF m q2 Ls st)) : Go p e below Ev T (mkF m pc Ls (.int x :: st)) := by
  have Q := own_i0 x
  by_cases hc : 0 < x
  · exact (Kt (by first | omega | (simp only [Q] at hc; omega))).on fun _ k => XS.ifYes X.here hx rfl rfl hd rfl (XT.i0_gt_t (by simpa using hc)) ho h1 k
  · subst h2
    exact (Kf (by first | omega | (simp only [Q] at hc; omega))).on fun _ k => XS.ifNo X.here hx rfl hd rfl (XT.i0_gt_f (by simpa using hc)) k
theorem g_if_le (X : Stand p l e R s m args below meth c T locs cells slots) (hx : p.tables.exec = Jvm.exec) {pc : Nat} {Ls : Array Slot} {st : List Value} {x : Int32} {o : Int} (q1 q2 : Nat) (hd : decode c.code pc = .ok (.ifCond .le o, 3)) (ho : 0 ≤ (pc : Int) + o) (h1 : ((pc : Int) + o).toNat = q1) (h2 : pc + 3 = q2) (Kt : x.toInt ≤ 0 → Go p e below Ev T (mkF m q1 Ls st)) (Kf : 0 < x.toInt → Go p e below Ev T (mkF m q2 Ls st)) : Go p e below Ev T (mkF m pc Ls (.int x :: st)) := by
  have Q := own_i0 x
  by_cases hc : ¬ 0 < x
  · exact (Kt (by first | omega | (simp only [Q] at hc; omega))).on fun _ k => XS.ifYes X.here hx rfl rfl hd rfl (XT.i0_le_t (by simpa using hc)) ho h1 k
  · subst h2
    exact (Kf (by first | omega | (simp only [Q] at hc; omega))).on fun _ k => XS.ifNo X.here hx rfl hd rfl (XT.i0_le_f (by simpa using hc)) k
theorem own_ii (x y : Int32) : (x < y ↔ x.toInt < y.toInt) ∧ (y < x ↔ y.toInt < x.toInt) ∧ (x = y ↔ x.toInt = y.toInt) := by
  exact ⟨Int32.lt_iff_toInt_lt, Int32.lt_iff_toInt_lt, Int32.toInt_inj.symm⟩
theorem g_ic_eq (X : Stand p l e R s m args below meth c T locs cells slots) (hx : p.tables.exec = Jvm.exec) {pc : Nat} {Ls : Array Slot} {st : List Value} {x y : Int32} {o : Int} (q1 q2 : Nat) (hd : decode c.code pc = .ok (.if_icmp .eq o, 3)) (ho : 0 ≤ (pc : Int) + o) (h1 : ((pc : Int) + o).toNat = q1) (h2 : pc + 3 = q2) (Kt : x.toInt = y.toInt → Go p e below Ev T (mkF m q1 Ls st)) (Kf : x.toInt ≠ y.toInt → Go p e below Ev T (mkF m q2 Ls st)) : Go p e below Ev T (mkF m pc Ls (.int y :: .int x :: st)) := by
  have Q := own_ii x y
  by_cases hc : x = y
  · exact (Kt (by first | omega | (simp only [Q] at hc; omega))).on fun _ k => XS.icmpYes X.here hx rfl rfl hd rfl (XT.ii_eq_t (by simpa using hc)) ho h1 k
  · subst h2
    exact (Kf (by first | omega | (simp only [Q] at hc; omega))).on fun _ k => XS.icmpNo X.here hx rfl hd rfl (XT.ii_eq_f (by simpa using hc)) k
theorem g_ic_ne (X : Stand p l e R s m args below meth c T locs cells slots) (hx : p.tables.exec = Jvm.exec) {pc : Nat} {Ls : Array Slot} {st : List Value} {x y : Int32} {o : Int} (q1 q2 : Nat) (hd : decode c.code pc = .ok (.if_icmp .ne o, 3)) (ho : 0 ≤ (pc : Int) + o) (h1 : ((pc : Int) + o).toNat = q1) (h2 : pc + 3 = q2) (Kt : x.toInt ≠ y.toInt → Go p e below Ev T (mkF m q1 Ls st)) (Kf : x.toInt = y.toInt → Go p e below Ev T (mkF m q2 Ls st)) : Go p e below Ev T (mkF m pc Ls (.int y :: .int x :: st)) := by
  have Q := own_ii x y
  by_cases hc : ¬ x = y
  · exact (Kt (by first | omega | (simp only [Q] at hc; omega))).on fun _ k => XS.icmpYes X.here hx rfl rfl hd rfl (XT.ii_ne_t (by simpa using hc)) ho h1 k
  · subst h2
    exact (Kf (by first | omega | (simp only [Q] at hc; omega))).on fun _ k => XS.icmpNo X.here hx rfl hd rfl (XT.ii_ne_f (by simpa using hc)) k
theorem g_ic_lt (X : Stand p l e R s m args below meth c T locs cells slots) (hx : p.tables.exec = Jvm.exec) {pc : Nat} {Ls : Array Slot} {st : List Value} {x y : Int32} {o : Int} (q1 q2 : Nat) (hd : decode c.code pc = .ok (.if_icmp .lt o, 3)) (ho : 0 ≤ (pc : Int) + o) (h1 : ((pc : Int) + o).toNat = q1) (h2 : pc + 3 = q2) (Kt : x.toInt < y.toInt → Go p e below Ev T (mkF m q1 Ls st)) (Kf : y.toInt ≤ x.toInt → Go p e below Ev T (mkF m q2 Ls st)) : Go p e below Ev T (mkF m pc Ls (.int y :: .int x :: st)) := by
  have Q := own_ii x y
  by_cases hc : x < y
  · exact (Kt (by first | omega | (simp only [Q] at hc; omega))).on fun _ k => XS.icmpYes X.here hx rfl rfl hd rfl (XT.ii_lt_t (by simpa using hc)) ho h1 k
  · subst h2
    exact (Kf (by first | omega | (simp only [Q] at hc; omega))).on fun _ k => XS.icmpNo X.here hx rfl hd rfl (XT.ii_lt_f (by simpa using hc)) k
theorem g_ic_ge (X : Stand p l e R s m args below meth c T locs cells slots) (hx : p.tables.exec = Jvm.exec) {pc : Nat} {Ls : Array Slot} {st : List Value} {x y : Int32} {o : Int} (q1 q2 : Nat) (hd : decode c.code pc = .ok (.if_icmp .ge o, 3)) (ho : 0 ≤ (pc : Int) + o) (h1 : ((pc : Int) + o).toNat = q1) (h2 : pc + 3 = q2) (Kt : y.toInt ≤ x.toInt → Go p e below Ev T (mkF m q1 Ls st)) (Kf : x.toInt < y.toInt → Go p e below Ev T (mkF m q2 Ls st)) : Go p e below Ev T (mkF m pc Ls (.int y :: .int x :: st)) := by
  have Q := own_ii x y
  by_cases hc : ¬ x < y
  · exact (Kt (by first | omega | (simp only [Q] at hc; omega))).on fun _ k => XS.icmpYes X.here hx rfl rfl hd rfl (XT.ii_ge_t (by simpa using hc)) ho h1 k
  · subst h2
    exact (Kf (by first | omega | (simp only [Q] at hc; omega))).on fun _ k => XS.icmpNo X.here hx rfl hd rfl (XT.ii_ge_f (by simpa using hc)) k
theorem g_ic_gt (X : Stand p l e R s m args below meth c T locs cells slots) (hx : p.tables.exec = Jvm.exec) {pc : Nat} {Ls : Array Slot} {st : List Value} {x y : Int32} {o : Int} (q1 q2 : Nat) (hd : decode c.code pc = .ok (.if_icmp .gt o, 3)) (ho : 0 ≤ (pc : Int) + o) (h1 : ((pc : Int) + o).toNat = q1) (h2 : pc + 3 = q2) (Kt : y.toInt < x.toInt → Go p e below Ev T (mkF m q1 Ls st)) (Kf : x.toInt ≤ y.toInt → Go p e below Ev T (mkF m q2 Ls st)) : Go p e below Ev T (mkF m pc Ls (.int y :: .int x :: st)) := by
  have Q := own_ii x y
  by_cases hc : y < x
  · exact (Kt (by first | omega | (simp only [Q] at hc; omega))).on fun _ k => XS.icmpYes X.here hx rfl rfl hd rfl (XT.ii_gt_t (by simpa using hc)) ho h1 k
  · subst h2
    exact (Kf (by first | omega | (simp only [Q] at hc; omega))).on fun _ k => XS.icmpNo X.here hx rfl hd rfl (XT.ii_gt_f (by simpa using hc)) k
theorem g_ic_le (X : Stand p l e R s m args below meth c T locs cells slots) (hx : p.tables.exec = Jvm.exec) {pc : Nat} {Ls : Array Slot} {st : List Value} {x y : Int32} {o : Int} (q1 q2 : Nat) (hd : decode c.code pc = .ok (.if_icmp .le o, 3)) (ho : 0 ≤ (pc : Int) + o) (h1 : ((pc : Int) + o).toNat = q1) (h2 : pc + 3 = q2) (Kt : x.toInt ≤ y.toInt → Go p e below Ev T (mkF m q1 Ls st)) (Kf : y.toInt < x.toInt → Go p e below Ev T (mkF m q2 Ls st)) : Go p e below Ev T (mkF m pc Ls (.int y :: .int x :: st)) := by
  have Q := own_ii x y
  by_cases hc : ¬ y < x
  · exact (Kt (by first | omega | (simp only [Q] at hc; omega))).on fun _ k => XS.icmpYes X.here hx rfl rfl hd rfl (XT.ii_le_t (by simpa using hc)) ho h1 k
  · subst h2
    exact (Kf (by first | omega | (simp only [Q] at hc; omega))).on fun _ k => XS.icmpNo X.here hx rfl hd rfl (XT.ii_le_f (by simpa using hc)) k
theorem g_lc_eq (X : Stand p l e R s m args below meth c T locs cells slots) (hx : p.tables.exec = Jvm.exec) {pc : Nat} {Ls : Array Slot} {st : List Value} {x y : Int64} {o : Int} (q0 q1 q2 : Nat) (hd0 : decode c.code pc = .ok (.lcmp, 1)) (h0 : pc + 1 = q0) (hd : decode c.code q0 = .ok (.ifCond .eq o, 3)) (ho : 0 ≤ (q0 : Int) + o) (h1 : ((q0 : Int) + o).toNat = q1) (h2 : q0 + 3 = q2) (Kt : x.toInt = y.toInt → Go p e below Ev T (mkF m q1 Ls st)) (Kf : x.toInt ≠ y.toInt → Go p e below Ev T (mkF m q2 Ls st)) : Go p e below Ev T (mkF m pc Ls (.long y :: .long x :: st)) := by
  have Q := c_lcmp x y
  have C : x.toInt < y.toInt ∨ x.toInt = y.toInt ∨ y.toInt < x.toInt := by omega
  refine g_lcmp X hx q0 hd0 h0 (g_if_eq X hx q1 q2 hd ho h1 h2 (fun hc => Kt ?_) (fun hc => Kf ?_)) <;> (rcases C with C | C | C <;> first | (have := Q.1 C; omega) | (have := Q.2.1 C; omega) | (have := Q.2.2 C; omega))
theorem g_lc_ne (X : Stand p l e R s m args below meth c T locs cells slots) (hx : p.tables.exec = Jvm.exec) {pc : Nat} {Ls : Array Slot} {st : List Value} {x y : Int64} {o : Int} (q0 q1 q2 : Nat) (hd0 : decode c.code pc = .ok (.lcmp, 1)) (h0 : pc + 1 = q0) (hd : decode c.code q0 = .ok (.ifCond .ne o, 3)) (ho : 0 ≤ (q0 : Int) + o) (h1 : ((q0 : Int) + o).toNat = q1) (h2 : q0 + 3 = q2) (Kt : x.toInt ≠ y.toInt → Go p e below Ev T (mkF m q1 Ls st)) (Kf : x.toInt = y.toInt → Go p e below Ev T (mkF m q2 Ls st)) : Go p e below Ev T (mkF m pc Ls (.long y :: .long x :: st)) := by
  have Q := c_lcmp x y
  have C : x.toInt < y.toInt ∨ x.toInt = y.toInt ∨ y.toInt < x.toInt := by omega
  refine g_lcmp X hx q0 hd0 h0 (g_if_ne X hx q1 q2 hd ho h1 h2 (fun hc => Kt ?_) (fun hc => Kf ?_)) <;> (rcases C with C | C | C <;> first | (have := Q.1 C; omega) | (have := Q.2.1 C; omega) | (have := Q.2.2 C; omega))
theorem g_lc_lt (X : Stand p l e R s m args below meth c T locs cells slots) (hx : p.tables.exec = Jvm.exec) {pc : Nat} {Ls : Array Slot} {st : List Value} {x y : Int64} {o : Int} (q0 q1 q2 : Nat) (hd0 : decode c.code pc = .ok (.lcmp, 1)) (h0 : pc + 1 = q0) (hd : decode c.code q0 = .ok (.ifCond .lt o, 3)) (ho : 0 ≤ (q0 : Int) + o) (h1 : ((q0 : Int) + o).toNat = q1) (h2 : q0 + 3 = q2) (Kt : x.toInt < y.toInt → Go p e below Ev T (mkF m q1 Ls st)) (Kf : y.toInt ≤ x.toInt → Go p e below Ev T (mkF m q2 Ls st)) : Go p e below Ev T (mkF m pc Ls (.long y :: .long x :: st)) := by
  have Q := c_lcmp x y
  have C : x.toInt < y.toInt ∨ x.toInt = y.toInt ∨ y.toInt < x.toInt := by omega
  refine g_lcmp X hx q0 hd0 h0 (g_if_lt X hx q1 q2 hd ho h1 h2 (fun hc => Kt ?_) (fun hc => Kf ?_)) <;> (rcases C with C | C | C <;> first | (have := Q.1 C; omega) | (have := Q.2.1 C; omega) | (have := Q.2.2 C; omega))
theorem g_lc_ge (X : Stand p l e R s m args below meth c T locs cells slots) (hx : p.tables.exec = Jvm.exec) {pc : Nat} {Ls : Array Slot} {st : List Value} {x y : Int64} {o : Int} (q0 q1 q2 : Nat) (hd0 : decode c.code pc = .ok (.lcmp, 1)) (h0 : pc + 1 = q0) (hd : decode c.code q0 = .ok (.ifCond .ge o, 3)) (ho : 0 ≤ (q0 : Int) + o) (h1 : ((q0 : Int) + o).toNat = q1) (h2 : q0 + 3 = q2) (Kt : y.toInt ≤ x.toInt → Go p e below Ev T (mkF m q1 Ls st)) (Kf : x.toInt < y.toInt → Go p e below Ev T (mkF m q2 Ls st)) : Go p e below Ev T (mkF m pc Ls (.long y :: .long x :: st)) := by
  have Q := c_lcmp x y
  have C : x.toInt < y.toInt ∨ x.toInt = y.toInt ∨ y.toInt < x.toInt := by omega
  refine g_lcmp X hx q0 hd0 h0 (g_if_ge X hx q1 q2 hd ho h1 h2 (fun hc => Kt ?_) (fun hc => Kf ?_)) <;> (rcases C with C | C | C <;> first | (have := Q.1 C; omega) | (have := Q.2.1 C; omega) | (have := Q.2.2 C; omega))
theorem g_lc_gt (X : Stand p l e R s m args below meth c T locs cells slots) (hx : p.tables.exec = Jvm.exec) {pc : Nat} {Ls : Array Slot} {st : List Value} {x y : Int64} {o : Int} (q0 q1 q2 : Nat) (hd0 : decode c.code pc = .ok (.lcmp, 1)) (h0 : pc + 1 = q0) (hd : decode c.code q0 = .ok (.ifCond .gt o, 3)) (ho : 0 ≤ (q0 : Int) + o) (h1 : ((q0 : Int) + o).toNat = q1) (h2 : q0 + 3 = q2) (Kt : y.toInt < x.toInt → Go p e below Ev T (mkF m q1 Ls st)) (Kf : x.toInt ≤ y.toInt → Go p e below Ev T (mkF m q2 Ls st)) : Go p e below Ev T (mkF m pc Ls (.long y :: .long x :: st)) := by
  have Q := c_lcmp x y
  have C : x.toInt < y.toInt ∨ x.toInt = y.toInt ∨ y.toInt < x.toInt := by omega
  refine g_lcmp X hx q0 hd0 h0 (g_if_gt X hx q1 q2 hd ho h1 h2 (fun hc => Kt ?_) (fun hc => Kf ?_)) <;> (rcases C with C | C | C <;> first | (have := Q.1 C; omega) | (have := Q.2.1 C; omega) | (have := Q.2.2 C; omega))
theorem g_lc_le (X : Stand p l e R s m args below meth c T locs cells slots) (hx : p.tables.exec = Jvm.exec) {pc : Nat} {Ls : Array Slot} {st : List Value} {x y : Int64} {o : Int} (q0 q1 q2 : Nat) (hd0 : decode c.code pc = .ok (.lcmp, 1)) (h0 : pc + 1 = q0) (hd : decode c.code q0 = .ok (.ifCond .le o, 3)) (ho : 0 ≤ (q0 : Int) + o) (h1 : ((q0 : Int) + o).toNat = q1) (h2 : q0 + 3 = q2) (Kt : x.toInt ≤ y.toInt → Go p e below Ev T (mkF m q1 Ls st)) (Kf : y.toInt < x.toInt → Go p e below Ev T (mkF m q2 Ls st)) : Go p e below Ev T (mkF m pc Ls (.long y :: .long x :: st)) := by
  have Q := c_lcmp x y
  have C : x.toInt < y.toInt ∨ x.toInt = y.toInt ∨ y.toInt < x.toInt := by omega
  refine g_lcmp X hx q0 hd0 h0 (g_if_le X hx q1 q2 hd ho h1 h2 (fun hc => Kt ?_) (fun hc => Kf ?_)) <;> (rcases C with C | C | C <;> first | (have := Q.1 C; omega) | (have := Q.2.1 C; omega) | (have := Q.2.2 C; omega))
theorem own_cmpv (i j : Int) (o : CmpOp) : (i < j → (cmpValue (some (compare i j)) o).toInt = -1) ∧ (i = j → (cmpValue (some (compare i j)) o).toInt = 0) ∧ (j < i → (cmpValue (some (compare i j)) o).toInt = 1) := by
  refine ⟨fun q => ?_, fun q => ?_, fun q => ?_⟩
  · rw [show compare i j = .lt from by rw [Jvm.FP.Core.compare_ite]; simp [q]]; cases o <;> rfl
  · rw [show compare i j = .eq from by rw [Jvm.FP.Core.compare_ite]; simp [q]]; cases o <;> rfl
  · rw [show compare i j = .gt from by rw [Jvm.FP.Core.compare_ite]; simp [show ¬ i < j by omega, show ¬ i = j by omega]]; cases o <;> rfl
theorem g_dc_eq (X : Stand p l e R s m args below meth c T locs cells slots) (hx : p.tables.exec = Jvm.exec) {pc : Nat} {Ls : Array Slot} {st : List Value} {x y : UInt64} {oo : CmpOp} {i j : Int} {o : Int} (q0 q1 q2 : Nat) (hd0 : decode c.code pc = .ok (.dcmp oo, 1)) (h0 : pc + 1 = q0) (hd : decode c.code q0 = .ok (.ifCond .eq o, 3)) (ho : 0 ≤ (q0 : Int) + o) (h1 : ((q0 : Int) + o).toNat = q1) (h2 : q0 + 3 = q2) (hv : FP.dcmp x y = some (compare i j)) (Kt : i = j → Go p e below Ev T (mkF m q1 Ls st)) (Kf : i ≠ j → Go p e below Ev T (mkF m q2 Ls st)) : Go p e below Ev T (mkF m pc Ls (.double y :: .double x :: st)) := by
  have Q := own_cmpv i j oo
  have C : i < j ∨ i = j ∨ j < i := by omega
  refine g_dcmp X hx q0 hd0 h0 (by rw [hv]) (g_if_eq X hx q1 q2 hd ho h1 h2 (fun hc => Kt ?_) (fun hc => Kf ?_)) <;> (rcases C with C | C | C <;> first | (have := Q.1 C; omega) | (have := Q.2.1 C; omega) | (have := Q.2.2 C; omega))
theorem g_dc_ne (X : Stand p l e R s m args below meth c T locs cells slots) (hx : p.tables.exec = Jvm.exec) {pc : Nat} {Ls : Array Slot} {st : List Value} {x y : UInt64} {oo : CmpOp} {i j : Int} {o : Int} (q0 q1 q2 : Nat) (hd0 : decode c.code pc = .ok (.dcmp oo, 1)) (h0 : pc + 1 = q0) (hd : decode c.code q0 = .ok (.ifCond .ne o, 3)) (ho : 0 ≤ (q0 : Int) + o) (h1 : ((q0 : Int) + o).toNat = q1) (h2 : q0 + 3 = q2) (hv : FP.dcmp x y = some (compare i j)) (Kt : i ≠ j → Go p e below Ev T (mkF m q1 Ls st)) (Kf : i = j → Go p e below Ev T (mkF m q2 Ls st)) : Go p e below Ev T (mkF m pc Ls (.double y :: .double x :: st)) := by
  have Q := own_cmpv i j oo
  have C : i < j ∨ i = j ∨ j < i := by omega
  refine g_dcmp X hx q0 hd0 h0 (by rw [hv]) (g_if_ne X hx q1 q2 hd ho h1 h2 (fun hc => Kt ?_) (fun hc => Kf ?_)) <;> (rcases C with C | C | C <;> first | (have := Q.1 C; omega) | (have := Q.2.1 C; omega) | (have := Q.2.2 C; omega))
theorem g_dc_lt (X : Stand p l e R s m args below meth c T locs cells slots) (hx : p.tables.exec = Jvm.exec) {pc : Nat} {Ls : Array Slot} {st : List Value} {x y : UInt64} {oo : CmpOp} {i j : Int} {o : Int} (q0 q1 q2 : Nat) (hd0 : decode c.code pc = .ok (.dcmp oo, 1)) (h0 : pc + 1 = q0) (hd : decode c.code q0 = .ok (.ifCond .lt o, 3)) (ho : 0 ≤ (q0 : Int) + o) (h1 : ((q0 : Int) + o).toNat = q1) (h2 : q0 + 3 = q2) (hv : FP.dcmp x y = some (compare i j)) (Kt : i < j → Go p e below Ev T (mkF m q1 Ls st)) (Kf : j ≤ i → Go p e below Ev T (mkF m q2 Ls st)) : Go p e below Ev T (mkF m pc Ls (.double y :: .double x :: st)) := by
  have Q := own_cmpv i j oo
  have C : i < j ∨ i = j ∨ j < i := by omega
  refine g_dcmp X hx q0 hd0 h0 (by rw [hv]) (g_if_lt X hx q1 q2 hd ho h1 h2 (fun hc => Kt ?_) (fun hc => Kf ?_)) <;> (rcases C with C | C | C <;> first | (have := Q.1 C; omega) | (have := Q.2.1 C; omega) | (have := Q.2.2 C; omega))
theorem g_dc_ge (X : Stand p l e R s m args below meth c T locs cells slots) (hx : p.tables.exec = Jvm.exec) {pc : Nat} {Ls : Array Slot} {st : List Value} {x y : UInt64} {oo : CmpOp} {i j : Int} {o : Int} (q0 q1 q2 : Nat) (hd0 : decode c.code pc = .ok (.dcmp oo, 1)) (h0 : pc + 1 = q0) (hd : decode c.code q0 = .ok (.ifCond .ge o, 3)) (ho : 0 ≤ (q0 : Int) + o) (h1 : ((q0 : Int) + o).toNat = q1) (h2 : q0 + 3 = q2) (hv : FP.dcmp x y = some (compare i j)) (Kt : j ≤ i → Go p e below Ev T (mkF m q1 Ls st)) (Kf : i < j → Go p e below Ev T (mkF m q2 Ls st)) : Go p e below Ev T (mkF m pc Ls (.double y :: .double x :: st)) := by
  have Q := own_cmpv i j oo
  have C : i < j ∨ i = j ∨ j < i := by omega
  refine g_dcmp X hx q0 hd0 h0 (by rw [hv]) (g_if_ge X hx q1 q2 hd ho h1 h2 (fun hc => Kt ?_) (fun hc => Kf ?_)) <;> (rcases C with C | C | C <;> first | (have := Q.1 C; omega) | (have := Q.2.1 C; omega) | (have := Q.2.2 C; omega))
theorem g_dc_gt (X : Stand p l e R s m args below meth c T locs cells slots) (hx : p.tables.exec = Jvm.exec) {pc : Nat} {Ls : Array Slot} {st : List Value} {x y : UInt64} {oo : CmpOp} {i j : Int} {o : Int} (q0 q1 q2 : Nat) (hd0 : decode c.code pc = .ok (.dcmp oo, 1)) (h0 : pc + 1 = q0) (hd : decode c.code q0 = .ok (.ifCond .gt o, 3)) (ho : 0 ≤ (q0 : Int) + o) (h1 : ((q0 : Int) + o).toNat = q1) (h2 : q0 + 3 = q2) (hv : FP.dcmp x y = some (compare i j)) (Kt : j < i → Go p e below Ev T (mkF m q1 Ls st)) (Kf : i ≤ j → Go p e below Ev T (mkF m q2 Ls st)) : Go p e below Ev T (mkF m pc Ls (.double y :: .double x :: st)) := by
  have Q := own_cmpv i j oo
  have C : i < j ∨ i = j ∨ j < i := by omega
  refine g_dcmp X hx q0 hd0 h0 (by rw [hv]) (g_if_gt X hx q1 q2 hd ho h1 h2 (fun hc => Kt ?_) (fun hc => Kf ?_)) <;> (rcases C with C | C | C <;> first | (have := Q.1 C; omega) | (have := Q.2.1 C; omega) | (have := Q.2.2 C; omega))
theorem g_dc_le (X : Stand p l e R s m args below meth c T locs cells slots) (hx : p.tables.exec = Jvm.exec) {pc : Nat} {Ls : Array Slot} {st : List Value} {x y : UInt64} {oo : CmpOp} {i j : Int} {o : Int} (q0 q1 q2 : Nat) (hd0 : decode c.code pc = .ok (.dcmp oo, 1)) (h0 : pc + 1 = q0) (hd : decode c.code q0 = .ok (.ifCond .le o, 3)) (ho : 0 ≤ (q0 : Int) + o) (h1 : ((q0 : Int) + o).toNat = q1) (h2 : q0 + 3 = q2) (hv : FP.dcmp x y = some (compare i j)) (Kt : i ≤ j → Go p e below Ev T (mkF m q1 Ls st)) (Kf : j < i → Go p e below Ev T (mkF m q2 Ls st)) : Go p e below Ev T (mkF m pc Ls (.double y :: .double x :: st)) := by
  have Q := own_cmpv i j oo
  have C : i < j ∨ i = j ∨ j < i := by omega
  refine g_dcmp X hx q0 hd0 h0 (by rw [hv]) (g_if_le X hx q1 q2 hd ho h1 h2 (fun hc => Kt ?_) (fun hc => Kf ?_)) <;> (rcases C with C | C | C <;> first | (have := Q.1 C; omega) | (have := Q.2.1 C; omega) | (have := Q.2.2 C; omega))
theorem g_ifnull_t (X : Stand p l e R s m args below meth c T locs cells slots) (hx : p.tables.exec = Jvm.exec) {pc : Nat} {Ls : Array Slot} {st : List Value} {o : Int} (q : Nat) (hd : decode c.code pc = .ok (.ifnull o, 3)) (ho : 0 ≤ (pc : Int) + o) (h1 : ((pc : Int) + o).toNat = q) (K : Go p e below Ev T (mkF m q Ls st)) : Go p e below Ev T (mkF m pc Ls (.null :: st)) :=
  K.on fun _ k => XS.ifnullYes X.here hx rfl rfl hd rfl ho h1 k
theorem g_ifnull_f (X : Stand p l e R s m args below meth c T locs cells slots) (hx : p.tables.exec = Jvm.exec) {pc : Nat} {Ls : Array Slot} {st : List Value} {o : Int} {b : Addr} (q : Nat) (hd : decode c.code pc = .ok (.ifnull o, 3)) (h1 : pc + 3 = q) (K : Go p e below Ev T (mkF m q Ls st)) : Go p e below Ev T (mkF m pc Ls (.ref b :: st)) := by
  subst h1
  exact K.on fun _ k => XS.ifnullNo X.here hx rfl hd rfl k
theorem g_ifnonnull_t (X : Stand p l e R s m args below meth c T locs cells slots) (hx : p.tables.exec = Jvm.exec) {pc : Nat} {Ls : Array Slot} {st : List Value} {o : Int} {b : Addr} (q : Nat) (hd : decode c.code pc = .ok (.ifnonnull o, 3)) (ho : 0 ≤ (pc : Int) + o) (h1 : ((pc : Int) + o).toNat = q) (K : Go p e below Ev T (mkF m q Ls st)) : Go p e below Ev T (mkF m pc Ls (.ref b :: st)) :=
  K.on fun _ k => XS.ifnonnullYes X.here hx rfl rfl hd rfl ho h1 k
theorem g_ifnonnull_f (X : Stand p l e R s m args below meth c T locs cells slots) (hx : p.tables.exec = Jvm.exec) {pc : Nat} {Ls : Array Slot} {st : List Value} {o : Int} (q : Nat) (hd : decode c.code pc = .ok (.ifnonnull o, 3)) (h1 : pc + 3 = q) (K : Go p e below Ev T (mkF m q Ls st)) : Go p e below Ev T (mkF m pc Ls (.null :: st)) := by
  subst h1
  exact K.on fun _ k => XS.ifnonnullNo X.here hx rfl hd rfl k
theorem g_new (X : Stand p l e R s m args below meth c T locs cells slots) (hx : p.tables.exec = Jvm.exec) {pc : Nat} {Ls : Array Slot} {st : List Value} (hZ : Z.Warmed39 s.vm) {own C : String} {i n : Nat} (hown : s.vm.findClass own = some m.cls) (w : (Jvm.Cond.classLink own i C).before a0 Z = true) (wi : (Jvm.Cond.instantiable C n).before a0 Z = true) (wz : (Jvm.Cond.initialized C).before a0 Z = true) (eT : T.heap = h) (q : Nat) (hd : decode c.code pc = .ok (.new i, 3)) (hq : pc + 3 = q) (hc : cells + 1 ≤ R.cells) (hl : slots + n ≤ R.slots)
    (K : ∀ (T' : State) (h' : Heap) (a : Addr), a = h.size → Stand p l e R s m args below meth c T' locs (cells + 1) (slots + n) → T'.heap = h' → Ext h h' → Exa Z h' a C → (∀ {O nm d : String} {ty : FieldType}, Laid Z a0 C O nm d → parseFieldDescriptor d = some ty → Fld Z h' a O nm d (defaultValue ty)) → Go p e below Ev T' (mkF m q Ls (.ref a :: st))) : Go p e below Ev T (mkF m pc Ls st) := by
  subst hq
  obtain ⟨T', h', X', e', E', A', D', -, st'⟩ := newO X hx hZ hown w wi wz eT (g := mkF m pc Ls st) rfl hd hc hl
  exact (K T' h' _ rfl X' e' E' A' D').on st'
theorem g_getF (X : Stand p l e R s m args below meth c T locs cells slots) (hx : p.tables.exec = Jvm.exec) {pc : Nat} {Ls : Array Slot} {st : List Value} (hZ : Z.Warmed39 s.vm) {own R0 O n d : String} {i : Nat} (hown : s.vm.findClass own = some m.cls) (w : (Jvm.Cond.fieldLink own i R0 n d).before a0 Z = true) (via : Via Z R0 O n d) (eT : T.heap = h) {a : Addr} {v : Value} (F : Fld Z h a O n d v) (q : Nat) (hd : decode c.code pc = .ok (.getfield i, 3)) (hq : pc + 3 = q) (K : ∀ T', Stand p l e R s m args below meth c T' locs cells slots → T'.heap = h → Go p e below Ev T' (mkF m q Ls (v :: st))) : Go p e below Ev T (mkF m pc Ls (.ref a :: st)) := by
  subst hq
  obtain ⟨T', X', e', st'⟩ := getF X hx hZ hown (host := "") (Or.inl w) via eT F (g := mkF m pc Ls (.ref a :: st)) rfl rfl hd
  exact (K T' X' e').on st'
theorem g_putF (X : Stand p l e R s m args below meth c T locs cells slots) (hx : p.tables.exec = Jvm.exec) {pc : Nat} {Ls : Array Slot} {st : List Value} (hZ : Z.Warmed39 s.vm) {own R0 O n d C : String} {i kk : Nat} {ty : FieldType} (hown : s.vm.findClass own = some m.cls) (w : (Jvm.Cond.fieldLink own i R0 n d).before a0 Z = true) (via : Via Z R0 O n d) (eT : T.heap = h) {a : Addr} {v old : Value} (F : Fld Z h a O n d old) (E : Exa Z h a C) (L : (Jvm.Cond.lays C O n d).before a0 Z = true ∨ ((Jvm.Cond.laysFinal C O n d).before a0 Z = true ∧ own = O ∧ meth.name = "<init>")) (wi : (Jvm.Cond.instantiable C kk).before a0 Z = true) (hty : parseFieldDescriptor d = some ty) (hn : narrow ty v = v) (hf : fits ty v = true) (q : Nat) (hd : decode c.code pc = .ok (.putfield i, 3)) (hq : pc + 3 = q)
    (K : ∀ T' h', Stand p l e R s m args below meth c T' (locs ++ [⟨a, Jvm.RoadKit.slotOf Z O n d⟩]) cells slots → T'.heap = h' → Wr h h' a (Jvm.RoadKit.slotOf Z O n d) v → Go p e below Ev T' (mkF m q Ls st)) : Go p e below Ev T (mkF m pc Ls (v :: .ref a :: st)) := by
  subst hq
  obtain ⟨T', h', X', e', W', st'⟩ := putF X hx hZ hown (host := "") (Or.inl w) via eT F E L wi hty hn hf (g := mkF m pc Ls (v :: .ref a :: st)) rfl rfl hd
  exact (K T' h' X' e' W').on st'
theorem g_objinit (X : Stand p l e R s m args below meth c T locs cells slots) (hx : p.tables.exec = Jvm.exec) {pc : Nat} {Ls : Array Slot} {st : List Value} (hZ : Z.Warmed39 s.vm) {own : String} {i : Nat} (hown : s.vm.findClass own = some m.cls) (w1 : (Jvm.Cond.methodLink own i ⟨"java/lang/Object", "<init>", "()V"⟩).before a0 Z = true) (w2 : (Jvm.Cond.instanceMethod ⟨"java/lang/Object", "<init>", "()V"⟩).before a0 Z = true) (w3 : (Jvm.Cond.code ⟨"java/lang/Object", "<init>", "()V"⟩ object_method_1_code 1 none).before a0 Z = true) (eT : T.heap = h) {a : Addr} (W : Nat) (q : Nat) (hd : decode c.code pc = .ok (.invokespecial i, 3)) (hq : pc + 3 = q) (hsz : Ls.size = c.maxLocals) (hf : 1 ≤ R.frames) (hW : (st.map fun v => v.category).sum ≤ W) (hl : W + 12 ≤ R.locals) (K : ∀ T', Stand p l e R s m args below meth c T' locs cells slots → T'.heap = h → Go p e below Ev T' (mkF m q Ls st)) : Go p e below Ev T (mkF m pc Ls (.ref a :: st)) := by
  subst hq
  obtain ⟨T', X', e', st'⟩ := initO X hx hZ hown w1 w2 w3 eT (g := mkF m pc Ls (.ref a :: st)) rfl hsz rfl hd hf (W := W) (by show 2 * 0 + _ ≤ _; omega) hl
  exact (K T' X' e').on st'
theorem g_static (X : Stand p l e R s m args below meth c T locs cells slots) (hx : p.tables.exec = Jvm.exec) {pc : Nat} {Ls : Array Slot} {st : List Value} (hZ : Z.Warmed39 s.vm) {own : String} {i : Nat} {y : MethodName} {bytes : ByteArray} {maxL : Nat} {ret : Option FieldType} {rm : Room} {as' : Array Value} {Q : Option Value → Heap → List Loc → Prop} {argsL rest : List Value} (hown : s.vm.findClass own = some m.cls) (w1 : (Jvm.Cond.methodLink own i y).before a0 Z = true) (w2 : (Jvm.Cond.static y).before a0 Z = true) (w3 : (Jvm.Cond.initialized y.cls).before a0 Z = true) (w4 : (Jvm.Cond.code y bytes maxL ret).before a0 Z = true) (hy : y.cls ≠ "java/lang/invoke/MethodHandle" ∧ y.cls ≠ "java/lang/invoke/VarHandle") (hM : MetFree l y (head1 [Jvm.Cond.code y bytes maxL ret] rm) (fun a U => a = as' ∧ Z.Warmed39 U.vm ∧ U.heap = h) (fun _ _ _ _ _ => True) (fun _ U o U' => ∃ v L, o = .returned v ∧ Q v U'.heap L ∧ FrameEnd U o U' L rm.cells rm.slots)) (eT : T.heap = h) (hst : st = argsL.reverse ++ rest) (has : argsL.toArray = as') (W : Nat) (q : Nat) (hq : pc + 3 = q) (hsz : Ls.size = c.maxLocals) (hlen : ∀ sig, parseMethodDescriptor y.desc = some sig → argsL.length = sig.parameters.length) (hW : (rest.map fun v => v.category).sum ≤ W) (hf : rm.frames + 1 ≤ R.frames) (hl : W + (maxL + 11) + rm.locals ≤ R.locals) (hc : cells + rm.cells ≤ R.cells) (hs : slots + rm.slots ≤ R.slots) (hd : decode c.code pc = .ok (.invokestatic i, 3))
    (K : ∀ (v : Option Value) (T' : State) (L : List Loc), Stand p l e R s m args below meth c T' (locs ++ L) (cells + rm.cells) (slots + rm.slots) → Q v T'.heap L → Go p e below Ev T' (mkF m q Ls (v.toList ++ rest))) : Go p e below Ev T (mkF m pc Ls st) := by
  subst hq hst
  obtain ⟨v, vm1, ⟨T', L', k', n'⟩, -, X', ⟨L, hQ, l', y', z'⟩, st'⟩ := Jvm.LawKit.callS X hx hown (mvT hZ w1) (mvT hZ w2) (mvT hZ w3) (mvT hZ w4) hy (backOf (W := W) hM hZ w4 w3 hf hl) (g := mkF m pc Ls (argsL.reverse ++ rest)) rfl hsz (argsL := argsL) (rest := rest) hlen rfl (by show 2 * 0 + _ ≤ _; omega) hd (fun _ _ => ⟨has, eT, hc, hs⟩)
  dsimp only [Pt.U, Pt.locs, Pt.cells, Pt.slots] at X' l' y' z' st' hQ
  subst l' y' z'
  exact (K v T' L X' hQ).on fun t k => st' t k
theorem g_init (X : Stand p l e R s m args below meth c T locs cells slots) (hx : p.tables.exec = Jvm.exec) {pc : Nat} {Ls : Array Slot} {st : List Value} (hZ : Z.Warmed39 s.vm) {own : String} {i : Nat} {y : MethodName} {bytes : ByteArray} {maxL : Nat} {rm : Room} {as' : Array Value} {Q : Option Value → Heap → List Loc → Prop} {argsL rest : List Value} (hy1 : y.name = "<init>") (hown : s.vm.findClass own = some m.cls) (w1 : (Jvm.Cond.methodLink own i y).before a0 Z = true) (w2 : (Jvm.Cond.instanceMethod y).before a0 Z = true) (w3 : (Jvm.Cond.initialized y.cls).before a0 Z = true) (w4 : (Jvm.Cond.code y bytes maxL none).before a0 Z = true) (hy : y.cls ≠ "java/lang/invoke/MethodHandle" ∧ y.cls ≠ "java/lang/invoke/VarHandle") (hM : MetFree l y (head1 [Jvm.Cond.code y bytes maxL none] rm) (fun a U => a = as' ∧ Z.Warmed39 U.vm ∧ U.heap = h) (fun _ _ _ _ _ => True) (fun _ U o U' => ∃ v L, o = .returned v ∧ Q v U'.heap L ∧ FrameEnd U o U' L rm.cells rm.slots)) (eT : T.heap = h) {a : Addr} (hst : st = argsL.reverse ++ .ref a :: rest) (has : (.ref a :: argsL).toArray = as') (W : Nat) (q : Nat) (hq : pc + 3 = q) (hsz : Ls.size = c.maxLocals) (hlen : ∀ sig, parseMethodDescriptor y.desc = some sig → argsL.length = sig.parameters.length) (hW : (rest.map fun v => v.category).sum ≤ W) (hf : rm.frames + 1 ≤ R.frames) (hl : W + (maxL + 11) + rm.locals ≤ R.locals) (hc : cells + rm.cells ≤ R.cells) (hs : slots + rm.slots ≤ R.slots) (hd : decode c.code pc = .ok (.invokespecial i, 3))
    (K : ∀ (v : Option Value) (T' : State) (L : List Loc), Stand p l e R s m args below meth c T' (locs ++ L) (cells + rm.cells) (slots + rm.slots) → Q v T'.heap L → Go p e below Ev T' (mkF m q Ls (v.toList ++ rest))) : Go p e below Ev T (mkF m pc Ls st) := by
  subst hq hst
  obtain ⟨v, vm1, ⟨T', L', k', n'⟩, -, X', ⟨L, hQ, l', y', z'⟩, st'⟩ := X.specialBack hx hy1 hown (mvT hZ w1) (mvT hZ w2) (mvT hZ w4) hy (backOf (W := W) hM hZ w4 w3 hf hl) (g := mkF m pc Ls (argsL.reverse ++ .ref a :: rest)) rfl hsz (Steps.refl _) (a := a) (argsL := argsL) (rest := rest) hlen rfl (by show 2 * 0 + _ ≤ _; omega) hd (fun _ _ => ⟨has, eT, hc, hs⟩)
  dsimp only [Pt.U, Pt.locs, Pt.cells, Pt.slots] at X' l' y' z' st' hQ
  subst l' y' z'
  exact (K v T' L X' hQ).on fun t k => st'.trans k
theorem g_virt (X : Stand p l e R s m args below meth c T locs cells slots) (hx : p.tables.exec = Jvm.exec) {pc : Nat} {Ls : Array Slot} {st : List Value} (hZ : Z.Warmed39 s.vm) {own : String} {i : Nat} {y z : MethodName} {C : String} {bytes : ByteArray} {maxL : Nat} {ret : Option FieldType} {rm : Room} {as' : Array Value} {Q : Option Value → Heap → List Loc → Prop} {argsL rest : List Value} (hown : s.vm.findClass own = some m.cls) (w1 : (Jvm.Cond.methodLink own i y).before a0 Z = true) (w2 : (Jvm.Cond.declares y).before a0 Z = true) (w5 : (Jvm.Cond.selects y.cls y y).before a0 Z = true) (w6 : (Jvm.Cond.selects C y z).before a0 Z = true) (w7 : (Jvm.Cond.instanceMethod z).before a0 Z = true) (w3 : (Jvm.Cond.initialized z.cls).before a0 Z = true) (w4 : (Jvm.Cond.code z bytes maxL ret).before a0 Z = true) (hy : y.cls ≠ "java/lang/invoke/MethodHandle" ∧ y.cls ≠ "java/lang/invoke/VarHandle") (hM : MetFree l z (head1 [Jvm.Cond.code z bytes maxL ret] rm) (fun a U => a = as' ∧ Z.Warmed39 U.vm ∧ U.heap = h) (fun _ _ _ _ _ => True) (fun _ U o U' => ∃ v L, o = .returned v ∧ Q v U'.heap L ∧ FrameEnd U o U' L rm.cells rm.slots)) (eT : T.heap = h) {b : Addr} (E : Exa Z h b C) (hst : st = argsL.reverse ++ .ref b :: rest) (has : (.ref b :: argsL).toArray = as') (W : Nat) (q : Nat) (hq : pc + 3 = q) (hsz : Ls.size = c.maxLocals) (hlen : ∀ sig, parseMethodDescriptor y.desc = some sig → argsL.length = sig.parameters.length) (hW : (rest.map fun v => v.category).sum ≤ W) (hf : rm.frames + 1 ≤ R.frames) (hl : W + (maxL + 11) + rm.locals ≤ R.locals) (hc : cells + rm.cells ≤ R.cells) (hs : slots + rm.slots ≤ R.slots) (hd : decode c.code pc = .ok (.invokevirtual i, 3))
    (K : ∀ (v : Option Value) (T' : State) (L : List Loc), Stand p l e R s m args below meth c T' (locs ++ L) (cells + rm.cells) (slots + rm.slots) → Q v T'.heap L → Go p e below Ev T' (mkF m q Ls (v.toList ++ rest))) : Go p e below Ev T (mkF m pc Ls st) := by
  subst hq hst
  obtain ⟨cq, kq, qa, qb, qc⟩ := isOf hZ eT E
  obtain ⟨v, vm1, ⟨T', L', k', n'⟩, -, X', ⟨L, hQ, l', y', z'⟩, st'⟩ := X.virtualBack hx hown (mvT hZ w1) (mvT hZ w2) (notFace_of_selects (args := #[]) (mvT hZ w5)) (mvT hZ w6) (mvT hZ w7) hy (backOf (W := W) hM hZ w4 w3 hf hl) qa qc (g := mkF m pc Ls (argsL.reverse ++ .ref b :: rest)) rfl hsz (Steps.refl _) (argsL := argsL) (rest := rest) hlen rfl (by show 2 * 0 + _ ≤ _; omega) hd (fun _ _ => ⟨has, eT, hc, hs⟩)
  dsimp only [Pt.U, Pt.locs, Pt.cells, Pt.slots] at X' l' y' z' st' hQ
  subst l' y' z'
  exact (K v T' L X' hQ).on fun t k => st'.trans k
theorem own_at {n : Nat} (j : Int32) (h0 : 0 ≤ j.toInt) (z : Int32) (h1 : j.toInt < z.toInt) (S : n = z.toNatClampNeg) : ¬ (j < 0 ∨ n ≤ j.toNatClampNeg) := by
  subst S
  intro q
  rcases q with q | q
  · have := (own_i0 j).1.mp q; omega
  · simp only [Int32.toNatClampNeg] at q; omega
theorem own_ncl {j : Int32} {k : Nat} (h : j.toInt = (k : Int)) : j.toNatClampNeg = k := by simp only [Int32.toNatClampNeg]; omega
theorem g_newP (X : Stand p l e R s m args below meth c T locs cells slots) (hx : p.tables.exec = Jvm.exec) {pc : Nat} {Ls : Array Slot} {st : List Value} (hZ : Z.Warmed39 s.vm) {aty : ArrayType} (w : (Jvm.Cond.arrayClass (newarray.typeOf aty)).before a0 Z = true) (eT : T.heap = h) {n : Int32} (hn : 0 ≤ n.toInt) {cap : Nat} (hcap : n.toInt ≤ cap) (hb : cap * 8 ≤ 536870912) (q : Nat) (hd : decode c.code pc = .ok (.newarray aty, 2)) (hq : pc + 2 = q) (hc : cells + 1 ≤ R.cells) (hl : slots + cap ≤ R.slots) {ad : String} (had : "[" ++ (newarray.typeOf aty).toString = ad)
    (K : ∀ (T' : State) (h' : Heap) (k : ClassId) (a : Addr), a = h.size → Stand p l e R s m args below meth c T' locs (cells + 1) (slots + cap) → T'.heap = h' → Ext h h' → Arv Z h' a k (newarray.typeOf aty) n [] (defaultValue (newarray.typeOf aty)) → Exa Z h' a ad → Go p e below Ev T' (mkF m q Ls (.ref a :: st))) : Go p e below Ev T (mkF m pc Ls (.int n :: st)) := by
  subst hq
  have hn' : ¬ n < 0 := fun q => by have := (own_i0 n).1.mp q; omega
  obtain ⟨T', h', k, X', e', E', A', B', st'⟩ := newPE X hx hZ w eT (g := mkF m pc Ls (.int n :: st)) rfl hd rfl hn' (cap := cap) (by simp only [Int32.toNatClampNeg]; omega) hb hc hl had
  exact (K T' h' k _ rfl X' e' E' (Arv.new A' hn') B').on st'
theorem g_len (X : Stand p l e R s m args below meth c T locs cells slots) (hx : p.tables.exec = Jvm.exec) {pc : Nat} {Ls : Array Slot} {st : List Value} (hZ : Z.Warmed39 s.vm) (eT : T.heap = h) {a : Addr} {k : ClassId} {ty : FieldType} {z : Int32} {vs : List Value} {dv : Value} (V : Arv Z h a k ty z vs dv) (q : Nat) (hd : decode c.code pc = .ok (.arraylength, 1)) (hq : pc + 1 = q) (K : Go p e below Ev T (mkF m q Ls (.int z :: st))) : Go p e below Ev T (mkF m pc Ls (.ref a :: st)) := by
  subst hq
  obtain ⟨cl, A, q1, S, q3, H, G⟩ := V
  refine K.on fun t k => X.arraylength hx (by rw [eT]; exact A.1) (State.isArrayOf_alike hZ.alike A.2.1) (g := mkF m pc Ls (.ref a :: st)) rfl rfl hd t ?_
  rw [len_of S q3]
  exact k
theorem g_dastore (X : Stand p l e R s m args below meth c T locs cells slots) (hx : p.tables.exec = Jvm.exec) {pc : Nat} {Ls : Array Slot} {st : List Value} (hZ : Z.Warmed39 s.vm) (eT : T.heap = h) {a : Addr} {k : ClassId} {z j : Int32} {x : UInt64} {vs : List Value} {dv : Value} (V : Arv Z h a k .double z vs dv) (i : Nat) (hi : j.toInt = (i : Int)) (hz : j.toInt < z.toInt) (hv : i < vs.length) (q : Nat) (hd : decode c.code pc = .ok (.dastore, 1)) (hq : pc + 1 = q)
    (K : ∀ T' h', Stand p l e R s m args below meth c T' (locs ++ [⟨a, j.toNatClampNeg⟩]) cells slots → T'.heap = h' → Wr h h' a j.toNatClampNeg (.double x) → Arv Z h' a k .double z (vs.set i (.double x)) dv → Go p e below Ev T' (mkF m q Ls st)) : Go p e below Ev T (mkF m pc Ls (.double x :: .int j :: .ref a :: st)) := by
  subst hq
  obtain ⟨cl, A, q1, S, q3, H, G⟩ := V
  have hj := own_at j (by omega) z hz S
  obtain ⟨T', h', X', e', W', st'⟩ := stD X hx hZ eT A hj (g := mkF m pc Ls (.double x :: .int j :: .ref a :: st)) rfl rfl hd
  exact (K T' h' X' e' W' (Arv.set A q1 S q3 H G rfl W' i (own_ncl hi) hv)).on st'
theorem g_iastore (X : Stand p l e R s m args below meth c T locs cells slots) (hx : p.tables.exec = Jvm.exec) {pc : Nat} {Ls : Array Slot} {st : List Value} (hZ : Z.Warmed39 s.vm) (eT : T.heap = h) {a : Addr} {k : ClassId} {z j : Int32} {x : Int32} {vs : List Value} {dv : Value} (V : Arv Z h a k .int z vs dv) (i : Nat) (hi : j.toInt = (i : Int)) (hz : j.toInt < z.toInt) (hv : i < vs.length) (q : Nat) (hd : decode c.code pc = .ok (.iastore, 1)) (hq : pc + 1 = q)
    (K : ∀ T' h', Stand p l e R s m args below meth c T' (locs ++ [⟨a, j.toNatClampNeg⟩]) cells slots → T'.heap = h' → Wr h h' a j.toNatClampNeg (.int x) → Arv Z h' a k .int z (vs.set i (.int x)) dv → Go p e below Ev T' (mkF m q Ls st)) : Go p e below Ev T (mkF m pc Ls (.int x :: .int j :: .ref a :: st)) := by
  subst hq
  obtain ⟨cl, A, q1, S, q3, H, G⟩ := V
  have hj := own_at j (by omega) z hz S
  obtain ⟨T', h', X', e', W', st'⟩ := stI X hx hZ eT A hj (g := mkF m pc Ls (.int x :: .int j :: .ref a :: st)) rfl rfl hd
  exact (K T' h' X' e' W' (Arv.set A q1 S q3 H G rfl W' i (own_ncl hi) hv)).on st'
theorem g_lastore (X : Stand p l e R s m args below meth c T locs cells slots) (hx : p.tables.exec = Jvm.exec) {pc : Nat} {Ls : Array Slot} {st : List Value} (hZ : Z.Warmed39 s.vm) (eT : T.heap = h) {a : Addr} {k : ClassId} {z j : Int32} {x : Int64} {vs : List Value} {dv : Value} (V : Arv Z h a k .long z vs dv) (i : Nat) (hi : j.toInt = (i : Int)) (hz : j.toInt < z.toInt) (hv : i < vs.length) (q : Nat) (hd : decode c.code pc = .ok (.lastore, 1)) (hq : pc + 1 = q)
    (K : ∀ T' h', Stand p l e R s m args below meth c T' (locs ++ [⟨a, j.toNatClampNeg⟩]) cells slots → T'.heap = h' → Wr h h' a j.toNatClampNeg (.long x) → Arv Z h' a k .long z (vs.set i (.long x)) dv → Go p e below Ev T' (mkF m q Ls st)) : Go p e below Ev T (mkF m pc Ls (.long x :: .int j :: .ref a :: st)) := by
  subst hq
  obtain ⟨cl, A, q1, S, q3, H, G⟩ := V
  have hj := own_at j (by omega) z hz S
  obtain ⟨T', h', X', e', W', st'⟩ := stJ X hx hZ eT A hj (g := mkF m pc Ls (.long x :: .int j :: .ref a :: st)) rfl rfl hd
  exact (K T' h' X' e' W' (Arv.set A q1 S q3 H G rfl W' i (own_ncl hi) hv)).on st'
theorem g_daload (X : Stand p l e R s m args below meth c T locs cells slots) (hx : p.tables.exec = Jvm.exec) {pc : Nat} {Ls : Array Slot} {st : List Value} (hZ : Z.Warmed39 s.vm) (eT : T.heap = h) {a : Addr} {k : ClassId} {z j : Int32} {v : Value} {vs : List Value} {dv : Value} (V : Arv Z h a k .double z vs dv) (hi : 0 ≤ j.toInt) (hz : j.toInt < z.toInt) (hv : vs.getD j.toNatClampNeg dv = v) (q : Nat) (hd : decode c.code pc = .ok (.daload, 1)) (hq : pc + 1 = q) (K : Go p e below Ev T (mkF m q Ls (v :: st))) : Go p e below Ev T (mkF m pc Ls (.int j :: .ref a :: st)) := by
  subst hq
  obtain ⟨cl, A, q1, S, q3, H, G⟩ := V
  have hj := own_at j hi z hz S
  exact K.on fun t k => X.daload hx (by rw [eT]; exact A.1) (State.isArrayOf_alike hZ.alike A.2.1) A.2.2 hj (H.at hj hv) (g := mkF m pc Ls (.int j :: .ref a :: st)) rfl rfl hd t k
theorem g_iaload (X : Stand p l e R s m args below meth c T locs cells slots) (hx : p.tables.exec = Jvm.exec) {pc : Nat} {Ls : Array Slot} {st : List Value} (hZ : Z.Warmed39 s.vm) (eT : T.heap = h) {a : Addr} {k : ClassId} {z j : Int32} {v : Value} {vs : List Value} {dv : Value} (V : Arv Z h a k .int z vs dv) (hi : 0 ≤ j.toInt) (hz : j.toInt < z.toInt) (hv : vs.getD j.toNatClampNeg dv = v) (q : Nat) (hd : decode c.code pc = .ok (.iaload, 1)) (hq : pc + 1 = q) (K : Go p e below Ev T (mkF m q Ls (v :: st))) : Go p e below Ev T (mkF m pc Ls (.int j :: .ref a :: st)) := by
  subst hq
  obtain ⟨cl, A, q1, S, q3, H, G⟩ := V
  have hj := own_at j hi z hz S
  exact K.on fun t k => X.iaload hx (by rw [eT]; exact A.1) (State.isArrayOf_alike hZ.alike A.2.1) A.2.2 hj (H.at hj hv) (g := mkF m pc Ls (.int j :: .ref a :: st)) rfl rfl hd t k
theorem g_laload (X : Stand p l e R s m args below meth c T locs cells slots) (hx : p.tables.exec = Jvm.exec) {pc : Nat} {Ls : Array Slot} {st : List Value} (hZ : Z.Warmed39 s.vm) (eT : T.heap = h) {a : Addr} {k : ClassId} {z j : Int32} {v : Value} {vs : List Value} {dv : Value} (V : Arv Z h a k .long z vs dv) (hi : 0 ≤ j.toInt) (hz : j.toInt < z.toInt) (hv : vs.getD j.toNatClampNeg dv = v) (q : Nat) (hd : decode c.code pc = .ok (.laload, 1)) (hq : pc + 1 = q) (K : Go p e below Ev T (mkF m q Ls (v :: st))) : Go p e below Ev T (mkF m pc Ls (.int j :: .ref a :: st)) := by
  subst hq
  obtain ⟨cl, A, q1, S, q3, H, G⟩ := V
  have hj := own_at j hi z hz S
  exact K.on fun t k => X.laload hx (by rw [eT]; exact A.1) (State.isArrayOf_alike hZ.alike A.2.1) A.2.2 hj (H.at hj hv) (g := mkF m pc Ls (.int j :: .ref a :: st)) rfl rfl hd t k
theorem g_clone (X : Stand p l e R s m args below meth c T locs cells slots) (hx : p.tables.exec = Jvm.exec) {pc : Nat} {Ls : Array Slot} {st : List Value} (hZ : Z.Warmed39 s.vm) {own ad : String} {i : Nat} (hown : s.vm.findClass own = some m.cls) (w1 : (Jvm.Cond.methodLink own i ⟨ad, "clone", "()Ljava/lang/Object;"⟩).before a0 Z = true) (w2 : (Jvm.Cond.sameMethod ad "java/lang/Object" "clone" "()Ljava/lang/Object;").before a0 Z = true) (w3 : (Jvm.Cond.native ⟨"java/lang/Object", "clone", "()Ljava/lang/Object;"⟩).before a0 Z = true) (w4 : (Jvm.Cond.instanceMethod ⟨"java/lang/Object", "clone", "()Ljava/lang/Object;"⟩).before a0 Z = true) (w5 : (Jvm.Cond.selects ad ⟨ad, "clone", "()Ljava/lang/Object;"⟩ ⟨"java/lang/Object", "clone", "()Ljava/lang/Object;"⟩).before a0 Z = true) (w6 : (Jvm.Cond.castable ad "java/lang/Cloneable").before a0 Z = true) (eT : T.heap = h) {a : Addr} {k : ClassId} {ty : FieldType} {z : Int32} {vs : List Value} {dv : Value} (V : Arv Z h a k ty z vs dv) (E : Exa Z h a ad) (W cap : Nat) (q : Nat) (hd : decode c.code pc = .ok (.invokevirtual i, 3)) (hq : pc + 3 = q) (hsz : Ls.size = c.maxLocals) (hf : 1 ≤ R.frames) (hW : (st.map fun v => v.category).sum ≤ W) (hl : W + 14 ≤ R.locals) (hcap : z.toInt ≤ cap) (hc : cells + 1 ≤ R.cells) (hs : slots + cap ≤ R.slots)
    (K : ∀ (T' : State) (h' : Heap) (b : Addr), b = h.size → Stand p l e R s m args below meth c T' locs (cells + 1) (slots + cap) → T'.heap = h' → Ext h h' → Arv Z h' b k ty z vs dv → Exa Z h' b ad → Go p e below Ev T' (mkF m q Ls (.ref b :: st))) : Go p e below Ev T (mkF m pc Ls (.ref a :: st)) := by
  subst hq
  obtain ⟨T', h', X', e', E', V', B', st'⟩ := cloneH X hx hZ hown w1 w2 w3 w4 w5 w6 eT V.arh E (g := mkF m pc Ls (.ref a :: st)) rfl hsz rfl hd hf (W := W) (cap := cap) (by show 2 * 0 + _ ≤ _; omega) hl (by simp only [Int32.toNatClampNeg]; omega) hc hs
  exact (K T' h' _ rfl X' e' E' V' B').on st'
theorem g_cast (X : Stand p l e R s m args below meth c T locs cells slots) (hx : p.tables.exec = Jvm.exec) {pc : Nat} {Ls : Array Slot} {st : List Value} (hZ : Z.Warmed39 s.vm) {own C : String} {i : Nat} (hown : s.vm.findClass own = some m.cls) (w : (Jvm.Cond.classLink own i C).before a0 Z = true) (eT : T.heap = h) {a : Addr} (F : Ins Z h a C true) (q : Nat) (hd : decode c.code pc = .ok (.checkcast i, 3)) (hq : pc + 3 = q) (K : ∀ T', Stand p l e R s m args below meth c T' locs cells slots → T'.heap = h → Go p e below Ev T' (mkF m q Ls (.ref a :: st))) : Go p e below Ev T (mkF m pc Ls (.ref a :: st)) := by
  subst hq
  obtain ⟨T', X', e', st'⟩ := castY X hx hZ hown w eT F (g := mkF m pc Ls (.ref a :: st)) rfl rfl hd
  exact (K T' X' e').on st'
end OwnKit
theorem own_pd0 : parseMethodDescriptor "(DI)V" = some ⟨[.double, .int], none⟩ := by decide +kernel
theorem own_pd1 : parseMethodDescriptor "()V" = some ⟨[], none⟩ := by decide +kernel
theorem own_pd2 : parseMethodDescriptor "(D)Z" = some ⟨[.double], some .boolean⟩ := by decide +kernel
theorem own_pd3 : parseMethodDescriptor "(D)D" = some ⟨[.double], some .double⟩ := by decide +kernel
theorem own_pd4 : parseMethodDescriptor "(DJ)D" = some ⟨[.double, .long], some .double⟩ := by decide +kernel
theorem own_pd5 : parseMethodDescriptor "(DD)D" = some ⟨[.double, .double], some .double⟩ := by decide +kernel
def Q_rm0 (n0 : Nat) (v : Option Value) (h : Heap) (L : List Loc) : Prop := v = some (.int 1) ∧ Fr n0 L
theorem own_dlit {i : Int} {a : UInt64} (s : Bool) (c : Nat) (q : Int) (h : Jvm.FP.Core.val64 a = .fin s c q) (h2 : Jvm.FP.Core.signed s (c * 2 ^ q.toNat) = i * ((2 ^ (-q).toNat : Nat) : Int)) : Jvm.FP.Core.DInt i a := by
  show Jvm.FP.Core.Whole i _
  rw [h]
  exact h2
theorem own_dnn {i : Int} {a : UInt64} (h : Jvm.FP.Core.DInt i a) : Jvm.Free.Fl.NoNaN64 a := Jvm.Free.Fl.noNaN64_no.mpr ((Jvm.FP.Core.notNaN_iff a).mpr (Jvm.FP.Core.Whole.ne_nan h))
theorem own_dzero : Jvm.FP.Core.DInt 0 (0 : UInt64) := own_dlit false 0 (-1074) (by decide +kernel) (by decide +kernel)
theorem own_done : Jvm.FP.Core.DInt 1 (4607182418800017408 : UInt64) := own_dlit false (2 ^ 52) (-52) (by decide +kernel) (by decide +kernel)
section OwnMath
variable {p : Program} {l : Launch} {e : Env} {R : Room} {s : State} {m : MethodId} {args : Array Value} {below : List Frame} {meth : Method} {c : Code} {T : State} {locs : List Loc} {cells slots : Nat} {Z : State} {a0 : Array Value} {h h' : Heap} {Ev : State → Outcome → Prop}
theorem g_maxD (X : Stand p l e R s m args below meth c T locs cells slots) (hx : p.tables.exec = Jvm.exec) {pc : Nat} {Ls : Array Slot} {st : List Value} (hZ : Z.Warmed39 s.vm) {own : String} {i : Nat} {by0 : ByteArray} (hown : s.vm.findClass own = some m.cls) (w1 : (Jvm.Cond.methodLink own i ⟨"java/lang/Math", "max", "(DD)D"⟩).before a0 Z = true) (w2 : (Jvm.Cond.static ⟨"java/lang/Math", "max", "(DD)D"⟩).before a0 Z = true) (w3 : (Jvm.Cond.initialized "java/lang/Math").before a0 Z = true) (w4 : (Jvm.Cond.code ⟨"java/lang/Math", "max", "(DD)D"⟩ by0 4 (some .double)).before a0 Z = true) (hby0 : by0 = Jvm.Free.Fl.Abs.maxDCode) (eT : T.heap = h) {a b : UInt64} (ha : Jvm.Free.Fl.NoNaN64 a) (hb : Jvm.Free.Fl.NoNaN64 b) {r : UInt64} (hr : Jvm.Native.java_lang_Math.nans.pick64 true a b = r) (W : Nat) (q : Nat) (hd : decode c.code pc = .ok (.invokestatic i, 3)) (hq : pc + 3 = q) (hsz : Ls.size = c.maxLocals) (hW : (st.map fun v => v.category).sum ≤ W) (hf : 1 ≤ R.frames) (hl : W + 15 ≤ R.locals) (hc : cells ≤ R.cells) (hs : slots ≤ R.slots) (hpd : parseMethodDescriptor "(DD)D" = some ⟨[.double, .double], some .double⟩)
    (K : ∀ T', Stand p l e R s m args below meth c T' locs cells slots → T'.heap = h → Go p e below Ev T' (mkF m q Ls (.double r :: st))) : Go p e below Ev T (mkF m pc Ls (.double b :: .double a :: st)) := by
  subst hq hby0
  obtain ⟨T', X', e', st'⟩ := natS X hx hZ (y := ⟨"java/lang/Math", "max", "(DD)D"⟩) hown w1 w2 w3 w4 (by decide) eT (W := W) (F := fun a' => a' = #[.double a, .double b] ∧ Jvm.Free.Fl.NoNaN64 a ∧ Jvm.Free.Fl.NoNaN64 b) (val := .double (Jvm.Native.java_lang_Math.nans.pick64 true a b)) (val' := .double r) (fun hcd => Jvm.Free.Fl.Abs.maxD_pays a b hcd hf hl) (g := mkF m pc Ls (.double b :: .double a :: st)) rfl hsz (argsL := [.double a, .double b]) (rest := st) (lenOf hpd rfl) rfl (by show 2 * 0 + _ ≤ _; omega) hd hc hs ⟨rfl, ha, hb⟩ (by rw [hr])
  exact (K T' X' e').on st'
theorem g_minD (X : Stand p l e R s m args below meth c T locs cells slots) (hx : p.tables.exec = Jvm.exec) {pc : Nat} {Ls : Array Slot} {st : List Value} (hZ : Z.Warmed39 s.vm) {own : String} {i : Nat} {by0 : ByteArray} (hown : s.vm.findClass own = some m.cls) (w1 : (Jvm.Cond.methodLink own i ⟨"java/lang/Math", "min", "(DD)D"⟩).before a0 Z = true) (w2 : (Jvm.Cond.static ⟨"java/lang/Math", "min", "(DD)D"⟩).before a0 Z = true) (w3 : (Jvm.Cond.initialized "java/lang/Math").before a0 Z = true) (w4 : (Jvm.Cond.code ⟨"java/lang/Math", "min", "(DD)D"⟩ by0 4 (some .double)).before a0 Z = true) (hby0 : by0 = Jvm.Free.Fl.Abs.minDCode) (eT : T.heap = h) {a b : UInt64} (ha : Jvm.Free.Fl.NoNaN64 a) (hb : Jvm.Free.Fl.NoNaN64 b) {r : UInt64} (hr : Jvm.Native.java_lang_Math.nans.pick64 false a b = r) (W : Nat) (q : Nat) (hd : decode c.code pc = .ok (.invokestatic i, 3)) (hq : pc + 3 = q) (hsz : Ls.size = c.maxLocals) (hW : (st.map fun v => v.category).sum ≤ W) (hf : 1 ≤ R.frames) (hl : W + 15 ≤ R.locals) (hc : cells ≤ R.cells) (hs : slots ≤ R.slots) (hpd : parseMethodDescriptor "(DD)D" = some ⟨[.double, .double], some .double⟩)
    (K : ∀ T', Stand p l e R s m args below meth c T' locs cells slots → T'.heap = h → Go p e below Ev T' (mkF m q Ls (.double r :: st))) : Go p e below Ev T (mkF m pc Ls (.double b :: .double a :: st)) := by
  subst hq hby0
  obtain ⟨T', X', e', st'⟩ := natS X hx hZ (y := ⟨"java/lang/Math", "min", "(DD)D"⟩) hown w1 w2 w3 w4 (by decide) eT (W := W) (F := fun a' => a' = #[.double a, .double b] ∧ Jvm.Free.Fl.NoNaN64 a ∧ Jvm.Free.Fl.NoNaN64 b) (val := .double (Jvm.Native.java_lang_Math.nans.pick64 false a b)) (val' := .double r) (fun hcd => Jvm.Free.Fl.Abs.minD_pays a b hcd hf hl) (g := mkF m pc Ls (.double b :: .double a :: st)) rfl hsz (argsL := [.double a, .double b]) (rest := st) (lenOf hpd rfl) rfl (by show 2 * 0 + _ ≤ _; omega) hd hc hs ⟨rfl, ha, hb⟩ (by rw [hr])
  exact (K T' X' e').on st'
theorem g_absD (X : Stand p l e R s m args below meth c T locs cells slots) (hx : p.tables.exec = Jvm.exec) {pc : Nat} {Ls : Array Slot} {st : List Value} (hZ : Z.Warmed39 s.vm) {own : String} {i : Nat} {by0 : ByteArray} (hown : s.vm.findClass own = some m.cls) (w1 : (Jvm.Cond.methodLink own i ⟨"java/lang/Math", "abs", "(D)D"⟩).before a0 Z = true) (w2 : (Jvm.Cond.static ⟨"java/lang/Math", "abs", "(D)D"⟩).before a0 Z = true) (w3 : (Jvm.Cond.initialized "java/lang/Math").before a0 Z = true) (w4 : (Jvm.Cond.code ⟨"java/lang/Math", "abs", "(D)D"⟩ by0 2 (some .double)).before a0 Z = true) (hby0 : by0 = Jvm.Free.Fl.Abs.absDCode) (eT : T.heap = h) {a : UInt64} (ha : Jvm.Free.Fl.NoNaN64 a) (W : Nat) (q : Nat) (hd : decode c.code pc = .ok (.invokestatic i, 3)) (hq : pc + 3 = q) (hsz : Ls.size = c.maxLocals) (hW : (st.map fun v => v.category).sum ≤ W) (hf : 1 ≤ R.frames) (hl : W + 13 ≤ R.locals) (hc : cells ≤ R.cells) (hs : slots ≤ R.slots) (hpd : parseMethodDescriptor "(D)D" = some ⟨[.double], some .double⟩)
    (K : ∀ T', Stand p l e R s m args below meth c T' locs cells slots → T'.heap = h → Go p e below Ev T' (mkF m q Ls (.double (a &&& 0x7fffffffffffffff) :: st))) : Go p e below Ev T (mkF m pc Ls (.double a :: st)) := by
  subst hq hby0
  obtain ⟨T', X', e', st'⟩ := natS X hx hZ (y := ⟨"java/lang/Math", "abs", "(D)D"⟩) hown w1 w2 w3 w4 (by decide) eT (W := W) (F := fun a' => a' = #[.double a] ∧ Jvm.Free.Fl.NoNaN64 a) (val := .double (a &&& 0x7fffffffffffffff)) (val' := .double (a &&& 0x7fffffffffffffff)) (fun hcd => Jvm.Free.Fl.Abs.absD_pays a hcd hf hl) (g := mkF m pc Ls (.double a :: st)) rfl hsz (argsL := [.double a]) (rest := st) (lenOf hpd rfl) rfl (by show 2 * 0 + _ ≤ _; omega) hd hc hs ⟨rfl, ha⟩ rfl
  exact (K T' X' e').on st'
open Jvm.FP.Core in
theorem own_pick {i j : Int} {a b : UInt64} (g : Bool) (ha : DInt i a) (hb : DInt j b) : DInt (if g then max i j else min i j) (Jvm.Native.java_lang_Math.nans.pick64 g a b) := by
  have hc : FP.dcmp a b = some (compare i j) := dcmp_int ha hb
  unfold Jvm.Native.java_lang_Math.nans.pick64
  rw [hc]
  have C : i < j ∨ i = j ∨ j < i := by omega
  rcases C with C | C | C
  · rw [show compare i j = .lt from by rw [compare_ite]; simp [C]]
    cases g
    · show DInt (min i j) a; rw [show min i j = i by omega]; exact ha
    · show DInt (max i j) b; rw [show max i j = j by omega]; exact hb
  · subst C
    rw [show compare i i = .eq from by rw [compare_ite]; simp]
    have e1 : (if g then max i i else min i i) = i := by cases g <;> simp
    rw [e1]
    dsimp only
    split <;> assumption
  · rw [show compare i j = .gt from by rw [compare_ite]; simp [show ¬ i < j by omega, show ¬ i = j by omega]]
    cases g
    · show DInt (min i j) b; rw [show min i j = j by omega]; exact hb
    · show DInt (max i j) a; rw [show max i j = i by omega]; exact ha
theorem own_minD {i j : Int} {a b : UInt64} (ha : Jvm.FP.Core.DInt i a) (hb : Jvm.FP.Core.DInt j b) : Jvm.FP.Core.DInt (min i j) (Jvm.Native.java_lang_Math.nans.pick64 false a b) := own_pick false ha hb
theorem own_maxD {i j : Int} {a b : UInt64} (ha : Jvm.FP.Core.DInt i a) (hb : Jvm.FP.Core.DInt j b) : Jvm.FP.Core.DInt (max i j) (Jvm.Native.java_lang_Math.nans.pick64 true a b) := own_pick true ha hb
end OwnMath
section Fix
open Jvm.FP Jvm.FP.Core Jvm.Free.Fl
def shd (k : Int) : Datum → Datum
  | .fin s c q => .fin s c (q + k)
  | .nan => .nan
  | .inf s => .inf s
/-- a is the number i / 2^k -/
def DFix (i : Int) (k : Nat) (a : UInt64) : Prop := Whole i (shd (k : Int) (val64 a))
theorem own_shdfin {i : Int} {k : Nat} {d : Datum} (h : Whole i (shd k d)) : ∃ s c q, d = .fin s c q := by
  cases d with
  | nan => exact h.elim
  | inf => exact h.elim
  | fin s c q => exact ⟨s, c, q, rfl⟩
theorem own_fixnn {i : Int} {k : Nat} {a : UInt64} (h : DFix i k a) : NoNaN64 a := by
  obtain ⟨s, c, q, e⟩ := own_shdfin h
  exact noNaN64_no.mpr ((notNaN_iff a).mpr (by rw [e]; intro q; cases q))
theorem own_sgn {i : Int} {s : Bool} (h : s = decide (i < 0)) : signed s i.natAbs = i := by
  subst h
  unfold signed
  by_cases hn : i < 0 <;> simp [hn] <;> omega
/-- i / 2^k of up to 53 digits is in the format -/
theorem own_fixrr {i : Int} {k : Nat} {s : Bool} (h0 : i ≠ 0) (hi : i.natAbs ≤ 2 ^ 53) (hk : k ≤ 1000) (hs : s = decide (i < 0)) : Whole i (shd k (roundRatio b64 s i.natAbs 1 (-(k : Int)))) := by
  obtain ⟨c', q', hfit, hv⟩ := natFit good_b64 wide_b64 s (n := i.natAbs) hi
  obtain ⟨f1, f2, f3, f4⟩ := hfit
  have hp : b64.p = 53 := by decide
  have hmin : b64.qmin = -1074 := by decide
  have hq : -52 ≤ q' := by
    refine Int.le_of_not_gt fun hlt => ?_
    rw [show (q' - 0).toNat = 0 by omega, Nat.pow_zero, Nat.mul_one, Nat.mul_one] at hv
    have h53 : 2 ^ 53 ≤ 2 ^ (0 - q').toNat := Nat.pow_le_pow_right (by decide) (by omega)
    have : 1 * 2 ^ (0 - q').toNat ≤ i.natAbs * 2 ^ (0 - q').toNat := Nat.mul_le_mul_right _ (by omega)
    rw [hp] at f1
    omega
  have hfit2 : Core.fits b64 (.fin s c' (q' - k)) := ⟨f1, by rw [hmin]; omega, by omega, f4.elim (fun q => by rw [hmin] at q; omega) Or.inr⟩
  rw [roundRatio_exact good_b64 (by decide) hfit2 (by rw [show -(k : Int) - (q' - k) = 0 - q' by omega, show q' - k - -(k : Int) = q' - 0 by omega]; exact hv)]
  show signed s (c' * 2 ^ (q' - k + k).toNat) = i * ((2 ^ (-(q' - k + k)).toNat : Nat) : Int)
  rw [show q' - k + k = q' by omega]
  rw [show (0 - q').toNat = (-q').toNat by omega, show (q' - 0).toNat = q'.toNat by omega, Nat.mul_one] at hv
  rw [← hv, signed_mul, own_sgn hs]
theorem own_fixround {i : Int} {k : Nat} {d : Datum} (hi : i.natAbs ≤ 2 ^ 53) (hk : k ≤ 1000) (h : Whole i (shd k d)) : Whole i (shd k (round b64 d)) := by
  obtain ⟨s, c, q, rfl⟩ := own_shdfin h
  have h' : Whole i (.fin s c (q + k)) := h
  by_cases h0 : i = 0
  · subst h0
    have hc : c = 0 := (whole_zero h').mpr rfl
    subst hc
    show Whole 0 (shd k (roundRatio b64 s 0 1 q))
    unfold roundRatio
    rw [if_pos rfl]
    show signed s (0 * _) = 0 * _
    rw [Nat.zero_mul, Int.zero_mul, signed_zero]
  · have hn := whole_natAbs h'
    have e1 : round b64 (.fin s c q) = roundRatio b64 s i.natAbs 1 (-(k : Int)) := by
      refine roundRatio_congr (by decide) (by decide) ?_
      rw [show q - -(k : Int) = q + k by omega, show -(k : Int) - q = -(q + k) by omega, Nat.mul_one, Nat.mul_one]
      exact hn
    rw [e1]
    exact own_fixrr h0 hi hk (whole_sign h' h0)
theorem own_fixadd {i j : Int} {k : Nat} {a b : UInt64} (ha : DFix i k a) (hb : DFix j k b) (h : (i + j).natAbs ≤ 2 ^ 53) (hk : k ≤ 1000) : DFix (i + j) k (FP.dadd a b) := by
  show Whole _ (shd k (val64 (Core.dadd a b)))
  rw [val64_dadd]
  refine own_fixround h hk ?_
  obtain ⟨s, c, q, ea⟩ := own_shdfin ha
  obtain ⟨t, d, r, eb⟩ := own_shdfin hb
  have ha' : Whole i (.fin s c (q + k)) := by have := ha; unfold DFix at this; rw [ea] at this; exact this
  have hb' : Whole j (.fin t d (r + k)) := by have := hb; unfold DFix at this; rw [eb] at this; exact this
  rw [ea, eb]
  have e : shd k (exactSum (.fin s c q) (.fin t d r)) = exactSum (.fin s c (q + k)) (.fin t d (r + k)) := by
    simp only [exactSum, shd]
    have e0 : min (q + (k : Int)) (r + k) = min q r + k := by omega
    have e1 : sumUnits s c (q + k) t d (r + k) (min q r + k) = sumUnits s c q t d r (min q r) := by
      unfold sumUnits inUnits
      rw [show q + (k : Int) - (min q r + k) = q - min q r by omega, show r + (k : Int) - (min q r + k) = r - min q r by omega]
    rw [e0, e1]
  rw [e]
  exact whole_sum ha' hb'
theorem own_fixneg {i : Int} {k : Nat} {a : UInt64} (ha : DFix i k a) : Whole (-i) (shd k (negate (val64 a))) := by
  obtain ⟨s, c, q, ea⟩ := own_shdfin ha
  have ha' : Whole i (.fin s c (q + k)) := by have := ha; unfold DFix at this; rw [ea] at this; exact this
  rw [ea]
  exact whole_negate ha'
theorem own_fixsub {i j : Int} {k : Nat} {a b : UInt64} (ha : DFix i k a) (hb : DFix j k b) (h : (i - j).natAbs ≤ 2 ^ 53) (hk : k ≤ 1000) : DFix (i - j) k (FP.dsub a b) := by
  have hb2 : DFix (-j) k (Core.dneg b) := by
    show Whole _ (shd k (val64 (Core.dneg b)))
    rw [Core.val64_dneg]; exact own_fixneg hb
  have := own_fixadd ha hb2 (by rw [← Int.sub_eq_add_neg]; exact h) hk
  rw [← Int.sub_eq_add_neg] at this
  show DFix (i - j) k (Core.dsub a b)
  rw [dsub_eq]; exact this
theorem own_fixmul {i j : Int} {k l : Nat} {a b : UInt64} (ha : DFix i k a) (hb : DFix j l b) (h : (i * j).natAbs ≤ 2 ^ 53) (hk : k + l ≤ 1000) : DFix (i * j) (k + l) (FP.dmul a b) := by
  show Whole _ (shd _ (val64 (Core.dmul a b)))
  rw [val64_dmul]
  refine own_fixround h hk ?_
  obtain ⟨s, c, q, ea⟩ := own_shdfin ha
  obtain ⟨t, d, r, eb⟩ := own_shdfin hb
  have ha' : Whole i (.fin s c (q + k)) := by have := ha; unfold DFix at this; rw [ea] at this; exact this
  have hb' : Whole j (.fin t d (r + l)) := by have := hb; unfold DFix at this; rw [eb] at this; exact this
  rw [ea, eb]
  have e : shd ((k + l : Nat) : Int) (exactProduct (.fin s c q) (.fin t d r)) = exactProduct (.fin s c (q + k)) (.fin t d (r + l)) := by
    simp only [exactProduct, shd]
    rw [show q + r + ((k + l : Nat) : Int) = q + k + (r + l) by omega]
  rw [e]
  exact whole_product ha' hb'
theorem own_fixcmp {i j : Int} {k : Nat} {a b : UInt64} (ha : DFix i k a) (hb : DFix j k b) : FP.dcmp a b = some (compare i j) := by
  obtain ⟨s, c, q, ea⟩ := own_shdfin ha
  obtain ⟨t, d, r, eb⟩ := own_shdfin hb
  have ha' : Whole i (.fin s c (q + k)) := by have := ha; unfold DFix at this; rw [ea] at this; exact this
  have hb' : Whole j (.fin t d (r + k)) := by have := hb; unfold DFix at this; rw [eb] at this; exact this
  show order (val64 a) (val64 b) = _
  rw [ea, eb, ← order_whole ha' hb']
  simp only [order]
  have e0 : min (q + (k : Int)) (r + k) = min q r + k := by omega
  unfold inUnits
  rw [e0, show q + (k : Int) - (min q r + k) = q - min q r by omega, show r + (k : Int) - (min q r + k) = r - min q r by omega]
theorem own_fixlift {i : Int} {k : Nat} {a : UInt64} (ha : DFix i k a) (m : Nat) : DFix (i * ((2 ^ m : Nat) : Int)) (k + m) a := by
  obtain ⟨s, c, q, ea⟩ := own_shdfin ha
  have h : signed s (c * 2 ^ (q + k).toNat) = i * ((2 ^ (-(q + (k : Int))).toNat : Nat) : Int) := by have := ha; unfold DFix at this; rw [ea] at this; exact this
  show Whole _ (shd _ (val64 a))
  rw [ea]
  show signed s (c * 2 ^ (q + ((k + m : Nat) : Int)).toNat) = i * ((2 ^ m : Nat) : Int) * ((2 ^ (-(q + ((k + m : Nat) : Int))).toNat : Nat) : Int)
  have p2 : ((2 ^ (-(q + (k : Int))).toNat : Nat) : Int) ≠ 0 := by have := Nat.two_pow_pos (-(q + (k : Int))).toNat; omega
  refine Int.eq_of_mul_eq_mul_right p2 ?_
  rw [← signed_mul, Nat.mul_assoc, ← Nat.pow_add]
  rw [show (q + ((k + m : Nat) : Int)).toNat + (-(q + (k : Int))).toNat = (q + k).toNat + (m + (-(q + ((k + m : Nat) : Int))).toNat) by omega]
  rw [Nat.pow_add, ← Nat.mul_assoc, signed_mul, h, Nat.pow_add]
  rw [Int.natCast_mul]
  simp only [Int.mul_assoc]
  rw [Int.mul_comm ((2 ^ (-(q + (k : Int))).toNat : Nat) : Int), Int.mul_assoc]
theorem own_fix0 {i : Int} {a : UInt64} : DFix i 0 a ↔ DInt i a := by
  have e : shd ((0 : Nat) : Int) (val64 a) = val64 a := by
    cases val64 a with
    | nan => rfl
    | inf => rfl
    | fin s c q => show Datum.fin s c (q + ((0 : Nat) : Int)) = _; rw [show q + ((0 : Nat) : Int) = q by omega]
  unfold DFix DInt
  rw [e]
theorem own_fixint {i : Int} {a : UInt64} (h : DInt i a) (m : Nat) : DFix (i * ((2 ^ m : Nat) : Int)) m a := by
  have := own_fixlift (own_fix0.mpr h) m
  rwa [Nat.zero_add] at this
theorem own_fixdiv {i j t : Int} {k l M : Nat} {a b : UInt64} (ha : DFix i k a) (hb : DFix j l b) (hj : j ≠ 0) (ht : i * ((2 ^ (l + M) : Nat) : Int) = t * j * ((2 ^ k : Nat) : Int)) (h : t.natAbs ≤ 2 ^ 53) (hM : M ≤ 1000) : DFix t M (FP.ddiv a b) := by
  show Whole _ (shd _ (val64 (Core.ddiv a b)))
  rw [val64_ddiv]
  obtain ⟨s, c, q, ea⟩ := own_shdfin ha
  obtain ⟨u, d, r, eb⟩ := own_shdfin hb
  have ha' : Whole i (.fin s c (q + k)) := by have := ha; unfold DFix at this; rw [ea] at this; exact this
  have hb' : Whole j (.fin u d (r + l)) := by have := hb; unfold DFix at this; rw [eb] at this; exact this
  have hd : d ≠ 0 := fun q => hj ((whole_zero hb').mp q)
  have p1 : (0 : Int) < ((2 ^ (l + M) : Nat) : Int) := by have := Nat.two_pow_pos (l + M); omega
  have p2 : (0 : Int) < ((2 ^ k : Nat) : Int) := by have := Nat.two_pow_pos k; omega
  rw [ea, eb]
  show Whole t (shd M (if d = 0 then _ else roundRatio b64 (s != u) c d (q - r)))
  rw [if_neg hd]
  by_cases h0 : t = 0
  · subst h0
    have hi0 : i = 0 := by
      rw [Int.zero_mul, Int.zero_mul] at ht
      rcases Int.mul_eq_zero.mp ht with q | q
      · exact q
      · omega
    have hc : c = 0 := (whole_zero ha').mpr hi0
    subst hc
    unfold roundRatio
    rw [if_pos rfl]
    show signed _ (0 * _) = 0 * _
    rw [Nat.zero_mul, Int.zero_mul, signed_zero]
  · have hi0 : i ≠ 0 := by
      intro q; subst q
      rw [Int.zero_mul] at ht
      rcases Int.mul_eq_zero.mp ht.symm with q | q
      · rcases Int.mul_eq_zero.mp q with q | q
        · exact h0 q
        · exact hj q
      · omega
    have hsg : (s != u) = decide (t < 0) := by
      rw [whole_sign ha' hi0, whole_sign hb' hj]
      have m1 : i < 0 ↔ t * j < 0 := by
        constructor
        · intro q
          refine Int.lt_of_not_ge fun g => ?_
          have a1 := Int.mul_nonneg g (Int.le_of_lt p2)
          have a2 := Int.mul_neg_of_neg_of_pos q p1
          omega
        · intro q
          refine Int.lt_of_not_ge fun g => ?_
          have a1 := Int.mul_nonneg g (Int.le_of_lt p1)
          have a2 := Int.mul_neg_of_neg_of_pos q p2
          omega
      have m2 : decide (i < 0) = decide (t * j < 0) := decide_eq_decide.mpr m1
      rw [m2]
      rcases Int.lt_or_gt_of_ne hj with g | g
      · rcases Int.lt_or_gt_of_ne h0 with f | f
        · have := Int.mul_pos_of_neg_of_neg f g
          simp [f, g, show ¬ t * j < 0 by omega]
        · have := Int.mul_neg_of_pos_of_neg f g
          simp [g, show ¬ t < 0 by omega, this]
      · rcases Int.lt_or_gt_of_ne h0 with f | f
        · have := Int.mul_neg_of_neg_of_pos f g
          simp [f, this, show ¬ j < 0 by omega]
        · have := Int.mul_pos f g
          simp [show ¬ t < 0 by omega, show ¬ j < 0 by omega, show ¬ t * j < 0 by omega]
    have hn1 := whole_natAbs ha'
    have hn2 := whole_natAbs hb'
    have hn3 : i.natAbs * 2 ^ (l + M) = t.natAbs * j.natAbs * 2 ^ k := by
      have := congrArg Int.natAbs ht
      rw [Int.natAbs_mul, Int.natAbs_mul, Int.natAbs_mul, Int.natAbs_natCast, Int.natAbs_natCast] at this
      exact this
    have hjp : 0 < j.natAbs := by omega
    have key : c * 1 * 2 ^ (q - r - -(M : Int)).toNat = t.natAbs * d * 2 ^ (-(M : Int) - (q - r)).toNat := by
      have hF : 0 < j.natAbs * 2 ^ (-(r + (l : Int))).toNat * 2 ^ (q + (k : Int)).toNat * 2 ^ k := Nat.mul_pos (Nat.mul_pos (Nat.mul_pos hjp (Nat.two_pow_pos _)) (Nat.two_pow_pos _)) (Nat.two_pow_pos _)
      refine Nat.eq_of_mul_eq_mul_right hF ?_
      have hex : (-(q + (k : Int))).toNat + (q - r - -(M : Int)).toNat + (r + (l : Int)).toNat + k = (-(M : Int) - (q - r)).toNat + (-(r + (l : Int))).toNat + (q + (k : Int)).toNat + (l + M) := by omega
      have L : c * 1 * 2 ^ (q - r - -(M : Int)).toNat * (j.natAbs * 2 ^ (-(r + (l : Int))).toNat * 2 ^ (q + (k : Int)).toNat * 2 ^ k) = i.natAbs * d * 2 ^ ((-(q + (k : Int))).toNat + (q - r - -(M : Int)).toNat + (r + (l : Int)).toNat + k) := by
        calc c * 1 * 2 ^ (q - r - -(M : Int)).toNat * (j.natAbs * 2 ^ (-(r + (l : Int))).toNat * 2 ^ (q + (k : Int)).toNat * 2 ^ k) = (c * 2 ^ (q + (k : Int)).toNat) * (j.natAbs * 2 ^ (-(r + (l : Int))).toNat) * 2 ^ (q - r - -(M : Int)).toNat * 2 ^ k := by rw [Nat.mul_one]; ac_rfl
          _ = (i.natAbs * 2 ^ (-(q + (k : Int))).toNat) * (d * 2 ^ (r + (l : Int)).toNat) * 2 ^ (q - r - -(M : Int)).toNat * 2 ^ k := by rw [hn1, hn2]
          _ = _ := by simp only [Nat.pow_add]; ac_rfl
      have Rr : t.natAbs * d * 2 ^ (-(M : Int) - (q - r)).toNat * (j.natAbs * 2 ^ (-(r + (l : Int))).toNat * 2 ^ (q + (k : Int)).toNat * 2 ^ k) = i.natAbs * d * 2 ^ ((-(M : Int) - (q - r)).toNat + (-(r + (l : Int))).toNat + (q + (k : Int)).toNat + (l + M)) := by
        calc t.natAbs * d * 2 ^ (-(M : Int) - (q - r)).toNat * (j.natAbs * 2 ^ (-(r + (l : Int))).toNat * 2 ^ (q + (k : Int)).toNat * 2 ^ k) = (t.natAbs * j.natAbs * 2 ^ k) * (d * 2 ^ (-(M : Int) - (q - r)).toNat * 2 ^ (-(r + (l : Int))).toNat * 2 ^ (q + (k : Int)).toNat) := by ac_rfl
          _ = (i.natAbs * 2 ^ (l + M)) * (d * 2 ^ (-(M : Int) - (q - r)).toNat * 2 ^ (-(r + (l : Int))).toNat * 2 ^ (q + (k : Int)).toNat) := by rw [hn3]
          _ = _ := by simp only [Nat.pow_add]; ac_rfl
      rw [L, Rr, hex]
    rw [roundRatio_congr (A' := t.natAbs) (B' := 1) (e' := -(M : Int)) (by omega) (by decide) (by simpa using key)]
    exact own_fixrr h0 h hM hsg
end Fix
section Kahan
open Jvm.FP Jvm.FP.Core Jvm.Free.Fl
theorem own_nn {i : Int} {a : UInt64} (h : DInt i a) : NoNaN64 a := noNaN64_no.mpr ((notNaN_iff a).mpr (Whole.ne_nan h))
theorem own_rep {i : Int} {d d' : Datum} (hd' : Core.fits b64 d') (h' : Whole i d') (h : Whole i d) : Whole i (round b64 d) := by
  by_cases h0 : i = 0
  · subst h0; exact whole_round good_b64 wide_b64 (by decide) h
  · cases d with
    | nan => exact h.elim
    | inf => exact h.elim
    | fin s c q =>
      cases d' with
      | nan => exact h'.elim
      | inf => exact h'.elim
      | fin s' c' q' =>
        have e1 := round_of_fits good_b64 hd'
        rw [round_whole h', whole_sign h' h0] at e1
        rw [round_whole h, whole_sign h h0, e1, ← whole_sign h' h0]
        exact h'
theorem own_addrep {i j : Int} {a b w : UInt64} (ha : DInt i a) (hb : DInt j b) (hw : DInt (i + j) w) : DInt (i + j) (FP.dadd a b) := by
  show Whole _ (val64 (Core.dadd a b))
  rw [val64_dadd]
  exact own_rep (val64_fits w) hw (whole_sum ha hb)
theorem own_subrep {i j : Int} {a b w : UInt64} (ha : DInt i a) (hb : DInt j b) (hw : DInt (i - j) w) : DInt (i - j) (FP.dsub a b) := by
  show Whole _ (val64 (Core.dsub a b))
  rw [val64_dsub]
  exact own_rep (val64_fits w) hw (whole_sum ha (whole_negate hb))
theorem own_nearNat (A : Nat) (h1 : 2 ^ 53 < A) (h2 : A ≤ 2 ^ 63) (s : Bool) : ∃ n : Nat, Whole (signed s n) (roundRatio b64 s A 1 0) ∧ n ≤ A + 1024 ∧ A ≤ n + 1024 := by
  have hA : A ≠ 0 := by omega
  have l1 : 2 ^ A.log2 ≤ A := Nat.log2_self_le hA
  have l2 : A < 2 ^ (A.log2 + 1) := Nat.lt_log2_self
  have l3 : 53 ≤ A.log2 := by
    have : 2 ^ 53 < 2 ^ (A.log2 + 1) := Nat.lt_trans h1 l2
    have := (Nat.pow_lt_pow_iff_right (by decide : 1 < 2)).mp this
    omega
  have l4 : A.log2 ≤ 63 := by
    have : 2 ^ A.log2 ≤ 2 ^ 63 := Nat.le_trans l1 h2
    exact (Nat.pow_le_pow_iff_right (by decide : 1 < 2)).mp this
  have hlead : leading A 1 = (A.log2 : Int) := by
    unfold leading
    have e1 : (Nat.log2 1 : Nat) = 0 := by decide
    simp only [e1]
    rw [if_pos]
    · simp
    · simpa using l1
  have hq : quantum b64 A 1 0 = ((A.log2 - 52 : Nat) : Int) := by
    unfold quantum
    rw [hlead]
    have e1 : b64.qmin = -1074 := by decide
    have e2 : (b64.p : Int) = 53 := by decide
    rw [e1, e2]
    omega
  have hc := nearest_units_le (f := b64) (A := A) (B := 1) (by omega) (by decide) 0
  unfold roundRatio
  rw [if_neg hA]
  unfold roundAt
  rw [hq] at hc ⊢
  have hn : unitsNum A 0 ((A.log2 - 52 : Nat) : Int) = A := by
    unfold unitsNum
    rw [show (0 - ((A.log2 - 52 : Nat) : Int)).toNat = 0 by omega]
    simp
  have hd : unitsDen 1 0 ((A.log2 - 52 : Nat) : Int) = 2 ^ (A.log2 - 52) := by
    unfold unitsDen
    rw [show (((A.log2 - 52 : Nat) : Int) - 0).toNat = A.log2 - 52 by omega]
    simp
  rw [hn, hd] at hc ⊢
  have hp : b64.p = 53 := by decide
  have hmax : b64.qmax = 971 := by decide
  have htl : b64.tails = 2 ^ 52 := by decide
  rw [hp] at hc
  refine ⟨nearest A (2 ^ (A.log2 - 52)) * 2 ^ (A.log2 - 52), ?_, ?_⟩
  · unfold settle
    rw [hp]
    split
    · unfold bound
      rw [if_pos (by rw [hmax]; omega)]
      show signed s _ = signed s _ * _
      rw [show (-((A.log2 - 52 : Nat) : Int)).toNat = 0 by omega, show (((A.log2 - 52 : Nat) : Int)).toNat = A.log2 - 52 by omega]
      simp
    · rename_i hlt
      have he : nearest A (2 ^ (A.log2 - 52)) = 2 ^ 53 := by omega
      unfold bound
      rw [if_pos (by rw [hmax]; omega), he, htl]
      show signed s _ = signed s _ * _
      rw [show (-(((A.log2 - 52 : Nat) : Int) + 1)).toNat = 0 by omega, show ((((A.log2 - 52 : Nat) : Int) + 1)).toNat = A.log2 - 52 + 1 by omega]
      rw [show (2 : Nat) ^ 52 * 2 ^ (A.log2 - 52 + 1) = 2 ^ 53 * 2 ^ (A.log2 - 52) by rw [← Nat.pow_add, ← Nat.pow_add]; congr 1; omega]
      simp
  · have key : ∀ B : Nat, 0 < B → B ≤ 2048 → nearest A B * B ≤ A + 1024 ∧ A ≤ nearest A B * B + 1024 := by
      intro B hB0 hB
      have e1 := Nat.div_add_mod A B
      have e2 := Nat.mod_lt A hB0
      generalize hq' : A / B = qq at *
      generalize hr' : A % B = rr at *
      have e3 : qq * B = B * qq := Nat.mul_comm _ _
      have e4 : (qq + 1) * B = B * qq + B := by rw [Nat.add_mul, e3]; omega
      unfold nearest
      rw [hq', hr']
      split
      · rw [e3]; omega
      · split
        · rw [e4]; omega
        · rcases Nat.mod_two_eq_zero_or_one qq with h | h
          · rw [h, Nat.add_zero, e3]; omega
          · rw [h, e4]; omega
    have hB : 2 ^ (A.log2 - 52) ≤ 2048 := Nat.pow_le_pow_right (by decide) (show A.log2 - 52 ≤ 11 by omega)
    exact key _ (Nat.two_pow_pos _) hB
theorem own_near {i : Int} {d : Datum} (hi : i.natAbs ≤ 2 ^ 63) (h : Whole i d) : ∃ n : Int, Whole n (round b64 d) ∧ -1024 ≤ n - i ∧ n - i ≤ 1024 := by
  by_cases hs : i.natAbs ≤ 2 ^ 53
  · exact ⟨i, whole_round good_b64 wide_b64 hs h, by omega, by omega⟩
  · cases d with
    | nan => exact h.elim
    | inf => exact h.elim
    | fin s c q =>
      have h0 : i ≠ 0 := by omega
      have hsg := whole_sign h h0
      obtain ⟨n, w, n1, n2⟩ := own_nearNat i.natAbs (by omega) hi s
      rw [round_whole h]
      refine ⟨signed s n, w, ?_⟩
      rw [hsg]
      unfold signed
      by_cases hneg : i < 0 <;> simp [hneg] <;> omega
/-- one rounding of one whole number: the same number, whatever the road -/
theorem own_cmpRound {i : Int} {d d' : Datum} (h : Whole i d) (h' : Whole i d') {u v : UInt64} (hu : val64 u = round b64 d) (hv : val64 v = round b64 d') : FP.dcmp u v = some (compare 0 0) := by
  show order (val64 u) (val64 v) = _
  rw [hu, hv]
  by_cases h0 : i = 0
  · subst h0
    exact order_whole (whole_round good_b64 wide_b64 (by decide) h) (whole_round good_b64 wide_b64 (by decide) h')
  · cases d with
    | nan => exact h.elim
    | inf => exact h.elim
    | fin s c q =>
      cases d' with
      | nan => exact h'.elim
      | inf => exact h'.elim
      | fin s' c' q' =>
        have e1 : round b64 (.fin s c q) = round b64 (.fin s' c' q') := by rw [round_whole h, round_whole h', whole_sign h h0, whole_sign h' h0]
        rw [e1]
        refine (order_self ?_).trans rfl
        rw [← hv]
        intro hq
        rw [hv, round_whole h'] at hq
        exact roundRatio_ne_nan _ _ _ _ _ hq
end Kahan
section Tally
open Jvm.FP Jvm.FP.Core Jvm.Free.Fl
theorem own_l2dn (D : Int64) : ∃ n : Int, DInt n (FP.l2d D) ∧ -1024 ≤ n - D.toInt ∧ n - D.toInt ≤ 1024 ∧ (D.toInt.natAbs ≤ 2 ^ 53 → n = D.toInt) := by
  by_cases hs : D.toInt.natAbs ≤ 2 ^ 53
  · exact ⟨D.toInt, l2d_int hs, by omega, by omega, fun _ => rfl⟩
  · have r := rng64 D
    obtain ⟨n, h1, h2, h3⟩ := own_near (i := D.toInt) (d := ofInt D.toInt) (by omega) (whole_ofInt _)
    refine ⟨n, ?_, h2, h3, fun q => absurd q hs⟩
    show Whole n (val64 (Core.l2d D))
    rw [val64_l2d]; exact h1
theorem own_leMax {x : UInt64} (h : DFin x) (n : NoNaN64 x) : ∃ i j : Int, FP.dcmp (x &&& 0x7fffffffffffffff) 9218868437227405311 = some (compare i j) ∧ i ≤ j := by
  rcases (le_max (noNaN64_no.mp n)).mpr h with q | q
  · exact ⟨0, 1, q.trans rfl, by decide⟩
  · exact ⟨0, 0, q.trans rfl, by decide⟩
theorem own_intfin {i : Int} {x : UInt64} (h : DInt i x) : DFin x := by
  have h' : Whole i (val64 x) := h
  unfold DFin
  cases e : val64 x with
  | nan => rw [e] at h'; exact h'.elim
  | inf => rw [e] at h'; exact h'.elim
  | fin s c q => exact ⟨s, c, q, rfl⟩
theorem own_pickF {i j : Int} {k : Nat} {a b : UInt64} (g : Bool) (ha : DFix i k a) (hb : DFix j k b) : DFix (if g then max i j else min i j) k (Jvm.Native.java_lang_Math.nans.pick64 g a b) := by
  have hc : FP.dcmp a b = some (compare i j) := own_fixcmp ha hb
  unfold Jvm.Native.java_lang_Math.nans.pick64
  rw [hc]
  have C : i < j ∨ i = j ∨ j < i := by omega
  rcases C with C | C | C
  · rw [show compare i j = .lt from by rw [compare_ite]; simp [C]]
    cases g
    · show DFix (min i j) k a; rw [show min i j = i by omega]; exact ha
    · show DFix (max i j) k b; rw [show max i j = j by omega]; exact hb
  · subst C
    rw [show compare i i = .eq from by rw [compare_ite]; simp]
    have e1 : (if g then max i i else min i i) = i := by cases g <;> simp
    rw [e1]
    dsimp only
    split <;> assumption
  · rw [show compare i j = .gt from by rw [compare_ite]; simp [show ¬ i < j by omega, show ¬ i = j by omega]]
    cases g
    · show DFix (min i j) k b; rw [show min i j = j by omega]; exact hb
    · show DFix (max i j) k a; rw [show max i j = i by omega]; exact ha
theorem own_minF {i j : Int} {k : Nat} {a b : UInt64} (ha : DFix i k a) (hb : DFix j k b) : DFix (min i j) k (Jvm.Native.java_lang_Math.nans.pick64 false a b) := own_pickF false ha hb
theorem own_maxF {i j : Int} {k : Nat} {a b : UInt64} (ha : DFix i k a) (hb : DFix j k b) : DFix (max i j) k (Jvm.Native.java_lang_Math.nans.pick64 true a b) := own_pickF true ha hb
theorem own_fixz (k : Nat) : DFix 0 k (0 : UInt64) := by
  have := own_fixint own_dzero k
  rwa [Int.zero_mul] at this
theorem own_thou : DInt 1000 (4652007308841189376 : UInt64) := own_dlit false 8796093022208000 (-43) (by decide +kernel) (by decide +kernel)
theorem own_cyc {cm : Int32} {t : Int} (h : cm.toInt * 8 = t * 1000) (b : 0 ≤ t ∧ t ≤ 1048576) : DFix t 3 (FP.ddiv (FP.i2d cm) 4652007308841189376) := by
  refine own_fixdiv (own_fix0.mpr (i2d_int cm)) (own_fix0.mpr own_thou) (by decide) ?_ (by omega) (by decide)
  show cm.toInt * 8 = t * 1000 * 1
  omega
end Tally
theorem d3_0 : decode prog_6_method_1_code 0 = .ok (.aload_n 0, 1) := by decide +kernel
theorem d3_1 : decode prog_6_method_1_code 1 = .ok (.invokespecial 1, 3) := by decide +kernel
theorem d3_4 : decode prog_6_method_1_code 4 = .ok (.return_, 1) := by decide +kernel
theorem own_pf0 : plainFor (⟨"com/example/iso_throttle/isothrottle/CompensatedSum", "<init>", "()V"⟩ : MethodName) = true := plainFor_of_name (by first | (simp [plainName, overriddenIn]; done) | decide +kernel)
def Q_rmCS (n0 : Nat) (h0 : Heap) (v : Option Value) (h : Heap) (L : List Loc) : Prop := v = none ∧ Fr n0 L ∧ h = h0
theorem ef_rmCS (a : Addr) (m : MethodId) : entryFrame m #[(.ref a)] 1 = mkF m 0 #[.val (.ref a)] [] := by first | (simp [entryFrame, mkF, argsToLocals, Value.category]; done) | rfl
set_option maxRecDepth 65536 in
set_option maxHeartbeats 40000000 in
theorem rmCS (l : Launch) (Z : State) (a0 : Array Value) (hw : ∀ d ∈ tables_1, d.before a0 Z = true) (a : Addr) (h0 : Heap) (n0 : Nat) (Z0 : n0 ≤ h0.size)  :
    MetFree l (⟨"com/example/iso_throttle/isothrottle/CompensatedSum", "<init>", "()V"⟩ : MethodName) (head1 [Jvm.Cond.code (⟨"com/example/iso_throttle/isothrottle/CompensatedSum", "<init>", "()V"⟩ : MethodName) prog_6_method_1_code 1 none] ({ frames := 1, cells := 0, slots := 0, locals := 12 } : Room)) (fun as_ U => as_ = #[(.ref a)] ∧ Z.Warmed39 U.vm ∧ U.heap = h0) (fun _ _ _ _ _ => True) (fun _ U o U' => ∃ v L, o = .returned v ∧ Q_rmCS n0 h0 v U'.heap L ∧ FrameEnd U o U' L ({ frames := 1, cells := 0, slots := 0, locals := 12 } : Room).cells ({ frames := 1, cells := 0, slots := 0, locals := 12 } : Room).slots) := by
  refine own_met own_pf0 (ef_rmCS a) ?_
  intro p e s m below meth c T0 X0 hx hby hml hret hlk hnm hown hZ e0
  have N0 := Fr.nil n0
  refine g_aloadN X0 hx 1 (hb hby d3_0) rfl rfl rfl ?_
  refine g_objinit X0 hx hZ hown (hw _ (List.mem_of_getElem? (i := 17) rfl)) (hw _ (List.mem_of_getElem? (i := 9) rfl)) (hw _ (List.mem_of_getElem? (i := 10) rfl)) e0 0 4 (hb hby d3_1) rfl (by rw [hml]; rfl) (by decide) (Nat.le_refl _) (by decide) ?_
  intro T1 X1 e1
  exact g_retV X1 hx hlk hret (hb hby d3_4) (by decide) (by decide) e1 ⟨rfl, N0, rfl⟩
theorem d4_0 : decode jdk_117_method_7_code 0 = .ok (.dload_n 0, 1) := by decide +kernel
theorem d4_1 : decode jdk_117_method_7_code 1 = .ok (.invokestatic 38, 3) := by decide +kernel
theorem d4_4 : decode jdk_117_method_7_code 4 = .ok (.ldc2_w 111, 3) := by decide +kernel
theorem d4_7 : decode jdk_117_method_7_code 7 = .ok (.dcmp .l, 1) := by decide +kernel
theorem d4_8 : decode jdk_117_method_7_code 8 = .ok (.ifCond .le 7, 3) := by decide +kernel
theorem d4_11 : decode jdk_117_method_7_code 11 = .ok (.iconst 1, 1) := by decide +kernel
theorem d4_12 : decode jdk_117_method_7_code 12 = .ok (.goto 4, 3) := by decide +kernel
theorem d4_15 : decode jdk_117_method_7_code 15 = .ok (.iconst 0, 1) := by decide +kernel
theorem d4_16 : decode jdk_117_method_7_code 16 = .ok (.ireturn, 1) := by decide +kernel
theorem own_pf1 : plainFor (⟨"java/lang/Double", "isInfinite", "(D)Z"⟩ : MethodName) = true := plainFor_of_name (by first | (simp [plainName, overriddenIn]; done) | decide +kernel)
def Q_rmInf (n0 : Nat) (h0 : Heap) (v : Option Value) (h : Heap) (L : List Loc) : Prop := v = some (.int 0) ∧ Fr n0 L ∧ h = h0
theorem ef_rmInf (x : UInt64) (m : MethodId) : entryFrame m #[(.double x)] 2 = mkF m 0 #[.val (.double x), .second] [] := by first | (simp [entryFrame, mkF, argsToLocals, Value.category]; done) | rfl
set_option maxRecDepth 65536 in
set_option maxHeartbeats 40000000 in
theorem rmInf (l : Launch) (Z : State) (a0 : Array Value) (hw : ∀ d ∈ tables_1, d.before a0 Z = true) (x : UInt64) (h0 : Heap) (n0 : Nat) (Z0 : n0 ≤ h0.size) (hfin : Jvm.FP.Core.DFin x) (nn : Jvm.Free.Fl.NoNaN64 x) :
    MetFree l (⟨"java/lang/Double", "isInfinite", "(D)Z"⟩ : MethodName) (head1 [Jvm.Cond.code (⟨"java/lang/Double", "isInfinite", "(D)Z"⟩ : MethodName) jdk_117_method_7_code 2 (some .boolean)] ({ frames := 1, cells := 0, slots := 0, locals := 13 } : Room)) (fun as_ U => as_ = #[(.double x)] ∧ Z.Warmed39 U.vm ∧ U.heap = h0) (fun _ _ _ _ _ => True) (fun _ U o U' => ∃ v L, o = .returned v ∧ Q_rmInf n0 h0 v U'.heap L ∧ FrameEnd U o U' L ({ frames := 1, cells := 0, slots := 0, locals := 13 } : Room).cells ({ frames := 1, cells := 0, slots := 0, locals := 13 } : Room).slots) := by
  refine own_met own_pf1 (ef_rmInf x) ?_
  intro p e s m below meth c T0 X0 hx hby hml hret hlk hnm hown hZ e0
  have N0 := Fr.nil n0
  refine g_dloadN X0 hx 1 (hb hby d4_0) rfl rfl ?_
  obtain ⟨i, j, hij, le⟩ := own_leMax hfin nn
  refine g_absD X0 hx hZ hown (hw _ (List.mem_of_getElem? (i := 26) rfl)) (hw _ (List.mem_of_getElem? (i := 27) rfl)) (hw _ (List.mem_of_getElem? (i := 28) rfl)) (hw _ (List.mem_of_getElem? (i := 29) rfl)) rfl e0 nn 0 4 (hb hby d4_1) rfl (by rw [hml]; rfl) (Nat.le_refl _) (by decide) (by decide) (by decide) (by decide) own_pd3 ?_
  intro T2 X2 e2
  refine g_ldc2D X2 hx 7 hZ hown (hw _ (List.mem_of_getElem? (i := 30) rfl)) (hb hby d4_4) rfl ?_
  refine g_dc_le X2 hx 8 15 11 (hb hby d4_7) rfl (hb hby d4_8) (by decide) (by decide) rfl hij (fun c3 => ?_) (fun c3 => ?_)
  · skip
    refine g_iconst X2 hx (0 : Int32) 16 (hb hby d4_15) rfl (by decide) ?_
    exact g_retZ X2 hx hlk hret (hb hby d4_16) (by decide) (by decide) e2 ⟨rfl, N0, rfl⟩
  · skip
    exfalso; omega
theorem d7_0 : decode jdk_117_method_8_code 0 = .ok (.dload_n 0, 1) := by decide +kernel
theorem d7_1 : decode jdk_117_method_8_code 1 = .ok (.invokestatic 38, 3) := by decide +kernel
theorem d7_4 : decode jdk_117_method_8_code 4 = .ok (.ldc2_w 111, 3) := by decide +kernel
theorem d7_7 : decode jdk_117_method_8_code 7 = .ok (.dcmp .g, 1) := by decide +kernel
theorem d7_8 : decode jdk_117_method_8_code 8 = .ok (.ifCond .gt 7, 3) := by decide +kernel
theorem d7_11 : decode jdk_117_method_8_code 11 = .ok (.iconst 1, 1) := by decide +kernel
theorem d7_12 : decode jdk_117_method_8_code 12 = .ok (.goto 4, 3) := by decide +kernel
theorem d7_15 : decode jdk_117_method_8_code 15 = .ok (.iconst 0, 1) := by decide +kernel
theorem d7_16 : decode jdk_117_method_8_code 16 = .ok (.ireturn, 1) := by decide +kernel
theorem own_pf2 : plainFor (⟨"java/lang/Double", "isFinite", "(D)Z"⟩ : MethodName) = true := plainFor_of_name (by first | (simp [plainName, overriddenIn]; done) | decide +kernel)
def Q_rmFin (n0 : Nat) (h0 : Heap) (v : Option Value) (h : Heap) (L : List Loc) : Prop := v = some (.int 1) ∧ Fr n0 L ∧ h = h0
theorem ef_rmFin (x : UInt64) (m : MethodId) : entryFrame m #[(.double x)] 2 = mkF m 0 #[.val (.double x), .second] [] := by first | (simp [entryFrame, mkF, argsToLocals, Value.category]; done) | rfl
set_option maxRecDepth 65536 in
set_option maxHeartbeats 40000000 in
theorem rmFin (l : Launch) (Z : State) (a0 : Array Value) (hw : ∀ d ∈ tables_1, d.before a0 Z = true) (x : UInt64) (h0 : Heap) (n0 : Nat) (Z0 : n0 ≤ h0.size) (hfin : Jvm.FP.Core.DFin x) (nn : Jvm.Free.Fl.NoNaN64 x) :
    MetFree l (⟨"java/lang/Double", "isFinite", "(D)Z"⟩ : MethodName) (head1 [Jvm.Cond.code (⟨"java/lang/Double", "isFinite", "(D)Z"⟩ : MethodName) jdk_117_method_8_code 2 (some .boolean)] ({ frames := 1, cells := 0, slots := 0, locals := 13 } : Room)) (fun as_ U => as_ = #[(.double x)] ∧ Z.Warmed39 U.vm ∧ U.heap = h0) (fun _ _ _ _ _ => True) (fun _ U o U' => ∃ v L, o = .returned v ∧ Q_rmFin n0 h0 v U'.heap L ∧ FrameEnd U o U' L ({ frames := 1, cells := 0, slots := 0, locals := 13 } : Room).cells ({ frames := 1, cells := 0, slots := 0, locals := 13 } : Room).slots) := by
  refine own_met own_pf2 (ef_rmFin x) ?_
  intro p e s m below meth c T0 X0 hx hby hml hret hlk hnm hown hZ e0
  have N0 := Fr.nil n0
  refine g_dloadN X0 hx 1 (hb hby d7_0) rfl rfl ?_
  obtain ⟨i, j, hij, le⟩ := own_leMax hfin nn
  refine g_absD X0 hx hZ hown (hw _ (List.mem_of_getElem? (i := 26) rfl)) (hw _ (List.mem_of_getElem? (i := 27) rfl)) (hw _ (List.mem_of_getElem? (i := 28) rfl)) (hw _ (List.mem_of_getElem? (i := 29) rfl)) rfl e0 nn 0 4 (hb hby d7_1) rfl (by rw [hml]; rfl) (Nat.le_refl _) (by decide) (by decide) (by decide) (by decide) own_pd3 ?_
  intro T4 X4 e4
  refine g_ldc2D X4 hx 7 hZ hown (hw _ (List.mem_of_getElem? (i := 30) rfl)) (hb hby d7_4) rfl ?_
  refine g_dc_gt X4 hx 8 15 11 (hb hby d7_7) rfl (hb hby d7_8) (by decide) (by decide) rfl hij (fun c5 => ?_) (fun c5 => ?_)
  · skip
    exfalso; omega
  · skip
    refine g_iconst X4 hx (1 : Int32) 12 (hb hby d7_11) rfl (by decide) ?_
    refine g_goto X4 hx 16 (hb hby d7_12) (by decide) (by decide) ?_
    exact g_retZ X4 hx hlk hret (hb hby d7_16) (by decide) (by decide) e4 ⟨rfl, N0, rfl⟩
theorem d1_0 : decode prog_1_method_1_code 0 = .ok (.aload_n 0, 1) := by decide +kernel
theorem d1_1 : decode prog_1_method_1_code 1 = .ok (.invokespecial 1, 3) := by decide +kernel
theorem d1_4 : decode prog_1_method_1_code 4 = .ok (.aload_n 0, 1) := by decide +kernel
theorem d1_5 : decode prog_1_method_1_code 5 = .ok (.new 7, 3) := by decide +kernel
theorem d1_8 : decode prog_1_method_1_code 8 = .ok (.dup, 1) := by decide +kernel
theorem d1_9 : decode prog_1_method_1_code 9 = .ok (.invokespecial 9, 3) := by decide +kernel
theorem d1_12 : decode prog_1_method_1_code 12 = .ok (.putfield 10, 3) := by decide +kernel
theorem d1_15 : decode prog_1_method_1_code 15 = .ok (.aload_n 0, 1) := by decide +kernel
theorem d1_16 : decode prog_1_method_1_code 16 = .ok (.new 7, 3) := by decide +kernel
theorem d1_19 : decode prog_1_method_1_code 19 = .ok (.dup, 1) := by decide +kernel
theorem d1_20 : decode prog_1_method_1_code 20 = .ok (.invokespecial 9, 3) := by decide +kernel
theorem d1_23 : decode prog_1_method_1_code 23 = .ok (.putfield 16, 3) := by decide +kernel
theorem d1_26 : decode prog_1_method_1_code 26 = .ok (.dload_n 1, 1) := by decide +kernel
theorem d1_27 : decode prog_1_method_1_code 27 = .ok (.dconst 0, 1) := by decide +kernel
theorem d1_28 : decode prog_1_method_1_code 28 = .ok (.dcmp .l, 1) := by decide +kernel
theorem d1_29 : decode prog_1_method_1_code 29 = .ok (.ifCond .le 10, 3) := by decide +kernel
theorem d1_32 : decode prog_1_method_1_code 32 = .ok (.dload_n 1, 1) := by decide +kernel
theorem d1_33 : decode prog_1_method_1_code 33 = .ok (.invokestatic 19, 3) := by decide +kernel
theorem d1_36 : decode prog_1_method_1_code 36 = .ok (.ifCond .eq 17, 3) := by decide +kernel
theorem d1_39 : decode prog_1_method_1_code 39 = .ok (.new 25, 3) := by decide +kernel
theorem d1_42 : decode prog_1_method_1_code 42 = .ok (.dup, 1) := by decide +kernel
theorem d1_43 : decode prog_1_method_1_code 43 = .ok (.dload_n 1, 1) := by decide +kernel
theorem d1_49 : decode prog_1_method_1_code 49 = .ok (.invokespecial 31, 3) := by decide +kernel
theorem d1_52 : decode prog_1_method_1_code 52 = .ok (.athrow, 1) := by decide +kernel
theorem d1_53 : decode prog_1_method_1_code 53 = .ok (.iload_n 3, 1) := by decide +kernel
theorem d1_54 : decode prog_1_method_1_code 54 = .ok (.ifCond .gt 17, 3) := by decide +kernel
theorem d1_57 : decode prog_1_method_1_code 57 = .ok (.new 25, 3) := by decide +kernel
theorem d1_60 : decode prog_1_method_1_code 60 = .ok (.dup, 1) := by decide +kernel
theorem d1_61 : decode prog_1_method_1_code 61 = .ok (.iload_n 3, 1) := by decide +kernel
theorem d1_67 : decode prog_1_method_1_code 67 = .ok (.invokespecial 31, 3) := by decide +kernel
theorem d1_70 : decode prog_1_method_1_code 70 = .ok (.athrow, 1) := by decide +kernel
theorem d1_71 : decode prog_1_method_1_code 71 = .ok (.aload_n 0, 1) := by decide +kernel
theorem d1_72 : decode prog_1_method_1_code 72 = .ok (.dload_n 1, 1) := by decide +kernel
theorem d1_73 : decode prog_1_method_1_code 73 = .ok (.putfield 37, 3) := by decide +kernel
theorem d1_76 : decode prog_1_method_1_code 76 = .ok (.aload_n 0, 1) := by decide +kernel
theorem d1_77 : decode prog_1_method_1_code 77 = .ok (.iload_n 3, 1) := by decide +kernel
theorem d1_78 : decode prog_1_method_1_code 78 = .ok (.i2d, 1) := by decide +kernel
theorem d1_79 : decode prog_1_method_1_code 79 = .ok (.ldc2_w 41, 3) := by decide +kernel
theorem d1_82 : decode prog_1_method_1_code 82 = .ok (.ddiv, 1) := by decide +kernel
theorem d1_83 : decode prog_1_method_1_code 83 = .ok (.putfield 43, 3) := by decide +kernel
theorem d1_86 : decode prog_1_method_1_code 86 = .ok (.return_, 1) := by decide +kernel
theorem own_pf3 : plainFor (⟨"com/example/iso_throttle/isothrottle/AdmissionTally", "<init>", "(DI)V"⟩ : MethodName) = true := plainFor_of_name (by first | (simp [plainName, overriddenIn]; done) | decide +kernel)
def Q_rmInit (Z : State) (a : Addr) (lim : UInt64) (cm : Int32) (n0 : Nat) (h0 : Heap) (v : Option Value) (h : Heap) (L : List Loc) : Prop := v = none ∧ Fr n0 L ∧ Keep h0 h [a] ∧ Fld Z h a "com/example/iso_throttle/isothrottle/AdmissionTally" "limit" "D" (.double lim) ∧ Fld Z h a "com/example/iso_throttle/isothrottle/AdmissionTally" "cycleSeconds" "D" (.double (FP.ddiv (FP.i2d cm) 4652007308841189376))
theorem ef_rmInit (a : Addr) (lim : UInt64) (cm : Int32) (m : MethodId) : entryFrame m #[(.ref a), (.double lim), (.int cm)] 4 = mkF m 0 #[.val (.ref a), .val (.double lim), .second, .val (.int cm)] [] := by first | (simp [entryFrame, mkF, argsToLocals, Value.category]; done) | rfl
set_option maxRecDepth 65536 in
set_option maxHeartbeats 40000000 in
theorem rmInit (l : Launch) (Z : State) (a0 : Array Value) (hw : ∀ d ∈ tables_1, d.before a0 Z = true) (a : Addr) (lim : UInt64) (cm : Int32) (h0 : Heap) (n0 : Nat) (Z0 : n0 ≤ h0.size) (il : Int) (hlim : Jvm.FP.Core.DInt il lim) (pl : 0 < il) (pc : 0 < cm.toInt) (nc : Jvm.Free.Fl.NoNaN64 (FP.ddiv (FP.i2d cm) 4652007308841189376)) (Ea : Exa Z h0 a "com/example/iso_throttle/isothrottle/AdmissionTally") (ga : n0 ≤ a) (F_idealTotal : Fld Z h0 a "com/example/iso_throttle/isothrottle/AdmissionTally" "idealTotal" "Lcom/example/iso_throttle/isothrottle/CompensatedSum;" .null) (F_admittedTotal : Fld Z h0 a "com/example/iso_throttle/isothrottle/AdmissionTally" "admittedTotal" "Lcom/example/iso_throttle/isothrottle/CompensatedSum;" .null) (F_limit : Fld Z h0 a "com/example/iso_throttle/isothrottle/AdmissionTally" "limit" "D" (.double 0)) (F_cycleSeconds : Fld Z h0 a "com/example/iso_throttle/isothrottle/AdmissionTally" "cycleSeconds" "D" (.double 0)) :
    MetFree l (⟨"com/example/iso_throttle/isothrottle/AdmissionTally", "<init>", "(DI)V"⟩ : MethodName) (head1 [Jvm.Cond.code (⟨"com/example/iso_throttle/isothrottle/AdmissionTally", "<init>", "(DI)V"⟩ : MethodName) prog_1_method_1_code 4 none] ({ frames := 2, cells := 2, slots := 4, locals := 32 } : Room)) (fun as_ U => as_ = #[(.ref a), (.double lim), (.int cm)] ∧ Z.Warmed39 U.vm ∧ U.heap = h0) (fun _ _ _ _ _ => True) (fun _ U o U' => ∃ v L, o = .returned v ∧ Q_rmInit Z a lim cm n0 h0 v U'.heap L ∧ FrameEnd U o U' L ({ frames := 2, cells := 2, slots := 4, locals := 32 } : Room).cells ({ frames := 2, cells := 2, slots := 4, locals := 32 } : Room).slots) := by
  refine own_met own_pf3 (ef_rmInit a lim cm) ?_
  intro p e s m below meth c T0 X0 hx hby hml hret hlk hnm hown hZ e0
  have N0 := Fr.nil n0
  refine g_aloadN X0 hx 1 (hb hby d1_0) rfl rfl rfl ?_
  refine g_objinit X0 hx hZ hown (hw _ (List.mem_of_getElem? (i := 8) rfl)) (hw _ (List.mem_of_getElem? (i := 9) rfl)) (hw _ (List.mem_of_getElem? (i := 10) rfl)) e0 0 4 (hb hby d1_1) rfl (by rw [hml]; rfl) (by decide) (Nat.le_refl _) (by decide) ?_
  intro T6 X6 e6
  refine g_aloadN X6 hx 5 (hb hby d1_4) rfl rfl rfl ?_
  refine g_new X6 hx hZ hown (hw _ (List.mem_of_getElem? (i := 11) rfl)) (hw _ (List.mem_of_getElem? (i := 12) rfl)) (hw _ (List.mem_of_getElem? (i := 13) rfl)) e6 8 (hb hby d1_5) rfl (by decide) (by decide) ?_
  intro T7 h7 a7 g7 X7 e7 E7 A7 D7
  have ne8 : a ≠ a7 := Nat.ne_of_lt (by rw [g7]; exact Ea.lt)
  have ge9 : n0 ≤ a7 := by rw [g7]; exact Z0
  have sz10 : h0.size ≤ a7 := by rw [g7]; exact (Keep.refl h0 [a]).1
  have F11 := Ea.ext E7
  have F12 := F_idealTotal.ext E7
  have F13 := F_admittedTotal.ext E7
  have F14 := F_limit.ext E7
  have F15 := F_cycleSeconds.ext E7
  have K16 := (Keep.refl h0 [a]).ext E7
  have Z17 : n0 ≤ h7.size := Nat.le_trans Z0 E7.1
  refine g_dup X7 hx 9 (hb hby d1_8) rfl rfl ?_
  refine g_init X7 hx hZ rfl hown (hw _ (List.mem_of_getElem? (i := 14) rfl)) (hw _ (List.mem_of_getElem? (i := 15) rfl)) (hw _ (List.mem_of_getElem? (i := 13) rfl)) (hw _ (List.mem_of_getElem? (i := 16) rfl)) (by decide) (rmCS l Z a0 hw a7 h7 n0 Z17) e7 (a := a7) (argsL := []) (rest := [(.ref a7), (.ref a)]) rfl rfl 2 12 rfl (by rw [hml]; rfl) (lenOf own_pd1 rfl) (Nat.le_refl _) (by decide) (by decide) (by decide) (by decide) (hb hby d1_9) ?_
  intro v18 T18 L18 X18 hQ18
  obtain ⟨rfl, N18, q18⟩ := hQ18
  have N19 := Fr.app N0 N18
  show Go p e below _ T18 (mkF m 12 #[.val (.ref a), .val (.double lim), .second, .val (.int cm)] [(.ref a7), (.ref a)])
  refine g_putF X18 hx hZ hown (hw _ (List.mem_of_getElem? (i := 18) rfl)) Via.refl q18 F12 F11 (Or.inr ⟨(hw _ (List.mem_of_getElem? (i := 19) rfl)), rfl, hnm⟩) (hw _ (List.mem_of_getElem? (i := 3) rfl)) (ty := (.object "com/example/iso_throttle/isothrottle/CompensatedSum")) (by decide) rfl rfl 15 (hb hby d1_12) rfl ?_
  intro T20 h20 X20 e20 W20
  have F21 : Fld Z h20 a "com/example/iso_throttle/isothrottle/AdmissionTally" "idealTotal" "Lcom/example/iso_throttle/isothrottle/CompensatedSum;" (.ref a7) := F12.same W20
  have F22 := F11.wr W20
  have F23 := F13.other W20 (Or.inr (slot_ne (Or.inr (hw _ (List.mem_of_getElem? (i := 21) rfl))) (Or.inr (hw _ (List.mem_of_getElem? (i := 19) rfl))) (by decide) (t := (.object "com/example/iso_throttle/isothrottle/CompensatedSum")) (t' := (.object "com/example/iso_throttle/isothrottle/CompensatedSum")) (by decide) (by decide)))
  have F24 := F14.other W20 (Or.inr (slot_ne (Or.inr (hw _ (List.mem_of_getElem? (i := 32) rfl))) (Or.inr (hw _ (List.mem_of_getElem? (i := 19) rfl))) (by decide) (t := .double) (t' := (.object "com/example/iso_throttle/isothrottle/CompensatedSum")) (by decide) (by decide)))
  have F25 := F15.other W20 (Or.inr (slot_ne (Or.inr (hw _ (List.mem_of_getElem? (i := 35) rfl))) (Or.inr (hw _ (List.mem_of_getElem? (i := 19) rfl))) (by decide) (t := .double) (t' := (.object "com/example/iso_throttle/isothrottle/CompensatedSum")) (by decide) (by decide)))
  have F26 := A7.wr W20
  have K27 := K16.wr W20 (Or.inl (List.mem_of_getElem? (i := 0) rfl))
  have N28 := Fr.snoc X20 N19 ga
  have Z29 : n0 ≤ h20.size := by rw [W20.size]; exact Z17
  refine g_aloadN X20 hx 16 (hb hby d1_15) rfl rfl rfl ?_
  refine g_new X20 hx hZ hown (hw _ (List.mem_of_getElem? (i := 11) rfl)) (hw _ (List.mem_of_getElem? (i := 12) rfl)) (hw _ (List.mem_of_getElem? (i := 13) rfl)) e20 19 (hb hby d1_16) rfl (by decide) (by decide) ?_
  intro T30 h30 a30 g30 X30 e30 E30 A30 D30
  have ne31 : a ≠ a30 := Nat.ne_of_lt (by rw [g30]; exact F22.lt)
  have ne32 : a7 ≠ a30 := Nat.ne_of_lt (by rw [g30]; exact F26.lt)
  have ge33 : n0 ≤ a30 := by rw [g30]; exact Z29
  have sz34 : h0.size ≤ a30 := by rw [g30]; exact K27.1
  have F35 := F22.ext E30
  have F36 := F23.ext E30
  have F37 := F24.ext E30
  have F38 := F25.ext E30
  have F39 := F26.ext E30
  have F40 := F21.ext E30
  have K41 := K27.ext E30
  have Z42 : n0 ≤ h30.size := Nat.le_trans Z29 E30.1
  refine g_dup X30 hx 20 (hb hby d1_19) rfl rfl ?_
  refine g_init X30 hx hZ rfl hown (hw _ (List.mem_of_getElem? (i := 14) rfl)) (hw _ (List.mem_of_getElem? (i := 15) rfl)) (hw _ (List.mem_of_getElem? (i := 13) rfl)) (hw _ (List.mem_of_getElem? (i := 16) rfl)) (by decide) (rmCS l Z a0 hw a30 h30 n0 Z42) e30 (a := a30) (argsL := []) (rest := [(.ref a30), (.ref a)]) rfl rfl 2 23 rfl (by rw [hml]; rfl) (lenOf own_pd1 rfl) (Nat.le_refl _) (by decide) (by decide) (by decide) (by decide) (hb hby d1_20) ?_
  intro v43 T43 L43 X43 hQ43
  obtain ⟨rfl, N43, q43⟩ := hQ43
  have N44 := Fr.app N28 N43
  show Go p e below _ T43 (mkF m 23 #[.val (.ref a), .val (.double lim), .second, .val (.int cm)] [(.ref a30), (.ref a)])
  refine g_putF X43 hx hZ hown (hw _ (List.mem_of_getElem? (i := 20) rfl)) Via.refl q43 F36 F35 (Or.inr ⟨(hw _ (List.mem_of_getElem? (i := 21) rfl)), rfl, hnm⟩) (hw _ (List.mem_of_getElem? (i := 3) rfl)) (ty := (.object "com/example/iso_throttle/isothrottle/CompensatedSum")) (by decide) rfl rfl 26 (hb hby d1_23) rfl ?_
  intro T45 h45 X45 e45 W45
  have F46 : Fld Z h45 a "com/example/iso_throttle/isothrottle/AdmissionTally" "admittedTotal" "Lcom/example/iso_throttle/isothrottle/CompensatedSum;" (.ref a30) := F36.same W45
  have F47 := F35.wr W45
  have F48 := F37.other W45 (Or.inr (slot_ne (Or.inr (hw _ (List.mem_of_getElem? (i := 32) rfl))) (Or.inr (hw _ (List.mem_of_getElem? (i := 21) rfl))) (by decide) (t := .double) (t' := (.object "com/example/iso_throttle/isothrottle/CompensatedSum")) (by decide) (by decide)))
  have F49 := F38.other W45 (Or.inr (slot_ne (Or.inr (hw _ (List.mem_of_getElem? (i := 35) rfl))) (Or.inr (hw _ (List.mem_of_getElem? (i := 21) rfl))) (by decide) (t := .double) (t' := (.object "com/example/iso_throttle/isothrottle/CompensatedSum")) (by decide) (by decide)))
  have F50 := F39.wr W45
  have F51 := F40.other W45 (Or.inr (slot_ne (Or.inr (hw _ (List.mem_of_getElem? (i := 19) rfl))) (Or.inr (hw _ (List.mem_of_getElem? (i := 21) rfl))) (by decide) (t := (.object "com/example/iso_throttle/isothrottle/CompensatedSum")) (t' := (.object "com/example/iso_throttle/isothrottle/CompensatedSum")) (by decide) (by decide)))
  have F52 := A30.wr W45
  have K53 := K41.wr W45 (Or.inl (List.mem_of_getElem? (i := 0) rfl))
  have N54 := Fr.snoc X45 N44 ga
  have Z55 : n0 ≤ h45.size := by rw [W45.size]; exact Z42
  refine g_dloadN X45 hx 27 (hb hby d1_26) rfl rfl ?_
  refine g_dconst0 X45 hx 28 (hb hby d1_27) rfl ?_
  refine g_dc_le X45 hx 29 39 32 (hb hby d1_28) rfl (hb hby d1_29) (by decide) (by decide) rfl (Jvm.FP.Core.dcmp_int hlim own_dzero) (fun c56 => ?_) (fun c56 => ?_)
  · skip
    exfalso; omega
  · skip
    refine g_dloadN X45 hx 33 (hb hby d1_32) rfl rfl ?_
    refine g_static X45 hx hZ hown (hw _ (List.mem_of_getElem? (i := 22) rfl)) (hw _ (List.mem_of_getElem? (i := 23) rfl)) (hw _ (List.mem_of_getElem? (i := 24) rfl)) (hw _ (List.mem_of_getElem? (i := 25) rfl)) (by decide) (rmInf l Z a0 hw lim h45 n0 Z55 (own_intfin hlim) (own_dnn hlim)) e45 (argsL := [(.double lim)]) (rest := []) rfl rfl 0 36 rfl (by rw [hml]; rfl) (lenOf own_pd2 rfl) (Nat.le_refl _) (by decide) (by decide) (by decide) (by decide) (hb hby d1_33) ?_
    intro v57 T57 L57 X57 hQ57
    obtain ⟨rfl, N57, q57⟩ := hQ57
    have N58 := Fr.app N54 N57
    show Go p e below _ T57 (mkF m 36 #[.val (.ref a), .val (.double lim), .second, .val (.int cm)] [(.int (0 : Int32))])
    have ll60 : ((0 : Int32) : Int32).toInt = 0 := by decide
    refine g_if_eq X57 hx 53 39 (hb hby d1_36) (by decide) (by decide) rfl (fun c59 => ?_) (fun c59 => ?_)
    · skip
      refine g_iloadN X57 hx 54 (hb hby d1_53) rfl rfl ?_
      refine g_if_gt X57 hx 71 57 (hb hby d1_54) (by decide) (by decide) rfl (fun c61 => ?_) (fun c61 => ?_)
      · skip
        refine g_aloadN X57 hx 72 (hb hby d1_71) rfl rfl rfl ?_
        refine g_dloadN X57 hx 73 (hb hby d1_72) rfl rfl ?_
        refine g_putF X57 hx hZ hown (hw _ (List.mem_of_getElem? (i := 31) rfl)) Via.refl q57 F48 F47 (Or.inr ⟨(hw _ (List.mem_of_getElem? (i := 32) rfl)), rfl, hnm⟩) (hw _ (List.mem_of_getElem? (i := 3) rfl)) (ty := .double) (by decide) rfl rfl 76 (hb hby d1_73) rfl ?_
        intro T62 h62 X62 e62 W62
        have F63 : Fld Z h62 a "com/example/iso_throttle/isothrottle/AdmissionTally" "limit" "D" (.double lim) := F48.same W62
        have F64 := F47.wr W62
        have F65 := F49.other W62 (Or.inr (slot_ne (Or.inr (hw _ (List.mem_of_getElem? (i := 35) rfl))) (Or.inr (hw _ (List.mem_of_getElem? (i := 32) rfl))) (by decide) (t := .double) (t' := .double) (by decide) (by decide)))
        have F66 := F50.wr W62
        have F67 := F51.other W62 (Or.inr (slot_ne (Or.inr (hw _ (List.mem_of_getElem? (i := 19) rfl))) (Or.inr (hw _ (List.mem_of_getElem? (i := 32) rfl))) (by decide) (t := (.object "com/example/iso_throttle/isothrottle/CompensatedSum")) (t' := .double) (by decide) (by decide)))
        have F68 := F52.wr W62
        have F69 := F46.other W62 (Or.inr (slot_ne (Or.inr (hw _ (List.mem_of_getElem? (i := 21) rfl))) (Or.inr (hw _ (List.mem_of_getElem? (i := 32) rfl))) (by decide) (t := (.object "com/example/iso_throttle/isothrottle/CompensatedSum")) (t' := .double) (by decide) (by decide)))
        have K70 := K53.wr W62 (Or.inl (List.mem_of_getElem? (i := 0) rfl))
        have N71 := Fr.snoc X62 N58 ga
        have Z72 : n0 ≤ h62.size := by rw [W62.size]; exact Z55
        refine g_aloadN X62 hx 77 (hb hby d1_76) rfl rfl rfl ?_
        refine g_iloadN X62 hx 78 (hb hby d1_77) rfl rfl ?_
        refine g_i2d X62 hx 79 (hb hby d1_78) rfl ?_
        refine g_ldc2D X62 hx 82 hZ hown (hw _ (List.mem_of_getElem? (i := 33) rfl)) (hb hby d1_79) rfl ?_
        refine g_ddiv X62 hx 83 (hb hby d1_82) rfl nc ?_
        refine g_putF X62 hx hZ hown (hw _ (List.mem_of_getElem? (i := 34) rfl)) Via.refl e62 F65 F64 (Or.inr ⟨(hw _ (List.mem_of_getElem? (i := 35) rfl)), rfl, hnm⟩) (hw _ (List.mem_of_getElem? (i := 3) rfl)) (ty := .double) (by decide) rfl rfl 86 (hb hby d1_83) rfl ?_
        intro T73 h73 X73 e73 W73
        have F74 : Fld Z h73 a "com/example/iso_throttle/isothrottle/AdmissionTally" "cycleSeconds" "D" (.double (FP.ddiv (FP.i2d cm) (4652007308841189376 : UInt64))) := F65.same W73
        have F75 := F64.wr W73
        have F76 := F66.wr W73
        have F77 := F67.other W73 (Or.inr (slot_ne (Or.inr (hw _ (List.mem_of_getElem? (i := 19) rfl))) (Or.inr (hw _ (List.mem_of_getElem? (i := 35) rfl))) (by decide) (t := (.object "com/example/iso_throttle/isothrottle/CompensatedSum")) (t' := .double) (by decide) (by decide)))
        have F78 := F68.wr W73
        have F79 := F69.other W73 (Or.inr (slot_ne (Or.inr (hw _ (List.mem_of_getElem? (i := 21) rfl))) (Or.inr (hw _ (List.mem_of_getElem? (i := 35) rfl))) (by decide) (t := (.object "com/example/iso_throttle/isothrottle/CompensatedSum")) (t' := .double) (by decide) (by decide)))
        have F80 := F63.other W73 (Or.inr (slot_ne (Or.inr (hw _ (List.mem_of_getElem? (i := 32) rfl))) (Or.inr (hw _ (List.mem_of_getElem? (i := 35) rfl))) (by decide) (t := .double) (t' := .double) (by decide) (by decide)))
        have K81 := K70.wr W73 (Or.inl (List.mem_of_getElem? (i := 0) rfl))
        have N82 := Fr.snoc X73 N71 ga
        have Z83 : n0 ≤ h73.size := by rw [W73.size]; exact Z72
        exact g_retV X73 hx hlk hret (hb hby d1_86) (by decide) (by decide) e73 ⟨rfl, N82, K81, F80, F74⟩
      · skip
        exfalso; omega
    · skip
      exfalso; revert c59; decide
theorem d6_0 : decode prog_1_method_2_code 0 = .ok (.dload_n 1, 1) := by decide +kernel
theorem d6_1 : decode prog_1_method_2_code 1 = .ok (.invokestatic 46, 3) := by decide +kernel
theorem d6_4 : decode prog_1_method_2_code 4 = .ok (.ifCond .ne 17, 3) := by decide +kernel
theorem d6_7 : decode prog_1_method_2_code 7 = .ok (.new 25, 3) := by decide +kernel
theorem d6_10 : decode prog_1_method_2_code 10 = .ok (.dup, 1) := by decide +kernel
theorem d6_11 : decode prog_1_method_2_code 11 = .ok (.dload_n 1, 1) := by decide +kernel
theorem d6_17 : decode prog_1_method_2_code 17 = .ok (.invokespecial 31, 3) := by decide +kernel
theorem d6_20 : decode prog_1_method_2_code 20 = .ok (.athrow, 1) := by decide +kernel
theorem d6_21 : decode prog_1_method_2_code 21 = .ok (.lload_n 3, 1) := by decide +kernel
theorem d6_22 : decode prog_1_method_2_code 22 = .ok (.lconst 0, 1) := by decide +kernel
theorem d6_23 : decode prog_1_method_2_code 23 = .ok (.lcmp, 1) := by decide +kernel
theorem d6_24 : decode prog_1_method_2_code 24 = .ok (.ifCond .ge 17, 3) := by decide +kernel
theorem d6_27 : decode prog_1_method_2_code 27 = .ok (.new 25, 3) := by decide +kernel
theorem d6_30 : decode prog_1_method_2_code 30 = .ok (.dup, 1) := by decide +kernel
theorem d6_31 : decode prog_1_method_2_code 31 = .ok (.lload_n 3, 1) := by decide +kernel
theorem d6_37 : decode prog_1_method_2_code 37 = .ok (.invokespecial 31, 3) := by decide +kernel
theorem d6_40 : decode prog_1_method_2_code 40 = .ok (.athrow, 1) := by decide +kernel
theorem d6_41 : decode prog_1_method_2_code 41 = .ok (.dconst 0, 1) := by decide +kernel
theorem d6_42 : decode prog_1_method_2_code 42 = .ok (.dload_n 1, 1) := by decide +kernel
theorem d6_43 : decode prog_1_method_2_code 43 = .ok (.aload_n 0, 1) := by decide +kernel
theorem d6_44 : decode prog_1_method_2_code 44 = .ok (.getfield 43, 3) := by decide +kernel
theorem d6_47 : decode prog_1_method_2_code 47 = .ok (.dmul, 1) := by decide +kernel
theorem d6_48 : decode prog_1_method_2_code 48 = .ok (.lload_n 3, 1) := by decide +kernel
theorem d6_49 : decode prog_1_method_2_code 49 = .ok (.l2d, 1) := by decide +kernel
theorem d6_50 : decode prog_1_method_2_code 50 = .ok (.invokestatic 53, 3) := by decide +kernel
theorem d6_53 : decode prog_1_method_2_code 53 = .ok (.invokestatic 59, 3) := by decide +kernel
theorem d6_56 : decode prog_1_method_2_code 56 = .ok (.dreturn, 1) := by decide +kernel
theorem own_pf4 : plainFor (⟨"com/example/iso_throttle/isothrottle/AdmissionTally", "admitted", "(DJ)D"⟩ : MethodName) = true := plainFor_of_name (by first | (simp [plainName, overriddenIn]; done) | decide +kernel)
def Q_rmAdm (P D : Int) (K : Nat) (n0 : Nat) (h0 : Heap) (v : Option Value) (h : Heap) (L : List Loc) : Prop := ∃ r : UInt64, v = some (.double r) ∧ DFix (max 0 (min P D)) K r ∧ Fr n0 L ∧ h = h0
theorem ef_rmAdm (a : Addr) (x : UInt64) (d : Int64) (m : MethodId) : entryFrame m #[(.ref a), (.double x), (.long d)] 5 = mkF m 0 #[.val (.ref a), .val (.double x), .second, .val (.long d), .second] [] := by first | (simp [entryFrame, mkF, argsToLocals, Value.category]; done) | rfl
set_option maxRecDepth 65536 in
set_option maxHeartbeats 40000000 in
theorem rmAdm (l : Launch) (Z : State) (a0 : Array Value) (hw : ∀ d ∈ tables_1, d.before a0 Z = true) (a : Addr) (x : UInt64) (d : Int64) (h0 : Heap) (n0 : Nat) (Z0 : n0 ≤ h0.size) (s : Int) (hx1 : Jvm.FP.Core.DInt s x) (hd0 : 0 ≤ d.toInt) (cy : UInt64) (F_cyc : Fld Z h0 a "com/example/iso_throttle/isothrottle/AdmissionTally" "cycleSeconds" "D" (.double cy)) (P D : Int) (K : Nat) (hp : DFix P K (FP.dmul x cy)) (hD : DFix D K (FP.l2d d)) :
    MetFree l (⟨"com/example/iso_throttle/isothrottle/AdmissionTally", "admitted", "(DJ)D"⟩ : MethodName) (head1 [Jvm.Cond.code (⟨"com/example/iso_throttle/isothrottle/AdmissionTally", "admitted", "(DJ)D"⟩ : MethodName) prog_1_method_2_code 5 (some .double)] ({ frames := 2, cells := 0, slots := 0, locals := 32 } : Room)) (fun as_ U => as_ = #[(.ref a), (.double x), (.long d)] ∧ Z.Warmed39 U.vm ∧ U.heap = h0) (fun _ _ _ _ _ => True) (fun _ U o U' => ∃ v L, o = .returned v ∧ Q_rmAdm P D K n0 h0 v U'.heap L ∧ FrameEnd U o U' L ({ frames := 2, cells := 0, slots := 0, locals := 32 } : Room).cells ({ frames := 2, cells := 0, slots := 0, locals := 32 } : Room).slots) := by
  refine own_met own_pf4 (ef_rmAdm a x d) ?_
  intro p e s m below meth c T0 X0 hx hby hml hret hlk hnm hown hZ e0
  have N0 := Fr.nil n0
  refine g_dloadN X0 hx 1 (hb hby d6_0) rfl rfl ?_
  refine g_static X0 hx hZ hown (hw _ (List.mem_of_getElem? (i := 41) rfl)) (hw _ (List.mem_of_getElem? (i := 42) rfl)) (hw _ (List.mem_of_getElem? (i := 24) rfl)) (hw _ (List.mem_of_getElem? (i := 43) rfl)) (by decide) (rmFin l Z a0 hw x h0 n0 Z0 (own_intfin hx1) (own_dnn hx1)) e0 (argsL := [(.double x)]) (rest := []) rfl rfl 0 4 rfl (by rw [hml]; rfl) (lenOf own_pd2 rfl) (Nat.le_refl _) (by decide) (by decide) (by decide) (by decide) (hb hby d6_1) ?_
  intro v84 T84 L84 X84 hQ84
  obtain ⟨rfl, N84, q84⟩ := hQ84
  have N85 := Fr.app N0 N84
  show Go p e below _ T84 (mkF m 4 #[.val (.ref a), .val (.double x), .second, .val (.long d), .second] [(.int (1 : Int32))])
  have ll87 : ((1 : Int32) : Int32).toInt = 1 := by decide
  refine g_if_ne X84 hx 21 7 (hb hby d6_4) (by decide) (by decide) rfl (fun c86 => ?_) (fun c86 => ?_)
  · skip
    refine g_lloadN X84 hx 22 (hb hby d6_21) rfl rfl ?_
    refine g_lconst X84 hx (0 : Int64) 23 (hb hby d6_22) rfl (by decide) ?_
    have ll89 : ((0 : Int64) : Int64).toInt = 0 := by decide
    refine g_lc_ge X84 hx 24 41 27 (hb hby d6_23) rfl (hb hby d6_24) (by decide) (by decide) rfl (fun c88 => ?_) (fun c88 => ?_)
    · skip
      refine g_dconst0 X84 hx 42 (hb hby d6_41) rfl ?_
      refine g_dloadN X84 hx 43 (hb hby d6_42) rfl rfl ?_
      refine g_aloadN X84 hx 44 (hb hby d6_43) rfl rfl rfl ?_
      refine g_getF X84 hx hZ hown (hw _ (List.mem_of_getElem? (i := 34) rfl)) Via.refl q84 F_cyc 47 (hb hby d6_44) rfl ?_
      intro T90 X90 e90
      refine g_dmul X90 hx 48 (hb hby d6_47) rfl (own_fixnn hp) ?_
      refine g_lloadN X90 hx 49 (hb hby d6_48) rfl rfl ?_
      refine g_l2d X90 hx 50 (hb hby d6_49) rfl ?_
      have M1 := own_minF hp hD
      have M2 := own_maxF (own_fixz K) M1
      refine g_minD X90 hx hZ hown (hw _ (List.mem_of_getElem? (i := 44) rfl)) (hw _ (List.mem_of_getElem? (i := 45) rfl)) (hw _ (List.mem_of_getElem? (i := 28) rfl)) (hw _ (List.mem_of_getElem? (i := 46) rfl)) rfl e90 (own_fixnn hp) (own_fixnn hD) (r := (Jvm.Native.java_lang_Math.nans.pick64 false (FP.dmul x cy) (FP.l2d d))) rfl 2 53 (hb hby d6_50) rfl (by rw [hml]; rfl) (Nat.le_refl _) (by decide) (by decide) (by decide) (by decide) own_pd5 ?_
      intro T91 X91 e91
      refine g_maxD X91 hx hZ hown (hw _ (List.mem_of_getElem? (i := 47) rfl)) (hw _ (List.mem_of_getElem? (i := 48) rfl)) (hw _ (List.mem_of_getElem? (i := 28) rfl)) (hw _ (List.mem_of_getElem? (i := 49) rfl)) rfl e91 (own_fixnn (own_fixz K)) (own_fixnn M1) (r := (Jvm.Native.java_lang_Math.nans.pick64 true 0 (Jvm.Native.java_lang_Math.nans.pick64 false (FP.dmul x cy) (FP.l2d d)))) rfl 0 56 (hb hby d6_53) rfl (by rw [hml]; rfl) (Nat.le_refl _) (by decide) (by decide) (by decide) (by decide) own_pd5 ?_
      intro T92 X92 e92
      exact g_retD X92 hx hlk hret (hb hby d6_56) (by decide) (by decide) e92 ⟨_, rfl, M2, N85, rfl⟩
    · skip
      exfalso; omega
  · skip
    exfalso; revert c86; decide
theorem own_eight : Jvm.FP.Core.DInt 8 (4620693217682128896 : UInt64) := own_dlit false (2 ^ 52) (-49) (by decide +kernel) (by decide +kernel)
theorem own_p8 {x : Int64} (h : x.toInt.natAbs ≤ 2 ^ 53) : DFix x.toInt 3 (FP.ddiv (FP.l2d x) 4620693217682128896) := by
  refine own_fixdiv (own_fix0.mpr (Jvm.FP.Core.l2d_int h)) (own_fix0.mpr own_eight) (by decide) ?_ h (by decide)
  show x.toInt * 8 = x.toInt * 8 * 1
  omega
theorem own_k6 {p k : Int32} (h : (p &&& (2147483647 : Int32)) % (6 : Int32) = k) : k = 0 ∨ k = 1 ∨ k = 2 ∨ k = 3 ∨ k = 4 ∨ k = 5 := by
  have e1 := c_mask p 2147483647 31 (by decide) (by decide)
  have e2 := (c_irem (p &&& 2147483647) 6 6 (by decide)).1 (by omega)
  rw [h] at e2
  have L : ∀ z : Int32, k.toInt = z.toInt → k = z := fun z q => Int32.toInt_inj.mp q
  have C : k.toInt = 0 ∨ k.toInt = 1 ∨ k.toInt = 2 ∨ k.toInt = 3 ∨ k.toInt = 4 ∨ k.toInt = 5 := by omega
  rcases C with C | C | C | C | C | C
  · left; exact L 0 (by rw [C]; decide)
  · right; left; exact L 1 (by rw [C]; decide)
  · right; right; left; exact L 2 (by rw [C]; decide)
  · right; right; right; left; exact L 3 (by rw [C]; decide)
  · right; right; right; right; left; exact L 4 (by rw [C]; decide)
  · right; right; right; right; right; exact L 5 (by rw [C]; decide)
theorem own_prod {s : Int32} {t : Int} {cy : UInt64} (h : DFix t 3 cy) (b : 0 ≤ t ∧ t ≤ 32) : DFix (s.toInt * t) 3 (FP.dmul (FP.i2d s) cy) := by
  have r := rng32 s
  have m1 := mc (a := s.toInt) (b := t) (l1 := -2147483648) (h1 := 2147483648) (l2 := 0) (h2 := 32) (by omega) (by omega) (by omega) (by omega)
  have := own_fixmul (own_fix0.mpr (Jvm.FP.Core.i2d_int s)) h (by omega) (by decide)
  rwa [Nat.zero_add] at this
set_option maxRecDepth 65536 in
set_option maxHeartbeats 40000000 in
theorem rm0_38_0 {p : Program} {l : Launch} {e : Env} {s : State} {m : MethodId} {args : Array Value} {below : List Frame} {meth : Method} {c : Code} {T0 Z : State} {a0 : Array Value} {h0 : Heap} {n0 : Nat} {p0 p2 p3 : Int32} {p1 : Int64} {cm : Int32} {d : Int64} (X0 : Stand p l e room_1 s m args below meth c T0 [] 0 0) (hx : p.tables.exec = Jvm.exec) (hby : c.code = code) (hml : c.maxLocals = maxLocals) (hret : meth.sig.returnType = ret) (hlk : meth.locks = false) (hown : s.vm.findClass "com/example/iso_throttle/isothrottle/AdmissionTallyAdmittedPinLaw" = some m.cls) (hZ : Z.Warmed39 s.vm) (hw : ∀ d ∈ tables_1, d.before a0 Z = true) (e0 : T0.heap = h0) (Z0 : n0 ≤ h0.size) (N0 : Fr n0 []) (hcm : cm.toInt = 125) (hd : 0 ≤ d.toInt) :
    Go p e below (EndQ s (Q_rm0 n0) 16 128) T0 (mkF m 38 #[.val (.int p0), .val (.long p1), .second, .val (.int p2), .val (.int p3), .val (.int (0 : Int32)), .val (.int cm), .val (.long d), .second, .unset, .unset, .unset, .unset, .unset, .unset, .unset] []) := by
  have HC := own_cyc (cm := cm) (t := 1) (by rw [hcm]; decide) (by decide)
  have HP := own_prod (s := p0) HC (by decide)
  obtain ⟨n, hn, n1, n2, n3⟩ := own_l2dn d
  have HD := own_fixint hn 3
  have r0 := rng32 p0
  have e8 : ((2 ^ 3 : Nat) : Int) = 8 := rfl
  rw [e8] at HD
  refine g_new X0 hx hZ hown (hw _ (List.mem_of_getElem? (i := 2) rfl)) (hw _ (List.mem_of_getElem? (i := 3) rfl)) (hw _ (List.mem_of_getElem? (i := 4) rfl)) e0 41 (hb hby at_38) rfl (by decide) (by decide) ?_
  intro T93 h93 a93 g93 X93 e93 E93 A93 D93
  have ge94 : n0 ≤ a93 := by rw [g93]; exact Z0
  have Z95 : n0 ≤ h93.size := Nat.le_trans Z0 E93.1
  have F96 : Fld Z h93 a93 "com/example/iso_throttle/isothrottle/AdmissionTally" "idealTotal" "Lcom/example/iso_throttle/isothrottle/CompensatedSum;" .null := D93 (Or.inr (hw _ (List.mem_of_getElem? (i := 19) rfl))) (ty := (.object "com/example/iso_throttle/isothrottle/CompensatedSum")) (by decide)
  have F97 : Fld Z h93 a93 "com/example/iso_throttle/isothrottle/AdmissionTally" "admittedTotal" "Lcom/example/iso_throttle/isothrottle/CompensatedSum;" .null := D93 (Or.inr (hw _ (List.mem_of_getElem? (i := 21) rfl))) (ty := (.object "com/example/iso_throttle/isothrottle/CompensatedSum")) (by decide)
  have F98 : Fld Z h93 a93 "com/example/iso_throttle/isothrottle/AdmissionTally" "limit" "D" (.double (0 : UInt64)) := D93 (Or.inr (hw _ (List.mem_of_getElem? (i := 32) rfl))) (ty := .double) (by decide)
  have F99 : Fld Z h93 a93 "com/example/iso_throttle/isothrottle/AdmissionTally" "cycleSeconds" "D" (.double (0 : UInt64)) := D93 (Or.inr (hw _ (List.mem_of_getElem? (i := 35) rfl))) (ty := .double) (by decide)
  refine g_dup X93 hx 42 (hb hby at_41) rfl rfl ?_
  refine g_dconst1 X93 hx 43 (hb hby at_42) rfl ?_
  refine g_iload X93 hx 45 (hb hby at_43) rfl rfl ?_
  refine g_init X93 hx hZ rfl hown (hw _ (List.mem_of_getElem? (i := 5) rfl)) (hw _ (List.mem_of_getElem? (i := 6) rfl)) (hw _ (List.mem_of_getElem? (i := 4) rfl)) (hw _ (List.mem_of_getElem? (i := 7) rfl)) (by decide) (rmInit l Z a0 hw a93 4607182418800017408 cm h93 n0 Z95 1 own_done (by decide) (by rw [hcm]; decide) (own_fixnn HC) A93 ge94 F96 F97 F98 F99) e93 (a := a93) (argsL := [(.double 4607182418800017408), (.int cm)]) (rest := [(.ref a93)]) rfl rfl 1 48 rfl (by rw [hml]; rfl) (lenOf own_pd0 rfl) (Nat.le_refl _) (by decide) (by decide) (by decide) (by decide) (hb hby at_45) ?_
  intro v100 T100 L100 X100 hQ100
  obtain ⟨rfl, N100, K100, F1100, F2100⟩ := hQ100
  have N101 := Fr.app N0 N100
  have F102 := A93.keep K100
  have Z107 : n0 ≤ T100.heap.size := Nat.le_trans Z95 K100.1
  show Go p e below _ T100 (mkF m 48 #[.val (.int p0), .val (.long p1), .second, .val (.int p2), .val (.int p3), .val (.int (0 : Int32)), .val (.int cm), .val (.long d), .second, .unset, .unset, .unset, .unset, .unset, .unset, .unset] [(.ref a93)])
  refine g_astore (l' := #[.val (.int p0), .val (.long p1), .second, .val (.int p2), .val (.int p3), .val (.int (0 : Int32)), .val (.int cm), .val (.long d), .second, .val (.ref a93), .unset, .unset, .unset, .unset, .unset, .unset]) X100 hx 50 (hb hby at_48) rfl rfl rfl ?_
  refine g_aload X100 hx 52 (hb hby at_50) rfl rfl rfl ?_
  refine g_iloadN X100 hx 53 (hb hby at_52) rfl rfl ?_
  refine g_i2d X100 hx 54 (hb hby at_53) rfl ?_
  refine g_lload X100 hx 56 (hb hby at_54) rfl rfl ?_
  refine g_virt X100 hx hZ (C := "com/example/iso_throttle/isothrottle/AdmissionTally") hown (hw _ (List.mem_of_getElem? (i := 36) rfl)) (hw _ (List.mem_of_getElem? (i := 37) rfl)) (hw _ (List.mem_of_getElem? (i := 39) rfl)) (hw _ (List.mem_of_getElem? (i := 39) rfl)) (hw _ (List.mem_of_getElem? (i := 38) rfl)) (hw _ (List.mem_of_getElem? (i := 4) rfl)) (hw _ (List.mem_of_getElem? (i := 40) rfl)) (by decide) (rmAdm l Z a0 hw a93 (FP.i2d p0) d T100.heap n0 Z107 p0.toInt (Jvm.FP.Core.i2d_int p0) hd _ F2100 (p0.toInt * 1) (n * 8) 3 HP HD) rfl (b := a93) F102 (argsL := [(.double (FP.i2d p0)), (.long d)]) (rest := []) rfl rfl 0 59 rfl (by rw [hml]; rfl) (lenOf own_pd4 rfl) (Nat.le_refl _) (by decide) (by decide) (by decide) (by decide) (hb hby at_56) ?_
  intro v108 T108 L108 X108 hQ108
  obtain ⟨got, rfl, hg, N108, q108⟩ := hQ108
  have N109 := Fr.app N101 N108
  show Go p e below _ T108 (mkF m 59 #[.val (.int p0), .val (.long p1), .second, .val (.int p2), .val (.int p3), .val (.int (0 : Int32)), .val (.int cm), .val (.long d), .second, .val (.ref a93), .unset, .unset, .unset, .unset, .unset, .unset] [(.double got)])
  refine g_dstore (l' := #[.val (.int p0), .val (.long p1), .second, .val (.int p2), .val (.int p3), .val (.int (0 : Int32)), .val (.int cm), .val (.long d), .second, .val (.ref a93), .val (.double got), .second, .unset, .unset, .unset, .unset]) X108 hx 61 (hb hby at_59) rfl rfl ?_
  refine g_iloadN X108 hx 62 (hb hby at_61) rfl rfl ?_
  refine g_if_gt X108 hx 71 65 (hb hby at_62) (by decide) (by decide) rfl (fun c110 => ?_) (fun c110 => ?_)
  · skip
    refine g_iloadN X108 hx 72 (hb hby at_71) rfl rfl ?_
    refine g_i2l X108 hx 73 (hb hby at_72) rfl ?_
    refine g_iload X108 hx 75 (hb hby at_73) rfl rfl ?_
    refine g_lshl X108 hx 76 (hb hby at_75) rfl ?_
    refine g_lstore (l' := #[.val (.int p0), .val (.long p1), .second, .val (.int p2), .val (.int p3), .val (.int (0 : Int32)), .val (.int cm), .val (.long d), .second, .val (.ref a93), .val (.double got), .second, .unset, .unset, .val (.long ((p0.toInt64) <<< ((0 : Int32) &&& 0x3f).toInt64)), .second]) X108 hx 78 (hb hby at_76) rfl rfl ?_
    generalize hp8 : ((p0.toInt64) <<< ((0 : Int32) &&& 0x3f).toInt64) = p8
    have P8 : p8.toInt = p0.toInt * 1 := by
      have e1 := c_lshl p0.toInt64 0 0 (by decide)
      have e2 := c_i2l p0
      have e3 := rng64 p8
      rw [hp8] at e1
      have e4 : ((2 ^ 0 : Nat) : Int) = 1 := rfl
      rw [e4] at e1
      omega
    have HX := own_p8 (x := p8) (by omega)
    rw [P8] at HX
    refine g_lload X108 hx 80 (hb hby at_78) rfl rfl ?_
    refine g_bipush X108 hx (34 : Int32) 82 (hb hby at_80) rfl (by decide) ?_
    refine g_lshr X108 hx 83 (hb hby at_82) rfl ?_
    refine g_lconst X108 hx (0 : Int64) 84 (hb hby at_83) rfl (by decide) ?_
    have sh := c_lshr d 34 34 (by decide)
    have e34 : ((2 ^ 34 : Nat) : Int) = 17179869184 := rfl
    rw [e34] at sh
    have ll112 : ((0 : Int64) : Int64).toInt = 0 := by decide
    refine g_lc_eq X108 hx 85 100 88 (hb hby at_84) rfl (hb hby at_85) (by decide) (by decide) rfl (fun c111 => ?_) (fun c111 => ?_)
    · skip
      refine g_lload X108 hx 102 (hb hby at_100) rfl rfl ?_
      refine g_lload X108 hx 104 (hb hby at_102) rfl rfl ?_
      refine g_ldc2J X108 hx 107 hZ hown (hw _ (List.mem_of_getElem? (i := 51) rfl)) (hb hby at_104) rfl ?_
      refine g_lmul X108 hx 108 (hb hby at_107) rfl ?_
      have em := c_lmul d 8
      have er := rng64 (d * 8)
      have l8 : (8 : Int64).toInt = 8 := by decide
      rw [l8] at em
      have hn53 := n3 (by omega)
      refine g_lc_gt X108 hx 109 124 112 (hb hby at_108) rfl (hb hby at_109) (by decide) (by decide) rfl (fun c113 => ?_) (fun c113 => ?_)
      · skip
        refine g_lload X108 hx 126 (hb hby at_124) rfl rfl ?_
        refine g_l2d X108 hx 127 (hb hby at_126) rfl ?_
        refine g_dstore (l' := #[.val (.int p0), .val (.long p1), .second, .val (.int p2), .val (.int p3), .val (.int (0 : Int32)), .val (.int cm), .val (.long d), .second, .val (.ref a93), .val (.double got), .second, .val (.double (FP.l2d d)), .second, .val (.long p8), .second]) X108 hx 129 (hb hby at_127) rfl rfl ?_
        refine g_dload X108 hx 131 (hb hby at_129) rfl rfl ?_
        refine g_dload X108 hx 133 (hb hby at_131) rfl rfl ?_
        refine g_dc_ne X108 hx 134 141 137 (hb hby at_133) rfl (hb hby at_134) (by decide) (by decide) rfl (own_fixcmp hg HD) (fun c114 => ?_) (fun c114 => ?_)
        · skip
          exfalso; omega
        · skip
          refine g_iconst X108 hx (1 : Int32) 138 (hb hby at_137) rfl (by decide) ?_
          refine g_goto X108 hx 142 (hb hby at_138) (by decide) (by decide) ?_
          exact g_retZ X108 hx hlk hret (hb hby at_142) (by decide) (by decide) q108 ⟨rfl, N109⟩
      · skip
        refine g_lload X108 hx 114 (hb hby at_112) rfl rfl ?_
        refine g_l2d X108 hx 115 (hb hby at_114) rfl ?_
        refine g_ldc2D X108 hx 118 hZ hown (hw _ (List.mem_of_getElem? (i := 52) rfl)) (hb hby at_115) rfl ?_
        refine g_ddiv X108 hx 119 (hb hby at_118) rfl (own_fixnn HX) ?_
        refine g_dstore (l' := #[.val (.int p0), .val (.long p1), .second, .val (.int p2), .val (.int p3), .val (.int (0 : Int32)), .val (.int cm), .val (.long d), .second, .val (.ref a93), .val (.double got), .second, .val (.double (FP.ddiv (FP.l2d p8) (4620693217682128896 : UInt64))), .second, .val (.long p8), .second]) X108 hx 121 (hb hby at_119) rfl rfl ?_
        refine g_goto X108 hx 129 (hb hby at_121) (by decide) (by decide) ?_
        refine g_dload X108 hx 131 (hb hby at_129) rfl rfl ?_
        refine g_dload X108 hx 133 (hb hby at_131) rfl rfl ?_
        refine g_dc_ne X108 hx 134 141 137 (hb hby at_133) rfl (hb hby at_134) (by decide) (by decide) rfl (own_fixcmp hg HX) (fun c115 => ?_) (fun c115 => ?_)
        · skip
          exfalso; omega
        · skip
          refine g_iconst X108 hx (1 : Int32) 138 (hb hby at_137) rfl (by decide) ?_
          refine g_goto X108 hx 142 (hb hby at_138) (by decide) (by decide) ?_
          exact g_retZ X108 hx hlk hret (hb hby at_142) (by decide) (by decide) q108 ⟨rfl, N109⟩
    · skip
      refine g_lload X108 hx 90 (hb hby at_88) rfl rfl ?_
      refine g_l2d X108 hx 91 (hb hby at_90) rfl ?_
      refine g_ldc2D X108 hx 94 hZ hown (hw _ (List.mem_of_getElem? (i := 52) rfl)) (hb hby at_91) rfl ?_
      refine g_ddiv X108 hx 95 (hb hby at_94) rfl (own_fixnn HX) ?_
      refine g_dstore (l' := #[.val (.int p0), .val (.long p1), .second, .val (.int p2), .val (.int p3), .val (.int (0 : Int32)), .val (.int cm), .val (.long d), .second, .val (.ref a93), .val (.double got), .second, .val (.double (FP.ddiv (FP.l2d p8) (4620693217682128896 : UInt64))), .second, .val (.long p8), .second]) X108 hx 97 (hb hby at_95) rfl rfl ?_
      refine g_goto X108 hx 129 (hb hby at_97) (by decide) (by decide) ?_
      refine g_dload X108 hx 131 (hb hby at_129) rfl rfl ?_
      refine g_dload X108 hx 133 (hb hby at_131) rfl rfl ?_
      refine g_dc_ne X108 hx 134 141 137 (hb hby at_133) rfl (hb hby at_134) (by decide) (by decide) rfl (own_fixcmp hg HX) (fun c116 => ?_) (fun c116 => ?_)
      · skip
        exfalso; omega
      · skip
        refine g_iconst X108 hx (1 : Int32) 138 (hb hby at_137) rfl (by decide) ?_
        refine g_goto X108 hx 142 (hb hby at_138) (by decide) (by decide) ?_
        exact g_retZ X108 hx hlk hret (hb hby at_142) (by decide) (by decide) q108 ⟨rfl, N109⟩
  · skip
    refine g_dconst0 X108 hx 66 (hb hby at_65) rfl ?_
    refine g_dstore (l' := #[.val (.int p0), .val (.long p1), .second, .val (.int p2), .val (.int p3), .val (.int (0 : Int32)), .val (.int cm), .val (.long d), .second, .val (.ref a93), .val (.double got), .second, .val (.double 0), .second, .unset, .unset]) X108 hx 68 (hb hby at_66) rfl rfl ?_
    refine g_goto X108 hx 129 (hb hby at_68) (by decide) (by decide) ?_
    refine g_dload X108 hx 131 (hb hby at_129) rfl rfl ?_
    refine g_dload X108 hx 133 (hb hby at_131) rfl rfl ?_
    refine g_dc_ne X108 hx 134 141 137 (hb hby at_133) rfl (hb hby at_134) (by decide) (by decide) rfl (own_fixcmp hg (own_fixz 3)) (fun c117 => ?_) (fun c117 => ?_)
    · skip
      exfalso; omega
    · skip
      refine g_iconst X108 hx (1 : Int32) 138 (hb hby at_137) rfl (by decide) ?_
      refine g_goto X108 hx 142 (hb hby at_138) (by decide) (by decide) ?_
      exact g_retZ X108 hx hlk hret (hb hby at_142) (by decide) (by decide) q108 ⟨rfl, N109⟩
set_option maxRecDepth 65536 in
set_option maxHeartbeats 40000000 in
theorem rm0_38_1 {p : Program} {l : Launch} {e : Env} {s : State} {m : MethodId} {args : Array Value} {below : List Frame} {meth : Method} {c : Code} {T0 Z : State} {a0 : Array Value} {h0 : Heap} {n0 : Nat} {p0 p2 p3 : Int32} {p1 : Int64} {cm : Int32} {d : Int64} (X0 : Stand p l e room_1 s m args below meth c T0 [] 0 0) (hx : p.tables.exec = Jvm.exec) (hby : c.code = code) (hml : c.maxLocals = maxLocals) (hret : meth.sig.returnType = ret) (hlk : meth.locks = false) (hown : s.vm.findClass "com/example/iso_throttle/isothrottle/AdmissionTallyAdmittedPinLaw" = some m.cls) (hZ : Z.Warmed39 s.vm) (hw : ∀ d ∈ tables_1, d.before a0 Z = true) (e0 : T0.heap = h0) (Z0 : n0 ≤ h0.size) (N0 : Fr n0 []) (hcm : cm.toInt = 250) (hd : 0 ≤ d.toInt) :
    Go p e below (EndQ s (Q_rm0 n0) 16 128) T0 (mkF m 38 #[.val (.int p0), .val (.long p1), .second, .val (.int p2), .val (.int p3), .val (.int (1 : Int32)), .val (.int cm), .val (.long d), .second, .unset, .unset, .unset, .unset, .unset, .unset, .unset] []) := by
  have HC := own_cyc (cm := cm) (t := 2) (by rw [hcm]; decide) (by decide)
  have HP := own_prod (s := p0) HC (by decide)
  obtain ⟨n, hn, n1, n2, n3⟩ := own_l2dn d
  have HD := own_fixint hn 3
  have r0 := rng32 p0
  have e8 : ((2 ^ 3 : Nat) : Int) = 8 := rfl
  rw [e8] at HD
  refine g_new X0 hx hZ hown (hw _ (List.mem_of_getElem? (i := 2) rfl)) (hw _ (List.mem_of_getElem? (i := 3) rfl)) (hw _ (List.mem_of_getElem? (i := 4) rfl)) e0 41 (hb hby at_38) rfl (by decide) (by decide) ?_
  intro T118 h118 a118 g118 X118 e118 E118 A118 D118
  have ge119 : n0 ≤ a118 := by rw [g118]; exact Z0
  have Z120 : n0 ≤ h118.size := Nat.le_trans Z0 E118.1
  have F121 : Fld Z h118 a118 "com/example/iso_throttle/isothrottle/AdmissionTally" "idealTotal" "Lcom/example/iso_throttle/isothrottle/CompensatedSum;" .null := D118 (Or.inr (hw _ (List.mem_of_getElem? (i := 19) rfl))) (ty := (.object "com/example/iso_throttle/isothrottle/CompensatedSum")) (by decide)
  have F122 : Fld Z h118 a118 "com/example/iso_throttle/isothrottle/AdmissionTally" "admittedTotal" "Lcom/example/iso_throttle/isothrottle/CompensatedSum;" .null := D118 (Or.inr (hw _ (List.mem_of_getElem? (i := 21) rfl))) (ty := (.object "com/example/iso_throttle/isothrottle/CompensatedSum")) (by decide)
  have F123 : Fld Z h118 a118 "com/example/iso_throttle/isothrottle/AdmissionTally" "limit" "D" (.double (0 : UInt64)) := D118 (Or.inr (hw _ (List.mem_of_getElem? (i := 32) rfl))) (ty := .double) (by decide)
  have F124 : Fld Z h118 a118 "com/example/iso_throttle/isothrottle/AdmissionTally" "cycleSeconds" "D" (.double (0 : UInt64)) := D118 (Or.inr (hw _ (List.mem_of_getElem? (i := 35) rfl))) (ty := .double) (by decide)
  refine g_dup X118 hx 42 (hb hby at_41) rfl rfl ?_
  refine g_dconst1 X118 hx 43 (hb hby at_42) rfl ?_
  refine g_iload X118 hx 45 (hb hby at_43) rfl rfl ?_
  refine g_init X118 hx hZ rfl hown (hw _ (List.mem_of_getElem? (i := 5) rfl)) (hw _ (List.mem_of_getElem? (i := 6) rfl)) (hw _ (List.mem_of_getElem? (i := 4) rfl)) (hw _ (List.mem_of_getElem? (i := 7) rfl)) (by decide) (rmInit l Z a0 hw a118 4607182418800017408 cm h118 n0 Z120 1 own_done (by decide) (by rw [hcm]; decide) (own_fixnn HC) A118 ge119 F121 F122 F123 F124) e118 (a := a118) (argsL := [(.double 4607182418800017408), (.int cm)]) (rest := [(.ref a118)]) rfl rfl 1 48 rfl (by rw [hml]; rfl) (lenOf own_pd0 rfl) (Nat.le_refl _) (by decide) (by decide) (by decide) (by decide) (hb hby at_45) ?_
  intro v125 T125 L125 X125 hQ125
  obtain ⟨rfl, N125, K125, F1125, F2125⟩ := hQ125
  have N126 := Fr.app N0 N125
  have F127 := A118.keep K125
  have Z132 : n0 ≤ T125.heap.size := Nat.le_trans Z120 K125.1
  show Go p e below _ T125 (mkF m 48 #[.val (.int p0), .val (.long p1), .second, .val (.int p2), .val (.int p3), .val (.int (1 : Int32)), .val (.int cm), .val (.long d), .second, .unset, .unset, .unset, .unset, .unset, .unset, .unset] [(.ref a118)])
  refine g_astore (l' := #[.val (.int p0), .val (.long p1), .second, .val (.int p2), .val (.int p3), .val (.int (1 : Int32)), .val (.int cm), .val (.long d), .second, .val (.ref a118), .unset, .unset, .unset, .unset, .unset, .unset]) X125 hx 50 (hb hby at_48) rfl rfl rfl ?_
  refine g_aload X125 hx 52 (hb hby at_50) rfl rfl rfl ?_
  refine g_iloadN X125 hx 53 (hb hby at_52) rfl rfl ?_
  refine g_i2d X125 hx 54 (hb hby at_53) rfl ?_
  refine g_lload X125 hx 56 (hb hby at_54) rfl rfl ?_
  refine g_virt X125 hx hZ (C := "com/example/iso_throttle/isothrottle/AdmissionTally") hown (hw _ (List.mem_of_getElem? (i := 36) rfl)) (hw _ (List.mem_of_getElem? (i := 37) rfl)) (hw _ (List.mem_of_getElem? (i := 39) rfl)) (hw _ (List.mem_of_getElem? (i := 39) rfl)) (hw _ (List.mem_of_getElem? (i := 38) rfl)) (hw _ (List.mem_of_getElem? (i := 4) rfl)) (hw _ (List.mem_of_getElem? (i := 40) rfl)) (by decide) (rmAdm l Z a0 hw a118 (FP.i2d p0) d T125.heap n0 Z132 p0.toInt (Jvm.FP.Core.i2d_int p0) hd _ F2125 (p0.toInt * 2) (n * 8) 3 HP HD) rfl (b := a118) F127 (argsL := [(.double (FP.i2d p0)), (.long d)]) (rest := []) rfl rfl 0 59 rfl (by rw [hml]; rfl) (lenOf own_pd4 rfl) (Nat.le_refl _) (by decide) (by decide) (by decide) (by decide) (hb hby at_56) ?_
  intro v133 T133 L133 X133 hQ133
  obtain ⟨got, rfl, hg, N133, q133⟩ := hQ133
  have N134 := Fr.app N126 N133
  show Go p e below _ T133 (mkF m 59 #[.val (.int p0), .val (.long p1), .second, .val (.int p2), .val (.int p3), .val (.int (1 : Int32)), .val (.int cm), .val (.long d), .second, .val (.ref a118), .unset, .unset, .unset, .unset, .unset, .unset] [(.double got)])
  refine g_dstore (l' := #[.val (.int p0), .val (.long p1), .second, .val (.int p2), .val (.int p3), .val (.int (1 : Int32)), .val (.int cm), .val (.long d), .second, .val (.ref a118), .val (.double got), .second, .unset, .unset, .unset, .unset]) X133 hx 61 (hb hby at_59) rfl rfl ?_
  refine g_iloadN X133 hx 62 (hb hby at_61) rfl rfl ?_
  refine g_if_gt X133 hx 71 65 (hb hby at_62) (by decide) (by decide) rfl (fun c135 => ?_) (fun c135 => ?_)
  · skip
    refine g_iloadN X133 hx 72 (hb hby at_71) rfl rfl ?_
    refine g_i2l X133 hx 73 (hb hby at_72) rfl ?_
    refine g_iload X133 hx 75 (hb hby at_73) rfl rfl ?_
    refine g_lshl X133 hx 76 (hb hby at_75) rfl ?_
    refine g_lstore (l' := #[.val (.int p0), .val (.long p1), .second, .val (.int p2), .val (.int p3), .val (.int (1 : Int32)), .val (.int cm), .val (.long d), .second, .val (.ref a118), .val (.double got), .second, .unset, .unset, .val (.long ((p0.toInt64) <<< ((1 : Int32) &&& 0x3f).toInt64)), .second]) X133 hx 78 (hb hby at_76) rfl rfl ?_
    generalize hp8 : ((p0.toInt64) <<< ((1 : Int32) &&& 0x3f).toInt64) = p8
    have P8 : p8.toInt = p0.toInt * 2 := by
      have e1 := c_lshl p0.toInt64 1 1 (by decide)
      have e2 := c_i2l p0
      have e3 := rng64 p8
      rw [hp8] at e1
      have e4 : ((2 ^ 1 : Nat) : Int) = 2 := rfl
      rw [e4] at e1
      omega
    have HX := own_p8 (x := p8) (by omega)
    rw [P8] at HX
    refine g_lload X133 hx 80 (hb hby at_78) rfl rfl ?_
    refine g_bipush X133 hx (34 : Int32) 82 (hb hby at_80) rfl (by decide) ?_
    refine g_lshr X133 hx 83 (hb hby at_82) rfl ?_
    refine g_lconst X133 hx (0 : Int64) 84 (hb hby at_83) rfl (by decide) ?_
    have sh := c_lshr d 34 34 (by decide)
    have e34 : ((2 ^ 34 : Nat) : Int) = 17179869184 := rfl
    rw [e34] at sh
    have ll137 : ((0 : Int64) : Int64).toInt = 0 := by decide
    refine g_lc_eq X133 hx 85 100 88 (hb hby at_84) rfl (hb hby at_85) (by decide) (by decide) rfl (fun c136 => ?_) (fun c136 => ?_)
    · skip
      refine g_lload X133 hx 102 (hb hby at_100) rfl rfl ?_
      refine g_lload X133 hx 104 (hb hby at_102) rfl rfl ?_
      refine g_ldc2J X133 hx 107 hZ hown (hw _ (List.mem_of_getElem? (i := 51) rfl)) (hb hby at_104) rfl ?_
      refine g_lmul X133 hx 108 (hb hby at_107) rfl ?_
      have em := c_lmul d 8
      have er := rng64 (d * 8)
      have l8 : (8 : Int64).toInt = 8 := by decide
      rw [l8] at em
      have hn53 := n3 (by omega)
      refine g_lc_gt X133 hx 109 124 112 (hb hby at_108) rfl (hb hby at_109) (by decide) (by decide) rfl (fun c138 => ?_) (fun c138 => ?_)
      · skip
        refine g_lload X133 hx 126 (hb hby at_124) rfl rfl ?_
        refine g_l2d X133 hx 127 (hb hby at_126) rfl ?_
        refine g_dstore (l' := #[.val (.int p0), .val (.long p1), .second, .val (.int p2), .val (.int p3), .val (.int (1 : Int32)), .val (.int cm), .val (.long d), .second, .val (.ref a118), .val (.double got), .second, .val (.double (FP.l2d d)), .second, .val (.long p8), .second]) X133 hx 129 (hb hby at_127) rfl rfl ?_
        refine g_dload X133 hx 131 (hb hby at_129) rfl rfl ?_
        refine g_dload X133 hx 133 (hb hby at_131) rfl rfl ?_
        refine g_dc_ne X133 hx 134 141 137 (hb hby at_133) rfl (hb hby at_134) (by decide) (by decide) rfl (own_fixcmp hg HD) (fun c139 => ?_) (fun c139 => ?_)
        · skip
          exfalso; omega
        · skip
          refine g_iconst X133 hx (1 : Int32) 138 (hb hby at_137) rfl (by decide) ?_
          refine g_goto X133 hx 142 (hb hby at_138) (by decide) (by decide) ?_
          exact g_retZ X133 hx hlk hret (hb hby at_142) (by decide) (by decide) q133 ⟨rfl, N134⟩
      · skip
        refine g_lload X133 hx 114 (hb hby at_112) rfl rfl ?_
        refine g_l2d X133 hx 115 (hb hby at_114) rfl ?_
        refine g_ldc2D X133 hx 118 hZ hown (hw _ (List.mem_of_getElem? (i := 52) rfl)) (hb hby at_115) rfl ?_
        refine g_ddiv X133 hx 119 (hb hby at_118) rfl (own_fixnn HX) ?_
        refine g_dstore (l' := #[.val (.int p0), .val (.long p1), .second, .val (.int p2), .val (.int p3), .val (.int (1 : Int32)), .val (.int cm), .val (.long d), .second, .val (.ref a118), .val (.double got), .second, .val (.double (FP.ddiv (FP.l2d p8) (4620693217682128896 : UInt64))), .second, .val (.long p8), .second]) X133 hx 121 (hb hby at_119) rfl rfl ?_
        refine g_goto X133 hx 129 (hb hby at_121) (by decide) (by decide) ?_
        refine g_dload X133 hx 131 (hb hby at_129) rfl rfl ?_
        refine g_dload X133 hx 133 (hb hby at_131) rfl rfl ?_
        refine g_dc_ne X133 hx 134 141 137 (hb hby at_133) rfl (hb hby at_134) (by decide) (by decide) rfl (own_fixcmp hg HX) (fun c140 => ?_) (fun c140 => ?_)
        · skip
          exfalso; omega
        · skip
          refine g_iconst X133 hx (1 : Int32) 138 (hb hby at_137) rfl (by decide) ?_
          refine g_goto X133 hx 142 (hb hby at_138) (by decide) (by decide) ?_
          exact g_retZ X133 hx hlk hret (hb hby at_142) (by decide) (by decide) q133 ⟨rfl, N134⟩
    · skip
      refine g_lload X133 hx 90 (hb hby at_88) rfl rfl ?_
      refine g_l2d X133 hx 91 (hb hby at_90) rfl ?_
      refine g_ldc2D X133 hx 94 hZ hown (hw _ (List.mem_of_getElem? (i := 52) rfl)) (hb hby at_91) rfl ?_
      refine g_ddiv X133 hx 95 (hb hby at_94) rfl (own_fixnn HX) ?_
      refine g_dstore (l' := #[.val (.int p0), .val (.long p1), .second, .val (.int p2), .val (.int p3), .val (.int (1 : Int32)), .val (.int cm), .val (.long d), .second, .val (.ref a118), .val (.double got), .second, .val (.double (FP.ddiv (FP.l2d p8) (4620693217682128896 : UInt64))), .second, .val (.long p8), .second]) X133 hx 97 (hb hby at_95) rfl rfl ?_
      refine g_goto X133 hx 129 (hb hby at_97) (by decide) (by decide) ?_
      refine g_dload X133 hx 131 (hb hby at_129) rfl rfl ?_
      refine g_dload X133 hx 133 (hb hby at_131) rfl rfl ?_
      refine g_dc_ne X133 hx 134 141 137 (hb hby at_133) rfl (hb hby at_134) (by decide) (by decide) rfl (own_fixcmp hg HX) (fun c141 => ?_) (fun c141 => ?_)
      · skip
        exfalso; omega
      · skip
        refine g_iconst X133 hx (1 : Int32) 138 (hb hby at_137) rfl (by decide) ?_
        refine g_goto X133 hx 142 (hb hby at_138) (by decide) (by decide) ?_
        exact g_retZ X133 hx hlk hret (hb hby at_142) (by decide) (by decide) q133 ⟨rfl, N134⟩
  · skip
    refine g_dconst0 X133 hx 66 (hb hby at_65) rfl ?_
    refine g_dstore (l' := #[.val (.int p0), .val (.long p1), .second, .val (.int p2), .val (.int p3), .val (.int (1 : Int32)), .val (.int cm), .val (.long d), .second, .val (.ref a118), .val (.double got), .second, .val (.double 0), .second, .unset, .unset]) X133 hx 68 (hb hby at_66) rfl rfl ?_
    refine g_goto X133 hx 129 (hb hby at_68) (by decide) (by decide) ?_
    refine g_dload X133 hx 131 (hb hby at_129) rfl rfl ?_
    refine g_dload X133 hx 133 (hb hby at_131) rfl rfl ?_
    refine g_dc_ne X133 hx 134 141 137 (hb hby at_133) rfl (hb hby at_134) (by decide) (by decide) rfl (own_fixcmp hg (own_fixz 3)) (fun c142 => ?_) (fun c142 => ?_)
    · skip
      exfalso; omega
    · skip
      refine g_iconst X133 hx (1 : Int32) 138 (hb hby at_137) rfl (by decide) ?_
      refine g_goto X133 hx 142 (hb hby at_138) (by decide) (by decide) ?_
      exact g_retZ X133 hx hlk hret (hb hby at_142) (by decide) (by decide) q133 ⟨rfl, N134⟩
set_option maxRecDepth 65536 in
set_option maxHeartbeats 40000000 in
theorem rm0_38_2 {p : Program} {l : Launch} {e : Env} {s : State} {m : MethodId} {args : Array Value} {below : List Frame} {meth : Method} {c : Code} {T0 Z : State} {a0 : Array Value} {h0 : Heap} {n0 : Nat} {p0 p2 p3 : Int32} {p1 : Int64} {cm : Int32} {d : Int64} (X0 : Stand p l e room_1 s m args below meth c T0 [] 0 0) (hx : p.tables.exec = Jvm.exec) (hby : c.code = code) (hml : c.maxLocals = maxLocals) (hret : meth.sig.returnType = ret) (hlk : meth.locks = false) (hown : s.vm.findClass "com/example/iso_throttle/isothrottle/AdmissionTallyAdmittedPinLaw" = some m.cls) (hZ : Z.Warmed39 s.vm) (hw : ∀ d ∈ tables_1, d.before a0 Z = true) (e0 : T0.heap = h0) (Z0 : n0 ≤ h0.size) (N0 : Fr n0 []) (hcm : cm.toInt = 500) (hd : 0 ≤ d.toInt) :
    Go p e below (EndQ s (Q_rm0 n0) 16 128) T0 (mkF m 38 #[.val (.int p0), .val (.long p1), .second, .val (.int p2), .val (.int p3), .val (.int (2 : Int32)), .val (.int cm), .val (.long d), .second, .unset, .unset, .unset, .unset, .unset, .unset, .unset] []) := by
  have HC := own_cyc (cm := cm) (t := 4) (by rw [hcm]; decide) (by decide)
  have HP := own_prod (s := p0) HC (by decide)
  obtain ⟨n, hn, n1, n2, n3⟩ := own_l2dn d
  have HD := own_fixint hn 3
  have r0 := rng32 p0
  have e8 : ((2 ^ 3 : Nat) : Int) = 8 := rfl
  rw [e8] at HD
  refine g_new X0 hx hZ hown (hw _ (List.mem_of_getElem? (i := 2) rfl)) (hw _ (List.mem_of_getElem? (i := 3) rfl)) (hw _ (List.mem_of_getElem? (i := 4) rfl)) e0 41 (hb hby at_38) rfl (by decide) (by decide) ?_
  intro T143 h143 a143 g143 X143 e143 E143 A143 D143
  have ge144 : n0 ≤ a143 := by rw [g143]; exact Z0
  have Z145 : n0 ≤ h143.size := Nat.le_trans Z0 E143.1
  have F146 : Fld Z h143 a143 "com/example/iso_throttle/isothrottle/AdmissionTally" "idealTotal" "Lcom/example/iso_throttle/isothrottle/CompensatedSum;" .null := D143 (Or.inr (hw _ (List.mem_of_getElem? (i := 19) rfl))) (ty := (.object "com/example/iso_throttle/isothrottle/CompensatedSum")) (by decide)
  have F147 : Fld Z h143 a143 "com/example/iso_throttle/isothrottle/AdmissionTally" "admittedTotal" "Lcom/example/iso_throttle/isothrottle/CompensatedSum;" .null := D143 (Or.inr (hw _ (List.mem_of_getElem? (i := 21) rfl))) (ty := (.object "com/example/iso_throttle/isothrottle/CompensatedSum")) (by decide)
  have F148 : Fld Z h143 a143 "com/example/iso_throttle/isothrottle/AdmissionTally" "limit" "D" (.double (0 : UInt64)) := D143 (Or.inr (hw _ (List.mem_of_getElem? (i := 32) rfl))) (ty := .double) (by decide)
  have F149 : Fld Z h143 a143 "com/example/iso_throttle/isothrottle/AdmissionTally" "cycleSeconds" "D" (.double (0 : UInt64)) := D143 (Or.inr (hw _ (List.mem_of_getElem? (i := 35) rfl))) (ty := .double) (by decide)
  refine g_dup X143 hx 42 (hb hby at_41) rfl rfl ?_
  refine g_dconst1 X143 hx 43 (hb hby at_42) rfl ?_
  refine g_iload X143 hx 45 (hb hby at_43) rfl rfl ?_
  refine g_init X143 hx hZ rfl hown (hw _ (List.mem_of_getElem? (i := 5) rfl)) (hw _ (List.mem_of_getElem? (i := 6) rfl)) (hw _ (List.mem_of_getElem? (i := 4) rfl)) (hw _ (List.mem_of_getElem? (i := 7) rfl)) (by decide) (rmInit l Z a0 hw a143 4607182418800017408 cm h143 n0 Z145 1 own_done (by decide) (by rw [hcm]; decide) (own_fixnn HC) A143 ge144 F146 F147 F148 F149) e143 (a := a143) (argsL := [(.double 4607182418800017408), (.int cm)]) (rest := [(.ref a143)]) rfl rfl 1 48 rfl (by rw [hml]; rfl) (lenOf own_pd0 rfl) (Nat.le_refl _) (by decide) (by decide) (by decide) (by decide) (hb hby at_45) ?_
  intro v150 T150 L150 X150 hQ150
  obtain ⟨rfl, N150, K150, F1150, F2150⟩ := hQ150
  have N151 := Fr.app N0 N150
  have F152 := A143.keep K150
  have Z157 : n0 ≤ T150.heap.size := Nat.le_trans Z145 K150.1
  show Go p e below _ T150 (mkF m 48 #[.val (.int p0), .val (.long p1), .second, .val (.int p2), .val (.int p3), .val (.int (2 : Int32)), .val (.int cm), .val (.long d), .second, .unset, .unset, .unset, .unset, .unset, .unset, .unset] [(.ref a143)])
  refine g_astore (l' := #[.val (.int p0), .val (.long p1), .second, .val (.int p2), .val (.int p3), .val (.int (2 : Int32)), .val (.int cm), .val (.long d), .second, .val (.ref a143), .unset, .unset, .unset, .unset, .unset, .unset]) X150 hx 50 (hb hby at_48) rfl rfl rfl ?_
  refine g_aload X150 hx 52 (hb hby at_50) rfl rfl rfl ?_
  refine g_iloadN X150 hx 53 (hb hby at_52) rfl rfl ?_
  refine g_i2d X150 hx 54 (hb hby at_53) rfl ?_
  refine g_lload X150 hx 56 (hb hby at_54) rfl rfl ?_
  refine g_virt X150 hx hZ (C := "com/example/iso_throttle/isothrottle/AdmissionTally") hown (hw _ (List.mem_of_getElem? (i := 36) rfl)) (hw _ (List.mem_of_getElem? (i := 37) rfl)) (hw _ (List.mem_of_getElem? (i := 39) rfl)) (hw _ (List.mem_of_getElem? (i := 39) rfl)) (hw _ (List.mem_of_getElem? (i := 38) rfl)) (hw _ (List.mem_of_getElem? (i := 4) rfl)) (hw _ (List.mem_of_getElem? (i := 40) rfl)) (by decide) (rmAdm l Z a0 hw a143 (FP.i2d p0) d T150.heap n0 Z157 p0.toInt (Jvm.FP.Core.i2d_int p0) hd _ F2150 (p0.toInt * 4) (n * 8) 3 HP HD) rfl (b := a143) F152 (argsL := [(.double (FP.i2d p0)), (.long d)]) (rest := []) rfl rfl 0 59 rfl (by rw [hml]; rfl) (lenOf own_pd4 rfl) (Nat.le_refl _) (by decide) (by decide) (by decide) (by decide) (hb hby at_56) ?_
  intro v158 T158 L158 X158 hQ158
  obtain ⟨got, rfl, hg, N158, q158⟩ := hQ158
  have N159 := Fr.app N151 N158
  show Go p e below _ T158 (mkF m 59 #[.val (.int p0), .val (.long p1), .second, .val (.int p2), .val (.int p3), .val (.int (2 : Int32)), .val (.int cm), .val (.long d), .second, .val (.ref a143), .unset, .unset, .unset, .unset, .unset, .unset] [(.double got)])
  refine g_dstore (l' := #[.val (.int p0), .val (.long p1), .second, .val (.int p2), .val (.int p3), .val (.int (2 : Int32)), .val (.int cm), .val (.long d), .second, .val (.ref a143), .val (.double got), .second, .unset, .unset, .unset, .unset]) X158 hx 61 (hb hby at_59) rfl rfl ?_
  refine g_iloadN X158 hx 62 (hb hby at_61) rfl rfl ?_
  refine g_if_gt X158 hx 71 65 (hb hby at_62) (by decide) (by decide) rfl (fun c160 => ?_) (fun c160 => ?_)
  · skip
    refine g_iloadN X158 hx 72 (hb hby at_71) rfl rfl ?_
    refine g_i2l X158 hx 73 (hb hby at_72) rfl ?_
    refine g_iload X158 hx 75 (hb hby at_73) rfl rfl ?_
    refine g_lshl X158 hx 76 (hb hby at_75) rfl ?_
    refine g_lstore (l' := #[.val (.int p0), .val (.long p1), .second, .val (.int p2), .val (.int p3), .val (.int (2 : Int32)), .val (.int cm), .val (.long d), .second, .val (.ref a143), .val (.double got), .second, .unset, .unset, .val (.long ((p0.toInt64) <<< ((2 : Int32) &&& 0x3f).toInt64)), .second]) X158 hx 78 (hb hby at_76) rfl rfl ?_
    generalize hp8 : ((p0.toInt64) <<< ((2 : Int32) &&& 0x3f).toInt64) = p8
    have P8 : p8.toInt = p0.toInt * 4 := by
      have e1 := c_lshl p0.toInt64 2 2 (by decide)
      have e2 := c_i2l p0
      have e3 := rng64 p8
      rw [hp8] at e1
      have e4 : ((2 ^ 2 : Nat) : Int) = 4 := rfl
      rw [e4] at e1
      omega
    have HX := own_p8 (x := p8) (by omega)
    rw [P8] at HX
    refine g_lload X158 hx 80 (hb hby at_78) rfl rfl ?_
    refine g_bipush X158 hx (34 : Int32) 82 (hb hby at_80) rfl (by decide) ?_
    refine g_lshr X158 hx 83 (hb hby at_82) rfl ?_
    refine g_lconst X158 hx (0 : Int64) 84 (hb hby at_83) rfl (by decide) ?_
    have sh := c_lshr d 34 34 (by decide)
    have e34 : ((2 ^ 34 : Nat) : Int) = 17179869184 := rfl
    rw [e34] at sh
    have ll162 : ((0 : Int64) : Int64).toInt = 0 := by decide
    refine g_lc_eq X158 hx 85 100 88 (hb hby at_84) rfl (hb hby at_85) (by decide) (by decide) rfl (fun c161 => ?_) (fun c161 => ?_)
    · skip
      refine g_lload X158 hx 102 (hb hby at_100) rfl rfl ?_
      refine g_lload X158 hx 104 (hb hby at_102) rfl rfl ?_
      refine g_ldc2J X158 hx 107 hZ hown (hw _ (List.mem_of_getElem? (i := 51) rfl)) (hb hby at_104) rfl ?_
      refine g_lmul X158 hx 108 (hb hby at_107) rfl ?_
      have em := c_lmul d 8
      have er := rng64 (d * 8)
      have l8 : (8 : Int64).toInt = 8 := by decide
      rw [l8] at em
      have hn53 := n3 (by omega)
      refine g_lc_gt X158 hx 109 124 112 (hb hby at_108) rfl (hb hby at_109) (by decide) (by decide) rfl (fun c163 => ?_) (fun c163 => ?_)
      · skip
        refine g_lload X158 hx 126 (hb hby at_124) rfl rfl ?_
        refine g_l2d X158 hx 127 (hb hby at_126) rfl ?_
        refine g_dstore (l' := #[.val (.int p0), .val (.long p1), .second, .val (.int p2), .val (.int p3), .val (.int (2 : Int32)), .val (.int cm), .val (.long d), .second, .val (.ref a143), .val (.double got), .second, .val (.double (FP.l2d d)), .second, .val (.long p8), .second]) X158 hx 129 (hb hby at_127) rfl rfl ?_
        refine g_dload X158 hx 131 (hb hby at_129) rfl rfl ?_
        refine g_dload X158 hx 133 (hb hby at_131) rfl rfl ?_
        refine g_dc_ne X158 hx 134 141 137 (hb hby at_133) rfl (hb hby at_134) (by decide) (by decide) rfl (own_fixcmp hg HD) (fun c164 => ?_) (fun c164 => ?_)
        · skip
          exfalso; omega
        · skip
          refine g_iconst X158 hx (1 : Int32) 138 (hb hby at_137) rfl (by decide) ?_
          refine g_goto X158 hx 142 (hb hby at_138) (by decide) (by decide) ?_
          exact g_retZ X158 hx hlk hret (hb hby at_142) (by decide) (by decide) q158 ⟨rfl, N159⟩
      · skip
        refine g_lload X158 hx 114 (hb hby at_112) rfl rfl ?_
        refine g_l2d X158 hx 115 (hb hby at_114) rfl ?_
        refine g_ldc2D X158 hx 118 hZ hown (hw _ (List.mem_of_getElem? (i := 52) rfl)) (hb hby at_115) rfl ?_
        refine g_ddiv X158 hx 119 (hb hby at_118) rfl (own_fixnn HX) ?_
        refine g_dstore (l' := #[.val (.int p0), .val (.long p1), .second, .val (.int p2), .val (.int p3), .val (.int (2 : Int32)), .val (.int cm), .val (.long d), .second, .val (.ref a143), .val (.double got), .second, .val (.double (FP.ddiv (FP.l2d p8) (4620693217682128896 : UInt64))), .second, .val (.long p8), .second]) X158 hx 121 (hb hby at_119) rfl rfl ?_
        refine g_goto X158 hx 129 (hb hby at_121) (by decide) (by decide) ?_
        refine g_dload X158 hx 131 (hb hby at_129) rfl rfl ?_
        refine g_dload X158 hx 133 (hb hby at_131) rfl rfl ?_
        refine g_dc_ne X158 hx 134 141 137 (hb hby at_133) rfl (hb hby at_134) (by decide) (by decide) rfl (own_fixcmp hg HX) (fun c165 => ?_) (fun c165 => ?_)
        · skip
          exfalso; omega
        · skip
          refine g_iconst X158 hx (1 : Int32) 138 (hb hby at_137) rfl (by decide) ?_
          refine g_goto X158 hx 142 (hb hby at_138) (by decide) (by decide) ?_
          exact g_retZ X158 hx hlk hret (hb hby at_142) (by decide) (by decide) q158 ⟨rfl, N159⟩
    · skip
      refine g_lload X158 hx 90 (hb hby at_88) rfl rfl ?_
      refine g_l2d X158 hx 91 (hb hby at_90) rfl ?_
      refine g_ldc2D X158 hx 94 hZ hown (hw _ (List.mem_of_getElem? (i := 52) rfl)) (hb hby at_91) rfl ?_
      refine g_ddiv X158 hx 95 (hb hby at_94) rfl (own_fixnn HX) ?_
      refine g_dstore (l' := #[.val (.int p0), .val (.long p1), .second, .val (.int p2), .val (.int p3), .val (.int (2 : Int32)), .val (.int cm), .val (.long d), .second, .val (.ref a143), .val (.double got), .second, .val (.double (FP.ddiv (FP.l2d p8) (4620693217682128896 : UInt64))), .second, .val (.long p8), .second]) X158 hx 97 (hb hby at_95) rfl rfl ?_
      refine g_goto X158 hx 129 (hb hby at_97) (by decide) (by decide) ?_
      refine g_dload X158 hx 131 (hb hby at_129) rfl rfl ?_
      refine g_dload X158 hx 133 (hb hby at_131) rfl rfl ?_
      refine g_dc_ne X158 hx 134 141 137 (hb hby at_133) rfl (hb hby at_134) (by decide) (by decide) rfl (own_fixcmp hg HX) (fun c166 => ?_) (fun c166 => ?_)
      · skip
        exfalso; omega
      · skip
        refine g_iconst X158 hx (1 : Int32) 138 (hb hby at_137) rfl (by decide) ?_
        refine g_goto X158 hx 142 (hb hby at_138) (by decide) (by decide) ?_
        exact g_retZ X158 hx hlk hret (hb hby at_142) (by decide) (by decide) q158 ⟨rfl, N159⟩
  · skip
    refine g_dconst0 X158 hx 66 (hb hby at_65) rfl ?_
    refine g_dstore (l' := #[.val (.int p0), .val (.long p1), .second, .val (.int p2), .val (.int p3), .val (.int (2 : Int32)), .val (.int cm), .val (.long d), .second, .val (.ref a143), .val (.double got), .second, .val (.double 0), .second, .unset, .unset]) X158 hx 68 (hb hby at_66) rfl rfl ?_
    refine g_goto X158 hx 129 (hb hby at_68) (by decide) (by decide) ?_
    refine g_dload X158 hx 131 (hb hby at_129) rfl rfl ?_
    refine g_dload X158 hx 133 (hb hby at_131) rfl rfl ?_
    refine g_dc_ne X158 hx 134 141 137 (hb hby at_133) rfl (hb hby at_134) (by decide) (by decide) rfl (own_fixcmp hg (own_fixz 3)) (fun c167 => ?_) (fun c167 => ?_)
    · skip
      exfalso; omega
    · skip
      refine g_iconst X158 hx (1 : Int32) 138 (hb hby at_137) rfl (by decide) ?_
      refine g_goto X158 hx 142 (hb hby at_138) (by decide) (by decide) ?_
      exact g_retZ X158 hx hlk hret (hb hby at_142) (by decide) (by decide) q158 ⟨rfl, N159⟩
set_option maxRecDepth 65536 in
set_option maxHeartbeats 40000000 in
theorem rm0_38_3 {p : Program} {l : Launch} {e : Env} {s : State} {m : MethodId} {args : Array Value} {below : List Frame} {meth : Method} {c : Code} {T0 Z : State} {a0 : Array Value} {h0 : Heap} {n0 : Nat} {p0 p2 p3 : Int32} {p1 : Int64} {cm : Int32} {d : Int64} (X0 : Stand p l e room_1 s m args below meth c T0 [] 0 0) (hx : p.tables.exec = Jvm.exec) (hby : c.code = code) (hml : c.maxLocals = maxLocals) (hret : meth.sig.returnType = ret) (hlk : meth.locks = false) (hown : s.vm.findClass "com/example/iso_throttle/isothrottle/AdmissionTallyAdmittedPinLaw" = some m.cls) (hZ : Z.Warmed39 s.vm) (hw : ∀ d ∈ tables_1, d.before a0 Z = true) (e0 : T0.heap = h0) (Z0 : n0 ≤ h0.size) (N0 : Fr n0 []) (hcm : cm.toInt = 1000) (hd : 0 ≤ d.toInt) :
    Go p e below (EndQ s (Q_rm0 n0) 16 128) T0 (mkF m 38 #[.val (.int p0), .val (.long p1), .second, .val (.int p2), .val (.int p3), .val (.int (3 : Int32)), .val (.int cm), .val (.long d), .second, .unset, .unset, .unset, .unset, .unset, .unset, .unset] []) := by
  have HC := own_cyc (cm := cm) (t := 8) (by rw [hcm]; decide) (by decide)
  have HP := own_prod (s := p0) HC (by decide)
  obtain ⟨n, hn, n1, n2, n3⟩ := own_l2dn d
  have HD := own_fixint hn 3
  have r0 := rng32 p0
  have e8 : ((2 ^ 3 : Nat) : Int) = 8 := rfl
  rw [e8] at HD
  refine g_new X0 hx hZ hown (hw _ (List.mem_of_getElem? (i := 2) rfl)) (hw _ (List.mem_of_getElem? (i := 3) rfl)) (hw _ (List.mem_of_getElem? (i := 4) rfl)) e0 41 (hb hby at_38) rfl (by decide) (by decide) ?_
  intro T168 h168 a168 g168 X168 e168 E168 A168 D168
  have ge169 : n0 ≤ a168 := by rw [g168]; exact Z0
  have Z170 : n0 ≤ h168.size := Nat.le_trans Z0 E168.1
  have F171 : Fld Z h168 a168 "com/example/iso_throttle/isothrottle/AdmissionTally" "idealTotal" "Lcom/example/iso_throttle/isothrottle/CompensatedSum;" .null := D168 (Or.inr (hw _ (List.mem_of_getElem? (i := 19) rfl))) (ty := (.object "com/example/iso_throttle/isothrottle/CompensatedSum")) (by decide)
  have F172 : Fld Z h168 a168 "com/example/iso_throttle/isothrottle/AdmissionTally" "admittedTotal" "Lcom/example/iso_throttle/isothrottle/CompensatedSum;" .null := D168 (Or.inr (hw _ (List.mem_of_getElem? (i := 21) rfl))) (ty := (.object "com/example/iso_throttle/isothrottle/CompensatedSum")) (by decide)
  have F173 : Fld Z h168 a168 "com/example/iso_throttle/isothrottle/AdmissionTally" "limit" "D" (.double (0 : UInt64)) := D168 (Or.inr (hw _ (List.mem_of_getElem? (i := 32) rfl))) (ty := .double) (by decide)
  have F174 : Fld Z h168 a168 "com/example/iso_throttle/isothrottle/AdmissionTally" "cycleSeconds" "D" (.double (0 : UInt64)) := D168 (Or.inr (hw _ (List.mem_of_getElem? (i := 35) rfl))) (ty := .double) (by decide)
  refine g_dup X168 hx 42 (hb hby at_41) rfl rfl ?_
  refine g_dconst1 X168 hx 43 (hb hby at_42) rfl ?_
  refine g_iload X168 hx 45 (hb hby at_43) rfl rfl ?_
  refine g_init X168 hx hZ rfl hown (hw _ (List.mem_of_getElem? (i := 5) rfl)) (hw _ (List.mem_of_getElem? (i := 6) rfl)) (hw _ (List.mem_of_getElem? (i := 4) rfl)) (hw _ (List.mem_of_getElem? (i := 7) rfl)) (by decide) (rmInit l Z a0 hw a168 4607182418800017408 cm h168 n0 Z170 1 own_done (by decide) (by rw [hcm]; decide) (own_fixnn HC) A168 ge169 F171 F172 F173 F174) e168 (a := a168) (argsL := [(.double 4607182418800017408), (.int cm)]) (rest := [(.ref a168)]) rfl rfl 1 48 rfl (by rw [hml]; rfl) (lenOf own_pd0 rfl) (Nat.le_refl _) (by decide) (by decide) (by decide) (by decide) (hb hby at_45) ?_
  intro v175 T175 L175 X175 hQ175
  obtain ⟨rfl, N175, K175, F1175, F2175⟩ := hQ175
  have N176 := Fr.app N0 N175
  have F177 := A168.keep K175
  have Z182 : n0 ≤ T175.heap.size := Nat.le_trans Z170 K175.1
  show Go p e below _ T175 (mkF m 48 #[.val (.int p0), .val (.long p1), .second, .val (.int p2), .val (.int p3), .val (.int (3 : Int32)), .val (.int cm), .val (.long d), .second, .unset, .unset, .unset, .unset, .unset, .unset, .unset] [(.ref a168)])
  refine g_astore (l' := #[.val (.int p0), .val (.long p1), .second, .val (.int p2), .val (.int p3), .val (.int (3 : Int32)), .val (.int cm), .val (.long d), .second, .val (.ref a168), .unset, .unset, .unset, .unset, .unset, .unset]) X175 hx 50 (hb hby at_48) rfl rfl rfl ?_
  refine g_aload X175 hx 52 (hb hby at_50) rfl rfl rfl ?_
  refine g_iloadN X175 hx 53 (hb hby at_52) rfl rfl ?_
  refine g_i2d X175 hx 54 (hb hby at_53) rfl ?_
  refine g_lload X175 hx 56 (hb hby at_54) rfl rfl ?_
  refine g_virt X175 hx hZ (C := "com/example/iso_throttle/isothrottle/AdmissionTally") hown (hw _ (List.mem_of_getElem? (i := 36) rfl)) (hw _ (List.mem_of_getElem? (i := 37) rfl)) (hw _ (List.mem_of_getElem? (i := 39) rfl)) (hw _ (List.mem_of_getElem? (i := 39) rfl)) (hw _ (List.mem_of_getElem? (i := 38) rfl)) (hw _ (List.mem_of_getElem? (i := 4) rfl)) (hw _ (List.mem_of_getElem? (i := 40) rfl)) (by decide) (rmAdm l Z a0 hw a168 (FP.i2d p0) d T175.heap n0 Z182 p0.toInt (Jvm.FP.Core.i2d_int p0) hd _ F2175 (p0.toInt * 8) (n * 8) 3 HP HD) rfl (b := a168) F177 (argsL := [(.double (FP.i2d p0)), (.long d)]) (rest := []) rfl rfl 0 59 rfl (by rw [hml]; rfl) (lenOf own_pd4 rfl) (Nat.le_refl _) (by decide) (by decide) (by decide) (by decide) (hb hby at_56) ?_
  intro v183 T183 L183 X183 hQ183
  obtain ⟨got, rfl, hg, N183, q183⟩ := hQ183
  have N184 := Fr.app N176 N183
  show Go p e below _ T183 (mkF m 59 #[.val (.int p0), .val (.long p1), .second, .val (.int p2), .val (.int p3), .val (.int (3 : Int32)), .val (.int cm), .val (.long d), .second, .val (.ref a168), .unset, .unset, .unset, .unset, .unset, .unset] [(.double got)])
  refine g_dstore (l' := #[.val (.int p0), .val (.long p1), .second, .val (.int p2), .val (.int p3), .val (.int (3 : Int32)), .val (.int cm), .val (.long d), .second, .val (.ref a168), .val (.double got), .second, .unset, .unset, .unset, .unset]) X183 hx 61 (hb hby at_59) rfl rfl ?_
  refine g_iloadN X183 hx 62 (hb hby at_61) rfl rfl ?_
  refine g_if_gt X183 hx 71 65 (hb hby at_62) (by decide) (by decide) rfl (fun c185 => ?_) (fun c185 => ?_)
  · skip
    refine g_iloadN X183 hx 72 (hb hby at_71) rfl rfl ?_
    refine g_i2l X183 hx 73 (hb hby at_72) rfl ?_
    refine g_iload X183 hx 75 (hb hby at_73) rfl rfl ?_
    refine g_lshl X183 hx 76 (hb hby at_75) rfl ?_
    refine g_lstore (l' := #[.val (.int p0), .val (.long p1), .second, .val (.int p2), .val (.int p3), .val (.int (3 : Int32)), .val (.int cm), .val (.long d), .second, .val (.ref a168), .val (.double got), .second, .unset, .unset, .val (.long ((p0.toInt64) <<< ((3 : Int32) &&& 0x3f).toInt64)), .second]) X183 hx 78 (hb hby at_76) rfl rfl ?_
    generalize hp8 : ((p0.toInt64) <<< ((3 : Int32) &&& 0x3f).toInt64) = p8
    have P8 : p8.toInt = p0.toInt * 8 := by
      have e1 := c_lshl p0.toInt64 3 3 (by decide)
      have e2 := c_i2l p0
      have e3 := rng64 p8
      rw [hp8] at e1
      have e4 : ((2 ^ 3 : Nat) : Int) = 8 := rfl
      rw [e4] at e1
      omega
    have HX := own_p8 (x := p8) (by omega)
    rw [P8] at HX
    refine g_lload X183 hx 80 (hb hby at_78) rfl rfl ?_
    refine g_bipush X183 hx (34 : Int32) 82 (hb hby at_80) rfl (by decide) ?_
    refine g_lshr X183 hx 83 (hb hby at_82) rfl ?_
    refine g_lconst X183 hx (0 : Int64) 84 (hb hby at_83) rfl (by decide) ?_
    have sh := c_lshr d 34 34 (by decide)
    have e34 : ((2 ^ 34 : Nat) : Int) = 17179869184 := rfl
    rw [e34] at sh
    have ll187 : ((0 : Int64) : Int64).toInt = 0 := by decide
    refine g_lc_eq X183 hx 85 100 88 (hb hby at_84) rfl (hb hby at_85) (by decide) (by decide) rfl (fun c186 => ?_) (fun c186 => ?_)
    · skip
      refine g_lload X183 hx 102 (hb hby at_100) rfl rfl ?_
      refine g_lload X183 hx 104 (hb hby at_102) rfl rfl ?_
      refine g_ldc2J X183 hx 107 hZ hown (hw _ (List.mem_of_getElem? (i := 51) rfl)) (hb hby at_104) rfl ?_
      refine g_lmul X183 hx 108 (hb hby at_107) rfl ?_
      have em := c_lmul d 8
      have er := rng64 (d * 8)
      have l8 : (8 : Int64).toInt = 8 := by decide
      rw [l8] at em
      have hn53 := n3 (by omega)
      refine g_lc_gt X183 hx 109 124 112 (hb hby at_108) rfl (hb hby at_109) (by decide) (by decide) rfl (fun c188 => ?_) (fun c188 => ?_)
      · skip
        refine g_lload X183 hx 126 (hb hby at_124) rfl rfl ?_
        refine g_l2d X183 hx 127 (hb hby at_126) rfl ?_
        refine g_dstore (l' := #[.val (.int p0), .val (.long p1), .second, .val (.int p2), .val (.int p3), .val (.int (3 : Int32)), .val (.int cm), .val (.long d), .second, .val (.ref a168), .val (.double got), .second, .val (.double (FP.l2d d)), .second, .val (.long p8), .second]) X183 hx 129 (hb hby at_127) rfl rfl ?_
        refine g_dload X183 hx 131 (hb hby at_129) rfl rfl ?_
        refine g_dload X183 hx 133 (hb hby at_131) rfl rfl ?_
        refine g_dc_ne X183 hx 134 141 137 (hb hby at_133) rfl (hb hby at_134) (by decide) (by decide) rfl (own_fixcmp hg HD) (fun c189 => ?_) (fun c189 => ?_)
        · skip
          exfalso; omega
        · skip
          refine g_iconst X183 hx (1 : Int32) 138 (hb hby at_137) rfl (by decide) ?_
          refine g_goto X183 hx 142 (hb hby at_138) (by decide) (by decide) ?_
          exact g_retZ X183 hx hlk hret (hb hby at_142) (by decide) (by decide) q183 ⟨rfl, N184⟩
      · skip
        refine g_lload X183 hx 114 (hb hby at_112) rfl rfl ?_
        refine g_l2d X183 hx 115 (hb hby at_114) rfl ?_
        refine g_ldc2D X183 hx 118 hZ hown (hw _ (List.mem_of_getElem? (i := 52) rfl)) (hb hby at_115) rfl ?_
        refine g_ddiv X183 hx 119 (hb hby at_118) rfl (own_fixnn HX) ?_
        refine g_dstore (l' := #[.val (.int p0), .val (.long p1), .second, .val (.int p2), .val (.int p3), .val (.int (3 : Int32)), .val (.int cm), .val (.long d), .second, .val (.ref a168), .val (.double got), .second, .val (.double (FP.ddiv (FP.l2d p8) (4620693217682128896 : UInt64))), .second, .val (.long p8), .second]) X183 hx 121 (hb hby at_119) rfl rfl ?_
        refine g_goto X183 hx 129 (hb hby at_121) (by decide) (by decide) ?_
        refine g_dload X183 hx 131 (hb hby at_129) rfl rfl ?_
        refine g_dload X183 hx 133 (hb hby at_131) rfl rfl ?_
        refine g_dc_ne X183 hx 134 141 137 (hb hby at_133) rfl (hb hby at_134) (by decide) (by decide) rfl (own_fixcmp hg HX) (fun c190 => ?_) (fun c190 => ?_)
        · skip
          exfalso; omega
        · skip
          refine g_iconst X183 hx (1 : Int32) 138 (hb hby at_137) rfl (by decide) ?_
          refine g_goto X183 hx 142 (hb hby at_138) (by decide) (by decide) ?_
          exact g_retZ X183 hx hlk hret (hb hby at_142) (by decide) (by decide) q183 ⟨rfl, N184⟩
    · skip
      refine g_lload X183 hx 90 (hb hby at_88) rfl rfl ?_
      refine g_l2d X183 hx 91 (hb hby at_90) rfl ?_
      refine g_ldc2D X183 hx 94 hZ hown (hw _ (List.mem_of_getElem? (i := 52) rfl)) (hb hby at_91) rfl ?_
      refine g_ddiv X183 hx 95 (hb hby at_94) rfl (own_fixnn HX) ?_
      refine g_dstore (l' := #[.val (.int p0), .val (.long p1), .second, .val (.int p2), .val (.int p3), .val (.int (3 : Int32)), .val (.int cm), .val (.long d), .second, .val (.ref a168), .val (.double got), .second, .val (.double (FP.ddiv (FP.l2d p8) (4620693217682128896 : UInt64))), .second, .val (.long p8), .second]) X183 hx 97 (hb hby at_95) rfl rfl ?_
      refine g_goto X183 hx 129 (hb hby at_97) (by decide) (by decide) ?_
      refine g_dload X183 hx 131 (hb hby at_129) rfl rfl ?_
      refine g_dload X183 hx 133 (hb hby at_131) rfl rfl ?_
      refine g_dc_ne X183 hx 134 141 137 (hb hby at_133) rfl (hb hby at_134) (by decide) (by decide) rfl (own_fixcmp hg HX) (fun c191 => ?_) (fun c191 => ?_)
      · skip
        exfalso; omega
      · skip
        refine g_iconst X183 hx (1 : Int32) 138 (hb hby at_137) rfl (by decide) ?_
        refine g_goto X183 hx 142 (hb hby at_138) (by decide) (by decide) ?_
        exact g_retZ X183 hx hlk hret (hb hby at_142) (by decide) (by decide) q183 ⟨rfl, N184⟩
  · skip
    refine g_dconst0 X183 hx 66 (hb hby at_65) rfl ?_
    refine g_dstore (l' := #[.val (.int p0), .val (.long p1), .second, .val (.int p2), .val (.int p3), .val (.int (3 : Int32)), .val (.int cm), .val (.long d), .second, .val (.ref a168), .val (.double got), .second, .val (.double 0), .second, .unset, .unset]) X183 hx 68 (hb hby at_66) rfl rfl ?_
    refine g_goto X183 hx 129 (hb hby at_68) (by decide) (by decide) ?_
    refine g_dload X183 hx 131 (hb hby at_129) rfl rfl ?_
    refine g_dload X183 hx 133 (hb hby at_131) rfl rfl ?_
    refine g_dc_ne X183 hx 134 141 137 (hb hby at_133) rfl (hb hby at_134) (by decide) (by decide) rfl (own_fixcmp hg (own_fixz 3)) (fun c192 => ?_) (fun c192 => ?_)
    · skip
      exfalso; omega
    · skip
      refine g_iconst X183 hx (1 : Int32) 138 (hb hby at_137) rfl (by decide) ?_
      refine g_goto X183 hx 142 (hb hby at_138) (by decide) (by decide) ?_
      exact g_retZ X183 hx hlk hret (hb hby at_142) (by decide) (by decide) q183 ⟨rfl, N184⟩
set_option maxRecDepth 65536 in
set_option maxHeartbeats 40000000 in
theorem rm0_38_4 {p : Program} {l : Launch} {e : Env} {s : State} {m : MethodId} {args : Array Value} {below : List Frame} {meth : Method} {c : Code} {T0 Z : State} {a0 : Array Value} {h0 : Heap} {n0 : Nat} {p0 p2 p3 : Int32} {p1 : Int64} {cm : Int32} {d : Int64} (X0 : Stand p l e room_1 s m args below meth c T0 [] 0 0) (hx : p.tables.exec = Jvm.exec) (hby : c.code = code) (hml : c.maxLocals = maxLocals) (hret : meth.sig.returnType = ret) (hlk : meth.locks = false) (hown : s.vm.findClass "com/example/iso_throttle/isothrottle/AdmissionTallyAdmittedPinLaw" = some m.cls) (hZ : Z.Warmed39 s.vm) (hw : ∀ d ∈ tables_1, d.before a0 Z = true) (e0 : T0.heap = h0) (Z0 : n0 ≤ h0.size) (N0 : Fr n0 []) (hcm : cm.toInt = 2000) (hd : 0 ≤ d.toInt) :
    Go p e below (EndQ s (Q_rm0 n0) 16 128) T0 (mkF m 38 #[.val (.int p0), .val (.long p1), .second, .val (.int p2), .val (.int p3), .val (.int (4 : Int32)), .val (.int cm), .val (.long d), .second, .unset, .unset, .unset, .unset, .unset, .unset, .unset] []) := by
  have HC := own_cyc (cm := cm) (t := 16) (by rw [hcm]; decide) (by decide)
  have HP := own_prod (s := p0) HC (by decide)
  obtain ⟨n, hn, n1, n2, n3⟩ := own_l2dn d
  have HD := own_fixint hn 3
  have r0 := rng32 p0
  have e8 : ((2 ^ 3 : Nat) : Int) = 8 := rfl
  rw [e8] at HD
  refine g_new X0 hx hZ hown (hw _ (List.mem_of_getElem? (i := 2) rfl)) (hw _ (List.mem_of_getElem? (i := 3) rfl)) (hw _ (List.mem_of_getElem? (i := 4) rfl)) e0 41 (hb hby at_38) rfl (by decide) (by decide) ?_
  intro T193 h193 a193 g193 X193 e193 E193 A193 D193
  have ge194 : n0 ≤ a193 := by rw [g193]; exact Z0
  have Z195 : n0 ≤ h193.size := Nat.le_trans Z0 E193.1
  have F196 : Fld Z h193 a193 "com/example/iso_throttle/isothrottle/AdmissionTally" "idealTotal" "Lcom/example/iso_throttle/isothrottle/CompensatedSum;" .null := D193 (Or.inr (hw _ (List.mem_of_getElem? (i := 19) rfl))) (ty := (.object "com/example/iso_throttle/isothrottle/CompensatedSum")) (by decide)
  have F197 : Fld Z h193 a193 "com/example/iso_throttle/isothrottle/AdmissionTally" "admittedTotal" "Lcom/example/iso_throttle/isothrottle/CompensatedSum;" .null := D193 (Or.inr (hw _ (List.mem_of_getElem? (i := 21) rfl))) (ty := (.object "com/example/iso_throttle/isothrottle/CompensatedSum")) (by decide)
  have F198 : Fld Z h193 a193 "com/example/iso_throttle/isothrottle/AdmissionTally" "limit" "D" (.double (0 : UInt64)) := D193 (Or.inr (hw _ (List.mem_of_getElem? (i := 32) rfl))) (ty := .double) (by decide)
  have F199 : Fld Z h193 a193 "com/example/iso_throttle/isothrottle/AdmissionTally" "cycleSeconds" "D" (.double (0 : UInt64)) := D193 (Or.inr (hw _ (List.mem_of_getElem? (i := 35) rfl))) (ty := .double) (by decide)
  refine g_dup X193 hx 42 (hb hby at_41) rfl rfl ?_
  refine g_dconst1 X193 hx 43 (hb hby at_42) rfl ?_
  refine g_iload X193 hx 45 (hb hby at_43) rfl rfl ?_
  refine g_init X193 hx hZ rfl hown (hw _ (List.mem_of_getElem? (i := 5) rfl)) (hw _ (List.mem_of_getElem? (i := 6) rfl)) (hw _ (List.mem_of_getElem? (i := 4) rfl)) (hw _ (List.mem_of_getElem? (i := 7) rfl)) (by decide) (rmInit l Z a0 hw a193 4607182418800017408 cm h193 n0 Z195 1 own_done (by decide) (by rw [hcm]; decide) (own_fixnn HC) A193 ge194 F196 F197 F198 F199) e193 (a := a193) (argsL := [(.double 4607182418800017408), (.int cm)]) (rest := [(.ref a193)]) rfl rfl 1 48 rfl (by rw [hml]; rfl) (lenOf own_pd0 rfl) (Nat.le_refl _) (by decide) (by decide) (by decide) (by decide) (hb hby at_45) ?_
  intro v200 T200 L200 X200 hQ200
  obtain ⟨rfl, N200, K200, F1200, F2200⟩ := hQ200
  have N201 := Fr.app N0 N200
  have F202 := A193.keep K200
  have Z207 : n0 ≤ T200.heap.size := Nat.le_trans Z195 K200.1
  show Go p e below _ T200 (mkF m 48 #[.val (.int p0), .val (.long p1), .second, .val (.int p2), .val (.int p3), .val (.int (4 : Int32)), .val (.int cm), .val (.long d), .second, .unset, .unset, .unset, .unset, .unset, .unset, .unset] [(.ref a193)])
  refine g_astore (l' := #[.val (.int p0), .val (.long p1), .second, .val (.int p2), .val (.int p3), .val (.int (4 : Int32)), .val (.int cm), .val (.long d), .second, .val (.ref a193), .unset, .unset, .unset, .unset, .unset, .unset]) X200 hx 50 (hb hby at_48) rfl rfl rfl ?_
  refine g_aload X200 hx 52 (hb hby at_50) rfl rfl rfl ?_
  refine g_iloadN X200 hx 53 (hb hby at_52) rfl rfl ?_
  refine g_i2d X200 hx 54 (hb hby at_53) rfl ?_
  refine g_lload X200 hx 56 (hb hby at_54) rfl rfl ?_
  refine g_virt X200 hx hZ (C := "com/example/iso_throttle/isothrottle/AdmissionTally") hown (hw _ (List.mem_of_getElem? (i := 36) rfl)) (hw _ (List.mem_of_getElem? (i := 37) rfl)) (hw _ (List.mem_of_getElem? (i := 39) rfl)) (hw _ (List.mem_of_getElem? (i := 39) rfl)) (hw _ (List.mem_of_getElem? (i := 38) rfl)) (hw _ (List.mem_of_getElem? (i := 4) rfl)) (hw _ (List.mem_of_getElem? (i := 40) rfl)) (by decide) (rmAdm l Z a0 hw a193 (FP.i2d p0) d T200.heap n0 Z207 p0.toInt (Jvm.FP.Core.i2d_int p0) hd _ F2200 (p0.toInt * 16) (n * 8) 3 HP HD) rfl (b := a193) F202 (argsL := [(.double (FP.i2d p0)), (.long d)]) (rest := []) rfl rfl 0 59 rfl (by rw [hml]; rfl) (lenOf own_pd4 rfl) (Nat.le_refl _) (by decide) (by decide) (by decide) (by decide) (hb hby at_56) ?_
  intro v208 T208 L208 X208 hQ208
  obtain ⟨got, rfl, hg, N208, q208⟩ := hQ208
  have N209 := Fr.app N201 N208
  show Go p e below _ T208 (mkF m 59 #[.val (.int p0), .val (.long p1), .second, .val (.int p2), .val (.int p3), .val (.int (4 : Int32)), .val (.int cm), .val (.long d), .second, .val (.ref a193), .unset, .unset, .unset, .unset, .unset, .unset] [(.double got)])
  refine g_dstore (l' := #[.val (.int p0), .val (.long p1), .second, .val (.int p2), .val (.int p3), .val (.int (4 : Int32)), .val (.int cm), .val (.long d), .second, .val (.ref a193), .val (.double got), .second, .unset, .unset, .unset, .unset]) X208 hx 61 (hb hby at_59) rfl rfl ?_
  refine g_iloadN X208 hx 62 (hb hby at_61) rfl rfl ?_
  refine g_if_gt X208 hx 71 65 (hb hby at_62) (by decide) (by decide) rfl (fun c210 => ?_) (fun c210 => ?_)
  · skip
    refine g_iloadN X208 hx 72 (hb hby at_71) rfl rfl ?_
    refine g_i2l X208 hx 73 (hb hby at_72) rfl ?_
    refine g_iload X208 hx 75 (hb hby at_73) rfl rfl ?_
    refine g_lshl X208 hx 76 (hb hby at_75) rfl ?_
    refine g_lstore (l' := #[.val (.int p0), .val (.long p1), .second, .val (.int p2), .val (.int p3), .val (.int (4 : Int32)), .val (.int cm), .val (.long d), .second, .val (.ref a193), .val (.double got), .second, .unset, .unset, .val (.long ((p0.toInt64) <<< ((4 : Int32) &&& 0x3f).toInt64)), .second]) X208 hx 78 (hb hby at_76) rfl rfl ?_
    generalize hp8 : ((p0.toInt64) <<< ((4 : Int32) &&& 0x3f).toInt64) = p8
    have P8 : p8.toInt = p0.toInt * 16 := by
      have e1 := c_lshl p0.toInt64 4 4 (by decide)
      have e2 := c_i2l p0
      have e3 := rng64 p8
      rw [hp8] at e1
      have e4 : ((2 ^ 4 : Nat) : Int) = 16 := rfl
      rw [e4] at e1
      omega
    have HX := own_p8 (x := p8) (by omega)
    rw [P8] at HX
    refine g_lload X208 hx 80 (hb hby at_78) rfl rfl ?_
    refine g_bipush X208 hx (34 : Int32) 82 (hb hby at_80) rfl (by decide) ?_
    refine g_lshr X208 hx 83 (hb hby at_82) rfl ?_
    refine g_lconst X208 hx (0 : Int64) 84 (hb hby at_83) rfl (by decide) ?_
    have sh := c_lshr d 34 34 (by decide)
    have e34 : ((2 ^ 34 : Nat) : Int) = 17179869184 := rfl
    rw [e34] at sh
    have ll212 : ((0 : Int64) : Int64).toInt = 0 := by decide
    refine g_lc_eq X208 hx 85 100 88 (hb hby at_84) rfl (hb hby at_85) (by decide) (by decide) rfl (fun c211 => ?_) (fun c211 => ?_)
    · skip
      refine g_lload X208 hx 102 (hb hby at_100) rfl rfl ?_
      refine g_lload X208 hx 104 (hb hby at_102) rfl rfl ?_
      refine g_ldc2J X208 hx 107 hZ hown (hw _ (List.mem_of_getElem? (i := 51) rfl)) (hb hby at_104) rfl ?_
      refine g_lmul X208 hx 108 (hb hby at_107) rfl ?_
      have em := c_lmul d 8
      have er := rng64 (d * 8)
      have l8 : (8 : Int64).toInt = 8 := by decide
      rw [l8] at em
      have hn53 := n3 (by omega)
      refine g_lc_gt X208 hx 109 124 112 (hb hby at_108) rfl (hb hby at_109) (by decide) (by decide) rfl (fun c213 => ?_) (fun c213 => ?_)
      · skip
        refine g_lload X208 hx 126 (hb hby at_124) rfl rfl ?_
        refine g_l2d X208 hx 127 (hb hby at_126) rfl ?_
        refine g_dstore (l' := #[.val (.int p0), .val (.long p1), .second, .val (.int p2), .val (.int p3), .val (.int (4 : Int32)), .val (.int cm), .val (.long d), .second, .val (.ref a193), .val (.double got), .second, .val (.double (FP.l2d d)), .second, .val (.long p8), .second]) X208 hx 129 (hb hby at_127) rfl rfl ?_
        refine g_dload X208 hx 131 (hb hby at_129) rfl rfl ?_
        refine g_dload X208 hx 133 (hb hby at_131) rfl rfl ?_
        refine g_dc_ne X208 hx 134 141 137 (hb hby at_133) rfl (hb hby at_134) (by decide) (by decide) rfl (own_fixcmp hg HD) (fun c214 => ?_) (fun c214 => ?_)
        · skip
          exfalso; omega
        · skip
          refine g_iconst X208 hx (1 : Int32) 138 (hb hby at_137) rfl (by decide) ?_
          refine g_goto X208 hx 142 (hb hby at_138) (by decide) (by decide) ?_
          exact g_retZ X208 hx hlk hret (hb hby at_142) (by decide) (by decide) q208 ⟨rfl, N209⟩
      · skip
        refine g_lload X208 hx 114 (hb hby at_112) rfl rfl ?_
        refine g_l2d X208 hx 115 (hb hby at_114) rfl ?_
        refine g_ldc2D X208 hx 118 hZ hown (hw _ (List.mem_of_getElem? (i := 52) rfl)) (hb hby at_115) rfl ?_
        refine g_ddiv X208 hx 119 (hb hby at_118) rfl (own_fixnn HX) ?_
        refine g_dstore (l' := #[.val (.int p0), .val (.long p1), .second, .val (.int p2), .val (.int p3), .val (.int (4 : Int32)), .val (.int cm), .val (.long d), .second, .val (.ref a193), .val (.double got), .second, .val (.double (FP.ddiv (FP.l2d p8) (4620693217682128896 : UInt64))), .second, .val (.long p8), .second]) X208 hx 121 (hb hby at_119) rfl rfl ?_
        refine g_goto X208 hx 129 (hb hby at_121) (by decide) (by decide) ?_
        refine g_dload X208 hx 131 (hb hby at_129) rfl rfl ?_
        refine g_dload X208 hx 133 (hb hby at_131) rfl rfl ?_
        refine g_dc_ne X208 hx 134 141 137 (hb hby at_133) rfl (hb hby at_134) (by decide) (by decide) rfl (own_fixcmp hg HX) (fun c215 => ?_) (fun c215 => ?_)
        · skip
          exfalso; omega
        · skip
          refine g_iconst X208 hx (1 : Int32) 138 (hb hby at_137) rfl (by decide) ?_
          refine g_goto X208 hx 142 (hb hby at_138) (by decide) (by decide) ?_
          exact g_retZ X208 hx hlk hret (hb hby at_142) (by decide) (by decide) q208 ⟨rfl, N209⟩
    · skip
      refine g_lload X208 hx 90 (hb hby at_88) rfl rfl ?_
      refine g_l2d X208 hx 91 (hb hby at_90) rfl ?_
      refine g_ldc2D X208 hx 94 hZ hown (hw _ (List.mem_of_getElem? (i := 52) rfl)) (hb hby at_91) rfl ?_
      refine g_ddiv X208 hx 95 (hb hby at_94) rfl (own_fixnn HX) ?_
      refine g_dstore (l' := #[.val (.int p0), .val (.long p1), .second, .val (.int p2), .val (.int p3), .val (.int (4 : Int32)), .val (.int cm), .val (.long d), .second, .val (.ref a193), .val (.double got), .second, .val (.double (FP.ddiv (FP.l2d p8) (4620693217682128896 : UInt64))), .second, .val (.long p8), .second]) X208 hx 97 (hb hby at_95) rfl rfl ?_
      refine g_goto X208 hx 129 (hb hby at_97) (by decide) (by decide) ?_
      refine g_dload X208 hx 131 (hb hby at_129) rfl rfl ?_
      refine g_dload X208 hx 133 (hb hby at_131) rfl rfl ?_
      refine g_dc_ne X208 hx 134 141 137 (hb hby at_133) rfl (hb hby at_134) (by decide) (by decide) rfl (own_fixcmp hg HX) (fun c216 => ?_) (fun c216 => ?_)
      · skip
        exfalso; omega
      · skip
        refine g_iconst X208 hx (1 : Int32) 138 (hb hby at_137) rfl (by decide) ?_
        refine g_goto X208 hx 142 (hb hby at_138) (by decide) (by decide) ?_
        exact g_retZ X208 hx hlk hret (hb hby at_142) (by decide) (by decide) q208 ⟨rfl, N209⟩
  · skip
    refine g_dconst0 X208 hx 66 (hb hby at_65) rfl ?_
    refine g_dstore (l' := #[.val (.int p0), .val (.long p1), .second, .val (.int p2), .val (.int p3), .val (.int (4 : Int32)), .val (.int cm), .val (.long d), .second, .val (.ref a193), .val (.double got), .second, .val (.double 0), .second, .unset, .unset]) X208 hx 68 (hb hby at_66) rfl rfl ?_
    refine g_goto X208 hx 129 (hb hby at_68) (by decide) (by decide) ?_
    refine g_dload X208 hx 131 (hb hby at_129) rfl rfl ?_
    refine g_dload X208 hx 133 (hb hby at_131) rfl rfl ?_
    refine g_dc_ne X208 hx 134 141 137 (hb hby at_133) rfl (hb hby at_134) (by decide) (by decide) rfl (own_fixcmp hg (own_fixz 3)) (fun c217 => ?_) (fun c217 => ?_)
    · skip
      exfalso; omega
    · skip
      refine g_iconst X208 hx (1 : Int32) 138 (hb hby at_137) rfl (by decide) ?_
      refine g_goto X208 hx 142 (hb hby at_138) (by decide) (by decide) ?_
      exact g_retZ X208 hx hlk hret (hb hby at_142) (by decide) (by decide) q208 ⟨rfl, N209⟩
set_option maxRecDepth 65536 in
set_option maxHeartbeats 40000000 in
theorem rm0_38_5 {p : Program} {l : Launch} {e : Env} {s : State} {m : MethodId} {args : Array Value} {below : List Frame} {meth : Method} {c : Code} {T0 Z : State} {a0 : Array Value} {h0 : Heap} {n0 : Nat} {p0 p2 p3 : Int32} {p1 : Int64} {cm : Int32} {d : Int64} (X0 : Stand p l e room_1 s m args below meth c T0 [] 0 0) (hx : p.tables.exec = Jvm.exec) (hby : c.code = code) (hml : c.maxLocals = maxLocals) (hret : meth.sig.returnType = ret) (hlk : meth.locks = false) (hown : s.vm.findClass "com/example/iso_throttle/isothrottle/AdmissionTallyAdmittedPinLaw" = some m.cls) (hZ : Z.Warmed39 s.vm) (hw : ∀ d ∈ tables_1, d.before a0 Z = true) (e0 : T0.heap = h0) (Z0 : n0 ≤ h0.size) (N0 : Fr n0 []) (hcm : cm.toInt = 4000) (hd : 0 ≤ d.toInt) :
    Go p e below (EndQ s (Q_rm0 n0) 16 128) T0 (mkF m 38 #[.val (.int p0), .val (.long p1), .second, .val (.int p2), .val (.int p3), .val (.int (5 : Int32)), .val (.int cm), .val (.long d), .second, .unset, .unset, .unset, .unset, .unset, .unset, .unset] []) := by
  have HC := own_cyc (cm := cm) (t := 32) (by rw [hcm]; decide) (by decide)
  have HP := own_prod (s := p0) HC (by decide)
  obtain ⟨n, hn, n1, n2, n3⟩ := own_l2dn d
  have HD := own_fixint hn 3
  have r0 := rng32 p0
  have e8 : ((2 ^ 3 : Nat) : Int) = 8 := rfl
  rw [e8] at HD
  refine g_new X0 hx hZ hown (hw _ (List.mem_of_getElem? (i := 2) rfl)) (hw _ (List.mem_of_getElem? (i := 3) rfl)) (hw _ (List.mem_of_getElem? (i := 4) rfl)) e0 41 (hb hby at_38) rfl (by decide) (by decide) ?_
  intro T218 h218 a218 g218 X218 e218 E218 A218 D218
  have ge219 : n0 ≤ a218 := by rw [g218]; exact Z0
  have Z220 : n0 ≤ h218.size := Nat.le_trans Z0 E218.1
  have F221 : Fld Z h218 a218 "com/example/iso_throttle/isothrottle/AdmissionTally" "idealTotal" "Lcom/example/iso_throttle/isothrottle/CompensatedSum;" .null := D218 (Or.inr (hw _ (List.mem_of_getElem? (i := 19) rfl))) (ty := (.object "com/example/iso_throttle/isothrottle/CompensatedSum")) (by decide)
  have F222 : Fld Z h218 a218 "com/example/iso_throttle/isothrottle/AdmissionTally" "admittedTotal" "Lcom/example/iso_throttle/isothrottle/CompensatedSum;" .null := D218 (Or.inr (hw _ (List.mem_of_getElem? (i := 21) rfl))) (ty := (.object "com/example/iso_throttle/isothrottle/CompensatedSum")) (by decide)
  have F223 : Fld Z h218 a218 "com/example/iso_throttle/isothrottle/AdmissionTally" "limit" "D" (.double (0 : UInt64)) := D218 (Or.inr (hw _ (List.mem_of_getElem? (i := 32) rfl))) (ty := .double) (by decide)
  have F224 : Fld Z h218 a218 "com/example/iso_throttle/isothrottle/AdmissionTally" "cycleSeconds" "D" (.double (0 : UInt64)) := D218 (Or.inr (hw _ (List.mem_of_getElem? (i := 35) rfl))) (ty := .double) (by decide)
  refine g_dup X218 hx 42 (hb hby at_41) rfl rfl ?_
  refine g_dconst1 X218 hx 43 (hb hby at_42) rfl ?_
  refine g_iload X218 hx 45 (hb hby at_43) rfl rfl ?_
  refine g_init X218 hx hZ rfl hown (hw _ (List.mem_of_getElem? (i := 5) rfl)) (hw _ (List.mem_of_getElem? (i := 6) rfl)) (hw _ (List.mem_of_getElem? (i := 4) rfl)) (hw _ (List.mem_of_getElem? (i := 7) rfl)) (by decide) (rmInit l Z a0 hw a218 4607182418800017408 cm h218 n0 Z220 1 own_done (by decide) (by rw [hcm]; decide) (own_fixnn HC) A218 ge219 F221 F222 F223 F224) e218 (a := a218) (argsL := [(.double 4607182418800017408), (.int cm)]) (rest := [(.ref a218)]) rfl rfl 1 48 rfl (by rw [hml]; rfl) (lenOf own_pd0 rfl) (Nat.le_refl _) (by decide) (by decide) (by decide) (by decide) (hb hby at_45) ?_
  intro v225 T225 L225 X225 hQ225
  obtain ⟨rfl, N225, K225, F1225, F2225⟩ := hQ225
  have N226 := Fr.app N0 N225
  have F227 := A218.keep K225
  have Z232 : n0 ≤ T225.heap.size := Nat.le_trans Z220 K225.1
  show Go p e below _ T225 (mkF m 48 #[.val (.int p0), .val (.long p1), .second, .val (.int p2), .val (.int p3), .val (.int (5 : Int32)), .val (.int cm), .val (.long d), .second, .unset, .unset, .unset, .unset, .unset, .unset, .unset] [(.ref a218)])
  refine g_astore (l' := #[.val (.int p0), .val (.long p1), .second, .val (.int p2), .val (.int p3), .val (.int (5 : Int32)), .val (.int cm), .val (.long d), .second, .val (.ref a218), .unset, .unset, .unset, .unset, .unset, .unset]) X225 hx 50 (hb hby at_48) rfl rfl rfl ?_
  refine g_aload X225 hx 52 (hb hby at_50) rfl rfl rfl ?_
  refine g_iloadN X225 hx 53 (hb hby at_52) rfl rfl ?_
  refine g_i2d X225 hx 54 (hb hby at_53) rfl ?_
  refine g_lload X225 hx 56 (hb hby at_54) rfl rfl ?_
  refine g_virt X225 hx hZ (C := "com/example/iso_throttle/isothrottle/AdmissionTally") hown (hw _ (List.mem_of_getElem? (i := 36) rfl)) (hw _ (List.mem_of_getElem? (i := 37) rfl)) (hw _ (List.mem_of_getElem? (i := 39) rfl)) (hw _ (List.mem_of_getElem? (i := 39) rfl)) (hw _ (List.mem_of_getElem? (i := 38) rfl)) (hw _ (List.mem_of_getElem? (i := 4) rfl)) (hw _ (List.mem_of_getElem? (i := 40) rfl)) (by decide) (rmAdm l Z a0 hw a218 (FP.i2d p0) d T225.heap n0 Z232 p0.toInt (Jvm.FP.Core.i2d_int p0) hd _ F2225 (p0.toInt * 32) (n * 8) 3 HP HD) rfl (b := a218) F227 (argsL := [(.double (FP.i2d p0)), (.long d)]) (rest := []) rfl rfl 0 59 rfl (by rw [hml]; rfl) (lenOf own_pd4 rfl) (Nat.le_refl _) (by decide) (by decide) (by decide) (by decide) (hb hby at_56) ?_
  intro v233 T233 L233 X233 hQ233
  obtain ⟨got, rfl, hg, N233, q233⟩ := hQ233
  have N234 := Fr.app N226 N233
  show Go p e below _ T233 (mkF m 59 #[.val (.int p0), .val (.long p1), .second, .val (.int p2), .val (.int p3), .val (.int (5 : Int32)), .val (.int cm), .val (.long d), .second, .val (.ref a218), .unset, .unset, .unset, .unset, .unset, .unset] [(.double got)])
  refine g_dstore (l' := #[.val (.int p0), .val (.long p1), .second, .val (.int p2), .val (.int p3), .val (.int (5 : Int32)), .val (.int cm), .val (.long d), .second, .val (.ref a218), .val (.double got), .second, .unset, .unset, .unset, .unset]) X233 hx 61 (hb hby at_59) rfl rfl ?_
  refine g_iloadN X233 hx 62 (hb hby at_61) rfl rfl ?_
  refine g_if_gt X233 hx 71 65 (hb hby at_62) (by decide) (by decide) rfl (fun c235 => ?_) (fun c235 => ?_)
  · skip
    refine g_iloadN X233 hx 72 (hb hby at_71) rfl rfl ?_
    refine g_i2l X233 hx 73 (hb hby at_72) rfl ?_
    refine g_iload X233 hx 75 (hb hby at_73) rfl rfl ?_
    refine g_lshl X233 hx 76 (hb hby at_75) rfl ?_
    refine g_lstore (l' := #[.val (.int p0), .val (.long p1), .second, .val (.int p2), .val (.int p3), .val (.int (5 : Int32)), .val (.int cm), .val (.long d), .second, .val (.ref a218), .val (.double got), .second, .unset, .unset, .val (.long ((p0.toInt64) <<< ((5 : Int32) &&& 0x3f).toInt64)), .second]) X233 hx 78 (hb hby at_76) rfl rfl ?_
    generalize hp8 : ((p0.toInt64) <<< ((5 : Int32) &&& 0x3f).toInt64) = p8
    have P8 : p8.toInt = p0.toInt * 32 := by
      have e1 := c_lshl p0.toInt64 5 5 (by decide)
      have e2 := c_i2l p0
      have e3 := rng64 p8
      rw [hp8] at e1
      have e4 : ((2 ^ 5 : Nat) : Int) = 32 := rfl
      rw [e4] at e1
      omega
    have HX := own_p8 (x := p8) (by omega)
    rw [P8] at HX
    refine g_lload X233 hx 80 (hb hby at_78) rfl rfl ?_
    refine g_bipush X233 hx (34 : Int32) 82 (hb hby at_80) rfl (by decide) ?_
    refine g_lshr X233 hx 83 (hb hby at_82) rfl ?_
    refine g_lconst X233 hx (0 : Int64) 84 (hb hby at_83) rfl (by decide) ?_
    have sh := c_lshr d 34 34 (by decide)
    have e34 : ((2 ^ 34 : Nat) : Int) = 17179869184 := rfl
    rw [e34] at sh
    have ll237 : ((0 : Int64) : Int64).toInt = 0 := by decide
    refine g_lc_eq X233 hx 85 100 88 (hb hby at_84) rfl (hb hby at_85) (by decide) (by decide) rfl (fun c236 => ?_) (fun c236 => ?_)
    · skip
      refine g_lload X233 hx 102 (hb hby at_100) rfl rfl ?_
      refine g_lload X233 hx 104 (hb hby at_102) rfl rfl ?_
      refine g_ldc2J X233 hx 107 hZ hown (hw _ (List.mem_of_getElem? (i := 51) rfl)) (hb hby at_104) rfl ?_
      refine g_lmul X233 hx 108 (hb hby at_107) rfl ?_
      have em := c_lmul d 8
      have er := rng64 (d * 8)
      have l8 : (8 : Int64).toInt = 8 := by decide
      rw [l8] at em
      have hn53 := n3 (by omega)
      refine g_lc_gt X233 hx 109 124 112 (hb hby at_108) rfl (hb hby at_109) (by decide) (by decide) rfl (fun c238 => ?_) (fun c238 => ?_)
      · skip
        refine g_lload X233 hx 126 (hb hby at_124) rfl rfl ?_
        refine g_l2d X233 hx 127 (hb hby at_126) rfl ?_
        refine g_dstore (l' := #[.val (.int p0), .val (.long p1), .second, .val (.int p2), .val (.int p3), .val (.int (5 : Int32)), .val (.int cm), .val (.long d), .second, .val (.ref a218), .val (.double got), .second, .val (.double (FP.l2d d)), .second, .val (.long p8), .second]) X233 hx 129 (hb hby at_127) rfl rfl ?_
        refine g_dload X233 hx 131 (hb hby at_129) rfl rfl ?_
        refine g_dload X233 hx 133 (hb hby at_131) rfl rfl ?_
        refine g_dc_ne X233 hx 134 141 137 (hb hby at_133) rfl (hb hby at_134) (by decide) (by decide) rfl (own_fixcmp hg HD) (fun c239 => ?_) (fun c239 => ?_)
        · skip
          exfalso; omega
        · skip
          refine g_iconst X233 hx (1 : Int32) 138 (hb hby at_137) rfl (by decide) ?_
          refine g_goto X233 hx 142 (hb hby at_138) (by decide) (by decide) ?_
          exact g_retZ X233 hx hlk hret (hb hby at_142) (by decide) (by decide) q233 ⟨rfl, N234⟩
      · skip
        refine g_lload X233 hx 114 (hb hby at_112) rfl rfl ?_
        refine g_l2d X233 hx 115 (hb hby at_114) rfl ?_
        refine g_ldc2D X233 hx 118 hZ hown (hw _ (List.mem_of_getElem? (i := 52) rfl)) (hb hby at_115) rfl ?_
        refine g_ddiv X233 hx 119 (hb hby at_118) rfl (own_fixnn HX) ?_
        refine g_dstore (l' := #[.val (.int p0), .val (.long p1), .second, .val (.int p2), .val (.int p3), .val (.int (5 : Int32)), .val (.int cm), .val (.long d), .second, .val (.ref a218), .val (.double got), .second, .val (.double (FP.ddiv (FP.l2d p8) (4620693217682128896 : UInt64))), .second, .val (.long p8), .second]) X233 hx 121 (hb hby at_119) rfl rfl ?_
        refine g_goto X233 hx 129 (hb hby at_121) (by decide) (by decide) ?_
        refine g_dload X233 hx 131 (hb hby at_129) rfl rfl ?_
        refine g_dload X233 hx 133 (hb hby at_131) rfl rfl ?_
        refine g_dc_ne X233 hx 134 141 137 (hb hby at_133) rfl (hb hby at_134) (by decide) (by decide) rfl (own_fixcmp hg HX) (fun c240 => ?_) (fun c240 => ?_)
        · skip
          exfalso; omega
        · skip
          refine g_iconst X233 hx (1 : Int32) 138 (hb hby at_137) rfl (by decide) ?_
          refine g_goto X233 hx 142 (hb hby at_138) (by decide) (by decide) ?_
          exact g_retZ X233 hx hlk hret (hb hby at_142) (by decide) (by decide) q233 ⟨rfl, N234⟩
    · skip
      refine g_lload X233 hx 90 (hb hby at_88) rfl rfl ?_
      refine g_l2d X233 hx 91 (hb hby at_90) rfl ?_
      refine g_ldc2D X233 hx 94 hZ hown (hw _ (List.mem_of_getElem? (i := 52) rfl)) (hb hby at_91) rfl ?_
      refine g_ddiv X233 hx 95 (hb hby at_94) rfl (own_fixnn HX) ?_
      refine g_dstore (l' := #[.val (.int p0), .val (.long p1), .second, .val (.int p2), .val (.int p3), .val (.int (5 : Int32)), .val (.int cm), .val (.long d), .second, .val (.ref a218), .val (.double got), .second, .val (.double (FP.ddiv (FP.l2d p8) (4620693217682128896 : UInt64))), .second, .val (.long p8), .second]) X233 hx 97 (hb hby at_95) rfl rfl ?_
      refine g_goto X233 hx 129 (hb hby at_97) (by decide) (by decide) ?_
      refine g_dload X233 hx 131 (hb hby at_129) rfl rfl ?_
      refine g_dload X233 hx 133 (hb hby at_131) rfl rfl ?_
      refine g_dc_ne X233 hx 134 141 137 (hb hby at_133) rfl (hb hby at_134) (by decide) (by decide) rfl (own_fixcmp hg HX) (fun c241 => ?_) (fun c241 => ?_)
      · skip
        exfalso; omega
      · skip
        refine g_iconst X233 hx (1 : Int32) 138 (hb hby at_137) rfl (by decide) ?_
        refine g_goto X233 hx 142 (hb hby at_138) (by decide) (by decide) ?_
        exact g_retZ X233 hx hlk hret (hb hby at_142) (by decide) (by decide) q233 ⟨rfl, N234⟩
  · skip
    refine g_dconst0 X233 hx 66 (hb hby at_65) rfl ?_
    refine g_dstore (l' := #[.val (.int p0), .val (.long p1), .second, .val (.int p2), .val (.int p3), .val (.int (5 : Int32)), .val (.int cm), .val (.long d), .second, .val (.ref a218), .val (.double got), .second, .val (.double 0), .second, .unset, .unset]) X233 hx 68 (hb hby at_66) rfl rfl ?_
    refine g_goto X233 hx 129 (hb hby at_68) (by decide) (by decide) ?_
    refine g_dload X233 hx 131 (hb hby at_129) rfl rfl ?_
    refine g_dload X233 hx 133 (hb hby at_131) rfl rfl ?_
    refine g_dc_ne X233 hx 134 141 137 (hb hby at_133) rfl (hb hby at_134) (by decide) (by decide) rfl (own_fixcmp hg (own_fixz 3)) (fun c242 => ?_) (fun c242 => ?_)
    · skip
      exfalso; omega
    · skip
      refine g_iconst X233 hx (1 : Int32) 138 (hb hby at_137) rfl (by decide) ?_
      refine g_goto X233 hx 142 (hb hby at_138) (by decide) (by decide) ?_
      exact g_retZ X233 hx hlk hret (hb hby at_142) (by decide) (by decide) q233 ⟨rfl, N234⟩
theorem own_d0 {x d : Int64} (h : x &&& (17179869183 : Int64) = d) : 0 ≤ d.toInt := by
  have := c_maskL x 17179869183 34 (by decide) (by decide)
  rw [h] at this
  have e34 : ((2 ^ 34 : Nat) : Int) = 17179869184 := rfl
  rw [e34] at this
  omega
theorem own_d1 {x d : Int64} (h : x &&& (9223372036854775807 : Int64) = d) : 0 ≤ d.toInt := by
  have := c_maskL x 9223372036854775807 63 (by decide) (by decide)
  rw [h] at this
  have e63 : ((2 ^ 63 : Nat) : Int) = 9223372036854775808 := rfl
  rw [e63] at this
  omega
theorem own_pfx : plainFor x = true := plainFor_of_name (show plainName "com/example/iso_throttle/isothrottle/AdmissionTallyAdmittedPinLaw" = true by first | (simp [plainName, overriddenIn]; done) | decide +kernel)
theorem ef_rm0 (p0 : Int32) (p1 : Int64) (p2 : Int32) (p3 : Int32) (m : MethodId) : entryFrame m #[(.int p0), (.long p1), (.int p2), (.int p3)] maxLocals = mkF m 0 #[.val (.int p0), .val (.long p1), .second, .val (.int p2), .val (.int p3), .unset, .unset, .unset, .unset, .unset, .unset, .unset, .unset, .unset, .unset, .unset] [] := by first | (simp [entryFrame, mkF, argsToLocals, Value.category, maxLocals]; done) | rfl
set_option maxRecDepth 65536 in
set_option maxHeartbeats 40000000 in
theorem rm0 (l : Launch) (Z : State) (a0 : Array Value) (hw : ∀ d ∈ tables_1, d.before a0 Z = true) (ws : List Jvm.Cond) (p0 : Int32) (p1 : Int64) (p2 : Int32) (p3 : Int32) (h0 : Heap) (n0 : Nat) (Z0 : n0 ≤ h0.size)  :
    MetFree l x (head1 (Jvm.Cond.code x code maxLocals ret :: ws) room_1) (fun as_ U => as_ = #[(.int p0), (.long p1), (.int p2), (.int p3)] ∧ Z.Warmed39 U.vm ∧ U.heap = h0) (fun _ _ _ _ _ => True) (fun _ U o U' => ∃ v L, o = .returned v ∧ Q_rm0 n0 v U'.heap L ∧ FrameEnd U o U' L 16 128) := by
  refine own_met own_pfx (ef_rm0 p0 p1 p2 p3) ?_
  intro p e s m below meth c T0 X0 hx hby hml hret hlk hnm hown hZ e0
  have N0 := Fr.nil n0
  refine g_iloadN X0 hx 1 (hb hby at_0) rfl rfl ?_
  refine g_ldcI X0 hx 3 hZ hown (hw _ (List.mem_of_getElem? (i := 0) rfl)) (hb hby at_1) rfl ?_
  refine g_iand X0 hx 4 (hb hby at_3) rfl ?_
  refine g_bipush X0 hx (6 : Int32) 6 (hb hby at_4) rfl (by decide) ?_
  refine g_irem X0 hx 7 (hb hby at_6) rfl (by decide) ?_
  refine g_istore (l' := #[.val (.int p0), .val (.long p1), .second, .val (.int p2), .val (.int p3), .val (.int ((p2 &&& (2147483647 : Int32)) % (6 : Int32))), .unset, .unset, .unset, .unset, .unset, .unset, .unset, .unset, .unset, .unset]) X0 hx 9 (hb hby at_7) rfl rfl ?_
  generalize hk : ((p2 &&& (2147483647 : Int32)) % (6 : Int32)) = k
  rcases own_k6 hk with rfl | rfl | rfl | rfl | rfl | rfl
  · skip
    refine g_bipush X0 hx (125 : Int32) 11 (hb hby at_9) rfl (by decide) ?_
    refine g_iload X0 hx 13 (hb hby at_11) rfl rfl ?_
    refine g_ishl X0 hx 14 (hb hby at_13) rfl ?_
    refine g_istore (l' := #[.val (.int p0), .val (.long p1), .second, .val (.int p2), .val (.int p3), .val (.int (0 : Int32)), .val (.int ((125 : Int32) <<< ((0 : Int32) &&& 31))), .unset, .unset, .unset, .unset, .unset, .unset, .unset, .unset, .unset]) X0 hx 16 (hb hby at_14) rfl rfl ?_
    generalize hcm : ((125 : Int32) <<< ((0 : Int32) &&& 31)) = cm
    have hcm' : cm.toInt = 125 := by rw [← hcm]; decide
    refine g_iload X0 hx 18 (hb hby at_16) rfl rfl ?_
    refine g_iconst X0 hx (1 : Int32) 19 (hb hby at_18) rfl (by decide) ?_
    refine g_iand X0 hx 20 (hb hby at_19) rfl ?_
    refine g_if_eq X0 hx 31 23 (hb hby at_20) (by decide) (by decide) rfl (fun c243 => ?_) (fun c243 => ?_)
    · skip
      refine g_lloadN X0 hx 32 (hb hby at_31) rfl rfl ?_
      refine g_ldc2J X0 hx 35 hZ hown (hw _ (List.mem_of_getElem? (i := 1) rfl)) (hb hby at_32) rfl ?_
      refine g_land X0 hx 36 (hb hby at_35) rfl ?_
      generalize hd : (p1 &&& (17179869183 : Int64)) = d
      refine g_lstore (l' := #[.val (.int p0), .val (.long p1), .second, .val (.int p2), .val (.int p3), .val (.int (0 : Int32)), .val (.int cm), .val (.long d), .second, .unset, .unset, .unset, .unset, .unset, .unset, .unset]) X0 hx 38 (hb hby at_36) rfl rfl ?_
      exact rm0_38_0 X0 hx hby hml hret hlk hown hZ hw e0 Z0 N0 hcm' (own_d0 hd)
    · skip
      refine g_lloadN X0 hx 24 (hb hby at_23) rfl rfl ?_
      refine g_ldc2J X0 hx 27 hZ hown (hw _ (List.mem_of_getElem? (i := 50) rfl)) (hb hby at_24) rfl ?_
      refine g_land X0 hx 28 (hb hby at_27) rfl ?_
      refine g_goto X0 hx 36 (hb hby at_28) (by decide) (by decide) ?_
      generalize hd : (p1 &&& (9223372036854775807 : Int64)) = d
      refine g_lstore (l' := #[.val (.int p0), .val (.long p1), .second, .val (.int p2), .val (.int p3), .val (.int (0 : Int32)), .val (.int cm), .val (.long d), .second, .unset, .unset, .unset, .unset, .unset, .unset, .unset]) X0 hx 38 (hb hby at_36) rfl rfl ?_
      exact rm0_38_0 X0 hx hby hml hret hlk hown hZ hw e0 Z0 N0 hcm' (own_d1 hd)
  · skip
    refine g_bipush X0 hx (125 : Int32) 11 (hb hby at_9) rfl (by decide) ?_
    refine g_iload X0 hx 13 (hb hby at_11) rfl rfl ?_
    refine g_ishl X0 hx 14 (hb hby at_13) rfl ?_
    refine g_istore (l' := #[.val (.int p0), .val (.long p1), .second, .val (.int p2), .val (.int p3), .val (.int (1 : Int32)), .val (.int ((125 : Int32) <<< ((1 : Int32) &&& 31))), .unset, .unset, .unset, .unset, .unset, .unset, .unset, .unset, .unset]) X0 hx 16 (hb hby at_14) rfl rfl ?_
    generalize hcm : ((125 : Int32) <<< ((1 : Int32) &&& 31)) = cm
    have hcm' : cm.toInt = 250 := by rw [← hcm]; decide
    refine g_iload X0 hx 18 (hb hby at_16) rfl rfl ?_
    refine g_iconst X0 hx (1 : Int32) 19 (hb hby at_18) rfl (by decide) ?_
    refine g_iand X0 hx 20 (hb hby at_19) rfl ?_
    refine g_if_eq X0 hx 31 23 (hb hby at_20) (by decide) (by decide) rfl (fun c244 => ?_) (fun c244 => ?_)
    · skip
      refine g_lloadN X0 hx 32 (hb hby at_31) rfl rfl ?_
      refine g_ldc2J X0 hx 35 hZ hown (hw _ (List.mem_of_getElem? (i := 1) rfl)) (hb hby at_32) rfl ?_
      refine g_land X0 hx 36 (hb hby at_35) rfl ?_
      generalize hd : (p1 &&& (17179869183 : Int64)) = d
      refine g_lstore (l' := #[.val (.int p0), .val (.long p1), .second, .val (.int p2), .val (.int p3), .val (.int (1 : Int32)), .val (.int cm), .val (.long d), .second, .unset, .unset, .unset, .unset, .unset, .unset, .unset]) X0 hx 38 (hb hby at_36) rfl rfl ?_
      exact rm0_38_1 X0 hx hby hml hret hlk hown hZ hw e0 Z0 N0 hcm' (own_d0 hd)
    · skip
      refine g_lloadN X0 hx 24 (hb hby at_23) rfl rfl ?_
      refine g_ldc2J X0 hx 27 hZ hown (hw _ (List.mem_of_getElem? (i := 50) rfl)) (hb hby at_24) rfl ?_
      refine g_land X0 hx 28 (hb hby at_27) rfl ?_
      refine g_goto X0 hx 36 (hb hby at_28) (by decide) (by decide) ?_
      generalize hd : (p1 &&& (9223372036854775807 : Int64)) = d
      refine g_lstore (l' := #[.val (.int p0), .val (.long p1), .second, .val (.int p2), .val (.int p3), .val (.int (1 : Int32)), .val (.int cm), .val (.long d), .second, .unset, .unset, .unset, .unset, .unset, .unset, .unset]) X0 hx 38 (hb hby at_36) rfl rfl ?_
      exact rm0_38_1 X0 hx hby hml hret hlk hown hZ hw e0 Z0 N0 hcm' (own_d1 hd)
  · skip
    refine g_bipush X0 hx (125 : Int32) 11 (hb hby at_9) rfl (by decide) ?_
    refine g_iload X0 hx 13 (hb hby at_11) rfl rfl ?_
    refine g_ishl X0 hx 14 (hb hby at_13) rfl ?_
    refine g_istore (l' := #[.val (.int p0), .val (.long p1), .second, .val (.int p2), .val (.int p3), .val (.int (2 : Int32)), .val (.int ((125 : Int32) <<< ((2 : Int32) &&& 31))), .unset, .unset, .unset, .unset, .unset, .unset, .unset, .unset, .unset]) X0 hx 16 (hb hby at_14) rfl rfl ?_
    generalize hcm : ((125 : Int32) <<< ((2 : Int32) &&& 31)) = cm
    have hcm' : cm.toInt = 500 := by rw [← hcm]; decide
    refine g_iload X0 hx 18 (hb hby at_16) rfl rfl ?_
    refine g_iconst X0 hx (1 : Int32) 19 (hb hby at_18) rfl (by decide) ?_
    refine g_iand X0 hx 20 (hb hby at_19) rfl ?_
    refine g_if_eq X0 hx 31 23 (hb hby at_20) (by decide) (by decide) rfl (fun c245 => ?_) (fun c245 => ?_)
    · skip
      refine g_lloadN X0 hx 32 (hb hby at_31) rfl rfl ?_
      refine g_ldc2J X0 hx 35 hZ hown (hw _ (List.mem_of_getElem? (i := 1) rfl)) (hb hby at_32) rfl ?_
      refine g_land X0 hx 36 (hb hby at_35) rfl ?_
      generalize hd : (p1 &&& (17179869183 : Int64)) = d
      refine g_lstore (l' := #[.val (.int p0), .val (.long p1), .second, .val (.int p2), .val (.int p3), .val (.int (2 : Int32)), .val (.int cm), .val (.long d), .second, .unset, .unset, .unset, .unset, .unset, .unset, .unset]) X0 hx 38 (hb hby at_36) rfl rfl ?_
      exact rm0_38_2 X0 hx hby hml hret hlk hown hZ hw e0 Z0 N0 hcm' (own_d0 hd)
    · skip
      refine g_lloadN X0 hx 24 (hb hby at_23) rfl rfl ?_
      refine g_ldc2J X0 hx 27 hZ hown (hw _ (List.mem_of_getElem? (i := 50) rfl)) (hb hby at_24) rfl ?_
      refine g_land X0 hx 28 (hb hby at_27) rfl ?_
      refine g_goto X0 hx 36 (hb hby at_28) (by decide) (by decide) ?_
      generalize hd : (p1 &&& (9223372036854775807 : Int64)) = d
      refine g_lstore (l' := #[.val (.int p0), .val (.long p1), .second, .val (.int p2), .val (.int p3), .val (.int (2 : Int32)), .val (.int cm), .val (.long d), .second, .unset, .unset, .unset, .unset, .unset, .unset, .unset]) X0 hx 38 (hb hby at_36) rfl rfl ?_
      exact rm0_38_2 X0 hx hby hml hret hlk hown hZ hw e0 Z0 N0 hcm' (own_d1 hd)
  · skip
    refine g_bipush X0 hx (125 : Int32) 11 (hb hby at_9) rfl (by decide) ?_
    refine g_iload X0 hx 13 (hb hby at_11) rfl rfl ?_
    refine g_ishl X0 hx 14 (hb hby at_13) rfl ?_
    refine g_istore (l' := #[.val (.int p0), .val (.long p1), .second, .val (.int p2), .val (.int p3), .val (.int (3 : Int32)), .val (.int ((125 : Int32) <<< ((3 : Int32) &&& 31))), .unset, .unset, .unset, .unset, .unset, .unset, .unset, .unset, .unset]) X0 hx 16 (hb hby at_14) rfl rfl ?_
    generalize hcm : ((125 : Int32) <<< ((3 : Int32) &&& 31)) = cm
    have hcm' : cm.toInt = 1000 := by rw [← hcm]; decide
    refine g_iload X0 hx 18 (hb hby at_16) rfl rfl ?_
    refine g_iconst X0 hx (1 : Int32) 19 (hb hby at_18) rfl (by decide) ?_
    refine g_iand X0 hx 20 (hb hby at_19) rfl ?_
    refine g_if_eq X0 hx 31 23 (hb hby at_20) (by decide) (by decide) rfl (fun c246 => ?_) (fun c246 => ?_)
    · skip
      refine g_lloadN X0 hx 32 (hb hby at_31) rfl rfl ?_
      refine g_ldc2J X0 hx 35 hZ hown (hw _ (List.mem_of_getElem? (i := 1) rfl)) (hb hby at_32) rfl ?_
      refine g_land X0 hx 36 (hb hby at_35) rfl ?_
      generalize hd : (p1 &&& (17179869183 : Int64)) = d
      refine g_lstore (l' := #[.val (.int p0), .val (.long p1), .second, .val (.int p2), .val (.int p3), .val (.int (3 : Int32)), .val (.int cm), .val (.long d), .second, .unset, .unset, .unset, .unset, .unset, .unset, .unset]) X0 hx 38 (hb hby at_36) rfl rfl ?_
      exact rm0_38_3 X0 hx hby hml hret hlk hown hZ hw e0 Z0 N0 hcm' (own_d0 hd)
    · skip
      refine g_lloadN X0 hx 24 (hb hby at_23) rfl rfl ?_
      refine g_ldc2J X0 hx 27 hZ hown (hw _ (List.mem_of_getElem? (i := 50) rfl)) (hb hby at_24) rfl ?_
      refine g_land X0 hx 28 (hb hby at_27) rfl ?_
      refine g_goto X0 hx 36 (hb hby at_28) (by decide) (by decide) ?_
      generalize hd : (p1 &&& (9223372036854775807 : Int64)) = d
      refine g_lstore (l' := #[.val (.int p0), .val (.long p1), .second, .val (.int p2), .val (.int p3), .val (.int (3 : Int32)), .val (.int cm), .val (.long d), .second, .unset, .unset, .unset, .unset, .unset, .unset, .unset]) X0 hx 38 (hb hby at_36) rfl rfl ?_
      exact rm0_38_3 X0 hx hby hml hret hlk hown hZ hw e0 Z0 N0 hcm' (own_d1 hd)
  · skip
    refine g_bipush X0 hx (125 : Int32) 11 (hb hby at_9) rfl (by decide) ?_
    refine g_iload X0 hx 13 (hb hby at_11) rfl rfl ?_
    refine g_ishl X0 hx 14 (hb hby at_13) rfl ?_
    refine g_istore (l' := #[.val (.int p0), .val (.long p1), .second, .val (.int p2), .val (.int p3), .val (.int (4 : Int32)), .val (.int ((125 : Int32) <<< ((4 : Int32) &&& 31))), .unset, .unset, .unset, .unset, .unset, .unset, .unset, .unset, .unset]) X0 hx 16 (hb hby at_14) rfl rfl ?_
    generalize hcm : ((125 : Int32) <<< ((4 : Int32) &&& 31)) = cm
    have hcm' : cm.toInt = 2000 := by rw [← hcm]; decide
    refine g_iload X0 hx 18 (hb hby at_16) rfl rfl ?_
    refine g_iconst X0 hx (1 : Int32) 19 (hb hby at_18) rfl (by decide) ?_
    refine g_iand X0 hx 20 (hb hby at_19) rfl ?_
    refine g_if_eq X0 hx 31 23 (hb hby at_20) (by decide) (by decide) rfl (fun c247 => ?_) (fun c247 => ?_)
    · skip
      refine g_lloadN X0 hx 32 (hb hby at_31) rfl rfl ?_
      refine g_ldc2J X0 hx 35 hZ hown (hw _ (List.mem_of_getElem? (i := 1) rfl)) (hb hby at_32) rfl ?_
      refine g_land X0 hx 36 (hb hby at_35) rfl ?_
      generalize hd : (p1 &&& (17179869183 : Int64)) = d
      refine g_lstore (l' := #[.val (.int p0), .val (.long p1), .second, .val (.int p2), .val (.int p3), .val (.int (4 : Int32)), .val (.int cm), .val (.long d), .second, .unset, .unset, .unset, .unset, .unset, .unset, .unset]) X0 hx 38 (hb hby at_36) rfl rfl ?_
      exact rm0_38_4 X0 hx hby hml hret hlk hown hZ hw e0 Z0 N0 hcm' (own_d0 hd)
    · skip
      refine g_lloadN X0 hx 24 (hb hby at_23) rfl rfl ?_
      refine g_ldc2J X0 hx 27 hZ hown (hw _ (List.mem_of_getElem? (i := 50) rfl)) (hb hby at_24) rfl ?_
      refine g_land X0 hx 28 (hb hby at_27) rfl ?_
      refine g_goto X0 hx 36 (hb hby at_28) (by decide) (by decide) ?_
      generalize hd : (p1 &&& (9223372036854775807 : Int64)) = d
      refine g_lstore (l' := #[.val (.int p0), .val (.long p1), .second, .val (.int p2), .val (.int p3), .val (.int (4 : Int32)), .val (.int cm), .val (.long d), .second, .unset, .unset, .unset, .unset, .unset, .unset, .unset]) X0 hx 38 (hb hby at_36) rfl rfl ?_
      exact rm0_38_4 X0 hx hby hml hret hlk hown hZ hw e0 Z0 N0 hcm' (own_d1 hd)
  · skip
    refine g_bipush X0 hx (125 : Int32) 11 (hb hby at_9) rfl (by decide) ?_
    refine g_iload X0 hx 13 (hb hby at_11) rfl rfl ?_
    refine g_ishl X0 hx 14 (hb hby at_13) rfl ?_
    refine g_istore (l' := #[.val (.int p0), .val (.long p1), .second, .val (.int p2), .val (.int p3), .val (.int (5 : Int32)), .val (.int ((125 : Int32) <<< ((5 : Int32) &&& 31))), .unset, .unset, .unset, .unset, .unset, .unset, .unset, .unset, .unset]) X0 hx 16 (hb hby at_14) rfl rfl ?_
    generalize hcm : ((125 : Int32) <<< ((5 : Int32) &&& 31)) = cm
    have hcm' : cm.toInt = 4000 := by rw [← hcm]; decide
    refine g_iload X0 hx 18 (hb hby at_16) rfl rfl ?_
    refine g_iconst X0 hx (1 : Int32) 19 (hb hby at_18) rfl (by decide) ?_
    refine g_iand X0 hx 20 (hb hby at_19) rfl ?_
    refine g_if_eq X0 hx 31 23 (hb hby at_20) (by decide) (by decide) rfl (fun c248 => ?_) (fun c248 => ?_)
    · skip
      refine g_lloadN X0 hx 32 (hb hby at_31) rfl rfl ?_
      refine g_ldc2J X0 hx 35 hZ hown (hw _ (List.mem_of_getElem? (i := 1) rfl)) (hb hby at_32) rfl ?_
      refine g_land X0 hx 36 (hb hby at_35) rfl ?_
      generalize hd : (p1 &&& (17179869183 : Int64)) = d
      refine g_lstore (l' := #[.val (.int p0), .val (.long p1), .second, .val (.int p2), .val (.int p3), .val (.int (5 : Int32)), .val (.int cm), .val (.long d), .second, .unset, .unset, .unset, .unset, .unset, .unset, .unset]) X0 hx 38 (hb hby at_36) rfl rfl ?_
      exact rm0_38_5 X0 hx hby hml hret hlk hown hZ hw e0 Z0 N0 hcm' (own_d0 hd)
    · skip
      refine g_lloadN X0 hx 24 (hb hby at_23) rfl rfl ?_
      refine g_ldc2J X0 hx 27 hZ hown (hw _ (List.mem_of_getElem? (i := 50) rfl)) (hb hby at_24) rfl ?_
      refine g_land X0 hx 28 (hb hby at_27) rfl ?_
      refine g_goto X0 hx 36 (hb hby at_28) (by decide) (by decide) ?_
      generalize hd : (p1 &&& (9223372036854775807 : Int64)) = d
      refine g_lstore (l' := #[.val (.int p0), .val (.long p1), .second, .val (.int p2), .val (.int p3), .val (.int (5 : Int32)), .val (.int cm), .val (.long d), .second, .unset, .unset, .unset, .unset, .unset, .unset, .unset]) X0 hx 38 (hb hby at_36) rfl rfl ?_
      exact rm0_38_5 X0 hx hby hml hret hlk hown hZ hw e0 Z0 N0 hcm' (own_d1 hd)
set_option maxRecDepth 65536 in
set_option maxHeartbeats 40000000 in
theorem comes_1 {Post : Tables → Env → Array Value → State → Outcome → State → Prop} (hpost : ∀ tb e args s v u, (limb_1_1.after args s (.returned v) u = true ∧ limb_1_2.after args s (.returned v) u = true ∧ True) → FrameEnd s (.returned v) u (Jvm.fieldLocs frame_1_writes args s ++ Jvm.arrayLocs frame_1_arrays args s ++ Jvm.staticLocs frame_1_statics s) 16 128 → Post tb e args s (.returned v) u) :
    ArmFor flags0 classFile x code maxLocals ret World_1 tables_1 room_1 Calls_1 rest_1 Pre_1 Post := by
  intro l hfl _ _ p e ha hc hk s m args below hf hA hF happ hP
  obtain ⟨hcalls, hrest, hpre⟩ := hP
  obtain ⟨-, -, -, hnamed, -, -, -, hat⟩ := (Spec.applies_iff hf).mp happ
  obtain ⟨hg, hn⟩ := and_e (Cond.before_iff.mp (show (Jvm.Cond.and given_1 narrow_1).before args s = true from hpre))
  obtain ⟨h1, g0⟩ := and_e hg
  obtain ⟨t0, g1⟩ := and_e g0
  obtain ⟨t1, g2⟩ := and_e g1
  obtain ⟨t2, g3⟩ := and_e g2
  have t3 := g3
  obtain ⟨w0, w1, w2, w3, rfl⟩ : ∃ w0 w1 w2 w3 : Value, args = #[w0, w1, w2, w3] := by
    have hs : args.size = 4 := by simpa [Cond.value, given_1] using h1
    obtain ⟨L⟩ := args
    match L, hs with
    | [w0, w1, w2, w3], _ => exact ⟨w0, w1, w2, w3, rfl⟩
  have hw := fun d (hd : d ∈ tables_1) => atoms_spec (ws := Jvm.Cond.code x code maxLocals ret :: tables_1) hat d (List.mem_cons_of_mem _ hd)
  obtain ⟨i0, e0⟩ := is_v t0
  obtain rfl : w0 = (.int i0) := Option.some.inj e0
  obtain ⟨i1, e1⟩ := isL_v t1
  obtain rfl : w1 = (.long i1) := Option.some.inj e1
  obtain ⟨i2, e2⟩ := is_v t2
  obtain rfl : w2 = (.int i2) := Option.some.inj e2
  obtain ⟨i3, e3⟩ := is_v t3
  obtain rfl : w3 = (.int i3) := Option.some.inj e3
  obtain ⟨n, o, h1, h2, h3, _, L, rfl, ⟨rfl, N⟩, hq⟩ := rm0 l s _ hw tables_1 i0 i1 i2 i3 s.heap s.heap.size (Nat.le_refl _)  p e ha hc hk s m _ below hf ((Spec.applies_iff_loose hf).mp happ).1 ⟨rfl, State.Warmed39.refl s, rfl⟩ trivial
  refine ⟨n, _, h1, h2, h3, hpost _ _ _ _ _ _ ⟨Cond.after_iff.mpr rfl, Cond.after_iff.mpr (eq_i res_at (Term.int_eval (1)) rfl), trivial⟩ ⟨hq.1, hq.2.1, (hq.2.2.sift fun y hy => Or.inr (N y hy)).mono (by decide) (by decide)⟩⟩
theorem main_1_1 : Claimed_1_1 := comes_1 fun _ _ _ _ _ _ h hF => ⟨h.1, hF⟩
theorem main_1_2 : Claimed_1_2 := comes_1 fun _ _ _ _ _ _ h hF => ⟨h.2.1, hF⟩
end Jvm.Pilot.@@N@@
namespace Jvm.Pilot.@@N@@
open Jvm Jvm.ClassFile Sem Op Lib Jvm.Free Jvm.Stand Jvm.Pilot.@@N@@.Jvm.D
/-! MADE BY PROGRAM (witnessworld.py) out of the Statement's table words and the real class files: 16 classes; the members and pool entries that the words name. The judged class is class 1, her method 1. -/
namespace start1
open Jvm.ClassFile
def u (s : String) : CpInfo := .utf8 (stringToUtf16 s)
/-- a pool by its gaps: so many unusable entries, then the entry; so many at the end -/
def gap : Nat → List CpInfo → List CpInfo
  | 0, r => r
  | n + 1, r => .unusable :: gap n r
def poolList (es : List (Nat × CpInfo)) (last : Nat) : List CpInfo := es.foldr (fun e r => gap e.1 (e.2 :: r)) (gap last [])
def pool (es : List (Nat × CpInfo)) (last : Nat) : Array CpInfo := ⟨poolList es last⟩
def fileOf (pool : Array CpInfo) (this : Nat) (attrs : Array Attribute := #[]) (ms : Array MethodInfo := #[]) (fl : Nat := 33) (sup : Nat := 0) (ifs : Array Nat := #[]) (fds : Array FieldInfo := #[]) : ClassFile where
  minorVersion := 0
  majorVersion := 65
  constantPool := pool
  accessFlags := fl
  thisClass := this
  superClass := sup
  interfaces := ifs
  fields := fds
  methods := ms
  attributes := attrs
def plain (name : String) (sup : Option ClassId) : Class where
  name := name
  kind := .ordinary
  loader := none
  accessFlags := 33
  super := sup
  interfaces := #[]
  cf := none
  fields := #[]
  methods := #[]
  instanceTypes := #[]
  staticTypes := #[]
  resolved := #[]
  callSites := []
  init := .initialized
  statics := none
  mirror := none

def pool0 : Array CpInfo := pool [(5, u "<init>"), (0, u "()V"), (1, .class_ 10), (1, u "java/lang/Object")] 113

def k0c0 : Code := { maxStack := 0, maxLocals := 1, code := object_method_1_code, exceptionTable := #[], attributes := #[] }
def k0m0 : Method := { name := "<init>", desc := "()V", sig := { parameters := [], returnType := none }, accessFlags := 1, code := some k0c0 }
/-- java/lang/Object -/
def k0 : Class := { plain "java/lang/Object" none with
  accessFlags := 33
  interfaces := #[]
  cf := some (fileOf pool0 8 #[] #[{ accessFlags := 1, nameIndex := 5, descriptorIndex := 6, attributes := #[] }] 33 0 #[] #[])
  fields := #[]
  methods := #[k0m0]
  instanceTypes := #[]
  staticTypes := #[]
  resolved := Array.replicate 124 none
  statics := none }

def pool1 : Array CpInfo := pool [(2, .class_ 4), (1, u "java/lang/Object"), (0, u "<init>"), (0, u "()V"), (0, .integer 2147483647), (2, .long 9223372036854775807), (1, .long 17179869183), (1, .class_ 15), (0, u "com/example/iso_throttle/isothrottle/AdmissionTally"), (0, .methodref 14 17), (0, .nameAndType 5 18), (0, u "(DI)V"), (0, .methodref 14 20), (0, .nameAndType 21 22), (0, u "admitted"), (0, u "(DJ)D"), (0, .double 4620693217682128896), (1, .long 8), (1, .class_ 28), (0, u "com/example/iso_throttle/isothrottle/AdmissionTallyAdmittedPinLaw"), (2, u "law"), (0, u "(IJII)Z")] 3

def k1m0 : Method := { name := "<init>", desc := "()V", sig := { parameters := [], returnType := none }, accessFlags := 1, code := none }
def k1c1 : Code := { maxStack := 6, maxLocals := 16, code := code, exceptionTable := #[], attributes := #[] }
def k1m1 : Method := { name := "law", desc := "(IJII)Z", sig := { parameters := [.int, .long, .int, .int], returnType := some .boolean }, accessFlags := 9, code := some k1c1 }
/-- com/example/iso_throttle/isothrottle/AdmissionTallyAdmittedPinLaw -/
def k1 : Class := { plain "com/example/iso_throttle/isothrottle/AdmissionTallyAdmittedPinLaw" (some 0) with
  accessFlags := 49
  interfaces := #[]
  cf := some (fileOf pool1 27 #[] #[{ accessFlags := 1, nameIndex := 5, descriptorIndex := 6, attributes := #[] }, { accessFlags := 9, nameIndex := 31, descriptorIndex := 32, attributes := #[] }] 49 2 #[] #[])
  fields := #[]
  methods := #[k1m0, k1m1]
  instanceTypes := #[]
  staticTypes := #[]
  resolved := Array.replicate 36 none
  statics := none }

def pool2 : Array CpInfo := pool [(1, .methodref 2 3), (0, .class_ 4), (0, .nameAndType 5 6), (0, u "java/lang/Object"), (0, u "<init>"), (0, u "()V"), (0, .class_ 8), (0, u "com/example/iso_throttle/isothrottle/CompensatedSum"), (0, .methodref 7 3), (0, .fieldref 11 12), (0, .class_ 13), (0, .nameAndType 14 15), (0, u "com/example/iso_throttle/isothrottle/AdmissionTally"), (0, u "idealTotal"), (0, u "Lcom/example/iso_throttle/isothrottle/CompensatedSum;"), (0, .fieldref 11 17), (0, .nameAndType 18 15), (0, u "admittedTotal"), (0, .methodref 20 21), (0, .class_ 22), (0, .nameAndType 23 24), (0, u "java/lang/Double"), (0, u "isInfinite"), (0, u "(D)Z"), (12, .fieldref 11 38), (0, .nameAndType 39 40), (0, u "limit"), (0, u "D"), (0, .double 4652007308841189376), (1, .fieldref 11 44), (0, .nameAndType 45 40), (0, u "cycleSeconds"), (0, .methodref 20 47), (0, .nameAndType 48 24), (0, u "isFinite"), (4, .methodref 54 55), (0, .class_ 56), (0, .nameAndType 57 58), (0, u "java/lang/Math"), (0, u "min"), (0, u "(DD)D"), (0, .methodref 54 60), (0, .nameAndType 61 58), (0, u "max"), (5, u "admitted"), (0, u "(DJ)D"), (18, u "(DI)V")] 31

def k2c0 : Code := { maxStack := 5, maxLocals := 4, code := prog_1_method_1_code, exceptionTable := #[], attributes := #[] }
def k2m0 : Method := { name := "<init>", desc := "(DI)V", sig := { parameters := [.double, .int], returnType := none }, accessFlags := 1, code := some k2c0 }
def k2c1 : Code := { maxStack := 6, maxLocals := 5, code := prog_1_method_2_code, exceptionTable := #[], attributes := #[] }
def k2m1 : Method := { name := "admitted", desc := "(DJ)D", sig := { parameters := [.double, .long], returnType := some .double }, accessFlags := 1, code := some k2c1 }
/-- com/example/iso_throttle/isothrottle/AdmissionTally -/
def k2 : Class := { plain "com/example/iso_throttle/isothrottle/AdmissionTally" (some 0) with
  accessFlags := 49
  interfaces := #[]
  cf := some (fileOf pool2 11 #[] #[{ accessFlags := 1, nameIndex := 5, descriptorIndex := 87, attributes := #[] }, { accessFlags := 1, nameIndex := 67, descriptorIndex := 68, attributes := #[] }] 49 2 #[] #[{ accessFlags := 18, nameIndex := 39, descriptorIndex := 40, attributes := #[] }, { accessFlags := 18, nameIndex := 45, descriptorIndex := 40, attributes := #[] }, { accessFlags := 18, nameIndex := 14, descriptorIndex := 15, attributes := #[] }, { accessFlags := 18, nameIndex := 18, descriptorIndex := 15, attributes := #[] }])
  fields := #[{ name := "limit", type := .double, accessFlags := 18, slot := 0, constantValue := 0 }, { name := "cycleSeconds", type := .double, accessFlags := 18, slot := 1, constantValue := 0 }, { name := "idealTotal", type := (.object "com/example/iso_throttle/isothrottle/CompensatedSum"), accessFlags := 18, slot := 2, constantValue := 0 }, { name := "admittedTotal", type := (.object "com/example/iso_throttle/isothrottle/CompensatedSum"), accessFlags := 18, slot := 3, constantValue := 0 }]
  methods := #[k2m0, k2m1]
  instanceTypes := #[.double, .double, (.object "com/example/iso_throttle/isothrottle/CompensatedSum"), (.object "com/example/iso_throttle/isothrottle/CompensatedSum")]
  staticTypes := #[]
  resolved := Array.replicate 119 none
  statics := none }

def pool3 : Array CpInfo := pool [(1, .methodref 2 3), (0, .class_ 4), (0, .nameAndType 5 6), (0, u "java/lang/Object"), (0, u "<init>"), (0, u "()V"), (1, .class_ 10), (1, u "com/example/iso_throttle/isothrottle/CompensatedSum"), (0, u "compensation"), (0, u "D"), (2, u "sum")] 8

def k3c0 : Code := { maxStack := 1, maxLocals := 1, code := prog_6_method_1_code, exceptionTable := #[], attributes := #[] }
def k3m0 : Method := { name := "<init>", desc := "()V", sig := { parameters := [], returnType := none }, accessFlags := 0, code := some k3c0 }
/-- com/example/iso_throttle/isothrottle/CompensatedSum -/
def k3 : Class := { plain "com/example/iso_throttle/isothrottle/CompensatedSum" (some 0) with
  accessFlags := 48
  interfaces := #[]
  cf := some (fileOf pool3 8 #[] #[{ accessFlags := 0, nameIndex := 5, descriptorIndex := 6, attributes := #[] }] 48 2 #[] #[{ accessFlags := 2, nameIndex := 15, descriptorIndex := 12, attributes := #[] }, { accessFlags := 2, nameIndex := 11, descriptorIndex := 12, attributes := #[] }])
  fields := #[{ name := "sum", type := .double, accessFlags := 2, slot := 0, constantValue := 0 }, { name := "compensation", type := .double, accessFlags := 2, slot := 1, constantValue := 0 }]
  methods := #[k3m0]
  instanceTypes := #[.double, .double]
  staticTypes := #[]
  resolved := Array.replicate 24 none
  statics := none }

def pool4 : Array CpInfo := pool [(1, .class_ 2), (0, u "java/io/Serializable"), (0, .class_ 4), (0, u "java/lang/Object")] 2

/-- java/io/Serializable -/
def k4 : Class := { plain "java/io/Serializable" (some 0) with
  accessFlags := 1537
  interfaces := #[]
  cf := some (fileOf pool4 1 #[] #[] 1537 3 #[] #[])
  fields := #[]
  methods := #[]
  instanceTypes := #[]
  staticTypes := #[]
  resolved := Array.replicate 7 none
  statics := none }

def pool5 : Array CpInfo := pool [(2, .class_ 4), (1, u "java/lang/Object"), (0, u "<init>"), (0, u "()V"), (1, .class_ 10), (1, u "java/lang/Number"), (2, .class_ 14), (0, u "java/io/Serializable"), (0, u "serialVersionUID"), (0, u "J")] 20

def k5m0 : Method := { name := "<init>", desc := "()V", sig := { parameters := [], returnType := none }, accessFlags := 1, code := none }
/-- java/lang/Number -/
def k5 : Class := { plain "java/lang/Number" (some 0) with
  accessFlags := 1057
  interfaces := #[4]
  cf := some (fileOf pool5 8 #[] #[{ accessFlags := 1, nameIndex := 5, descriptorIndex := 6, attributes := #[] }] 1057 2 #[13] #[{ accessFlags := 26, nameIndex := 15, descriptorIndex := 16, attributes := #[] }])
  fields := #[{ name := "serialVersionUID", type := .long, accessFlags := 26, slot := 0, constantValue := 0 }]
  methods := #[k5m0]
  instanceTypes := #[]
  staticTypes := #[.long]
  resolved := Array.replicate 37 none
  statics := none }

def pool6 : Array CpInfo := pool [(1, .class_ 2), (0, u "java/lang/Comparable"), (0, .class_ 4), (0, u "java/lang/Object")] 7

/-- java/lang/Comparable -/
def k6 : Class := { plain "java/lang/Comparable" (some 0) with
  accessFlags := 1537
  interfaces := #[]
  cf := some (fileOf pool6 1 #[] #[] 1537 3 #[] #[])
  fields := #[]
  methods := #[]
  instanceTypes := #[]
  staticTypes := #[]
  resolved := Array.replicate 12 none
  statics := none }

def pool7 : Array CpInfo := pool [(1, .class_ 2), (0, u "java/lang/constant/Constable"), (0, .class_ 4), (0, u "java/lang/Object")] 6

/-- java/lang/constant/Constable -/
def k7 : Class := { plain "java/lang/constant/Constable" (some 0) with
  accessFlags := 1537
  interfaces := #[]
  cf := some (fileOf pool7 1 #[] #[] 1537 3 #[] #[])
  fields := #[]
  methods := #[]
  instanceTypes := #[]
  staticTypes := #[]
  resolved := Array.replicate 11 none
  statics := none }

def pool8 : Array CpInfo := pool [(1, .class_ 2), (0, u "java/lang/constant/ConstantDesc"), (0, .class_ 4), (0, u "java/lang/Object")] 32

/-- java/lang/constant/ConstantDesc -/
def k8 : Class := { plain "java/lang/constant/ConstantDesc" (some 0) with
  accessFlags := 1537
  interfaces := #[]
  cf := some (fileOf pool8 1 #[] #[] 1537 3 #[] #[])
  fields := #[]
  methods := #[]
  instanceTypes := #[]
  staticTypes := #[]
  resolved := Array.replicate 37 none
  statics := none }

def pool9 : Array CpInfo := pool [(1, .class_ 2), (0, u "java/lang/Double"), (10, u "isFinite"), (0, u "(D)Z"), (8, .class_ 25), (1, u "java/lang/Math"), (12, .methodref 23 39), (0, .nameAndType 40 41), (0, u "abs"), (0, u "(D)D"), (69, .double 9218868437227405311), (2, .class_ 116), (1, u "java/lang/Number"), (3, u "value"), (0, u "D"), (5, u "isInfinite"), (45, u "TYPE"), (0, u "Ljava/lang/Class;"), (0, .class_ 176), (0, u "java/lang/Comparable"), (0, .class_ 178), (0, u "java/lang/constant/Constable"), (0, .class_ 180), (0, u "java/lang/constant/ConstantDesc"), (0, u "POSITIVE_INFINITY"), (3, u "NEGATIVE_INFINITY"), (2, u "NaN"), (2, u "MAX_VALUE"), (0, u "MIN_NORMAL"), (0, u "MIN_VALUE"), (2, u "SIZE"), (0, u "I"), (1, u "PRECISION"), (1, u "MAX_EXPONENT"), (1, u "MIN_EXPONENT"), (1, u "BYTES"), (3, u "serialVersionUID"), (0, u "J")] 79

def k9c0 : Code := { maxStack := 4, maxLocals := 2, code := jdk_117_method_7_code, exceptionTable := #[], attributes := #[] }
def k9m0 : Method := { name := "isInfinite", desc := "(D)Z", sig := { parameters := [.double], returnType := some .boolean }, accessFlags := 9, code := some k9c0 }
def k9c1 : Code := { maxStack := 4, maxLocals := 2, code := jdk_117_method_8_code, exceptionTable := #[], attributes := #[] }
def k9m1 : Method := { name := "isFinite", desc := "(D)Z", sig := { parameters := [.double], returnType := some .boolean }, accessFlags := 9, code := some k9c1 }
/-- java/lang/Double -/
def k9 : Class := { plain "java/lang/Double" (some 5) with
  accessFlags := 49
  interfaces := #[6, 7, 8]
  cf := some (fileOf pool9 1 #[] #[{ accessFlags := 9, nameIndex := 127, descriptorIndex := 14, attributes := #[] }, { accessFlags := 9, nameIndex := 13, descriptorIndex := 14, attributes := #[] }] 49 114 #[175, 177, 179] #[{ accessFlags := 25, nameIndex := 181, descriptorIndex := 121, attributes := #[] }, { accessFlags := 25, nameIndex := 185, descriptorIndex := 121, attributes := #[] }, { accessFlags := 25, nameIndex := 188, descriptorIndex := 121, attributes := #[] }, { accessFlags := 25, nameIndex := 191, descriptorIndex := 121, attributes := #[] }, { accessFlags := 25, nameIndex := 192, descriptorIndex := 121, attributes := #[] }, { accessFlags := 25, nameIndex := 193, descriptorIndex := 121, attributes := #[] }, { accessFlags := 25, nameIndex := 196, descriptorIndex := 197, attributes := #[] }, { accessFlags := 25, nameIndex := 199, descriptorIndex := 197, attributes := #[] }, { accessFlags := 25, nameIndex := 201, descriptorIndex := 197, attributes := #[] }, { accessFlags := 25, nameIndex := 203, descriptorIndex := 197, attributes := #[] }, { accessFlags := 25, nameIndex := 205, descriptorIndex := 197, attributes := #[] }, { accessFlags := 25, nameIndex := 173, descriptorIndex := 174, attributes := #[] }, { accessFlags := 18, nameIndex := 120, descriptorIndex := 121, attributes := #[] }, { accessFlags := 26, nameIndex := 209, descriptorIndex := 210, attributes := #[] }])
  fields := #[{ name := "POSITIVE_INFINITY", type := .double, accessFlags := 25, slot := 0, constantValue := 0 }, { name := "NEGATIVE_INFINITY", type := .double, accessFlags := 25, slot := 1, constantValue := 0 }, { name := "NaN", type := .double, accessFlags := 25, slot := 2, constantValue := 0 }, { name := "MAX_VALUE", type := .double, accessFlags := 25, slot := 3, constantValue := 0 }, { name := "MIN_NORMAL", type := .double, accessFlags := 25, slot := 4, constantValue := 0 }, { name := "MIN_VALUE", type := .double, accessFlags := 25, slot := 5, constantValue := 0 }, { name := "SIZE", type := .int, accessFlags := 25, slot := 6, constantValue := 0 }, { name := "PRECISION", type := .int, accessFlags := 25, slot := 7, constantValue := 0 }, { name := "MAX_EXPONENT", type := .int, accessFlags := 25, slot := 8, constantValue := 0 }, { name := "MIN_EXPONENT", type := .int, accessFlags := 25, slot := 9, constantValue := 0 }, { name := "BYTES", type := .int, accessFlags := 25, slot := 10, constantValue := 0 }, { name := "TYPE", type := (.object "java/lang/Class"), accessFlags := 25, slot := 11, constantValue := 0 }, { name := "value", type := .double, accessFlags := 18, slot := 0, constantValue := 0 }, { name := "serialVersionUID", type := .long, accessFlags := 26, slot := 12, constantValue := 0 }]
  methods := #[k9m0, k9m1]
  instanceTypes := #[.double]
  staticTypes := #[.double, .double, .double, .double, .double, .double, .int, .int, .int, .int, .int, (.object "java/lang/Class"), .long]
  resolved := Array.replicate 290 none
  statics := none }

def pool10 : Array CpInfo := pool [(1, .class_ 2), (0, u "java/lang/Math"), (1, .class_ 6), (1, u "java/lang/Object"), (0, u "<init>"), (0, u "()V"), (5, u "(D)D"), (37, u "(DD)D"), (45, .class_ 100), (1, u "java/lang/Math$RandomNumberGeneratorHolder"), (23, u "abs"), (47, u "negativeZeroFloatBits"), (0, u "J"), (2, u "negativeZeroDoubleBits"), (21, u "max"), (2, u "min"), (43, u "$assertionsDisabled"), (0, u "Z"), (91, u "twoToTheDoubleScaleDown"), (0, u "D"), (4, u "twoToTheDoubleScaleUp"), (9, u "E"), (3, u "PI"), (2, u "TAU"), (2, u "DEGREES_TO_RADIANS"), (0, u "RADIANS_TO_DEGREES")] 94

def k10m0 : Method := { name := "<init>", desc := "()V", sig := { parameters := [], returnType := none }, accessFlags := 2, code := none }
def k10c1 : Code := { maxStack := 4, maxLocals := 2, code := jdk_29_method_64_code, exceptionTable := #[], attributes := #[] }
def k10m1 : Method := { name := "abs", desc := "(D)D", sig := { parameters := [.double], returnType := some .double }, accessFlags := 9, code := some k10c1 }
def k10c2 : Code := { maxStack := 4, maxLocals := 4, code := jdk_29_method_68_code, exceptionTable := #[], attributes := #[] }
def k10m2 : Method := { name := "max", desc := "(DD)D", sig := { parameters := [.double, .double], returnType := some .double }, accessFlags := 9, code := some k10c2 }
def k10c3 : Code := { maxStack := 4, maxLocals := 4, code := jdk_29_method_72_code, exceptionTable := #[], attributes := #[] }
def k10m3 : Method := { name := "min", desc := "(DD)D", sig := { parameters := [.double, .double], returnType := some .double }, accessFlags := 9, code := some k10c3 }
/-- java/lang/Math -/
def k10 : Class := { plain "java/lang/Math" (some 0) with
  accessFlags := 49
  interfaces := #[]
  cf := some (fileOf pool10 1 #[.nestMembers #[98]] #[{ accessFlags := 2, nameIndex := 7, descriptorIndex := 8, attributes := #[] }, { accessFlags := 9, nameIndex := 124, descriptorIndex := 14, attributes := #[] }, { accessFlags := 9, nameIndex := 198, descriptorIndex := 52, attributes := #[] }, { accessFlags := 9, nameIndex := 201, descriptorIndex := 52, attributes := #[] }] 49 4 #[] #[{ accessFlags := 25, nameIndex := 354, descriptorIndex := 339, attributes := #[] }, { accessFlags := 25, nameIndex := 358, descriptorIndex := 339, attributes := #[] }, { accessFlags := 25, nameIndex := 361, descriptorIndex := 339, attributes := #[] }, { accessFlags := 26, nameIndex := 364, descriptorIndex := 339, attributes := #[] }, { accessFlags := 26, nameIndex := 365, descriptorIndex := 339, attributes := #[] }, { accessFlags := 26, nameIndex := 172, descriptorIndex := 173, attributes := #[] }, { accessFlags := 26, nameIndex := 176, descriptorIndex := 173, attributes := #[] }, { accessFlags := 8, nameIndex := 344, descriptorIndex := 339, attributes := #[] }, { accessFlags := 8, nameIndex := 338, descriptorIndex := 339, attributes := #[] }, { accessFlags := 4120, nameIndex := 245, descriptorIndex := 246, attributes := #[] }])
  fields := #[{ name := "E", type := .double, accessFlags := 25, slot := 0, constantValue := 0 }, { name := "PI", type := .double, accessFlags := 25, slot := 1, constantValue := 0 }, { name := "TAU", type := .double, accessFlags := 25, slot := 2, constantValue := 0 }, { name := "DEGREES_TO_RADIANS", type := .double, accessFlags := 26, slot := 3, constantValue := 0 }, { name := "RADIANS_TO_DEGREES", type := .double, accessFlags := 26, slot := 4, constantValue := 0 }, { name := "negativeZeroFloatBits", type := .long, accessFlags := 26, slot := 5, constantValue := 0 }, { name := "negativeZeroDoubleBits", type := .long, accessFlags := 26, slot := 6, constantValue := 0 }, { name := "twoToTheDoubleScaleUp", type := .double, accessFlags := 8, slot := 7, constantValue := 0 }, { name := "twoToTheDoubleScaleDown", type := .double, accessFlags := 8, slot := 8, constantValue := 0 }, { name := "$assertionsDisabled", type := .boolean, accessFlags := 4120, slot := 9, constantValue := 0 }]
  methods := #[k10m0, k10m1, k10m2, k10m3]
  instanceTypes := #[]
  staticTypes := #[.double, .double, .double, .double, .double, .long, .long, .double, .double, .boolean]
  resolved := Array.replicate 460 none
  statics := none }

def pool11 : Array CpInfo := pool [(1, u "java/lang/Cloneable"), (0, .class_ 1), (0, u "java/lang/Object"), (0, .class_ 3)] 3

/-- java/lang/Cloneable -/
def k11 : Class := { plain "java/lang/Cloneable" (some 0) with
  accessFlags := 1537
  interfaces := #[]
  cf := some (fileOf pool11 2 #[] #[] 1537 4 #[] #[])
  fields := #[]
  methods := #[]
  instanceTypes := #[]
  staticTypes := #[]
  resolved := Array.replicate 8 none
  statics := none }

/-- the primitive byte -/
def k12 : Class := { plain "byte" none with kind := .primitive 'B', accessFlags := 0x411 }
/-- [B -/
def k13 : Class := { plain "[B" (some 0) with kind := .array 12 .byte, interfaces := #[11, 4], accessFlags := 1041 }

/-- the primitive int -/
def k14 : Class := { plain "int" none with kind := .primitive 'I', accessFlags := 0x411 }
/-- [I -/
def k15 : Class := { plain "[I" (some 0) with kind := .array 14 .int, interfaces := #[11, 4], accessFlags := 1041 }

def heap : Heap := #[]
def classes : Array Class := #[k0, k1, k2, k3, k4, k5, k6, k7, k8, k9, k10, k11, k12, k13, k14, k15]
def interned : List (Array UInt16 × Addr) := []
def slotsUsed : Nat := 0
def theMethod : MethodId := ⟨1, 1⟩
def args0 : Array Value := #[.int 5, .long 3, .int 4, .int 7]
def aboutOver (below : List Frame) : State where
  vm := { classes := classes, interned := interned.toArray }
  heap := heap
  slotsUsed := slotsUsed
  threads := #[{ frames := .invoking theMethod args0 :: below }]
def below0 : List Frame := [.native { method := ⟨0, 0⟩, args := #[] }]
def about1 : State := aboutOver below0
def p0 : Program := .bare "" "" ""
def e0 : Env := launch0.env 0 0 0
theorem w_frames : about1.frames = Frame.invoking theMethod args0 :: below0 := rfl
set_option maxRecDepth 65536 in
theorem w_args : argsFit about1.vm theMethod args0 = true := by decide +kernel
set_option maxRecDepth 65536 in
theorem w_heap : heapFits about1 = true := by decide +kernel
set_option maxRecDepth 65536 in
theorem w_runnable : about1.curStatus? = some .runnable := by decide +kernel
set_option maxRecDepth 65536 in
theorem w_alone : about1.alone = true := by decide +kernel
set_option maxRecDepth 65536 in
theorem w_named : about1.methodNamed? x = some theMethod := by decide +kernel
set_option maxRecDepth 65536 in
theorem w_hears : about1.hears theMethod below0 = true := by decide +kernel
set_option maxRecDepth 65536 in
theorem w_ripe : about1.ripe theMethod args0 below0 = true := by decide +kernel
theorem w_running : about1.status = .running := rfl
set_option maxRecDepth 65536 in
theorem w_room : about1.hasRoom e0.platform room_1 = true :=
  launch0.hasRoom_least _ room_1 (by decide +kernel) (by decide +kernel) (by decide +kernel) (by decide +kernel) (by decide +kernel) (by decide +kernel)
theorem allAtoms_all (ts : List Jvm.Cond) (a : Array Jvm.Value) (st : Jvm.State) : (allAtoms ts).before a st = ts.all (fun c => c.before a st) := by
  induction ts with
  | nil => rfl
  | cons c t ih =>
    show (Jvm.Cond.and c (allAtoms t)).before a st = _
    rw [Jvm.Cond.before_and, ih, List.all_cons]
def words1 : List Jvm.Cond := Jvm.Cond.code x code maxLocals ret :: tables_1
/-- a 'code' word, met by the world's own term for the bytes: nothing is compared byte by byte -/
theorem code_word {y : MethodName} {bytes : ByteArray} {mx : Nat} {rt : Option FieldType} {a : Array Value} {s : State} {m : MethodId} {meth : Method} {c : Code} (h1 : s.methodNamed? y = some m) (h2 : s.vm.method? m = some meth) (h3 : meth.code = some c) (h4 : c.code = bytes)
    (h5 : (c.maxLocals == mx && c.exceptionTable.isEmpty && decide (c.maxStack ≤ mostOperands) && decide (meth.sig.returnType = rt) && !meth.locks && decide (parseMethodDescriptor y.desc = some meth.sig)) = true) : (Jvm.Cond.code y bytes mx rt).before a s = true := by
  simp only [Bool.and_eq_true, beq_iff_eq, Bool.not_eq_true', decide_eq_true_eq] at h5
  obtain ⟨⟨⟨⟨⟨g1, g2⟩, g3⟩, g4⟩, g5⟩, g6⟩ := h5
  simp [Cond.before, Cond.holds, Cond.value, h1, h2, h3, h4, g1, g2, g3, g4, g5, g6]
def isCode : Jvm.Cond → Bool
  | .code _ _ _ _ => true
  | _ => false
theorem all_split {L : List Jvm.Cond} {P : Jvm.Cond → Bool} (h1 : L.all (fun c => isCode c || P c) = true) (h2 : ∀ c ∈ L.filter isCode, P c = true) : L.all P = true := by
  refine List.all_eq_true.mpr fun c hc => ?_
  have h := List.all_eq_true.mp h1 c hc
  rcases Bool.eq_false_or_eq_true (isCode c) with hi | hi
  · exact h2 c (List.mem_filter.mpr ⟨hc, hi⟩)
  · simpa [hi] using h
set_option maxRecDepth 65536 in
theorem w_c0 : (Jvm.Cond.code x code maxLocals ret).before args0 about1 = true := code_word (m := ⟨1, 1⟩) (meth := k1m1) (c := k1c1) (by decide +kernel) rfl rfl rfl (by decide +kernel)
set_option maxRecDepth 65536 in
theorem w_c1 : (Jvm.Cond.code ({ cls := "com/example/iso_throttle/isothrottle/AdmissionTally", name := "<init>", desc := "(DI)V" } : Jvm.MethodName) prog_1_method_1_code (4 : Nat) (Option.none : Option Jvm.ClassFile.FieldType)).before args0 about1 = true := code_word (m := ⟨2, 0⟩) (meth := k2m0) (c := k2c0) (by decide +kernel) rfl rfl rfl (by decide +kernel)
set_option maxRecDepth 65536 in
theorem w_c2 : (Jvm.Cond.code ({ cls := "java/lang/Object", name := "<init>", desc := "()V" } : Jvm.MethodName) object_method_1_code (1 : Nat) (Option.none : Option Jvm.ClassFile.FieldType)).before args0 about1 = true := code_word (m := ⟨0, 0⟩) (meth := k0m0) (c := k0c0) (by decide +kernel) rfl rfl rfl (by decide +kernel)
set_option maxRecDepth 65536 in
theorem w_c3 : (Jvm.Cond.code ({ cls := "com/example/iso_throttle/isothrottle/CompensatedSum", name := "<init>", desc := "()V" } : Jvm.MethodName) prog_6_method_1_code (1 : Nat) (Option.none : Option Jvm.ClassFile.FieldType)).before args0 about1 = true := code_word (m := ⟨3, 0⟩) (meth := k3m0) (c := k3c0) (by decide +kernel) rfl rfl rfl (by decide +kernel)
set_option maxRecDepth 65536 in
theorem w_c4 : (Jvm.Cond.code ({ cls := "java/lang/Double", name := "isInfinite", desc := "(D)Z" } : Jvm.MethodName) jdk_117_method_7_code (2 : Nat) (Option.some Jvm.ClassFile.FieldType.boolean)).before args0 about1 = true := code_word (m := ⟨9, 0⟩) (meth := k9m0) (c := k9c0) (by decide +kernel) rfl rfl rfl (by decide +kernel)
set_option maxRecDepth 65536 in
theorem w_c5 : (Jvm.Cond.code ({ cls := "java/lang/Math", name := "abs", desc := "(D)D" } : Jvm.MethodName) jdk_29_method_64_code (2 : Nat) (Option.some Jvm.ClassFile.FieldType.double)).before args0 about1 = true := code_word (m := ⟨10, 1⟩) (meth := k10m1) (c := k10c1) (by decide +kernel) rfl rfl rfl (by decide +kernel)
set_option maxRecDepth 65536 in
theorem w_c6 : (Jvm.Cond.code ({ cls := "com/example/iso_throttle/isothrottle/AdmissionTally", name := "admitted", desc := "(DJ)D" } : Jvm.MethodName) prog_1_method_2_code (5 : Nat) (Option.some Jvm.ClassFile.FieldType.double)).before args0 about1 = true := code_word (m := ⟨2, 1⟩) (meth := k2m1) (c := k2c1) (by decide +kernel) rfl rfl rfl (by decide +kernel)
set_option maxRecDepth 65536 in
theorem w_c7 : (Jvm.Cond.code ({ cls := "java/lang/Double", name := "isFinite", desc := "(D)Z" } : Jvm.MethodName) jdk_117_method_8_code (2 : Nat) (Option.some Jvm.ClassFile.FieldType.boolean)).before args0 about1 = true := code_word (m := ⟨9, 1⟩) (meth := k9m1) (c := k9c1) (by decide +kernel) rfl rfl rfl (by decide +kernel)
set_option maxRecDepth 65536 in
theorem w_c8 : (Jvm.Cond.code ({ cls := "java/lang/Math", name := "min", desc := "(DD)D" } : Jvm.MethodName) jdk_29_method_72_code (4 : Nat) (Option.some Jvm.ClassFile.FieldType.double)).before args0 about1 = true := code_word (m := ⟨10, 3⟩) (meth := k10m3) (c := k10c3) (by decide +kernel) rfl rfl rfl (by decide +kernel)
set_option maxRecDepth 65536 in
theorem w_c9 : (Jvm.Cond.code ({ cls := "java/lang/Math", name := "max", desc := "(DD)D" } : Jvm.MethodName) jdk_29_method_68_code (4 : Nat) (Option.some Jvm.ClassFile.FieldType.double)).before args0 about1 = true := code_word (m := ⟨10, 2⟩) (meth := k10m2) (c := k10c2) (by decide +kernel) rfl rfl rfl (by decide +kernel)
def codes1 : List Jvm.Cond := [Jvm.Cond.code x code maxLocals ret, Jvm.Cond.code ({ cls := "com/example/iso_throttle/isothrottle/AdmissionTally", name := "<init>", desc := "(DI)V" } : Jvm.MethodName) prog_1_method_1_code (4 : Nat) (Option.none : Option Jvm.ClassFile.FieldType), Jvm.Cond.code ({ cls := "java/lang/Object", name := "<init>", desc := "()V" } : Jvm.MethodName) object_method_1_code (1 : Nat) (Option.none : Option Jvm.ClassFile.FieldType), Jvm.Cond.code ({ cls := "com/example/iso_throttle/isothrottle/CompensatedSum", name := "<init>", desc := "()V" } : Jvm.MethodName) prog_6_method_1_code (1 : Nat) (Option.none : Option Jvm.ClassFile.FieldType), Jvm.Cond.code ({ cls := "java/lang/Double", name := "isInfinite", desc := "(D)Z" } : Jvm.MethodName) jdk_117_method_7_code (2 : Nat) (Option.some Jvm.ClassFile.FieldType.boolean), Jvm.Cond.code ({ cls := "java/lang/Math", name := "abs", desc := "(D)D" } : Jvm.MethodName) jdk_29_method_64_code (2 : Nat) (Option.some Jvm.ClassFile.FieldType.double), Jvm.Cond.code ({ cls := "com/example/iso_throttle/isothrottle/AdmissionTally", name := "admitted", desc := "(DJ)D" } : Jvm.MethodName) prog_1_method_2_code (5 : Nat) (Option.some Jvm.ClassFile.FieldType.double), Jvm.Cond.code ({ cls := "java/lang/Double", name := "isFinite", desc := "(D)Z" } : Jvm.MethodName) jdk_117_method_8_code (2 : Nat) (Option.some Jvm.ClassFile.FieldType.boolean), Jvm.Cond.code ({ cls := "java/lang/Math", name := "min", desc := "(DD)D" } : Jvm.MethodName) jdk_29_method_72_code (4 : Nat) (Option.some Jvm.ClassFile.FieldType.double), Jvm.Cond.code ({ cls := "java/lang/Math", name := "max", desc := "(DD)D" } : Jvm.MethodName) jdk_29_method_68_code (4 : Nat) (Option.some Jvm.ClassFile.FieldType.double)]
set_option maxRecDepth 65536 in
theorem codes_eq : words1.filter isCode = codes1 := rfl
theorem w_codes : ∀ c ∈ words1.filter isCode, c.before args0 about1 = true := by
  rw [codes_eq]
  intro c hc
  simp only [codes1, List.mem_cons, List.not_mem_nil, or_false] at hc
  rcases hc with rfl | rfl | rfl | rfl | rfl | rfl | rfl | rfl | rfl | rfl
  · exact w_c0
  · exact w_c1
  · exact w_c2
  · exact w_c3
  · exact w_c4
  · exact w_c5
  · exact w_c6
  · exact w_c7
  · exact w_c8
  · exact w_c9
set_option maxRecDepth 65536 in
theorem w_t1 : (words1.take 24).all (fun c => isCode c || c.before args0 about1) = true := by decide +kernel
set_option maxRecDepth 65536 in
theorem w_t2 : ((words1.drop 24).take 24).all (fun c => isCode c || c.before args0 about1) = true := by decide +kernel
set_option maxRecDepth 65536 in
theorem w_t3 : ((words1.drop 24).drop 24).all (fun c => isCode c || c.before args0 about1) = true := by decide +kernel
theorem w_tables : (allAtoms (Jvm.Cond.code x code maxLocals ret :: tables_1)).before args0 about1 = true := by
  rw [allAtoms_all]
  show words1.all (fun c => c.before args0 about1) = true
  refine all_split ?_ w_codes
  rw [← List.take_append_drop 24 words1, List.all_append, w_t1, ← List.take_append_drop 24 (words1.drop 24), List.all_append, w_t2, w_t3]
  rfl
set_option maxRecDepth 65536 in
theorem w_case : (Jvm.Cond.and given_1 narrow_1).before args0 about1 = true := by decide +kernel
theorem w_applies : (headSpec (Jvm.Cond.code x code maxLocals ret :: tables_1) room_1).applies x e0.platform about1 = true :=
  (Spec.applies_iff w_frames).mpr ⟨w_running, w_runnable, w_alone, w_named, w_hears, w_ripe, w_room, w_tables⟩
theorem atStart : AtStart classFile x code maxLocals ret World_1 tables_1 room_1 Calls_1 rest_1 Pre_1 launch0 p0 e0 about1 theMethod args0 below0 :=
  ⟨lists_1, trivial, launch0.admits_env _ _ _, launch0.least_env, fairChoices_fair.cas, fairChoices_fair.clock, w_frames, w_args, w_heap, w_applies, trivial, trivial, w_case⟩
end start1
theorem witness_1 : WitnessClaimed_1 := ⟨start1.p0, start1.e0, start1.about1, start1.theMethod, start1.args0, start1.below0, start1.atStart⟩
end Jvm.Pilot.@@N@@
