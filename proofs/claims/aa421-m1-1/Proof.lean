import JvmDerived
import JvmDerived.Pilot.@@N@@Statement
import JvmDerived.Pilot.@@N@@Code
set_option linter.unusedVariables false
set_option linter.unusedSimpArgs false
namespace Jvm.Pilot.@@N@@
open Jvm Jvm.ClassFile Sem Op Lib Jvm.Free Jvm.Stand Jvm.LawKit Jvm.RoadKit Bundle Jvm.Pilot.@@N@@.Jvm.D
section OwnKit
variable {p : Program} {l : Launch} {e : Env} {R : Room} {s : State} {m : MethodId} {args : Array Value} {below : List Frame} {meth : Method} {c : Code} {T : State} {locs : List Loc} {cells slots : Nat} {Z : State} {a0 : Array Value} {h h' : Heap} {Ev : State → Outcome → Prop}
def Go (p : Program) (e : Env) (below : List Frame) (Ev : State → Outcome → Prop) (T : State) (g : JFrame) : Prop :=
  ∃ (U : State) (o : Outcome), Steps p.tables e below (T.setTop g) U ∧ U.status = .running ∧ Ended U below o ∧ Ev U o
theorem Go.on {T T' : State} {g g' : JFrame} (K : Go p e below Ev T' g') (st : ∀ t, Steps p.tables e below (T'.setTop g') t → Steps p.tables e below (T.setTop g) t) : Go p e below Ev T g := by
  obtain ⟨U, o, h1, h2⟩ := K
  exact ⟨U, o, st _ h1, h2⟩
/-- what a body leaves -/
abbrev EndQ (s : State) (Q : Option Value → Heap → List Loc → Prop) (K N : Nat) : State → Outcome → Prop := fun U o => ∃ (v : Option Value) (L : List Loc), o = .returned v ∧ Q v U.heap L ∧ FrameEnd s o U L K N
theorem own_met {x : MethodName} {code : ByteArray} {ml : Nat} {ret : Option FieldType} {ws : List Jvm.Cond} {rm : Room} {as : Array Value} {h0 : Heap} {Q : Option Value → Heap → List Loc → Prop} {K N : Nat} {Ls : Array Slot} (hpn : plainFor x = true) (hef : ∀ m, entryFrame m as ml = mkF m 0 Ls [])
    (body : ∀ (p : Program) (e : Env) (s : State) (m : MethodId) (below : List Frame) (meth : Method) (c : Code) (T : State), Stand p l e rm s m as below meth c T [] 0 0 → p.tables.exec = Jvm.exec → c.code = code → c.maxLocals = ml → meth.sig.returnType = ret → meth.locks = false → meth.name = x.name → s.vm.findClass x.cls = some m.cls → Z.Warmed39 s.vm → T.heap = h0 → Go p e below (EndQ s Q K N) T (mkF m 0 Ls [])) :
    MetFree l x (head1 (Jvm.Cond.code x code ml ret :: ws) rm) (fun a U => a = as ∧ Z.Warmed39 U.vm ∧ U.heap = h0) (fun _ _ _ _ _ => True) (fun _ U o U' => ∃ v L, o = .returned v ∧ Q v U'.heap L ∧ FrameEnd U o U' L K N) := by
  refine MetFree.of_bodySF hpn hisR ?_
  intro p e s m args below meth c s₁ Bd hml0 hP hK
  obtain ⟨rfl, hZ, hh⟩ := hP
  have e0 : s₁.heap = h0 := by rw [← hh, Bd.state]; rfl
  obtain ⟨U, o, h1, h2, h3, h4⟩ := body p e s m below meth c s₁ (Stand.of_body Bd) Bd.exec Bd.bytes hml0 Bd.returns (BodyLoose.notSynchronized Bd) (name_of_methodNamed Bd.named Bd.method).1 (findClass_of_methodNamed Bd.named) hZ e0
  rw [← hef m] at h1
  exact ⟨U, o, h1, h2, h3, h4⟩
theorem g_leave (X : Stand p l e R s m args below meth c T locs cells slots) (hlk : meth.locks = false) {Q : Option Value → Heap → List Loc → Prop} {K N : Nat} {g : JFrame} {v : Option Value} (hv : meth.sig.returnType = none → v = none) (hK : cells ≤ K) (hN : slots ≤ N) (eT : T.heap = h) (hQ : Q v h locs)
    (hst : ∀ fs, (∀ (f : JFrame) (acts : List Action), f.method = m → f.locked = none → f.entered = [] → (doReturn e (T.setTop f) acts v).1 = T.setFrames fs) → Steps p.tables e below (T.setTop g) (T.setFrames fs)) : Go p e below (EndQ s Q K N) T g := by
  obtain ⟨fs, hr, hrun, hended, hW, hsame⟩ := X.leave (v := v) hv hlk
  exact ⟨_, _, hst fs hr, hrun, hended, _, _, rfl, by rw [show (T.setFrames fs).heap = T.heap from rfl, eT]; exact hQ, ⟨_, rfl⟩, hW, hsame.mono hK hN⟩
theorem g_retI (X : Stand p l e R s m args below meth c T locs cells slots) (hx : p.tables.exec = Jvm.exec) (hlk : meth.locks = false) {Q : Option Value → Heap → List Loc → Prop} {K N : Nat} {pc : Nat} {Ls : Array Slot} {z : Int32} {rest : List Value} (hret : meth.sig.returnType = some .int) (hd : decode c.code pc = .ok (.ireturn, 1)) (hK : cells ≤ K) (hN : slots ≤ N) (eT : T.heap = h) (hQ : Q (some (.int z)) h locs) : Go p e below (EndQ s Q K N) T (mkF m pc Ls (.int z :: rest)) :=
  g_leave X hlk (fun q => by rw [hret] at q; cases q) hK hN eT hQ (fun fs hr => retOut X hx hret rfl (Or.inl ⟨rfl, Or.inl rfl, _, rfl⟩) hd hr)
theorem g_retZ (X : Stand p l e R s m args below meth c T locs cells slots) (hx : p.tables.exec = Jvm.exec) (hlk : meth.locks = false) {Q : Option Value → Heap → List Loc → Prop} {K N : Nat} {pc : Nat} {Ls : Array Slot} {z : Int32} {rest : List Value} (hret : meth.sig.returnType = some .boolean) (hd : decode c.code pc = .ok (.ireturn, 1)) (hK : cells ≤ K) (hN : slots ≤ N) (eT : T.heap = h) (hQ : Q (some (.int (nar .boolean z))) h locs) : Go p e below (EndQ s Q K N) T (mkF m pc Ls (.int z :: rest)) :=
  g_leave X hlk (fun q => by rw [hret] at q; cases q) hK hN eT hQ (fun fs hr => retN X hx (t := .boolean) hret (by simp) hd hr)
theorem g_retD (X : Stand p l e R s m args below meth c T locs cells slots) (hx : p.tables.exec = Jvm.exec) (hlk : meth.locks = false) {Q : Option Value → Heap → List Loc → Prop} {K N : Nat} {pc : Nat} {Ls : Array Slot} {z : UInt64} {rest : List Value} (hret : meth.sig.returnType = some .double) (hd : decode c.code pc = .ok (.dreturn, 1)) (hK : cells ≤ K) (hN : slots ≤ N) (eT : T.heap = h) (hQ : Q (some (.double z)) h locs) : Go p e below (EndQ s Q K N) T (mkF m pc Ls (.double z :: rest)) :=
  g_leave X hlk (fun q => by rw [hret] at q; cases q) hK hN eT hQ (fun fs hr => retOut X hx hret rfl (Or.inr (Or.inr (Or.inl ⟨rfl, rfl, _, rfl⟩))) hd hr)
theorem g_retJ (X : Stand p l e R s m args below meth c T locs cells slots) (hx : p.tables.exec = Jvm.exec) (hlk : meth.locks = false) {Q : Option Value → Heap → List Loc → Prop} {K N : Nat} {pc : Nat} {Ls : Array Slot} {z : Int64} {rest : List Value} (hret : meth.sig.returnType = some .long) (hd : decode c.code pc = .ok (.lreturn, 1)) (hK : cells ≤ K) (hN : slots ≤ N) (eT : T.heap = h) (hQ : Q (some (.long z)) h locs) : Go p e below (EndQ s Q K N) T (mkF m pc Ls (.long z :: rest)) :=
  g_leave X hlk (fun q => by rw [hret] at q; cases q) hK hN eT hQ (fun fs hr => retOut X hx hret rfl (Or.inr (Or.inl ⟨rfl, rfl, _, rfl⟩)) hd hr)
theorem g_retA (X : Stand p l e R s m args below meth c T locs cells slots) (hx : p.tables.exec = Jvm.exec) (hlk : meth.locks = false) {Q : Option Value → Heap → List Loc → Prop} {K N : Nat} {pc : Nat} {Ls : Array Slot} {w : Value} {rest : List Value} {t : FieldType} (hret : meth.sig.returnType = some t) (ht : t.isReference = true) (hw : w.isRef = true) (hn : narrow t w = w) (hd : decode c.code pc = .ok (.areturn, 1)) (hK : cells ≤ K) (hN : slots ≤ N) (eT : T.heap = h) (hQ : Q (some w) h locs) : Go p e below (EndQ s Q K N) T (mkF m pc Ls (w :: rest)) :=
  g_leave X hlk (fun q => by rw [hret] at q; cases q) hK hN eT hQ (fun fs hr => retOut X hx hret hn (Or.inr (Or.inr (Or.inr (Or.inr ⟨rfl, ht, hw⟩)))) hd hr)
theorem g_retV (X : Stand p l e R s m args below meth c T locs cells slots) (hx : p.tables.exec = Jvm.exec) (hlk : meth.locks = false) {Q : Option Value → Heap → List Loc → Prop} {K N : Nat} {pc : Nat} {Ls : Array Slot} (hret : meth.sig.returnType = none) (hd : decode c.code pc = .ok (.return_, 1)) (hK : cells ≤ K) (hN : slots ≤ N) (eT : T.heap = h) (hQ : Q none h locs) : Go p e below (EndQ s Q K N) T (mkF m pc Ls []) :=
  g_leave X hlk (fun _ => rfl) hK hN eT hQ (fun fs hr => X.returnOut hx hret hd hr)
theorem g_iloadN (X : Stand p l e R s m args below meth c T locs cells slots) (hx : p.tables.exec = Jvm.exec) {pc : Nat} {Ls : Array Slot} {st : List Value} {k : Fin 4} {v : Int32} (q : Nat) (hd : decode c.code pc = .ok (.iload_n k, 1)) (hq : pc + 1 = q) (hl : Ls[k.val]? = some (.val (.int v))) (K : Go p e below Ev T (mkF m q Ls (.int v :: st))) : Go p e below Ev T (mkF m pc Ls st) := by
  subst hq
  exact K.on fun _ k => XS.iloadN X.here hx rfl hd hl k
theorem g_iload (X : Stand p l e R s m args below meth c T locs cells slots) (hx : p.tables.exec = Jvm.exec) {pc : Nat} {Ls : Array Slot} {st : List Value} {k : Nat} {v : Int32} (q : Nat) (hd : decode c.code pc = .ok (.iload k, 2)) (hq : pc + 2 = q) (hl : Ls[k]? = some (.val (.int v))) (K : Go p e below Ev T (mkF m q Ls (.int v :: st))) : Go p e below Ev T (mkF m pc Ls st) := by
  subst hq
  exact K.on fun _ k => XS.iload X.here hx rfl hd hl k
theorem g_istoreN (X : Stand p l e R s m args below meth c T locs cells slots) (hx : p.tables.exec = Jvm.exec) {pc : Nat} {Ls : Array Slot} {st : List Value} {k : Fin 4} {v : Int32} {l' : Array Slot} (q : Nat) (hd : decode c.code pc = .ok (.istore_n k, 1)) (hq : pc + 1 = q) (hl : storeLocals Ls k.val (.int v) = some l') (K : Go p e below Ev T (mkF m q l' st)) : Go p e below Ev T (mkF m pc Ls (.int v :: st)) := by
  subst hq
  exact K.on fun _ k => XS.istoreN X.here hx rfl hd rfl hl k
theorem g_istore (X : Stand p l e R s m args below meth c T locs cells slots) (hx : p.tables.exec = Jvm.exec) {pc : Nat} {Ls : Array Slot} {st : List Value} {k : Nat} {v : Int32} {l' : Array Slot} (q : Nat) (hd : decode c.code pc = .ok (.istore k, 2)) (hq : pc + 2 = q) (hl : storeLocals Ls k (.int v) = some l') (K : Go p e below Ev T (mkF m q l' st)) : Go p e below Ev T (mkF m pc Ls (.int v :: st)) := by
  subst hq
  exact K.on fun _ k => XS.istore X.here hx rfl hd rfl hl k
theorem g_lloadN (X : Stand p l e R s m args below meth c T locs cells slots) (hx : p.tables.exec = Jvm.exec) {pc : Nat} {Ls : Array Slot} {st : List Value} {k : Fin 4} {v : Int64} (q : Nat) (hd : decode c.code pc = .ok (.lload_n k, 1)) (hq : pc + 1 = q) (hl : Ls[k.val]? = some (.val (.long v))) (K : Go p e below Ev T (mkF m q Ls (.long v :: st))) : Go p e below Ev T (mkF m pc Ls st) := by
  subst hq
  exact K.on fun _ k => XS.lloadN X.here hx rfl hd hl k
theorem g_lload (X : Stand p l e R s m args below meth c T locs cells slots) (hx : p.tables.exec = Jvm.exec) {pc : Nat} {Ls : Array Slot} {st : List Value} {k : Nat} {v : Int64} (q : Nat) (hd : decode c.code pc = .ok (.lload k, 2)) (hq : pc + 2 = q) (hl : Ls[k]? = some (.val (.long v))) (K : Go p e below Ev T (mkF m q Ls (.long v :: st))) : Go p e below Ev T (mkF m pc Ls st) := by
  subst hq
  exact K.on fun _ k => XS.lload X.here hx rfl hd hl k
theorem g_lstoreN (X : Stand p l e R s m args below meth c T locs cells slots) (hx : p.tables.exec = Jvm.exec) {pc : Nat} {Ls : Array Slot} {st : List Value} {k : Fin 4} {v : Int64} {l' : Array Slot} (q : Nat) (hd : decode c.code pc = .ok (.lstore_n k, 1)) (hq : pc + 1 = q) (hl : storeLocals Ls k.val (.long v) = some l') (K : Go p e below Ev T (mkF m q l' st)) : Go p e below Ev T (mkF m pc Ls (.long v :: st)) := by
  subst hq
  exact K.on fun _ k => XS.lstoreN X.here hx rfl hd rfl hl k
theorem g_lstore (X : Stand p l e R s m args below meth c T locs cells slots) (hx : p.tables.exec = Jvm.exec) {pc : Nat} {Ls : Array Slot} {st : List Value} {k : Nat} {v : Int64} {l' : Array Slot} (q : Nat) (hd : decode c.code pc = .ok (.lstore k, 2)) (hq : pc + 2 = q) (hl : storeLocals Ls k (.long v) = some l') (K : Go p e below Ev T (mkF m q l' st)) : Go p e below Ev T (mkF m pc Ls (.long v :: st)) := by
  subst hq
  exact K.on fun _ k => XS.lstore X.here hx rfl hd rfl hl k
theorem g_dloadN (X : Stand p l e R s m args below meth c T locs cells slots) (hx : p.tables.exec = Jvm.exec) {pc : Nat} {Ls : Array Slot} {st : List Value} {k : Fin 4} {v : UInt64} (q : Nat) (hd : decode c.code pc = .ok (.dload_n k, 1)) (hq : pc + 1 = q) (hl : Ls[k.val]? = some (.val (.double v))) (K : Go p e below Ev T (mkF m q Ls (.double v :: st))) : Go p e below Ev T (mkF m pc Ls st) := by
  subst hq
  exact K.on fun _ k => XS.dloadN X.here hx rfl hd hl k
theorem g_dload (X : Stand p l e R s m args below meth c T locs cells slots) (hx : p.tables.exec = Jvm.exec) {pc : Nat} {Ls : Array Slot} {st : List Value} {k : Nat} {v : UInt64} (q : Nat) (hd : decode c.code pc = .ok (.dload k, 2)) (hq : pc + 2 = q) (hl : Ls[k]? = some (.val (.double v))) (K : Go p e below Ev T (mkF m q Ls (.double v :: st))) : Go p e below Ev T (mkF m pc Ls st) := by
  subst hq
  exact K.on fun _ k => XS.dload X.here hx rfl hd hl k
theorem g_dstoreN (X : Stand p l e R s m args below meth c T locs cells slots) (hx : p.tables.exec = Jvm.exec) {pc : Nat} {Ls : Array Slot} {st : List Value} {k : Fin 4} {v : UInt64} {l' : Array Slot} (q : Nat) (hd : decode c.code pc = .ok (.dstore_n k, 1)) (hq : pc + 1 = q) (hl : storeLocals Ls k.val (.double v) = some l') (K : Go p e below Ev T (mkF m q l' st)) : Go p e below Ev T (mkF m pc Ls (.double v :: st)) := by
  subst hq
  exact K.on fun _ k => XS.dstoreN X.here hx rfl hd rfl hl k
theorem g_dstore (X : Stand p l e R s m args below meth c T locs cells slots) (hx : p.tables.exec = Jvm.exec) {pc : Nat} {Ls : Array Slot} {st : List Value} {k : Nat} {v : UInt64} {l' : Array Slot} (q : Nat) (hd : decode c.code pc = .ok (.dstore k, 2)) (hq : pc + 2 = q) (hl : storeLocals Ls k (.double v) = some l') (K : Go p e below Ev T (mkF m q l' st)) : Go p e below Ev T (mkF m pc Ls (.double v :: st)) := by
  subst hq
  exact K.on fun _ k => XS.dstore X.here hx rfl hd rfl hl k
theorem g_aloadN (X : Stand p l e R s m args below meth c T locs cells slots) (hx : p.tables.exec = Jvm.exec) {pc : Nat} {Ls : Array Slot} {st : List Value} {k : Fin 4} {v : Value} (q : Nat) (hd : decode c.code pc = .ok (.aload_n k, 1)) (hq : pc + 1 = q) (hl : Ls[k.val]? = some (.val v)) (hv : v.isRef = true) (K : Go p e below Ev T (mkF m q Ls (v :: st))) : Go p e below Ev T (mkF m pc Ls st) := by
  subst hq
  exact K.on fun _ k => XS.aloadN X.here hx rfl hd hl hv k
theorem g_aload (X : Stand p l e R s m args below meth c T locs cells slots) (hx : p.tables.exec = Jvm.exec) {pc : Nat} {Ls : Array Slot} {st : List Value} {k : Nat} {v : Value} (q : Nat) (hd : decode c.code pc = .ok (.aload k, 2)) (hq : pc + 2 = q) (hl : Ls[k]? = some (.val v)) (hv : v.isRef = true) (K : Go p e below Ev T (mkF m q Ls (v :: st))) : Go p e below Ev T (mkF m pc Ls st) := by
  subst hq
  exact K.on fun _ k => XS.aload X.here hx rfl hd hl hv k
theorem g_astoreN (X : Stand p l e R s m args below meth c T locs cells slots) (hx : p.tables.exec = Jvm.exec) {pc : Nat} {Ls : Array Slot} {st : List Value} {k : Fin 4} {v : Value} {l' : Array Slot} (q : Nat) (hd : decode c.code pc = .ok (.astore_n k, 1)) (hq : pc + 1 = q) (hv : v.isRef = true) (hl : storeLocals Ls k.val v = some l') (K : Go p e below Ev T (mkF m q l' st)) : Go p e below Ev T (mkF m pc Ls (v :: st)) := by
  subst hq
  exact K.on fun _ k => XS.astoreN X.here hx rfl hd rfl hv hl k
theorem g_astore (X : Stand p l e R s m args below meth c T locs cells slots) (hx : p.tables.exec = Jvm.exec) {pc : Nat} {Ls : Array Slot} {st : List Value} {k : Nat} {v : Value} {l' : Array Slot} (q : Nat) (hd : decode c.code pc = .ok (.astore k, 2)) (hq : pc + 2 = q) (hv : v.isRef = true) (hl : storeLocals Ls k v = some l') (K : Go p e below Ev T (mkF m q l' st)) : Go p e below Ev T (mkF m pc Ls (v :: st)) := by
  subst hq
  exact K.on fun _ k => XS.astore X.here hx rfl hd rfl hv hl k
theorem g_iconst (X : Stand p l e R s m args below meth c T locs cells slots) (hx : p.tables.exec = Jvm.exec) {pc : Nat} {Ls : Array Slot} {st : List Value} {i : Int} (v : Int32) (q : Nat) (hd : decode c.code pc = .ok (.iconst i, 1)) (hq : pc + 1 = q) (hv : Int32.ofInt i = v) (K : Go p e below Ev T (mkF m q Ls (.int v :: st))) : Go p e below Ev T (mkF m pc Ls st) := by
  subst hq
  exact K.on fun _ k => XT.iconstV X.here hx rfl v hd hv k
theorem g_bipush (X : Stand p l e R s m args below meth c T locs cells slots) (hx : p.tables.exec = Jvm.exec) {pc : Nat} {Ls : Array Slot} {st : List Value} {i : Int} (v : Int32) (q : Nat) (hd : decode c.code pc = .ok (.bipush i, 2)) (hq : pc + 2 = q) (hv : (Int8.ofInt i).toInt32 = v) (K : Go p e below Ev T (mkF m q Ls (.int v :: st))) : Go p e below Ev T (mkF m pc Ls st) := by
  subst hq
  exact K.on fun _ k => XT.bipushV X.here hx rfl v hd hv k
theorem g_sipush (X : Stand p l e R s m args below meth c T locs cells slots) (hx : p.tables.exec = Jvm.exec) {pc : Nat} {Ls : Array Slot} {st : List Value} {i : Int} (v : Int32) (q : Nat) (hd : decode c.code pc = .ok (.sipush i, 3)) (hq : pc + 3 = q) (hv : (Int16.ofInt i).toInt32 = v) (K : Go p e below Ev T (mkF m q Ls (.int v :: st))) : Go p e below Ev T (mkF m pc Ls st) := by
  subst hq
  exact K.on fun _ k => XT.sipushV X.here hx rfl v hd hv k
theorem g_lconst (X : Stand p l e R s m args below meth c T locs cells slots) (hx : p.tables.exec = Jvm.exec) {pc : Nat} {Ls : Array Slot} {st : List Value} {i : Fin 2} (v : Int64) (q : Nat) (hd : decode c.code pc = .ok (.lconst i, 1)) (hq : pc + 1 = q) (hv : Int64.ofNat i = v) (K : Go p e below Ev T (mkF m q Ls (.long v :: st))) : Go p e below Ev T (mkF m pc Ls st) := by
  subst hq
  exact K.on fun _ k => XT.lconstV X.here hx rfl v hd hv k
theorem g_dconst0 (X : Stand p l e R s m args below meth c T locs cells slots) (hx : p.tables.exec = Jvm.exec) {pc : Nat} {Ls : Array Slot} {st : List Value}  (q : Nat) (hd : decode c.code pc = .ok (.dconst 0, 1)) (hq : pc + 1 = q)  (K : Go p e below Ev T (mkF m q Ls (.double 0 :: st))) : Go p e below Ev T (mkF m pc Ls st) := by
  subst hq
  exact K.on fun _ k => XS.dconst0 X.here hx rfl hd rfl k
theorem g_dconst1 (X : Stand p l e R s m args below meth c T locs cells slots) (hx : p.tables.exec = Jvm.exec) {pc : Nat} {Ls : Array Slot} {st : List Value}  (q : Nat) (hd : decode c.code pc = .ok (.dconst 1, 1)) (hq : pc + 1 = q)  (K : Go p e below Ev T (mkF m q Ls (.double 4607182418800017408 :: st))) : Go p e below Ev T (mkF m pc Ls st) := by
  subst hq
  exact K.on fun _ k => XS.dconst1 X.here hx rfl hd rfl k
theorem g_null (X : Stand p l e R s m args below meth c T locs cells slots) (hx : p.tables.exec = Jvm.exec) {pc : Nat} {Ls : Array Slot} {st : List Value}  (q : Nat) (hd : decode c.code pc = .ok (.aconst_null, 1)) (hq : pc + 1 = q)  (K : Go p e below Ev T (mkF m q Ls (.null :: st))) : Go p e below Ev T (mkF m pc Ls st) := by
  subst hq
  exact K.on fun _ k => XS.aconstNull X.here hx rfl hd k
theorem g_iinc (X : Stand p l e R s m args below meth c T locs cells slots) (hx : p.tables.exec = Jvm.exec) {pc : Nat} {Ls : Array Slot} {st : List Value} {k : Nat} {i : Int} {v w : Int32} {l' : Array Slot} (q : Nat) (hd : decode c.code pc = .ok (.iinc k i, 3)) (hq : pc + 3 = q) (hl : Ls[k]? = some (.val (.int v))) (hv : Int32.ofInt i = w) (hl' : storeLocals Ls k (.int (v + w)) = some l') (K : Go p e below Ev T (mkF m q l' st)) : Go p e below Ev T (mkF m pc Ls st) := by
  subst hq
  exact K.on fun _ k => XT.iincV X.here hx rfl w hd hv hl hl' k
theorem g_iadd (X : Stand p l e R s m args below meth c T locs cells slots) (hx : p.tables.exec = Jvm.exec) {pc : Nat} {Ls : Array Slot} {st : List Value} {x y : Int32} (q : Nat) (hd : decode c.code pc = .ok (.iadd, 1)) (hq : pc + 1 = q)  (K : Go p e below Ev T (mkF m q Ls (.int (x + y) :: st))) : Go p e below Ev T (mkF m pc Ls (.int y :: .int x :: st)) := by
  subst hq
  exact K.on fun _ k => XS.iadd X.here hx rfl hd rfl k
theorem g_ladd (X : Stand p l e R s m args below meth c T locs cells slots) (hx : p.tables.exec = Jvm.exec) {pc : Nat} {Ls : Array Slot} {st : List Value} {x y : Int64} (q : Nat) (hd : decode c.code pc = .ok (.ladd, 1)) (hq : pc + 1 = q)  (K : Go p e below Ev T (mkF m q Ls (.long (x + y) :: st))) : Go p e below Ev T (mkF m pc Ls (.long y :: .long x :: st)) := by
  subst hq
  exact K.on fun _ k => XS.ladd X.here hx rfl hd rfl k
theorem g_isub (X : Stand p l e R s m args below meth c T locs cells slots) (hx : p.tables.exec = Jvm.exec) {pc : Nat} {Ls : Array Slot} {st : List Value} {x y : Int32} (q : Nat) (hd : decode c.code pc = .ok (.isub, 1)) (hq : pc + 1 = q)  (K : Go p e below Ev T (mkF m q Ls (.int (x - y) :: st))) : Go p e below Ev T (mkF m pc Ls (.int y :: .int x :: st)) := by
  subst hq
  exact K.on fun _ k => XS.isub X.here hx rfl hd rfl k
theorem g_lsub (X : Stand p l e R s m args below meth c T locs cells slots) (hx : p.tables.exec = Jvm.exec) {pc : Nat} {Ls : Array Slot} {st : List Value} {x y : Int64} (q : Nat) (hd : decode c.code pc = .ok (.lsub, 1)) (hq : pc + 1 = q)  (K : Go p e below Ev T (mkF m q Ls (.long (x - y) :: st))) : Go p e below Ev T (mkF m pc Ls (.long y :: .long x :: st)) := by
  subst hq
  exact K.on fun _ k => XS.lsub X.here hx rfl hd rfl k
theorem g_imul (X : Stand p l e R s m args below meth c T locs cells slots) (hx : p.tables.exec = Jvm.exec) {pc : Nat} {Ls : Array Slot} {st : List Value} {x y : Int32} (q : Nat) (hd : decode c.code pc = .ok (.imul, 1)) (hq : pc + 1 = q)  (K : Go p e below Ev T (mkF m q Ls (.int (x * y) :: st))) : Go p e below Ev T (mkF m pc Ls (.int y :: .int x :: st)) := by
  subst hq
  exact K.on fun _ k => XS.imul X.here hx rfl hd rfl k
theorem g_lmul (X : Stand p l e R s m args below meth c T locs cells slots) (hx : p.tables.exec = Jvm.exec) {pc : Nat} {Ls : Array Slot} {st : List Value} {x y : Int64} (q : Nat) (hd : decode c.code pc = .ok (.lmul, 1)) (hq : pc + 1 = q)  (K : Go p e below Ev T (mkF m q Ls (.long (x * y) :: st))) : Go p e below Ev T (mkF m pc Ls (.long y :: .long x :: st)) := by
  subst hq
  exact K.on fun _ k => XS.lmul X.here hx rfl hd rfl k
theorem g_iand (X : Stand p l e R s m args below meth c T locs cells slots) (hx : p.tables.exec = Jvm.exec) {pc : Nat} {Ls : Array Slot} {st : List Value} {x y : Int32} (q : Nat) (hd : decode c.code pc = .ok (.iand, 1)) (hq : pc + 1 = q)  (K : Go p e below Ev T (mkF m q Ls (.int (x &&& y) :: st))) : Go p e below Ev T (mkF m pc Ls (.int y :: .int x :: st)) := by
  subst hq
  exact K.on fun _ k => XS.iand X.here hx rfl hd rfl k
theorem g_land (X : Stand p l e R s m args below meth c T locs cells slots) (hx : p.tables.exec = Jvm.exec) {pc : Nat} {Ls : Array Slot} {st : List Value} {x y : Int64} (q : Nat) (hd : decode c.code pc = .ok (.land, 1)) (hq : pc + 1 = q)  (K : Go p e below Ev T (mkF m q Ls (.long (x &&& y) :: st))) : Go p e below Ev T (mkF m pc Ls (.long y :: .long x :: st)) := by
  subst hq
  exact K.on fun _ k => XS.land X.here hx rfl hd rfl k
theorem g_ior (X : Stand p l e R s m args below meth c T locs cells slots) (hx : p.tables.exec = Jvm.exec) {pc : Nat} {Ls : Array Slot} {st : List Value} {x y : Int32} (q : Nat) (hd : decode c.code pc = .ok (.ior, 1)) (hq : pc + 1 = q)  (K : Go p e below Ev T (mkF m q Ls (.int (x ||| y) :: st))) : Go p e below Ev T (mkF m pc Ls (.int y :: .int x :: st)) := by
  subst hq
  exact K.on fun _ k => XS.ior X.here hx rfl hd rfl k
theorem g_lor (X : Stand p l e R s m args below meth c T locs cells slots) (hx : p.tables.exec = Jvm.exec) {pc : Nat} {Ls : Array Slot} {st : List Value} {x y : Int64} (q : Nat) (hd : decode c.code pc = .ok (.lor, 1)) (hq : pc + 1 = q)  (K : Go p e below Ev T (mkF m q Ls (.long (x ||| y) :: st))) : Go p e below Ev T (mkF m pc Ls (.long y :: .long x :: st)) := by
  subst hq
  exact K.on fun _ k => XS.lor X.here hx rfl hd rfl k
theorem g_ixor (X : Stand p l e R s m args below meth c T locs cells slots) (hx : p.tables.exec = Jvm.exec) {pc : Nat} {Ls : Array Slot} {st : List Value} {x y : Int32} (q : Nat) (hd : decode c.code pc = .ok (.ixor, 1)) (hq : pc + 1 = q)  (K : Go p e below Ev T (mkF m q Ls (.int (x ^^^ y) :: st))) : Go p e below Ev T (mkF m pc Ls (.int y :: .int x :: st)) := by
  subst hq
  exact K.on fun _ k => XS.ixor X.here hx rfl hd rfl k
theorem g_lxor (X : Stand p l e R s m args below meth c T locs cells slots) (hx : p.tables.exec = Jvm.exec) {pc : Nat} {Ls : Array Slot} {st : List Value} {x y : Int64} (q : Nat) (hd : decode c.code pc = .ok (.lxor, 1)) (hq : pc + 1 = q)  (K : Go p e below Ev T (mkF m q Ls (.long (x ^^^ y) :: st))) : Go p e below Ev T (mkF m pc Ls (.long y :: .long x :: st)) := by
  subst hq
  exact K.on fun _ k => XS.lxor X.here hx rfl hd rfl k
theorem g_idiv (X : Stand p l e R s m args below meth c T locs cells slots) (hx : p.tables.exec = Jvm.exec) {pc : Nat} {Ls : Array Slot} {st : List Value} {x y : Int32} (q : Nat) (hd : decode c.code pc = .ok (.idiv, 1)) (hq : pc + 1 = q) (hy : y ≠ 0) (K : Go p e below Ev T (mkF m q Ls (.int (x / y) :: st))) : Go p e below Ev T (mkF m pc Ls (.int y :: .int x :: st)) := by
  subst hq
  exact K.on fun _ k => XS.idiv X.here hx rfl hd rfl hy k
theorem g_ineg (X : Stand p l e R s m args below meth c T locs cells slots) (hx : p.tables.exec = Jvm.exec) {pc : Nat} {Ls : Array Slot} {st : List Value} {x : Int32} (q : Nat) (hd : decode c.code pc = .ok (.ineg, 1)) (hq : pc + 1 = q)  (K : Go p e below Ev T (mkF m q Ls (.int (-x) :: st))) : Go p e below Ev T (mkF m pc Ls (.int x :: st)) := by
  subst hq
  exact K.on fun _ k => XS.ineg X.here hx rfl hd rfl k
theorem g_ldiv (X : Stand p l e R s m args below meth c T locs cells slots) (hx : p.tables.exec = Jvm.exec) {pc : Nat} {Ls : Array Slot} {st : List Value} {x y : Int64} (q : Nat) (hd : decode c.code pc = .ok (.ldiv, 1)) (hq : pc + 1 = q) (hy : y ≠ 0) (K : Go p e below Ev T (mkF m q Ls (.long (x / y) :: st))) : Go p e below Ev T (mkF m pc Ls (.long y :: .long x :: st)) := by
  subst hq
  exact K.on fun _ k => XS.ldiv X.here hx rfl hd rfl hy k
theorem g_lneg (X : Stand p l e R s m args below meth c T locs cells slots) (hx : p.tables.exec = Jvm.exec) {pc : Nat} {Ls : Array Slot} {st : List Value} {x : Int64} (q : Nat) (hd : decode c.code pc = .ok (.lneg, 1)) (hq : pc + 1 = q)  (K : Go p e below Ev T (mkF m q Ls (.long (-x) :: st))) : Go p e below Ev T (mkF m pc Ls (.long x :: st)) := by
  subst hq
  exact K.on fun _ k => XS.lneg X.here hx rfl hd rfl k
theorem g_irem (X : Stand p l e R s m args below meth c T locs cells slots) (hx : p.tables.exec = Jvm.exec) {pc : Nat} {Ls : Array Slot} {st : List Value} {x y : Int32} (q : Nat) (hd : decode c.code pc = .ok (.irem, 1)) (hq : pc + 1 = q) (hy : y ≠ 0) (K : Go p e below Ev T (mkF m q Ls (.int (x % y) :: st))) : Go p e below Ev T (mkF m pc Ls (.int y :: .int x :: st)) := by
  subst hq
  exact K.on fun _ k => iremM X hx rfl hd rfl hy k
theorem g_lrem (X : Stand p l e R s m args below meth c T locs cells slots) (hx : p.tables.exec = Jvm.exec) {pc : Nat} {Ls : Array Slot} {st : List Value} {x y : Int64} (q : Nat) (hd : decode c.code pc = .ok (.lrem, 1)) (hq : pc + 1 = q) (hy : y ≠ 0) (K : Go p e below Ev T (mkF m q Ls (.long (x - (x / y) * y) :: st))) : Go p e below Ev T (mkF m pc Ls (.long y :: .long x :: st)) := by
  subst hq
  exact K.on fun _ k => XS.lrem X.here hx rfl hd rfl hy k
theorem g_ishl (X : Stand p l e R s m args below meth c T locs cells slots) (hx : p.tables.exec = Jvm.exec) {pc : Nat} {Ls : Array Slot} {st : List Value} {x y : Int32} (q : Nat) (hd : decode c.code pc = .ok (.ishl, 1)) (hq : pc + 1 = q)  (K : Go p e below Ev T (mkF m q Ls (.int (x <<< (y &&& 31)) :: st))) : Go p e below Ev T (mkF m pc Ls (.int y :: .int x :: st)) := by
  subst hq
  exact K.on fun _ k => XS.ishl X.here hx rfl hd rfl k
theorem g_ishr (X : Stand p l e R s m args below meth c T locs cells slots) (hx : p.tables.exec = Jvm.exec) {pc : Nat} {Ls : Array Slot} {st : List Value} {x y : Int32} (q : Nat) (hd : decode c.code pc = .ok (.ishr, 1)) (hq : pc + 1 = q)  (K : Go p e below Ev T (mkF m q Ls (.int (x >>> (y &&& 31)) :: st))) : Go p e below Ev T (mkF m pc Ls (.int y :: .int x :: st)) := by
  subst hq
  exact K.on fun _ k => XS.ishr X.here hx rfl hd rfl k
theorem g_iushr (X : Stand p l e R s m args below meth c T locs cells slots) (hx : p.tables.exec = Jvm.exec) {pc : Nat} {Ls : Array Slot} {st : List Value} {x y : Int32} (q : Nat) (hd : decode c.code pc = .ok (.iushr, 1)) (hq : pc + 1 = q)  (K : Go p e below Ev T (mkF m q Ls (.int ((x.toUInt32 >>> (y &&& 31).toUInt32).toInt32) :: st))) : Go p e below Ev T (mkF m pc Ls (.int y :: .int x :: st)) := by
  subst hq
  exact K.on fun _ k => XS.iushr X.here hx rfl hd rfl k
theorem g_lshl (X : Stand p l e R s m args below meth c T locs cells slots) (hx : p.tables.exec = Jvm.exec) {pc : Nat} {Ls : Array Slot} {st : List Value} {x : Int64} {y : Int32} (q : Nat) (hd : decode c.code pc = .ok (.lshl, 1)) (hq : pc + 1 = q)  (K : Go p e below Ev T (mkF m q Ls (.long (x <<< (y &&& 0x3f).toInt64) :: st))) : Go p e below Ev T (mkF m pc Ls (.int y :: .long x :: st)) := by
  subst hq
  exact K.on fun _ k => XS.lshl X.here hx rfl hd rfl k
theorem g_lshr (X : Stand p l e R s m args below meth c T locs cells slots) (hx : p.tables.exec = Jvm.exec) {pc : Nat} {Ls : Array Slot} {st : List Value} {x : Int64} {y : Int32} (q : Nat) (hd : decode c.code pc = .ok (.lshr, 1)) (hq : pc + 1 = q)  (K : Go p e below Ev T (mkF m q Ls (.long (x >>> (y &&& 0x3f).toInt64) :: st))) : Go p e below Ev T (mkF m pc Ls (.int y :: .long x :: st)) := by
  subst hq
  exact K.on fun _ k => XS.lshr X.here hx rfl hd rfl k
theorem g_lushr (X : Stand p l e R s m args below meth c T locs cells slots) (hx : p.tables.exec = Jvm.exec) {pc : Nat} {Ls : Array Slot} {st : List Value} {x : Int64} {y : Int32} (q : Nat) (hd : decode c.code pc = .ok (.lushr, 1)) (hq : pc + 1 = q)  (K : Go p e below Ev T (mkF m q Ls (.long ((x.toUInt64 >>> (y &&& 0x3f).toInt64.toUInt64).toInt64) :: st))) : Go p e below Ev T (mkF m pc Ls (.int y :: .long x :: st)) := by
  subst hq
  exact K.on fun _ k => XS.lushr X.here hx rfl hd rfl k
theorem g_i2l (X : Stand p l e R s m args below meth c T locs cells slots) (hx : p.tables.exec = Jvm.exec) {pc : Nat} {Ls : Array Slot} {st : List Value} {x : Int32} (q : Nat) (hd : decode c.code pc = .ok (.i2l, 1)) (hq : pc + 1 = q)  (K : Go p e below Ev T (mkF m q Ls (.long (x.toInt64) :: st))) : Go p e below Ev T (mkF m pc Ls (.int x :: st)) := by
  subst hq
  exact K.on fun _ k => XS.i2l X.here hx rfl hd rfl k
theorem g_l2i (X : Stand p l e R s m args below meth c T locs cells slots) (hx : p.tables.exec = Jvm.exec) {pc : Nat} {Ls : Array Slot} {st : List Value} {x : Int64} (q : Nat) (hd : decode c.code pc = .ok (.l2i, 1)) (hq : pc + 1 = q)  (K : Go p e below Ev T (mkF m q Ls (.int (x.toInt32) :: st))) : Go p e below Ev T (mkF m pc Ls (.long x :: st)) := by
  subst hq
  exact K.on fun _ k => XS.l2i X.here hx rfl hd rfl k
theorem g_i2b (X : Stand p l e R s m args below meth c T locs cells slots) (hx : p.tables.exec = Jvm.exec) {pc : Nat} {Ls : Array Slot} {st : List Value} {x : Int32} (q : Nat) (hd : decode c.code pc = .ok (.i2b, 1)) (hq : pc + 1 = q)  (K : Go p e below Ev T (mkF m q Ls (.int (x.toInt8.toInt32) :: st))) : Go p e below Ev T (mkF m pc Ls (.int x :: st)) := by
  subst hq
  exact K.on fun _ k => XS.i2b X.here hx rfl hd rfl k
theorem g_i2s (X : Stand p l e R s m args below meth c T locs cells slots) (hx : p.tables.exec = Jvm.exec) {pc : Nat} {Ls : Array Slot} {st : List Value} {x : Int32} (q : Nat) (hd : decode c.code pc = .ok (.i2s, 1)) (hq : pc + 1 = q)  (K : Go p e below Ev T (mkF m q Ls (.int (x.toInt16.toInt32) :: st))) : Go p e below Ev T (mkF m pc Ls (.int x :: st)) := by
  subst hq
  exact K.on fun _ k => XS.i2s X.here hx rfl hd rfl k
theorem g_i2c (X : Stand p l e R s m args below meth c T locs cells slots) (hx : p.tables.exec = Jvm.exec) {pc : Nat} {Ls : Array Slot} {st : List Value} {x : Int32} (q : Nat) (hd : decode c.code pc = .ok (.i2c, 1)) (hq : pc + 1 = q)  (K : Go p e below Ev T (mkF m q Ls (.int (x.toUInt32.toUInt16.toUInt32.toInt32) :: st))) : Go p e below Ev T (mkF m pc Ls (.int x :: st)) := by
  subst hq
  exact K.on fun _ k => XS.i2c X.here hx rfl hd rfl k
theorem g_lcmp (X : Stand p l e R s m args below meth c T locs cells slots) (hx : p.tables.exec = Jvm.exec) {pc : Nat} {Ls : Array Slot} {st : List Value} {x y : Int64} (q : Nat) (hd : decode c.code pc = .ok (.lcmp, 1)) (hq : pc + 1 = q)  (K : Go p e below Ev T (mkF m q Ls (.int (lcmpW x y) :: st))) : Go p e below Ev T (mkF m pc Ls (.long y :: .long x :: st)) := by
  subst hq
  exact K.on fun _ k => XS.lcmp X.here hx rfl hd rfl k
theorem g_i2d (X : Stand p l e R s m args below meth c T locs cells slots) (hx : p.tables.exec = Jvm.exec) {pc : Nat} {Ls : Array Slot} {st : List Value} {x : Int32} (q : Nat) (hd : decode c.code pc = .ok (.i2d, 1)) (hq : pc + 1 = q)  (K : Go p e below Ev T (mkF m q Ls (.double (FP.i2d x) :: st))) : Go p e below Ev T (mkF m pc Ls (.int x :: st)) := by
  subst hq
  exact K.on fun _ k => XS.i2dS X.here hx rfl hd rfl rfl k
theorem g_l2d (X : Stand p l e R s m args below meth c T locs cells slots) (hx : p.tables.exec = Jvm.exec) {pc : Nat} {Ls : Array Slot} {st : List Value} {x : Int64} (q : Nat) (hd : decode c.code pc = .ok (.l2d, 1)) (hq : pc + 1 = q)  (K : Go p e below Ev T (mkF m q Ls (.double (FP.l2d x) :: st))) : Go p e below Ev T (mkF m pc Ls (.long x :: st)) := by
  subst hq
  exact K.on fun _ k => XS.l2dS X.here hx rfl hd rfl rfl k
theorem g_dneg (X : Stand p l e R s m args below meth c T locs cells slots) (hx : p.tables.exec = Jvm.exec) {pc : Nat} {Ls : Array Slot} {st : List Value} {x : UInt64} (q : Nat) (hd : decode c.code pc = .ok (.dneg, 1)) (hq : pc + 1 = q)  (K : Go p e below Ev T (mkF m q Ls (.double (FP.dneg x) :: st))) : Go p e below Ev T (mkF m pc Ls (.double x :: st)) := by
  subst hq
  exact K.on fun _ k => XS.dnegS X.here hx rfl hd rfl rfl k
theorem g_dadd (X : Stand p l e R s m args below meth c T locs cells slots) (hx : p.tables.exec = Jvm.exec) {pc : Nat} {Ls : Array Slot} {st : List Value} {x y : UInt64} (q : Nat) (hd : decode c.code pc = .ok (.dadd, 1)) (hq : pc + 1 = q) (hn : Jvm.Free.Fl.NoNaN64 (FP.dadd x y)) (K : Go p e below Ev T (mkF m q Ls (.double (FP.dadd x y) :: st))) : Go p e below Ev T (mkF m pc Ls (.double y :: .double x :: st)) := by
  subst hq
  exact K.on fun _ k => XS.daddS X.here hx rfl hd rfl hn rfl k
theorem g_dsub (X : Stand p l e R s m args below meth c T locs cells slots) (hx : p.tables.exec = Jvm.exec) {pc : Nat} {Ls : Array Slot} {st : List Value} {x y : UInt64} (q : Nat) (hd : decode c.code pc = .ok (.dsub, 1)) (hq : pc + 1 = q) (hn : Jvm.Free.Fl.NoNaN64 (FP.dsub x y)) (K : Go p e below Ev T (mkF m q Ls (.double (FP.dsub x y) :: st))) : Go p e below Ev T (mkF m pc Ls (.double y :: .double x :: st)) := by
  subst hq
  exact K.on fun _ k => XS.dsubS X.here hx rfl hd rfl hn rfl k
theorem g_dmul (X : Stand p l e R s m args below meth c T locs cells slots) (hx : p.tables.exec = Jvm.exec) {pc : Nat} {Ls : Array Slot} {st : List Value} {x y : UInt64} (q : Nat) (hd : decode c.code pc = .ok (.dmul, 1)) (hq : pc + 1 = q) (hn : Jvm.Free.Fl.NoNaN64 (FP.dmul x y)) (K : Go p e below Ev T (mkF m q Ls (.double (FP.dmul x y) :: st))) : Go p e below Ev T (mkF m pc Ls (.double y :: .double x :: st)) := by
  subst hq
  exact K.on fun _ k => XS.dmulS X.here hx rfl hd rfl hn rfl k
theorem g_ddiv (X : Stand p l e R s m args below meth c T locs cells slots) (hx : p.tables.exec = Jvm.exec) {pc : Nat} {Ls : Array Slot} {st : List Value} {x y : UInt64} (q : Nat) (hd : decode c.code pc = .ok (.ddiv, 1)) (hq : pc + 1 = q) (hn : Jvm.Free.Fl.NoNaN64 (FP.ddiv x y)) (K : Go p e below Ev T (mkF m q Ls (.double (FP.ddiv x y) :: st))) : Go p e below Ev T (mkF m pc Ls (.double y :: .double x :: st)) := by
  subst hq
  exact K.on fun _ k => XS.ddivS X.here hx rfl hd rfl hn rfl k
theorem g_dcmp (X : Stand p l e R s m args below meth c T locs cells slots) (hx : p.tables.exec = Jvm.exec) {pc : Nat} {Ls : Array Slot} {st : List Value} {x y : UInt64} {o : CmpOp} {r : Int32} (q : Nat) (hd : decode c.code pc = .ok (.dcmp o, 1)) (hq : pc + 1 = q) (hr : cmpValue (FP.dcmp x y) o = r) (K : Go p e below Ev T (mkF m q Ls (.int r :: st))) : Go p e below Ev T (mkF m pc Ls (.double y :: .double x :: st)) := by
  subst hq
  exact K.on fun _ k => XS.dcmpS X.here hx rfl hd rfl hr k
theorem g_dup (X : Stand p l e R s m args below meth c T locs cells slots) (hx : p.tables.exec = Jvm.exec) {pc : Nat} {Ls : Array Slot} {st : List Value} {x : Value} (q : Nat) (hd : decode c.code pc = .ok (.dup, 1)) (hq : pc + 1 = q) (hc : x.category = 1) (K : Go p e below Ev T (mkF m q Ls (x :: x :: st))) : Go p e below Ev T (mkF m pc Ls (x :: st)) := by
  subst hq
  exact K.on fun _ k => XS.dup X.here hx rfl hd rfl hc k
theorem g_pop (X : Stand p l e R s m args below meth c T locs cells slots) (hx : p.tables.exec = Jvm.exec) {pc : Nat} {Ls : Array Slot} {st : List Value} {x : Value} (q : Nat) (hd : decode c.code pc = .ok (.pop, 1)) (hq : pc + 1 = q) (hc : x.category = 1) (K : Go p e below Ev T (mkF m q Ls st)) : Go p e below Ev T (mkF m pc Ls (x :: st)) := by
  subst hq
  exact K.on fun _ k => XS.pop X.here hx rfl hd rfl hc k
theorem g_dupX1 (X : Stand p l e R s m args below meth c T locs cells slots) (hx : p.tables.exec = Jvm.exec) {pc : Nat} {Ls : Array Slot} {st : List Value} {x y : Value} (q : Nat) (hd : decode c.code pc = .ok (.dup_x1, 1)) (hq : pc + 1 = q) (hc : x.category = 1) (hc' : y.category = 1) (K : Go p e below Ev T (mkF m q Ls (x :: y :: x :: st))) : Go p e below Ev T (mkF m pc Ls (x :: y :: st)) := by
  subst hq
  exact K.on fun _ k => XS.dupX1 X.here hx rfl hd rfl hc hc' k
theorem g_dup2 (X : Stand p l e R s m args below meth c T locs cells slots) (hx : p.tables.exec = Jvm.exec) {pc : Nat} {Ls : Array Slot} {st : List Value} {x y : Value} (q : Nat) (hd : decode c.code pc = .ok (.dup2, 1)) (hq : pc + 1 = q) (hc : x.category = 1) (hc' : y.category = 1) (K : Go p e below Ev T (mkF m q Ls (x :: y :: x :: y :: st))) : Go p e below Ev T (mkF m pc Ls (x :: y :: st)) := by
  subst hq
  exact K.on fun _ k => XT.dup2 X.here hx rfl hd rfl hc hc' k
theorem g_pop2 (X : Stand p l e R s m args below meth c T locs cells slots) (hx : p.tables.exec = Jvm.exec) {pc : Nat} {Ls : Array Slot} {st : List Value} {x : Value} (q : Nat) (hd : decode c.code pc = .ok (.pop2, 1)) (hq : pc + 1 = q) (hc : x.category = 2) (K : Go p e below Ev T (mkF m q Ls st)) : Go p e below Ev T (mkF m pc Ls (x :: st)) := by
  subst hq
  refine K.on fun t k => ?_
  jvm_step X.here [X.here.top, hx, hd, Op.pop2.wp_sem, hc]
  exact k
theorem g_ldcI (X : Stand p l e R s m args below meth c T locs cells slots) (hx : p.tables.exec = Jvm.exec) {pc : Nat} {Ls : Array Slot} {st : List Value} {own : String} {i : Nat} {v : Int32} (q : Nat) (hZ : Z.Warmed39 s.vm) (hown : s.vm.findClass own = some m.cls) (w : (Jvm.Cond.constant own i v).before a0 Z = true) (hd : decode c.code pc = .ok (.ldc i, 2)) (hq : pc + 2 = q) (K : Go p e below Ev T (mkF m q Ls (.int v :: st))) : Go p e below Ev T (mkF m pc Ls st) := by
  subst hq
  exact K.on fun _ k => X.ldcI hx hown (mvT hZ w) rfl hd k
theorem g_ldcWI (X : Stand p l e R s m args below meth c T locs cells slots) (hx : p.tables.exec = Jvm.exec) {pc : Nat} {Ls : Array Slot} {st : List Value} {own : String} {i : Nat} {v : Int32} (q : Nat) (hZ : Z.Warmed39 s.vm) (hown : s.vm.findClass own = some m.cls) (w : (Jvm.Cond.constant own i v).before a0 Z = true) (hd : decode c.code pc = .ok (.ldc_w i, 3)) (hq : pc + 3 = q) (K : Go p e below Ev T (mkF m q Ls (.int v :: st))) : Go p e below Ev T (mkF m pc Ls st) := by
  subst hq
  exact K.on fun _ k => X.ldcWI hx hown (mvT hZ w) rfl hd k
theorem g_ldc2J (X : Stand p l e R s m args below meth c T locs cells slots) (hx : p.tables.exec = Jvm.exec) {pc : Nat} {Ls : Array Slot} {st : List Value} {own : String} {i : Nat} {v : Int64} (q : Nat) (hZ : Z.Warmed39 s.vm) (hown : s.vm.findClass own = some m.cls) (w : (Jvm.Cond.constantLong own i v).before a0 Z = true) (hd : decode c.code pc = .ok (.ldc2_w i, 3)) (hq : pc + 3 = q) (K : Go p e below Ev T (mkF m q Ls (.long v :: st))) : Go p e below Ev T (mkF m pc Ls st) := by
  subst hq
  exact K.on fun _ k => X.ldc2J hx hown (mvT hZ w) rfl hd k
theorem g_ldc2D (X : Stand p l e R s m args below meth c T locs cells slots) (hx : p.tables.exec = Jvm.exec) {pc : Nat} {Ls : Array Slot} {st : List Value} {own : String} {i : Nat} {v : UInt64} (q : Nat) (hZ : Z.Warmed39 s.vm) (hown : s.vm.findClass own = some m.cls) (w : (Jvm.Cond.constantDouble own i v).before a0 Z = true) (hd : decode c.code pc = .ok (.ldc2_w i, 3)) (hq : pc + 3 = q) (K : Go p e below Ev T (mkF m q Ls (.double v :: st))) : Go p e below Ev T (mkF m pc Ls st) := by
  subst hq
  exact K.on (X.ldc2DoubleC hx hown (mvT hZ w) (g := mkF m pc Ls st) rfl hd)
theorem g_goto (X : Stand p l e R s m args below meth c T locs cells slots) (hx : p.tables.exec = Jvm.exec) {pc : Nat} {Ls : Array Slot} {st : List Value} {o : Int} (q : Nat) (hd : decode c.code pc = .ok (.goto o, 3)) (ho : 0 ≤ (pc : Int) + o) (hq : ((pc : Int) + o).toNat = q) (K : Go p e below Ev T (mkF m q Ls st)) : Go p e below Ev T (mkF m pc Ls st) :=
  K.on fun _ k => XS.goto X.here hx rfl rfl hd ho hq k
theorem own_i0 (x : Int32) : (x < 0 ↔ x.toInt < 0) ∧ (0 < x ↔ 0 < x.toInt) ∧ (x = 0 ↔ x.toInt = 0) := by
  refine ⟨by rw [Int32.lt_iff_toInt_lt]; simp, by rw [Int32.lt_iff_toInt_lt]; simp, ?_⟩
  rw [← Int32.toInt_inj]; simp
theorem g_if_eq (X : Stand p l e R s m args below meth c T locs cells slots) (hx : p.tables.exec = Jvm.exec) {pc : Nat} {Ls : Array Slot} {st : List Value} {x : Int32} {o : Int} (q1 q2 : Nat) (hd : decode c.code pc = .ok (.ifCond .eq o, 3)) (ho : 0 ≤ (pc : Int) + o) (h1 : ((pc : Int) + o).toNat = q1) (h2 : pc + 3 = q2) (Kt : x.toInt = 0 → Go p e below Ev T (mkF m q1 Ls st)) (Kf : x.toInt ≠ 0 → Go p e below Ev T (mkF m q2 Ls st)) : Go p e below Ev T (mkF m pc Ls (.int x :: st)) := by
  have Q := own_i0 x
  by_cases hc : x = 0
  · exact (Kt (by first | omega | (simp only [Q] at hc; omega))).on fun _ k => XS.ifYes X.here hx rfl rfl hd rfl (XT.i0_eq_t (by simpa using hc)) ho h1 k
  · subst h2
    exact (Kf (by first | omega | (simp only [Q] at hc; omega))).on fun _ k => XS.ifNo X.here hx rfl hd rfl (XT.i0_eq_f (by simpa using hc)) k
theorem g_if_ne (X : Stand p l e R s m args below meth c T locs cells slots) (hx : p.tables.exec = Jvm.exec) {pc : Nat} {Ls : Array Slot} {st : List Value} {x : Int32} {o : Int} (q1 q2 : Nat) (hd : decode c.code pc = .ok (.ifCond .ne o, 3)) (ho : 0 ≤ (pc : Int) + o) (h1 : ((pc : Int) + o).toNat = q1) (h2 : pc + 3 = q2) (Kt : x.toInt ≠ 0 → Go p e below Ev T (mkF m q1 Ls st)) (Kf : x.toInt = 0 → Go p e below Ev T (mkF m q2 Ls st)) : Go p e below Ev T (mkF m pc Ls (.int x :: st)) := by
  have Q := own_i0 x
  by_cases hc : ¬ x = 0
  · exact (Kt (by first | omega | (simp only [Q] at hc; omega))).on fun _ k => XS.ifYes X.here hx rfl rfl hd rfl (XT.i0_ne_t (by simpa using hc)) ho h1 k
  · subst h2
    exact (Kf (by first | omega | (simp only [Q] at hc; omega))).on fun _ k => XS.ifNo X.here hx rfl hd rfl (XT.i0_ne_f (by simpa using hc)) k
theorem g_if_lt (X : Stand p l e R s m args below meth c T locs cells slots) (hx : p.tables.exec = Jvm.exec) {pc : Nat} {Ls : Array Slot} {st : List Value} {x : Int32} {o : Int} (q1 q2 : Nat) (hd : decode c.code pc = .ok (.ifCond .lt o, 3)) (ho : 0 ≤ (pc : Int) + o) (h1 : ((pc : Int) + o).toNat = q1) (h2 : pc + 3 = q2) (Kt : x.toInt < 0 → Go p e below Ev T (mkF m q1 Ls st)) (Kf : 0 ≤ x.toInt → Go p e below Ev T (mkF m q2 Ls st)) : Go p e below Ev T (mkF m pc Ls (.int x :: st)) := by
  have Q := own_i0 x
  by_cases hc : x < 0
  · exact (Kt (by first | omega | (simp only [Q] at hc; omega))).on fun _ k => XS.ifYes X.here hx rfl rfl hd rfl (XT.i0_lt_t (by simpa using hc)) ho h1 k
  · subst h2
    exact (Kf (by first | omega | (simp only [Q] at hc; omega))).on fun _ k => XS.ifNo X.here hx rfl hd rfl (XT.i0_lt_f (by simpa using hc)) k
theorem g_if_ge (X : Stand p l e R s m args below meth c T locs cells slots) (hx : p.tables.exec = Jvm.exec) {pc : Nat} {Ls : Array Slot} {st : List Value} {x : Int32} {o : Int} (q1 q2 : Nat) (hd : decode c.code pc = .ok (.ifCond .ge o, 3)) (ho : 0 ≤ (pc : Int) + o) (h1 : ((pc : Int) + o).toNat = q1) (h2 : pc + 3 = q2) (Kt : 0 ≤ x.toInt → Go p e below Ev T (mkF m q1 Ls st)) (Kf : x.toInt < 0 → Go p e below Ev T (mkF m q2 Ls st)) : Go p e below Ev T (mkF m pc Ls (.int x :: st)) := by
  have Q := own_i0 x
  by_cases hc : ¬ x < 0
  · exact (Kt (by first | omega | (simp only [Q] at hc; omega))).on fun _ k => XS.ifYes X.here hx rfl rfl hd rfl (XT.i0_ge_t (by simpa using hc)) ho h1 k
  · subst h2
    exact (Kf (by first | omega | (simp only [Q] at hc; omega))).on fun _ k => XS.ifNo X.here hx rfl hd rfl (XT.i0_ge_f (by simpa using hc)) k
theorem g_if_gt (X : Stand p l e R s m args below meth c T locs cells slots) (hx : p.tables.exec = Jvm.exec) {pc : Nat} {Ls : Array Slot} {st : List Value} {x : Int32} {o : Int} (q1 q2 : Nat) (hd : decode c.code pc = .ok (.ifCond .gt o, 3)) (ho : 0 ≤ (pc : Int) + o) (h1 : ((pc : Int) + o).toNat = q1) (h2 : pc + 3 = q2) (Kt : 0 < x.toInt → Go p e below Ev T (mkF m q1 Ls st)) (Kf : x.toInt ≤ 0 → Go p e below Ev T (mkF m q2 Ls st)) : Go p e below Ev T (mkF m pc Ls (.int x :: st)) := by
  have Q := own_i0 x
  by_cases hc : 0 < x
  · exact (Kt (by first | omega | (simp only [Q] at hc; omega))).on fun _ k => XS.ifYes X.here hx rfl rfl hd rfl (XT.i0_gt_t (by simpa using hc)) ho h1 k
  · subst h2
    exact (Kf (by first | omega | (simp only [Q] at hc; omega))).on fun _ k => XS.ifNo X.here hx rfl hd rfl (XT.i0_gt_f (by simpa using hc)) k
theorem g_if_le (X : Stand p l e R s m args below meth c T locs cells slots) (hx : p.tables.exec = Jvm.exec) {pc : Nat} {Ls : Array Slot} {st : List Value} {x : Int32} {o : Int} (q1 q2 : Nat) (hd : decode c.code pc = .ok (.ifCond .le o, 3)) (ho : 0 ≤ (pc : Int) + o) (h1 : ((pc : Int) + o).toNat = q1) (h2 : pc + 3 = q2) (Kt : x.toInt ≤ 0 → Go p e below Ev T (mkF m q1 Ls st)) (Kf : 0 < x.toInt → Go p e below Ev T (mkF m q2 Ls st)) : Go p e below Ev T (mkF m pc Ls (.int x :: st)) := by
  have Q := own_i0 x
  by_cases hc : ¬ 0 < x
  · exact (Kt (by first | omega | (simp only [Q] at hc; omega))).on fun _ k => XS.ifYes X.here hx rfl rfl hd rfl (XT.i0_le_t (by simpa using hc)) ho h1 k
  · subst h2
    exact (Kf (by first | omega | (simp only [Q] at hc; omega))).on fun _ k => XS.ifNo X.here hx rfl hd rfl (XT.i0_le_f (by simpa using hc)) k
theorem own_ii (x y : Int32) : (x < y ↔ x.toInt < y.toInt) ∧ (y < x ↔ y.toInt < x.toInt) ∧ (x = y ↔ x.toInt = y.toInt) := by
  exact ⟨Int32.lt_iff_toInt_lt, Int32.lt_iff_toInt_lt, Int32.toInt_inj.symm⟩
theorem g_ic_eq (X : Stand p l e R s m args below meth c T locs cells slots) (hx : p.tables.exec = Jvm.exec) {pc : Nat} {Ls : Array Slot} {st : List Value} {x y : Int32} {o : Int} (q1 q2 : Nat) (hd : decode c.code pc = .ok (.if_icmp .eq o, 3)) (ho : 0 ≤ (pc : Int) + o) (h1 : ((pc : Int) + o).toNat = q1) (h2 : pc + 3 = q2) (Kt : x.toInt = y.toInt → Go p e below Ev T (mkF m q1 Ls st)) (Kf : x.toInt ≠ y.toInt → Go p e below Ev T (mkF m q2 Ls st)) : Go p e below Ev T (mkF m pc Ls (.int y :: .int x :: st)) := by
  have Q := own_ii x y
  by_cases hc : x = y
  · exact (Kt (by first | omega | (simp only [Q] at hc; omega))).on fun _ k => XS.icmpYes X.here hx rfl rfl hd rfl (XT.ii_eq_t (by simpa using hc)) ho h1 k
  · subst h2
    exact (Kf (by first | omega | (simp only [Q] at hc; omega))).on fun _ k => XS.icmpNo X.here hx rfl hd rfl (XT.ii_eq_f (by simpa using hc)) k
theorem g_ic_ne (X : Stand p l e R s m args below meth c T locs cells slots) (hx : p.tables.exec = Jvm.exec) {pc : Nat} {Ls : Array Slot} {st : List Value} {x y : Int32} {o : Int} (q1 q2 : Nat) (hd : decode c.code pc = .ok (.if_icmp .ne o, 3)) (ho : 0 ≤ (pc : Int) + o) (h1 : ((pc : Int) + o).toNat = q1) (h2 : pc + 3 = q2) (Kt : x.toInt ≠ y.toInt → Go p e below Ev T (mkF m q1 Ls st)) (Kf : x.toInt = y.toInt → Go p e below Ev T (mkF m q2 Ls st)) : Go p e below Ev T (mkF m pc Ls (.int y :: .int x :: st)) := by
  have Q := own_ii x y
  by_cases hc : ¬ x = y
  · exact (Kt (by first | omega | (simp only [Q] at hc; omega))).on fun _ k => XS.icmpYes X.here hx rfl rfl hd rfl (XT.ii_ne_t (by simpa using hc)) ho h1 k
  · subst h2
    exact (Kf (by first | omega | (simp only [Q] at hc; omega))).on fun _ k => XS.icmpNo X.here hx rfl hd rfl (XT.ii_ne_f (by simpa using hc)) k
theorem g_ic_lt (X : Stand p l e R s m args below meth c T locs cells slots) (hx : p.tables.exec = Jvm.exec) {pc : Nat} {Ls : Array Slot} {st : List Value} {x y : Int32} {o : Int} (q1 q2 : Nat) (hd : decode c.code pc = .ok (.if_icmp .lt o, 3)) (ho : 0 ≤ (pc : Int) + o) (h1 : ((pc : Int) + o).toNat = q1) (h2 : pc + 3 = q2) (Kt : x.toInt < y.toInt → Go p e below Ev T (mkF m q1 Ls st)) (Kf : y.toInt ≤ x.toInt → Go p e below Ev T (mkF m q2 Ls st)) : Go p e below Ev T (mkF m pc Ls (.int y :: .int x :: st)) := by
  have Q := own_ii x y
  by_cases hc : x < y
  · exact (Kt (by first | omega | (simp only [Q] at hc; omega))).on fun _ k => XS.icmpYes X.here hx rfl rfl hd rfl (XT.ii_lt_t (by simpa using hc)) ho h1 k
  · subst h2
    exact (Kf (by first | omega | (simp only [Q] at hc; omega))).on fun _ k => XS.icmpNo X.here hx rfl hd rfl (XT.ii_lt_f (by simpa using hc)) k
theorem g_ic_ge (X : Stand p l e R s m args below meth c T locs cells slots) (hx : p.tables.exec = Jvm.exec) {pc : Nat} {Ls : Array Slot} {st : List Value} {x y : Int32} {o : Int} (q1 q2 : Nat) (hd : decode c.code pc = .ok (.if_icmp .ge o, 3)) (ho : 0 ≤ (pc : Int) + o) (h1 : ((pc : Int) + o).toNat = q1) (h2 : pc + 3 = q2) (Kt : y.toInt ≤ x.toInt → Go p e below Ev T (mkF m q1 Ls st)) (Kf : x.toInt < y.toInt → Go p e below Ev T (mkF m q2 Ls st)) : Go p e below Ev T (mkF m pc Ls (.int y :: .int x :: st)) := by
  have Q := own_ii x y
  by_cases hc : ¬ x < y
  · exact (Kt (by first | omega | (simp only [Q] at hc; omega))).on fun _ k => XS.icmpYes X.here hx rfl rfl hd rfl (XT.ii_ge_t (by simpa using hc)) ho h1 k
  · subst h2
    exact (Kf (by first | omega | (simp only [Q] at hc; omega))).on fun _ k => XS.icmpNo X.here hx rfl hd rfl (XT.ii_ge_f (by simpa using hc)) k
theorem g_ic_gt (X : Stand p l e R s m args below meth c T locs cells slots) (hx : p.tables.exec = Jvm.exec) {pc : Nat} {Ls : Array Slot} {st : List Value} {x y : Int32} {o : Int} (q1 q2 : Nat) (hd : decode c.code pc = .ok (.if_icmp .gt o, 3)) (ho : 0 ≤ (pc : Int) + o) (h1 : ((pc : Int) + o).toNat = q1) (h2 : pc + 3 = q2) (Kt : y.toInt < x.toInt → Go p e below Ev T (mkF m q1 Ls st)) (Kf : x.toInt ≤ y.toInt → Go p e below Ev T (mkF m q2 Ls st)) : Go p e below Ev T (mkF m pc Ls (.int y :: .int x :: st)) := by
  have Q := own_ii x y
  by_cases hc : y < x
  · exact (Kt (by first | omega | (simp only [Q] at hc; omega))).on fun _ k => XS.icmpYes X.here hx rfl rfl hd rfl (XT.ii_gt_t (by simpa using hc)) ho h1 k
  · subst h2
    exact (Kf (by first | omega | (simp only [Q] at hc; omega))).on fun _ k => XS.icmpNo X.here hx rfl hd rfl (XT.ii_gt_f (by simpa using hc)) k
theorem g_ic_le (X : Stand p l e R s m args below meth c T locs cells slots) (hx : p.tables.exec = Jvm.exec) {pc : Nat} {Ls : Array Slot} {st : List Value} {x y : Int32} {o : Int} (q1 q2 : Nat) (hd : decode c.code pc = .ok (.if_icmp .le o, 3)) (ho : 0 ≤ (pc : Int) + o) (h1 : ((pc : Int) + o).toNat = q1) (h2 : pc + 3 = q2) (Kt : x.toInt ≤ y.toInt → Go p e below Ev T (mkF m q1 Ls st)) (Kf : y.toInt < x.toInt → Go p e below Ev T (mkF m q2 Ls st)) : Go p e below Ev T (mkF m pc Ls (.int y :: .int x :: st)) := by
  have Q := own_ii x y
  by_cases hc : ¬ y < x
  · exact (Kt (by first | omega | (simp only [Q] at hc; omega))).on fun _ k => XS.icmpYes X.here hx rfl rfl hd rfl (XT.ii_le_t (by simpa using hc)) ho h1 k
  · subst h2
    exact (Kf (by first | omega | (simp only [Q] at hc; omega))).on fun _ k => XS.icmpNo X.here hx rfl hd rfl (XT.ii_le_f (by simpa using hc)) k
theorem g_lc_eq (X : Stand p l e R s m args below meth c T locs cells slots) (hx : p.tables.exec = Jvm.exec) {pc : Nat} {Ls : Array Slot} {st : List Value} {x y : Int64} {o : Int} (q0 q1 q2 : Nat) (hd0 : decode c.code pc = .ok (.lcmp, 1)) (h0 : pc + 1 = q0) (hd : decode c.code q0 = .ok (.ifCond .eq o, 3)) (ho : 0 ≤ (q0 : Int) + o) (h1 : ((q0 : Int) + o).toNat = q1) (h2 : q0 + 3 = q2) (Kt : x.toInt = y.toInt → Go p e below Ev T (mkF m q1 Ls st)) (Kf : x.toInt ≠ y.toInt → Go p e below Ev T (mkF m q2 Ls st)) : Go p e below Ev T (mkF m pc Ls (.long y :: .long x :: st)) := by
  have Q := c_lcmp x y
  have C : x.toInt < y.toInt ∨ x.toInt = y.toInt ∨ y.toInt < x.toInt := by omega
  refine g_lcmp X hx q0 hd0 h0 (g_if_eq X hx q1 q2 hd ho h1 h2 (fun hc => Kt ?_) (fun hc => Kf ?_)) <;> (rcases C with C | C | C <;> first | (have := Q.1 C; omega) | (have := Q.2.1 C; omega) | (have := Q.2.2 C; omega))
theorem g_lc_ne (X : Stand p l e R s m args below meth c T locs cells slots) (hx : p.tables.exec = Jvm.exec) {pc : Nat} {Ls : Array Slot} {st : List Value} {x y : Int64} {o : Int} (q0 q1 q2 : Nat) (hd0 : decode c.code pc = .ok (.lcmp, 1)) (h0 : pc + 1 = q0) (hd : decode c.code q0 = .ok (.ifCond .ne o, 3)) (ho : 0 ≤ (q0 : Int) + o) (h1 : ((q0 : Int) + o).toNat = q1) (h2 : q0 + 3 = q2) (Kt : x.toInt ≠ y.toInt → Go p e below Ev T (mkF m q1 Ls st)) (Kf : x.toInt = y.toInt → Go p e below Ev T (mkF m q2 Ls st)) : Go p e below Ev T (mkF m pc Ls (.long y :: .long x :: st)) := by
  have Q := c_lcmp x y
  have C : x.toInt < y.toInt ∨ x.toInt = y.toInt ∨ y.toInt < x.toInt := by omega
  refine g_lcmp X hx q0 hd0 h0 (g_if_ne X hx q1 q2 hd ho h1 h2 (fun hc => Kt ?_) (fun hc => Kf ?_)) <;> (rcases C with C | C | C <;> first | (have := Q.1 C; omega) | (have := Q.2.1 C; omega) | (have := Q.2.2 C; omega))
theorem g_lc_lt (X : Stand p l e R s m args below meth c T locs cells slots) (hx : p.tables.exec = Jvm.exec) {pc : Nat} {Ls : Array Slot} {st : List Value} {x y : Int64} {o : Int} (q0 q1 q2 : Nat) (hd0 : decode c.code pc = .ok (.lcmp, 1)) (h0 : pc + 1 = q0) (hd : decode c.code q0 = .ok (.ifCond .lt o, 3)) (ho : 0 ≤ (q0 : Int) + o) (h1 : ((q0 : Int) + o).toNat = q1) (h2 : q0 + 3 = q2) (Kt : x.toInt < y.toInt → Go p e below Ev T (mkF m q1 Ls st)) (Kf : y.toInt ≤ x.toInt → Go p e below Ev T (mkF m q2 Ls st)) : Go p e below Ev T (mkF m pc Ls (.long y :: .long x :: st)) := by
  have Q := c_lcmp x y
  have C : x.toInt < y.toInt ∨ x.toInt = y.toInt ∨ y.toInt < x.toInt := by omega
  refine g_lcmp X hx q0 hd0 h0 (g_if_lt X hx q1 q2 hd ho h1 h2 (fun hc => Kt ?_) (fun hc => Kf ?_)) <;> (rcases C with C | C | C <;> first | (have := Q.1 C; omega) | (have := Q.2.1 C; omega) | (have := Q.2.2 C; omega))
theorem g_lc_ge (X : Stand p l e R s m args below meth c T locs cells slots) (hx : p.tables.exec = Jvm.exec) {pc : Nat} {Ls : Array Slot} {st : List Value} {x y : Int64} {o : Int} (q0 q1 q2 : Nat) (hd0 : decode c.code pc = .ok (.lcmp, 1)) (h0 : pc + 1 = q0) (hd : decode c.code q0 = .ok (.ifCond .ge o, 3)) (ho : 0 ≤ (q0 : Int) + o) (h1 : ((q0 : Int) + o).toNat = q1) (h2 : q0 + 3 = q2) (Kt : y.toInt ≤ x.toInt → Go p e below Ev T (mkF m q1 Ls st)) (Kf : x.toInt < y.toInt → Go p e below Ev T (mkF m q2 Ls st)) : Go p e below Ev T (mkF m pc Ls (.long y :: .long x :: st)) := by
  have Q := c_lcmp x y
  have C : x.toInt < y.toInt ∨ x.toInt = y.toInt ∨ y.toInt < x.toInt := by omega
  refine g_lcmp X hx q0 hd0 h0 (g_if_ge X hx q1 q2 hd ho h1 h2 (fun hc => Kt ?_) (fun hc => Kf ?_)) <;> (rcases C with C | C | C <;> first | (have := Q.1 C; omega) | (have := Q.2.1 C; omega) | (have := Q.2.2 C; omega))
theorem g_lc_gt (X : Stand p l e R s m args below meth c T locs cells slots) (hx : p.tables.exec = Jvm.exec) {pc : Nat} {Ls : Array Slot} {st : List Value} {x y : Int64} {o : Int} (q0 q1 q2 : Nat) (hd0 : decode c.code pc = .ok (.lcmp, 1)) (h0 : pc + 1 = q0) (hd : decode c.code q0 = .ok (.ifCond .gt o, 3)) (ho : 0 ≤ (q0 : Int) + o) (h1 : ((q0 : Int) + o).toNat = q1) (h2 : q0 + 3 = q2) (Kt : y.toInt < x.toInt → Go p e below Ev T (mkF m q1 Ls st)) (Kf : x.toInt ≤ y.toInt → Go p e below Ev T (mkF m q2 Ls st)) : Go p e below Ev T (mkF m pc Ls (.long y :: .long x :: st)) := by
  have Q := c_lcmp x y
  have C : x.toInt < y.toInt ∨ x.toInt = y.toInt ∨ y.toInt < x.toInt := by omega
  refine g_lcmp X hx q0 hd0 h0 (g_if_gt X hx q1 q2 hd ho h1 h2 (fun hc => Kt ?_) (fun hc => Kf ?_)) <;> (rcases C with C | C | C <;> first | (have := Q.1 C; omega) | (have := Q.2.1 C; omega) | (have := Q.2.2 C; omega))
theorem g_lc_le (X : Stand p l e R s m args below meth c T locs cells slots) (hx : p.tables.exec = Jvm.exec) {pc : Nat} {Ls : Array Slot} {st : List Value} {x y : Int64} {o : Int} (q0 q1 q2 : Nat) (hd0 : decode c.code pc = .ok (.lcmp, 1)) (h0 : pc + 1 = q0) (hd : decode c.code q0 = .ok (.ifCond .le o, 3)) (ho : 0 ≤ (q0 : Int) + o) (h1 : ((q0 : Int) + o).toNat = q1) (h2 : q0 + 3 = q2) (Kt : x.toInt ≤ y.toInt → Go p e below Ev T (mkF m q1 Ls st)) (Kf : y.toInt < x.toInt → Go p e below Ev T (mkF m q2 Ls st)) : Go p e below Ev T (mkF m pc Ls (.long y :: .long x :: st)) := by
  have Q := c_lcmp x y
  have C : x.toInt < y.toInt ∨ x.toInt = y.toInt ∨ y.toInt < x.toInt := by omega
  refine g_lcmp X hx q0 hd0 h0 (g_if_le X hx q1 q2 hd ho h1 h2 (fun hc => Kt ?_) (fun hc => Kf ?_)) <;> (rcases C with C | C | C <;> first | (have := Q.1 C; omega) | (have := Q.2.1 C; omega) | (have := Q.2.2 C; omega))
theorem own_cmpv (i j : Int) (o : CmpOp) : (i < j → (cmpValue (some (compare i j)) o).toInt = -1) ∧ (i = j → (cmpValue (some (compare i j)) o).toInt = 0) ∧ (j < i → (cmpValue (some (compare i j)) o).toInt = 1) := by
  refine ⟨fun q => ?_, fun q => ?_, fun q => ?_⟩
  · rw [show compare i j = .lt from by rw [Jvm.FP.Core.compare_ite]; simp [q]]; cases o <;> rfl
  · rw [show compare i j = .eq from by rw [Jvm.FP.Core.compare_ite]; simp [q]]; cases o <;> rfl
  · rw [show compare i j = .gt from by rw [Jvm.FP.Core.compare_ite]; simp [show ¬ i < j by omega, show ¬ i = j by omega]]; cases o <;> rfl
theorem g_dc_eq (X : Stand p l e R s m args below meth c T locs cells slots) (hx : p.tables.exec = Jvm.exec) {pc : Nat} {Ls : Array Slot} {st : List Value} {x y : UInt64} {oo : CmpOp} {i j : Int} {o : Int} (q0 q1 q2 : Nat) (hd0 : decode c.code pc = .ok (.dcmp oo, 1)) (h0 : pc + 1 = q0) (hd : decode c.code q0 = .ok (.ifCond .eq o, 3)) (ho : 0 ≤ (q0 : Int) + o) (h1 : ((q0 : Int) + o).toNat = q1) (h2 : q0 + 3 = q2) (hv : FP.dcmp x y = some (compare i j)) (Kt : i = j → Go p e below Ev T (mkF m q1 Ls st)) (Kf : i ≠ j → Go p e below Ev T (mkF m q2 Ls st)) : Go p e below Ev T (mkF m pc Ls (.double y :: .double x :: st)) := by
  have Q := own_cmpv i j oo
  have C : i < j ∨ i = j ∨ j < i := by omega
  refine g_dcmp X hx q0 hd0 h0 (by rw [hv]) (g_if_eq X hx q1 q2 hd ho h1 h2 (fun hc => Kt ?_) (fun hc => Kf ?_)) <;> (rcases C with C | C | C <;> first | (have := Q.1 C; omega) | (have := Q.2.1 C; omega) | (have := Q.2.2 C; omega))
theorem g_dc_ne (X : Stand p l e R s m args below meth c T locs cells slots) (hx : p.tables.exec = Jvm.exec) {pc : Nat} {Ls : Array Slot} {st : List Value} {x y : UInt64} {oo : CmpOp} {i j : Int} {o : Int} (q0 q1 q2 : Nat) (hd0 : decode c.code pc = .ok (.dcmp oo, 1)) (h0 : pc + 1 = q0) (hd : decode c.code q0 = .ok (.ifCond .ne o, 3)) (ho : 0 ≤ (q0 : Int) + o) (h1 : ((q0 : Int) + o).toNat = q1) (h2 : q0 + 3 = q2) (hv : FP.dcmp x y = some (compare i j)) (Kt : i ≠ j → Go p e below Ev T (mkF m q1 Ls st)) (Kf : i = j → Go p e below Ev T (mkF m q2 Ls st)) : Go p e below Ev T (mkF m pc Ls (.double y :: .double x :: st)) := by
  have Q := own_cmpv i j oo
  have C : i < j ∨ i = j ∨ j < i := by omega
  refine g_dcmp X hx q0 hd0 h0 (by rw [hv]) (g_if_ne X hx q1 q2 hd ho h1 h2 (fun hc => Kt ?_) (fun hc => Kf ?_)) <;> (rcases C with C | C | C <;> first | (have := Q.1 C; omega) | (have := Q.2.1 C; omega) | (have := Q.2.2 C; omega))
theorem g_dc_lt (X : Stand p l e R s m args below meth c T locs cells slots) (hx : p.tables.exec = Jvm.exec) {pc : Nat} {Ls : Array Slot} {st : List Value} {x y : UInt64} {oo : CmpOp} {i j : Int} {o : Int} (q0 q1 q2 : Nat) (hd0 : decode c.code pc = .ok (.dcmp oo, 1)) (h0 : pc + 1 = q0) (hd : decode c.code q0 = .ok (.ifCond .lt o, 3)) (ho : 0 ≤ (q0 : Int) + o) (h1 : ((q0 : Int) + o).toNat = q1) (h2 : q0 + 3 = q2) (hv : FP.dcmp x y = some (compare i j)) (Kt : i < j → Go p e below Ev T (mkF m q1 Ls st)) (Kf : j ≤ i → Go p e below Ev T (mkF m q2 Ls st)) : Go p e below Ev T (mkF m pc Ls (.double y :: .double x :: st)) := by
  have Q := own_cmpv i j oo
  have C : i < j ∨ i = j ∨ j < i := by omega
  refine g_dcmp X hx q0 hd0 h0 (by rw [hv]) (g_if_lt X hx q1 q2 hd ho h1 h2 (fun hc => Kt ?_) (fun hc => Kf ?_)) <;> (rcases C with C | C | C <;> first | (have := Q.1 C; omega) | (have := Q.2.1 C; omega) | (have := Q.2.2 C; omega))
theorem g_dc_ge (X : Stand p l e R s m args below meth c T locs cells slots) (hx : p.tables.exec = Jvm.exec) {pc : Nat} {Ls : Array Slot} {st : List Value} {x y : UInt64} {oo : CmpOp} {i j : Int} {o : Int} (q0 q1 q2 : Nat) (hd0 : decode c.code pc = .ok (.dcmp oo, 1)) (h0 : pc + 1 = q0) (hd : decode c.code q0 = .ok (.ifCond .ge o, 3)) (ho : 0 ≤ (q0 : Int) + o) (h1 : ((q0 : Int) + o).toNat = q1) (h2 : q0 + 3 = q2) (hv : FP.dcmp x y = some (compare i j)) (Kt : j ≤ i → Go p e below Ev T (mkF m q1 Ls st)) (Kf : i < j → Go p e below Ev T (mkF m q2 Ls st)) : Go p e below Ev T (mkF m pc Ls (.double y :: .double x :: st)) := by
  have Q := own_cmpv i j oo
  have C : i < j ∨ i = j ∨ j < i := by omega
  refine g_dcmp X hx q0 hd0 h0 (by rw [hv]) (g_if_ge X hx q1 q2 hd ho h1 h2 (fun hc => Kt ?_) (fun hc => Kf ?_)) <;> (rcases C with C | C | C <;> first | (have := Q.1 C; omega) | (have := Q.2.1 C; omega) | (have := Q.2.2 C; omega))
theorem g_dc_gt (X : Stand p l e R s m args below meth c T locs cells slots) (hx : p.tables.exec = Jvm.exec) {pc : Nat} {Ls : Array Slot} {st : List Value} {x y : UInt64} {oo : CmpOp} {i j : Int} {o : Int} (q0 q1 q2 : Nat) (hd0 : decode c.code pc = .ok (.dcmp oo, 1)) (h0 : pc + 1 = q0) (hd : decode c.code q0 = .ok (.ifCond .gt o, 3)) (ho : 0 ≤ (q0 : Int) + o) (h1 : ((q0 : Int) + o).toNat = q1) (h2 : q0 + 3 = q2) (hv : FP.dcmp x y = some (compare i j)) (Kt : j < i → Go p e below Ev T (mkF m q1 Ls st)) (Kf : i ≤ j → Go p e below Ev T (mkF m q2 Ls st)) : Go p e below Ev T (mkF m pc Ls (.double y :: .double x :: st)) := by
  have Q := own_cmpv i j oo
  have C : i < j ∨ i = j ∨ j < i := by omega
  refine g_dcmp X hx q0 hd0 h0 (by rw [hv]) (g_if_gt X hx q1 q2 hd ho h1 h2 (fun hc => Kt ?_) (fun hc => Kf ?_)) <;> (rcases C with C | C | C <;> first | (have := Q.1 C; omega) | (have := Q.2.1 C; omega) | (have := Q.2.2 C; omega))
theorem g_dc_le (X : Stand p l e R s m args below meth c T locs cells slots) (hx : p.tables.exec = Jvm.exec) {pc : Nat} {Ls : Array Slot} {st : List Value} {x y : UInt64} {oo : CmpOp} {i j : Int} {o : Int} (q0 q1 q2 : Nat) (hd0 : decode c.code pc = .ok (.dcmp oo, 1)) (h0 : pc + 1 = q0) (hd : decode c.code q0 = .ok (.ifCond .le o, 3)) (ho : 0 ≤ (q0 : Int) + o) (h1 : ((q0 : Int) + o).toNat = q1) (h2 : q0 + 3 = q2) (hv : FP.dcmp x y = some (compare i j)) (Kt : i ≤ j → Go p e below Ev T (mkF m q1 Ls st)) (Kf : j < i → Go p e below Ev T (mkF m q2 Ls st)) : Go p e below Ev T (mkF m pc Ls (.double y :: .double x :: st)) := by
  have Q := own_cmpv i j oo
  have C : i < j ∨ i = j ∨ j < i := by omega
  refine g_dcmp X hx q0 hd0 h0 (by rw [hv]) (g_if_le X hx q1 q2 hd ho h1 h2 (fun hc => Kt ?_) (fun hc => Kf ?_)) <;> (rcases C with C | C | C <;> first | (have := Q.1 C; omega) | (have := Q.2.1 C; omega) | (have := Q.2.2 C; omega))
theorem g_ifnull_t (X : Stand p l e R s m args below meth c T locs cells slots) (hx : p.tables.exec = Jvm.exec) {pc : Nat} {Ls : Array Slot} {st : List Value} {o : Int} (q : Nat) (hd : decode c.code pc = .ok (.ifnull o, 3)) (ho : 0 ≤ (pc : Int) + o) (h1 : ((pc : Int) + o).toNat = q) (K : Go p e below Ev T (mkF m q Ls st)) : Go p e below Ev T (mkF m pc Ls (.null :: st)) :=
  K.on fun _ k => XS.ifnullYes X.here hx rfl rfl hd rfl ho h1 k
theorem g_ifnull_f (X : Stand p l e R s m args below meth c T locs cells slots) (hx : p.tables.exec = Jvm.exec) {pc : Nat} {Ls : Array Slot} {st : List Value} {o : Int} {b : Addr} (q : Nat) (hd : decode c.code pc = .ok (.ifnull o, 3)) (h1 : pc + 3 = q) (K : Go p e below Ev T (mkF m q Ls st)) : Go p e below Ev T (mkF m pc Ls (.ref b :: st)) := by
  subst h1
  exact K.on fun _ k => XS.ifnullNo X.here hx rfl hd rfl k
theorem g_ifnonnull_t (X : Stand p l e R s m args below meth c T locs cells slots) (hx : p.tables.exec = Jvm.exec) {pc : Nat} {Ls : Array Slot} {st : List Value} {o : Int} {b : Addr} (q : Nat) (hd : decode c.code pc = .ok (.ifnonnull o, 3)) (ho : 0 ≤ (pc : Int) + o) (h1 : ((pc : Int) + o).toNat = q) (K : Go p e below Ev T (mkF m q Ls st)) : Go p e below Ev T (mkF m pc Ls (.ref b :: st)) :=
  K.on fun _ k => XS.ifnonnullYes X.here hx rfl rfl hd rfl ho h1 k
theorem g_ifnonnull_f (X : Stand p l e R s m args below meth c T locs cells slots) (hx : p.tables.exec = Jvm.exec) {pc : Nat} {Ls : Array Slot} {st : List Value} {o : Int} (q : Nat) (hd : decode c.code pc = .ok (.ifnonnull o, 3)) (h1 : pc + 3 = q) (K : Go p e below Ev T (mkF m q Ls st)) : Go p e below Ev T (mkF m pc Ls (.null :: st)) := by
  subst h1
  exact K.on fun _ k => XS.ifnonnullNo X.here hx rfl hd rfl k
theorem g_new (X : Stand p l e R s m args below meth c T locs cells slots) (hx : p.tables.exec = Jvm.exec) {pc : Nat} {Ls : Array Slot} {st : List Value} (hZ : Z.Warmed39 s.vm) {own C : String} {i n : Nat} (hown : s.vm.findClass own = some m.cls) (w : (Jvm.Cond.classLink own i C).before a0 Z = true) (wi : (Jvm.Cond.instantiable C n).before a0 Z = true) (wz : (Jvm.Cond.initialized C).before a0 Z = true) (eT : T.heap = h) (q : Nat) (hd : decode c.code pc = .ok (.new i, 3)) (hq : pc + 3 = q) (hc : cells + 1 ≤ R.cells) (hl : slots + n ≤ R.slots)
    (K : ∀ (T' : State) (h' : Heap) (a : Addr), a = h.size → Stand p l e R s m args below meth c T' locs (cells + 1) (slots + n) → T'.heap = h' → Ext h h' → Exa Z h' a C → (∀ {O nm d : String} {ty : FieldType}, Laid Z a0 C O nm d → parseFieldDescriptor d = some ty → Fld Z h' a O nm d (defaultValue ty)) → Go p e below Ev T' (mkF m q Ls (.ref a :: st))) : Go p e below Ev T (mkF m pc Ls st) := by
  subst hq
  obtain ⟨T', h', X', e', E', A', D', -, st'⟩ := newO X hx hZ hown w wi wz eT (g := mkF m pc Ls st) rfl hd hc hl
  exact (K T' h' _ rfl X' e' E' A' D').on st'
theorem g_getF (X : Stand p l e R s m args below meth c T locs cells slots) (hx : p.tables.exec = Jvm.exec) {pc : Nat} {Ls : Array Slot} {st : List Value} (hZ : Z.Warmed39 s.vm) {own R0 O n d : String} {i : Nat} (hown : s.vm.findClass own = some m.cls) (w : (Jvm.Cond.fieldLink own i R0 n d).before a0 Z = true) (via : Via Z R0 O n d) (eT : T.heap = h) {a : Addr} {v : Value} (F : Fld Z h a O n d v) (q : Nat) (hd : decode c.code pc = .ok (.getfield i, 3)) (hq : pc + 3 = q) (K : ∀ T', Stand p l e R s m args below meth c T' locs cells slots → T'.heap = h → Go p e below Ev T' (mkF m q Ls (v :: st))) : Go p e below Ev T (mkF m pc Ls (.ref a :: st)) := by
  subst hq
  obtain ⟨T', X', e', st'⟩ := getF X hx hZ hown (host := "") (Or.inl w) via eT F (g := mkF m pc Ls (.ref a :: st)) rfl rfl hd
  exact (K T' X' e').on st'
theorem g_putF (X : Stand p l e R s m args below meth c T locs cells slots) (hx : p.tables.exec = Jvm.exec) {pc : Nat} {Ls : Array Slot} {st : List Value} (hZ : Z.Warmed39 s.vm) {own R0 O n d C : String} {i kk : Nat} {ty : FieldType} (hown : s.vm.findClass own = some m.cls) (w : (Jvm.Cond.fieldLink own i R0 n d).before a0 Z = true) (via : Via Z R0 O n d) (eT : T.heap = h) {a : Addr} {v old : Value} (F : Fld Z h a O n d old) (E : Exa Z h a C) (L : (Jvm.Cond.lays C O n d).before a0 Z = true ∨ ((Jvm.Cond.laysFinal C O n d).before a0 Z = true ∧ own = O ∧ meth.name = "<init>")) (wi : (Jvm.Cond.instantiable C kk).before a0 Z = true) (hty : parseFieldDescriptor d = some ty) (hn : narrow ty v = v) (hf : fits ty v = true) (q : Nat) (hd : decode c.code pc = .ok (.putfield i, 3)) (hq : pc + 3 = q)
    (K : ∀ T' h', Stand p l e R s m args below meth c T' (locs ++ [⟨a, Jvm.RoadKit.slotOf Z O n d⟩]) cells slots → T'.heap = h' → Wr h h' a (Jvm.RoadKit.slotOf Z O n d) v → Go p e below Ev T' (mkF m q Ls st)) : Go p e below Ev T (mkF m pc Ls (v :: .ref a :: st)) := by
  subst hq
  obtain ⟨T', h', X', e', W', st'⟩ := putF X hx hZ hown (host := "") (Or.inl w) via eT F E L wi hty hn hf (g := mkF m pc Ls (v :: .ref a :: st)) rfl rfl hd
  exact (K T' h' X' e' W').on st'
theorem g_objinit (X : Stand p l e R s m args below meth c T locs cells slots) (hx : p.tables.exec = Jvm.exec) {pc : Nat} {Ls : Array Slot} {st : List Value} (hZ : Z.Warmed39 s.vm) {own : String} {i : Nat} (hown : s.vm.findClass own = some m.cls) (w1 : (Jvm.Cond.methodLink own i ⟨"java/lang/Object", "<init>", "()V"⟩).before a0 Z = true) (w2 : (Jvm.Cond.instanceMethod ⟨"java/lang/Object", "<init>", "()V"⟩).before a0 Z = true) (w3 : (Jvm.Cond.code ⟨"java/lang/Object", "<init>", "()V"⟩ object_method_1_code 1 none).before a0 Z = true) (eT : T.heap = h) {a : Addr} (W : Nat) (q : Nat) (hd : decode c.code pc = .ok (.invokespecial i, 3)) (hq : pc + 3 = q) (hsz : Ls.size = c.maxLocals) (hf : 1 ≤ R.frames) (hW : (st.map fun v => v.category).sum ≤ W) (hl : W + 12 ≤ R.locals) (K : ∀ T', Stand p l e R s m args below meth c T' locs cells slots → T'.heap = h → Go p e below Ev T' (mkF m q Ls st)) : Go p e below Ev T (mkF m pc Ls (.ref a :: st)) := by
  subst hq
  obtain ⟨T', X', e', st'⟩ := initO X hx hZ hown w1 w2 w3 eT (g := mkF m pc Ls (.ref a :: st)) rfl hsz rfl hd hf (W := W) (by show 2 * 0 + _ ≤ _; omega) hl
  exact (K T' X' e').on st'
theorem g_static (X : Stand p l e R s m args below meth c T locs cells slots) (hx : p.tables.exec = Jvm.exec) {pc : Nat} {Ls : Array Slot} {st : List Value} (hZ : Z.Warmed39 s.vm) {own : String} {i : Nat} {y : MethodName} {bytes : ByteArray} {maxL : Nat} {ret : Option FieldType} {rm : Room} {as' : Array Value} {Q : Option Value → Heap → List Loc → Prop} {argsL rest : List Value} (hown : s.vm.findClass own = some m.cls) (w1 : (Jvm.Cond.methodLink own i y).before a0 Z = true) (w2 : (Jvm.Cond.static y).before a0 Z = true) (w3 : (Jvm.Cond.initialized y.cls).before a0 Z = true) (w4 : (Jvm.Cond.code y bytes maxL ret).before a0 Z = true) (hy : y.cls ≠ "java/lang/invoke/MethodHandle" ∧ y.cls ≠ "java/lang/invoke/VarHandle") (hM : MetFree l y (head1 [Jvm.Cond.code y bytes maxL ret] rm) (fun a U => a = as' ∧ Z.Warmed39 U.vm ∧ U.heap = h) (fun _ _ _ _ _ => True) (fun _ U o U' => ∃ v L, o = .returned v ∧ Q v U'.heap L ∧ FrameEnd U o U' L rm.cells rm.slots)) (eT : T.heap = h) (hst : st = argsL.reverse ++ rest) (has : argsL.toArray = as') (W : Nat) (q : Nat) (hq : pc + 3 = q) (hsz : Ls.size = c.maxLocals) (hlen : ∀ sig, parseMethodDescriptor y.desc = some sig → argsL.length = sig.parameters.length) (hW : (rest.map fun v => v.category).sum ≤ W) (hf : rm.frames + 1 ≤ R.frames) (hl : W + (maxL + 11) + rm.locals ≤ R.locals) (hc : cells + rm.cells ≤ R.cells) (hs : slots + rm.slots ≤ R.slots) (hd : decode c.code pc = .ok (.invokestatic i, 3))
    (K : ∀ (v : Option Value) (T' : State) (L : List Loc), Stand p l e R s m args below meth c T' (locs ++ L) (cells + rm.cells) (slots + rm.slots) → Q v T'.heap L → Go p e below Ev T' (mkF m q Ls (v.toList ++ rest))) : Go p e below Ev T (mkF m pc Ls st) := by
  subst hq hst
  obtain ⟨v, vm1, ⟨T', L', k', n'⟩, -, X', ⟨L, hQ, l', y', z'⟩, st'⟩ := Jvm.LawKit.callS X hx hown (mvT hZ w1) (mvT hZ w2) (mvT hZ w3) (mvT hZ w4) hy (backOf (W := W) hM hZ w4 w3 hf hl) (g := mkF m pc Ls (argsL.reverse ++ rest)) rfl hsz (argsL := argsL) (rest := rest) hlen rfl (by show 2 * 0 + _ ≤ _; omega) hd (fun _ _ => ⟨has, eT, hc, hs⟩)
  dsimp only [Pt.U, Pt.locs, Pt.cells, Pt.slots] at X' l' y' z' st' hQ
  subst l' y' z'
  exact (K v T' L X' hQ).on fun t k => st' t k
theorem g_init (X : Stand p l e R s m args below meth c T locs cells slots) (hx : p.tables.exec = Jvm.exec) {pc : Nat} {Ls : Array Slot} {st : List Value} (hZ : Z.Warmed39 s.vm) {own : String} {i : Nat} {y : MethodName} {bytes : ByteArray} {maxL : Nat} {rm : Room} {as' : Array Value} {Q : Option Value → Heap → List Loc → Prop} {argsL rest : List Value} (hy1 : y.name = "<init>") (hown : s.vm.findClass own = some m.cls) (w1 : (Jvm.Cond.methodLink own i y).before a0 Z = true) (w2 : (Jvm.Cond.instanceMethod y).before a0 Z = true) (w3 : (Jvm.Cond.initialized y.cls).before a0 Z = true) (w4 : (Jvm.Cond.code y bytes maxL none).before a0 Z = true) (hy : y.cls ≠ "java/lang/invoke/MethodHandle" ∧ y.cls ≠ "java/lang/invoke/VarHandle") (hM : MetFree l y (head1 [Jvm.Cond.code y bytes maxL none] rm) (fun a U => a = as' ∧ Z.Warmed39 U.vm ∧ U.heap = h) (fun _ _ _ _ _ => True) (fun _ U o U' => ∃ v L, o = .returned v ∧ Q v U'.heap L ∧ FrameEnd U o U' L rm.cells rm.slots)) (eT : T.heap = h) {a : Addr} (hst : st = argsL.reverse ++ .ref a :: rest) (has : (.ref a :: argsL).toArray = as') (W : Nat) (q : Nat) (hq : pc + 3 = q) (hsz : Ls.size = c.maxLocals) (hlen : ∀ sig, parseMethodDescriptor y.desc = some sig → argsL.length = sig.parameters.length) (hW : (rest.map fun v => v.category).sum ≤ W) (hf : rm.frames + 1 ≤ R.frames) (hl : W + (maxL + 11) + rm.locals ≤ R.locals) (hc : cells + rm.cells ≤ R.cells) (hs : slots + rm.slots ≤ R.slots) (hd : decode c.code pc = .ok (.invokespecial i, 3))
    (K : ∀ (v : Option Value) (T' : State) (L : List Loc), Stand p l e R s m args below meth c T' (locs ++ L) (cells + rm.cells) (slots + rm.slots) → Q v T'.heap L → Go p e below Ev T' (mkF m q Ls (v.toList ++ rest))) : Go p e below Ev T (mkF m pc Ls st) := by
  subst hq hst
  obtain ⟨v, vm1, ⟨T', L', k', n'⟩, -, X', ⟨L, hQ, l', y', z'⟩, st'⟩ := X.specialBack hx hy1 hown (mvT hZ w1) (mvT hZ w2) (mvT hZ w4) hy (backOf (W := W) hM hZ w4 w3 hf hl) (g := mkF m pc Ls (argsL.reverse ++ .ref a :: rest)) rfl hsz (Steps.refl _) (a := a) (argsL := argsL) (rest := rest) hlen rfl (by show 2 * 0 + _ ≤ _; omega) hd (fun _ _ => ⟨has, eT, hc, hs⟩)
  dsimp only [Pt.U, Pt.locs, Pt.cells, Pt.slots] at X' l' y' z' st' hQ
  subst l' y' z'
  exact (K v T' L X' hQ).on fun t k => st'.trans k
theorem g_virt (X : Stand p l e R s m args below meth c T locs cells slots) (hx : p.tables.exec = Jvm.exec) {pc : Nat} {Ls : Array Slot} {st : List Value} (hZ : Z.Warmed39 s.vm) {own : String} {i : Nat} {y z : MethodName} {C : String} {bytes : ByteArray} {maxL : Nat} {ret : Option FieldType} {rm : Room} {as' : Array Value} {Q : Option Value → Heap → List Loc → Prop} {argsL rest : List Value} (hown : s.vm.findClass own = some m.cls) (w1 : (Jvm.Cond.methodLink own i y).before a0 Z = true) (w2 : (Jvm.Cond.declares y).before a0 Z = true) (w5 : (Jvm.Cond.selects y.cls y y).before a0 Z = true) (w6 : (Jvm.Cond.selects C y z).before a0 Z = true) (w7 : (Jvm.Cond.instanceMethod z).before a0 Z = true) (w3 : (Jvm.Cond.initialized z.cls).before a0 Z = true) (w4 : (Jvm.Cond.code z bytes maxL ret).before a0 Z = true) (hy : y.cls ≠ "java/lang/invoke/MethodHandle" ∧ y.cls ≠ "java/lang/invoke/VarHandle") (hM : MetFree l z (head1 [Jvm.Cond.code z bytes maxL ret] rm) (fun a U => a = as' ∧ Z.Warmed39 U.vm ∧ U.heap = h) (fun _ _ _ _ _ => True) (fun _ U o U' => ∃ v L, o = .returned v ∧ Q v U'.heap L ∧ FrameEnd U o U' L rm.cells rm.slots)) (eT : T.heap = h) {b : Addr} (E : Exa Z h b C) (hst : st = argsL.reverse ++ .ref b :: rest) (has : (.ref b :: argsL).toArray = as') (W : Nat) (q : Nat) (hq : pc + 3 = q) (hsz : Ls.size = c.maxLocals) (hlen : ∀ sig, parseMethodDescriptor y.desc = some sig → argsL.length = sig.parameters.length) (hW : (rest.map fun v => v.category).sum ≤ W) (hf : rm.frames + 1 ≤ R.frames) (hl : W + (maxL + 11) + rm.locals ≤ R.locals) (hc : cells + rm.cells ≤ R.cells) (hs : slots + rm.slots ≤ R.slots) (hd : decode c.code pc = .ok (.invokevirtual i, 3))
    (K : ∀ (v : Option Value) (T' : State) (L : List Loc), Stand p l e R s m args below meth c T' (locs ++ L) (cells + rm.cells) (slots + rm.slots) → Q v T'.heap L → Go p e below Ev T' (mkF m q Ls (v.toList ++ rest))) : Go p e below Ev T (mkF m pc Ls st) := by
  subst hq hst
  obtain ⟨cq, kq, qa, qb, qc⟩ := isOf hZ eT E
  obtain ⟨v, vm1, ⟨T', L', k', n'⟩, -, X', ⟨L, hQ, l', y', z'⟩, st'⟩ := X.virtualBack hx hown (mvT hZ w1) (mvT hZ w2) (notFace_of_selects (args := #[]) (mvT hZ w5)) (mvT hZ w6) (mvT hZ w7) hy (backOf (W := W) hM hZ w4 w3 hf hl) qa qc (g := mkF m pc Ls (argsL.reverse ++ .ref b :: rest)) rfl hsz (Steps.refl _) (argsL := argsL) (rest := rest) hlen rfl (by show 2 * 0 + _ ≤ _; omega) hd (fun _ _ => ⟨has, eT, hc, hs⟩)
  dsimp only [Pt.U, Pt.locs, Pt.cells, Pt.slots] at X' l' y' z' st' hQ
  subst l' y' z'
  exact (K v T' L X' hQ).on fun t k => st'.trans k
theorem own_at {n : Nat} (j : Int32) (h0 : 0 ≤ j.toInt) (z : Int32) (h1 : j.toInt < z.toInt) (S : n = z.toNatClampNeg) : ¬ (j < 0 ∨ n ≤ j.toNatClampNeg) := by
  subst S
  intro q
  rcases q with q | q
  · have := (own_i0 j).1.mp q; omega
  · simp only [Int32.toNatClampNeg] at q; omega
theorem own_ncl {j : Int32} {k : Nat} (h : j.toInt = (k : Int)) : j.toNatClampNeg = k := by simp only [Int32.toNatClampNeg]; omega
theorem g_newP (X : Stand p l e R s m args below meth c T locs cells slots) (hx : p.tables.exec = Jvm.exec) {pc : Nat} {Ls : Array Slot} {st : List Value} (hZ : Z.Warmed39 s.vm) {aty : ArrayType} (w : (Jvm.Cond.arrayClass (newarray.typeOf aty)).before a0 Z = true) (eT : T.heap = h) {n : Int32} (hn : 0 ≤ n.toInt) {cap : Nat} (hcap : n.toInt ≤ cap) (hb : cap * 8 ≤ 536870912) (q : Nat) (hd : decode c.code pc = .ok (.newarray aty, 2)) (hq : pc + 2 = q) (hc : cells + 1 ≤ R.cells) (hl : slots + cap ≤ R.slots) {ad : String} (had : "[" ++ (newarray.typeOf aty).toString = ad)
    (K : ∀ (T' : State) (h' : Heap) (k : ClassId) (a : Addr), a = h.size → Stand p l e R s m args below meth c T' locs (cells + 1) (slots + cap) → T'.heap = h' → Ext h h' → Arv Z h' a k (newarray.typeOf aty) n [] (defaultValue (newarray.typeOf aty)) → Exa Z h' a ad → Go p e below Ev T' (mkF m q Ls (.ref a :: st))) : Go p e below Ev T (mkF m pc Ls (.int n :: st)) := by
  subst hq
  have hn' : ¬ n < 0 := fun q => by have := (own_i0 n).1.mp q; omega
  obtain ⟨T', h', k, X', e', E', A', B', st'⟩ := newPE X hx hZ w eT (g := mkF m pc Ls (.int n :: st)) rfl hd rfl hn' (cap := cap) (by simp only [Int32.toNatClampNeg]; omega) hb hc hl had
  exact (K T' h' k _ rfl X' e' E' (Arv.new A' hn') B').on st'
theorem g_len (X : Stand p l e R s m args below meth c T locs cells slots) (hx : p.tables.exec = Jvm.exec) {pc : Nat} {Ls : Array Slot} {st : List Value} (hZ : Z.Warmed39 s.vm) (eT : T.heap = h) {a : Addr} {k : ClassId} {ty : FieldType} {z : Int32} {vs : List Value} {dv : Value} (V : Arv Z h a k ty z vs dv) (q : Nat) (hd : decode c.code pc = .ok (.arraylength, 1)) (hq : pc + 1 = q) (K : Go p e below Ev T (mkF m q Ls (.int z :: st))) : Go p e below Ev T (mkF m pc Ls (.ref a :: st)) := by
  subst hq
  obtain ⟨cl, A, q1, S, q3, H, G⟩ := V
  refine K.on fun t k => X.arraylength hx (by rw [eT]; exact A.1) (State.isArrayOf_alike hZ.alike A.2.1) (g := mkF m pc Ls (.ref a :: st)) rfl rfl hd t ?_
  rw [len_of S q3]
  exact k
theorem g_dastore (X : Stand p l e R s m args below meth c T locs cells slots) (hx : p.tables.exec = Jvm.exec) {pc : Nat} {Ls : Array Slot} {st : List Value} (hZ : Z.Warmed39 s.vm) (eT : T.heap = h) {a : Addr} {k : ClassId} {z j : Int32} {x : UInt64} {vs : List Value} {dv : Value} (V : Arv Z h a k .double z vs dv) (i : Nat) (hi : j.toInt = (i : Int)) (hz : j.toInt < z.toInt) (hv : i < vs.length) (q : Nat) (hd : decode c.code pc = .ok (.dastore, 1)) (hq : pc + 1 = q)
    (K : ∀ T' h', Stand p l e R s m args below meth c T' (locs ++ [⟨a, j.toNatClampNeg⟩]) cells slots → T'.heap = h' → Wr h h' a j.toNatClampNeg (.double x) → Arv Z h' a k .double z (vs.set i (.double x)) dv → Go p e below Ev T' (mkF m q Ls st)) : Go p e below Ev T (mkF m pc Ls (.double x :: .int j :: .ref a :: st)) := by
  subst hq
  obtain ⟨cl, A, q1, S, q3, H, G⟩ := V
  have hj := own_at j (by omega) z hz S
  obtain ⟨T', h', X', e', W', st'⟩ := stD X hx hZ eT A hj (g := mkF m pc Ls (.double x :: .int j :: .ref a :: st)) rfl rfl hd
  exact (K T' h' X' e' W' (Arv.set A q1 S q3 H G rfl W' i (own_ncl hi) hv)).on st'
theorem g_iastore (X : Stand p l e R s m args below meth c T locs cells slots) (hx : p.tables.exec = Jvm.exec) {pc : Nat} {Ls : Array Slot} {st : List Value} (hZ : Z.Warmed39 s.vm) (eT : T.heap = h) {a : Addr} {k : ClassId} {z j : Int32} {x : Int32} {vs : List Value} {dv : Value} (V : Arv Z h a k .int z vs dv) (i : Nat) (hi : j.toInt = (i : Int)) (hz : j.toInt < z.toInt) (hv : i < vs.length) (q : Nat) (hd : decode c.code pc = .ok (.iastore, 1)) (hq : pc + 1 = q)
    (K : ∀ T' h', Stand p l e R s m args below meth c T' (locs ++ [⟨a, j.toNatClampNeg⟩]) cells slots → T'.heap = h' → Wr h h' a j.toNatClampNeg (.int x) → Arv Z h' a k .int z (vs.set i (.int x)) dv → Go p e below Ev T' (mkF m q Ls st)) : Go p e below Ev T (mkF m pc Ls (.int x :: .int j :: .ref a :: st)) := by
  subst hq
  obtain ⟨cl, A, q1, S, q3, H, G⟩ := V
  have hj := own_at j (by omega) z hz S
  obtain ⟨T', h', X', e', W', st'⟩ := stI X hx hZ eT A hj (g := mkF m pc Ls (.int x :: .int j :: .ref a :: st)) rfl rfl hd
  exact (K T' h' X' e' W' (Arv.set A q1 S q3 H G rfl W' i (own_ncl hi) hv)).on st'
theorem g_lastore (X : Stand p l e R s m args below meth c T locs cells slots) (hx : p.tables.exec = Jvm.exec) {pc : Nat} {Ls : Array Slot} {st : List Value} (hZ : Z.Warmed39 s.vm) (eT : T.heap = h) {a : Addr} {k : ClassId} {z j : Int32} {x : Int64} {vs : List Value} {dv : Value} (V : Arv Z h a k .long z vs dv) (i : Nat) (hi : j.toInt = (i : Int)) (hz : j.toInt < z.toInt) (hv : i < vs.length) (q : Nat) (hd : decode c.code pc = .ok (.lastore, 1)) (hq : pc + 1 = q)
    (K : ∀ T' h', Stand p l e R s m args below meth c T' (locs ++ [⟨a, j.toNatClampNeg⟩]) cells slots → T'.heap = h' → Wr h h' a j.toNatClampNeg (.long x) → Arv Z h' a k .long z (vs.set i (.long x)) dv → Go p e below Ev T' (mkF m q Ls st)) : Go p e below Ev T (mkF m pc Ls (.long x :: .int j :: .ref a :: st)) := by
  subst hq
  obtain ⟨cl, A, q1, S, q3, H, G⟩ := V
  have hj := own_at j (by omega) z hz S
  obtain ⟨T', h', X', e', W', st'⟩ := stJ X hx hZ eT A hj (g := mkF m pc Ls (.long x :: .int j :: .ref a :: st)) rfl rfl hd
  exact (K T' h' X' e' W' (Arv.set A q1 S q3 H G rfl W' i (own_ncl hi) hv)).on st'
theorem g_daload (X : Stand p l e R s m args below meth c T locs cells slots) (hx : p.tables.exec = Jvm.exec) {pc : Nat} {Ls : Array Slot} {st : List Value} (hZ : Z.Warmed39 s.vm) (eT : T.heap = h) {a : Addr} {k : ClassId} {z j : Int32} {v : Value} {vs : List Value} {dv : Value} (V : Arv Z h a k .double z vs dv) (hi : 0 ≤ j.toInt) (hz : j.toInt < z.toInt) (hv : vs.getD j.toNatClampNeg dv = v) (q : Nat) (hd : decode c.code pc = .ok (.daload, 1)) (hq : pc + 1 = q) (K : Go p e below Ev T (mkF m q Ls (v :: st))) : Go p e below Ev T (mkF m pc Ls (.int j :: .ref a :: st)) := by
  subst hq
  obtain ⟨cl, A, q1, S, q3, H, G⟩ := V
  have hj := own_at j hi z hz S
  exact K.on fun t k => X.daload hx (by rw [eT]; exact A.1) (State.isArrayOf_alike hZ.alike A.2.1) A.2.2 hj (H.at hj hv) (g := mkF m pc Ls (.int j :: .ref a :: st)) rfl rfl hd t k
theorem g_iaload (X : Stand p l e R s m args below meth c T locs cells slots) (hx : p.tables.exec = Jvm.exec) {pc : Nat} {Ls : Array Slot} {st : List Value} (hZ : Z.Warmed39 s.vm) (eT : T.heap = h) {a : Addr} {k : ClassId} {z j : Int32} {v : Value} {vs : List Value} {dv : Value} (V : Arv Z h a k .int z vs dv) (hi : 0 ≤ j.toInt) (hz : j.toInt < z.toInt) (hv : vs.getD j.toNatClampNeg dv = v) (q : Nat) (hd : decode c.code pc = .ok (.iaload, 1)) (hq : pc + 1 = q) (K : Go p e below Ev T (mkF m q Ls (v :: st))) : Go p e below Ev T (mkF m pc Ls (.int j :: .ref a :: st)) := by
  subst hq
  obtain ⟨cl, A, q1, S, q3, H, G⟩ := V
  have hj := own_at j hi z hz S
  exact K.on fun t k => X.iaload hx (by rw [eT]; exact A.1) (State.isArrayOf_alike hZ.alike A.2.1) A.2.2 hj (H.at hj hv) (g := mkF m pc Ls (.int j :: .ref a :: st)) rfl rfl hd t k
theorem g_laload (X : Stand p l e R s m args below meth c T locs cells slots) (hx : p.tables.exec = Jvm.exec) {pc : Nat} {Ls : Array Slot} {st : List Value} (hZ : Z.Warmed39 s.vm) (eT : T.heap = h) {a : Addr} {k : ClassId} {z j : Int32} {v : Value} {vs : List Value} {dv : Value} (V : Arv Z h a k .long z vs dv) (hi : 0 ≤ j.toInt) (hz : j.toInt < z.toInt) (hv : vs.getD j.toNatClampNeg dv = v) (q : Nat) (hd : decode c.code pc = .ok (.laload, 1)) (hq : pc + 1 = q) (K : Go p e below Ev T (mkF m q Ls (v :: st))) : Go p e below Ev T (mkF m pc Ls (.int j :: .ref a :: st)) := by
  subst hq
  obtain ⟨cl, A, q1, S, q3, H, G⟩ := V
  have hj := own_at j hi z hz S
  exact K.on fun t k => X.laload hx (by rw [eT]; exact A.1) (State.isArrayOf_alike hZ.alike A.2.1) A.2.2 hj (H.at hj hv) (g := mkF m pc Ls (.int j :: .ref a :: st)) rfl rfl hd t k
theorem g_clone (X : Stand p l e R s m args below meth c T locs cells slots) (hx : p.tables.exec = Jvm.exec) {pc : Nat} {Ls : Array Slot} {st : List Value} (hZ : Z.Warmed39 s.vm) {own ad : String} {i : Nat} (hown : s.vm.findClass own = some m.cls) (w1 : (Jvm.Cond.methodLink own i ⟨ad, "clone", "()Ljava/lang/Object;"⟩).before a0 Z = true) (w2 : (Jvm.Cond.sameMethod ad "java/lang/Object" "clone" "()Ljava/lang/Object;").before a0 Z = true) (w3 : (Jvm.Cond.native ⟨"java/lang/Object", "clone", "()Ljava/lang/Object;"⟩).before a0 Z = true) (w4 : (Jvm.Cond.instanceMethod ⟨"java/lang/Object", "clone", "()Ljava/lang/Object;"⟩).before a0 Z = true) (w5 : (Jvm.Cond.selects ad ⟨ad, "clone", "()Ljava/lang/Object;"⟩ ⟨"java/lang/Object", "clone", "()Ljava/lang/Object;"⟩).before a0 Z = true) (w6 : (Jvm.Cond.castable ad "java/lang/Cloneable").before a0 Z = true) (eT : T.heap = h) {a : Addr} {k : ClassId} {ty : FieldType} {z : Int32} {vs : List Value} {dv : Value} (V : Arv Z h a k ty z vs dv) (E : Exa Z h a ad) (W cap : Nat) (q : Nat) (hd : decode c.code pc = .ok (.invokevirtual i, 3)) (hq : pc + 3 = q) (hsz : Ls.size = c.maxLocals) (hf : 1 ≤ R.frames) (hW : (st.map fun v => v.category).sum ≤ W) (hl : W + 14 ≤ R.locals) (hcap : z.toInt ≤ cap) (hc : cells + 1 ≤ R.cells) (hs : slots + cap ≤ R.slots)
    (K : ∀ (T' : State) (h' : Heap) (b : Addr), b = h.size → Stand p l e R s m args below meth c T' locs (cells + 1) (slots + cap) → T'.heap = h' → Ext h h' → Arv Z h' b k ty z vs dv → Exa Z h' b ad → Go p e below Ev T' (mkF m q Ls (.ref b :: st))) : Go p e below Ev T (mkF m pc Ls (.ref a :: st)) := by
  subst hq
  obtain ⟨T', h', X', e', E', V', B', st'⟩ := cloneH X hx hZ hown w1 w2 w3 w4 w5 w6 eT V.arh E (g := mkF m pc Ls (.ref a :: st)) rfl hsz rfl hd hf (W := W) (cap := cap) (by show 2 * 0 + _ ≤ _; omega) hl (by simp only [Int32.toNatClampNeg]; omega) hc hs
  exact (K T' h' _ rfl X' e' E' V' B').on st'
theorem g_cast (X : Stand p l e R s m args below meth c T locs cells slots) (hx : p.tables.exec = Jvm.exec) {pc : Nat} {Ls : Array Slot} {st : List Value} (hZ : Z.Warmed39 s.vm) {own C : String} {i : Nat} (hown : s.vm.findClass own = some m.cls) (w : (Jvm.Cond.classLink own i C).before a0 Z = true) (eT : T.heap = h) {a : Addr} (F : Ins Z h a C true) (q : Nat) (hd : decode c.code pc = .ok (.checkcast i, 3)) (hq : pc + 3 = q) (K : ∀ T', Stand p l e R s m args below meth c T' locs cells slots → T'.heap = h → Go p e below Ev T' (mkF m q Ls (.ref a :: st))) : Go p e below Ev T (mkF m pc Ls (.ref a :: st)) := by
  subst hq
  obtain ⟨T', X', e', st'⟩ := castY X hx hZ hown w eT F (g := mkF m pc Ls (.ref a :: st)) rfl rfl hd
  exact (K T' X' e').on st'
end OwnKit
theorem own_pd0 : parseMethodDescriptor "()V" = some ⟨[], none⟩ := by decide +kernel
theorem own_pd1 : parseMethodDescriptor "(Ljava/util/List;)V" = some ⟨[(.object "java/util/List")], none⟩ := by decide +kernel
theorem own_pd2 : parseMethodDescriptor "(I)V" = some ⟨[.int], none⟩ := by decide +kernel
theorem own_pd3 : parseMethodDescriptor "()I" = some ⟨[], some .int⟩ := by decide +kernel
theorem own_pd4 : parseMethodDescriptor "(II)Ljava/util/List;" = some ⟨[.int, .int], some (.object "java/util/List")⟩ := by decide +kernel
theorem own_pd5 : parseMethodDescriptor "(III)V" = some ⟨[.int, .int, .int], none⟩ := by decide +kernel
theorem own_pd6 : parseMethodDescriptor "(Ljava/util/ArrayList;II)V" = some ⟨[(.object "java/util/ArrayList"), .int, .int], none⟩ := by decide +kernel
theorem own_pd7 : parseMethodDescriptor "(II)V" = some ⟨[.int, .int], none⟩ := by decide +kernel
theorem own_pd8 : parseMethodDescriptor "([Ljava/lang/Object;II)V" = some ⟨[(.array (.object "java/lang/Object")), .int, .int], none⟩ := by decide +kernel
theorem own_pd9 : parseMethodDescriptor "(Ljava/lang/Object;ILjava/lang/Object;II)V" = some ⟨[(.object "java/lang/Object"), .int, (.object "java/lang/Object"), .int, .int], none⟩ := by decide +kernel
theorem own_pd10 : parseMethodDescriptor "(Lcom/example/firm_commit/firmcommit/TransactionSynchronization;)V" = some ⟨[(.object "com/example/firm_commit/firmcommit/TransactionSynchronization")], none⟩ := by decide +kernel
theorem own_pd11 : parseMethodDescriptor "(Ljava/lang/Object;)Z" = some ⟨[(.object "java/lang/Object")], some .boolean⟩ := by decide +kernel
theorem own_pd12 : parseMethodDescriptor "(Ljava/lang/Object;[Ljava/lang/Object;I)V" = some ⟨[(.object "java/lang/Object"), (.array (.object "java/lang/Object")), .int], none⟩ := by decide +kernel
theorem own_pd13 : parseMethodDescriptor "()[Ljava/lang/Object;" = some ⟨[], some (.array (.object "java/lang/Object"))⟩ := by decide +kernel
theorem own_pd14 : parseMethodDescriptor "(I)[Ljava/lang/Object;" = some ⟨[.int], some (.array (.object "java/lang/Object"))⟩ := by decide +kernel
theorem own_pd15 : parseMethodDescriptor "(II)I" = some ⟨[.int, .int], some .int⟩ := by decide +kernel
def Q_rm0 (n0 : Nat) (v : Option Value) (h : Heap) (L : List Loc) : Prop := v = some (.int 1) ∧ Fr n0 L
theorem own_dlit {i : Int} {a : UInt64} (s : Bool) (c : Nat) (q : Int) (h : Jvm.FP.Core.val64 a = .fin s c q) (h2 : Jvm.FP.Core.signed s (c * 2 ^ q.toNat) = i * ((2 ^ (-q).toNat : Nat) : Int)) : Jvm.FP.Core.DInt i a := by
  show Jvm.FP.Core.Whole i _
  rw [h]
  exact h2
theorem own_dnn {i : Int} {a : UInt64} (h : Jvm.FP.Core.DInt i a) : Jvm.Free.Fl.NoNaN64 a := Jvm.Free.Fl.noNaN64_no.mpr ((Jvm.FP.Core.notNaN_iff a).mpr (Jvm.FP.Core.Whole.ne_nan h))
theorem own_dzero : Jvm.FP.Core.DInt 0 (0 : UInt64) := own_dlit false 0 (-1074) (by decide +kernel) (by decide +kernel)
theorem own_done : Jvm.FP.Core.DInt 1 (4607182418800017408 : UInt64) := own_dlit false (2 ^ 52) (-52) (by decide +kernel) (by decide +kernel)
section OwnKit2
variable {p : Program} {l : Launch} {e : Env} {R : Room} {s : State} {m : MethodId} {args : Array Value} {below : List Frame} {meth : Method} {c : Code} {T : State} {locs : List Loc} {cells slots : Nat} {Z : State} {a0 : Array Value} {h h' : Heap} {Ev : State → Outcome → Prop}
theorem g_iaddC (X : Stand p l e R s m args below meth c T locs cells slots) (hx : p.tables.exec = Jvm.exec) {pc : Nat} {Ls : Array Slot} {st : List Value} {x y : Int32} (r : Int32) (hr : x + y = r) (q : Nat) (hd : decode c.code pc = .ok (.iadd, 1)) (hq : pc + 1 = q) (K : Go p e below Ev T (mkF m q Ls (.int r :: st))) : Go p e below Ev T (mkF m pc Ls (.int y :: .int x :: st)) := by
  subst hr
  exact g_iadd X hx q hd hq K
theorem g_isubC (X : Stand p l e R s m args below meth c T locs cells slots) (hx : p.tables.exec = Jvm.exec) {pc : Nat} {Ls : Array Slot} {st : List Value} {x y : Int32} (r : Int32) (hr : x - y = r) (q : Nat) (hd : decode c.code pc = .ok (.isub, 1)) (hq : pc + 1 = q) (K : Go p e below Ev T (mkF m q Ls (.int r :: st))) : Go p e below Ev T (mkF m pc Ls (.int y :: .int x :: st)) := by
  subst hr
  exact g_isub X hx q hd hq K
theorem g_imulC (X : Stand p l e R s m args below meth c T locs cells slots) (hx : p.tables.exec = Jvm.exec) {pc : Nat} {Ls : Array Slot} {st : List Value} {x y : Int32} (r : Int32) (hr : x * y = r) (q : Nat) (hd : decode c.code pc = .ok (.imul, 1)) (hq : pc + 1 = q) (K : Go p e below Ev T (mkF m q Ls (.int r :: st))) : Go p e below Ev T (mkF m pc Ls (.int y :: .int x :: st)) := by
  subst hr
  exact g_imul X hx q hd hq K
theorem g_iincC (X : Stand p l e R s m args below meth c T locs cells slots) (hx : p.tables.exec = Jvm.exec) {pc : Nat} {Ls : Array Slot} {st : List Value} {k : Nat} {i : Int} {v w : Int32} (r : Int32) (hr : v + w = r) {l' : Array Slot} (q : Nat) (hd : decode c.code pc = .ok (.iinc k i, 3)) (hq : pc + 3 = q) (hl : Ls[k]? = some (.val (.int v))) (hv : Int32.ofInt i = w) (hl' : storeLocals Ls k (.int r) = some l') (K : Go p e below Ev T (mkF m q l' st)) : Go p e below Ev T (mkF m pc Ls st) := by
  subst hr
  exact g_iinc X hx q hd hq hl hv hl' K
theorem g_anewA (X : Stand p l e R s m args below meth c T locs cells slots) (hx : p.tables.exec = Jvm.exec) {pc : Nat} {Ls : Array Slot} {st : List Value} (hZ : Z.Warmed39 s.vm) {own C : String} {ty : FieldType} {i : Nat} (hown : s.vm.findClass own = some m.cls) (hC : (FieldType.array ty).toString = C) (w1 : (Jvm.Cond.classLink own i C).before a0 Z = true) (w2 : (Jvm.Cond.arrayOver (.array ty)).before a0 Z = true) (eT : T.heap = h) {n : Int32} (hn : 0 ≤ n.toInt) {cap : Nat} (hcap : n.toInt ≤ cap) (hb : cap * 8 ≤ 536870912) (q : Nat) (hd : decode c.code pc = .ok (.anewarray i, 3)) (hq : pc + 3 = q) (hc : cells + 1 ≤ R.cells) (hl : slots + cap ≤ R.slots) {ad : String} (had : "[" ++ C = ad)
    (K : ∀ (T' : State) (h' : Heap) (k : ClassId) (a : Addr), a = h.size → Stand p l e R s m args below meth c T' locs (cells + 1) (slots + cap) → T'.heap = h' → Ext h h' → Arv Z h' a k (.array ty) n [] .null → Exa Z h' a ad → OvrA Z k ty C → Go p e below Ev T' (mkF m q Ls (.ref a :: st))) : Go p e below Ev T (mkF m pc Ls (.int n :: st)) := by
  subst hq
  have hn' : ¬ n < 0 := fun q => by have := (own_i0 n).1.mp q; omega
  obtain ⟨T', h', k, X', e', E', A', B', O', st'⟩ := newRA X hx hZ hown hC w1 w2 eT (g := mkF m pc Ls (.int n :: st)) rfl hd rfl hn' (cap := cap) (by simp only [Int32.toNatClampNeg]; omega) hb hc hl had
  exact (K T' h' k _ rfl X' e' E' (Arv.new A' hn') B' O').on st'
theorem g_aastoreA (X : Stand p l e R s m args below meth c T locs cells slots) (hx : p.tables.exec = Jvm.exec) {pc : Nat} {Ls : Array Slot} {st : List Value} (hZ : Z.Warmed39 s.vm) (eT : T.heap = h) {a y : Addr} {k : ClassId} {ty : FieldType} {C : String} {z j : Int32} {vs : List Value} {dv : Value} (V : Arv Z h a k (.array ty) z vs dv) (O : OvrA Z k ty C) (I : Ins Z h y C true) (i : Nat) (hi : j.toInt = (i : Int)) (hz : j.toInt < z.toInt) (hv : i < vs.length) (q : Nat) (hd : decode c.code pc = .ok (.aastore, 1)) (hq : pc + 1 = q)
    (K : ∀ T' h', Stand p l e R s m args below meth c T' (locs ++ [⟨a, j.toNatClampNeg⟩]) cells slots → T'.heap = h' → Wr h h' a j.toNatClampNeg (.ref y) → Arv Z h' a k (.array ty) z (vs.set i (.ref y)) dv → Go p e below Ev T' (mkF m q Ls st)) : Go p e below Ev T (mkF m pc Ls (.ref y :: .int j :: .ref a :: st)) := by
  subst hq
  obtain ⟨cl, A, q1, S, q3, H, G⟩ := V
  have hj := own_at j (by omega) z hz S
  obtain ⟨T', h', X', e', W', st'⟩ := Jvm.RoadKit.stR X hx hZ eT A hj rfl (Sto.ofVA A q1 O I) (g := mkF m pc Ls (.ref y :: .int j :: .ref a :: st)) rfl rfl hd
  exact (K T' h' X' e' W' (Arv.set A q1 S q3 H G rfl W' i (own_ncl hi) hv)).on st'
theorem g_aaload (X : Stand p l e R s m args below meth c T locs cells slots) (hx : p.tables.exec = Jvm.exec) {pc : Nat} {Ls : Array Slot} {st : List Value} (hZ : Z.Warmed39 s.vm) (eT : T.heap = h) {a : Addr} {k : ClassId} {ty : FieldType} {z j : Int32} {v : Value} {vs : List Value} {dv : Value} (V : Arv Z h a k ty z vs dv) (hty : ty.isReference = true) (hi : 0 ≤ j.toInt) (hz : j.toInt < z.toInt) (hv : vs.getD j.toNatClampNeg dv = v) (q : Nat) (hd : decode c.code pc = .ok (.aaload, 1)) (hq : pc + 1 = q) (K : Go p e below Ev T (mkF m q Ls (v :: st))) : Go p e below Ev T (mkF m pc Ls (.int j :: .ref a :: st)) := by
  subst hq
  obtain ⟨cl, A, q1, S, q3, H, G⟩ := V
  have hj := own_at j hi z hz S
  exact K.on fun t k => X.aaload hx (by rw [eT]; exact A.1) (State.isArrayOf_alike hZ.alike A.2.1) hty A.2.2 hj (H.at hj hv) (g := mkF m pc Ls (.int j :: .ref a :: st)) rfl rfl hd t k
theorem g_priv (X : Stand p l e R s m args below meth c T locs cells slots) (hx : p.tables.exec = Jvm.exec) {pc : Nat} {Ls : Array Slot} {st : List Value} (hZ : Z.Warmed39 s.vm) {own : String} {i : Nat} {y z : MethodName} {C : String} {bytes : ByteArray} {maxL : Nat} {ret : Option FieldType} {rm : Room} {as' : Array Value} {Q : Option Value → Heap → List Loc → Prop} {argsL rest : List Value} (hown : s.vm.findClass own = some m.cls) (w1 : (Jvm.Cond.methodLink own i y).before a0 Z = true) (w2 : (Jvm.Cond.privateMethod y).before a0 Z = true) (w5 : (Jvm.Cond.selects z.cls z z).before a0 Z = true) (hyz : z.cls = y.cls) (w7 : (Jvm.Cond.instanceMethod y).before a0 Z = true) (w3 : (Jvm.Cond.initialized y.cls).before a0 Z = true) (w4 : (Jvm.Cond.code y bytes maxL ret).before a0 Z = true) (hy : y.cls ≠ "java/lang/invoke/MethodHandle" ∧ y.cls ≠ "java/lang/invoke/VarHandle") (hM : MetFree l y (head1 [Jvm.Cond.code y bytes maxL ret] rm) (fun a U => a = as' ∧ Z.Warmed39 U.vm ∧ U.heap = h) (fun _ _ _ _ _ => True) (fun _ U o U' => ∃ v L, o = .returned v ∧ Q v U'.heap L ∧ FrameEnd U o U' L rm.cells rm.slots)) (eT : T.heap = h) {b : Addr} (E : Exa Z h b C) (hst : st = argsL.reverse ++ .ref b :: rest) (has : (.ref b :: argsL).toArray = as') (W : Nat) (q : Nat) (hq : pc + 3 = q) (hsz : Ls.size = c.maxLocals) (hlen : ∀ sig, parseMethodDescriptor y.desc = some sig → argsL.length = sig.parameters.length) (hW : (rest.map fun v => v.category).sum ≤ W) (hf : rm.frames + 1 ≤ R.frames) (hl : W + (maxL + 11) + rm.locals ≤ R.locals) (hc : cells + rm.cells ≤ R.cells) (hs : slots + rm.slots ≤ R.slots) (hd : decode c.code pc = .ok (.invokevirtual i, 3))
    (K : ∀ (v : Option Value) (T' : State) (L : List Loc), Stand p l e R s m args below meth c T' (locs ++ L) (cells + rm.cells) (slots + rm.slots) → Q v T'.heap L → Go p e below Ev T' (mkF m q Ls (v.toList ++ rest))) : Go p e below Ev T (mkF m pc Ls st) := by
  subst hq hst
  obtain ⟨cell, k, g1, g2, g3, g4, -⟩ := E
  have pa : s.PrivateAt y := Cond.privateMethod_at (mvP hZ w2 (args := #[]))
  obtain ⟨cc, rr, mm, s1, -, s2, -, kP, s3, s4⟩ := Cond.selects_spec (mvT hZ w5 : (Jvm.Cond.selects z.cls z z).before args s = true)
  have fc := findClass_of_methodNamed s2
  rw [hyz] at fc
  have sl : (Jvm.Cond.selects y.cls y y).before args s = true := selects_self_of_private fc s3 s4 pa (mvT hZ w7) hy
  obtain ⟨v, vm1, ⟨T', L', k', n'⟩, -, X', ⟨L, hQ, l', y', z'⟩, st'⟩ := X.privateBack hx hown (mvT hZ w1) (mvT hZ w7) sl pa (mvT hZ w4) hy (backOf (W := W) hM hZ w4 w3 hf hl) (g := mkF m pc Ls (argsL.reverse ++ .ref b :: rest)) rfl hsz (Steps.refl _) (a := b) (by rw [eT]; exact g1) (fun q w => by rw [w] at g4; cases g4) (argsL := argsL) (rest := rest) hlen rfl (by show 2 * 0 + _ ≤ _; omega) hd (fun _ _ => ⟨has, eT, hc, hs⟩)
  dsimp only [Pt.U, Pt.locs, Pt.cells, Pt.slots] at X' l' y' z' st' hQ
  subst l' y' z'
  exact (K v T' L X' hQ).on fun t k => st'.trans k
end OwnKit2
section OwnKit3
variable {p : Program} {l : Launch} {e : Env} {R : Room} {s : State} {m : MethodId} {args : Array Value} {below : List Frame} {meth : Method} {c : Code} {T : State} {locs : List Loc} {cells slots : Nat} {Z : State} {a0 : Array Value} {h h' : Heap} {Ev : State → Outcome → Prop}
theorem own_nf {s : State} {args : Array Value} {C : String} {x y z : MethodName} (w : (Jvm.Cond.selects C x z).before args s = true) (hz : z.cls = y.cls) : NotFace s y := fun r0 h0 => by
  obtain ⟨cc, rr, mm, -, -, s2, -, kP, s3, s4⟩ := Cond.selects_spec w
  have f1 := findClass_of_methodNamed s2
  have f2 := findClass_of_methodNamed h0
  rw [hz] at f1
  have e := Option.some.inj (f1.symm.trans f2)
  rw [e] at s3
  exact ⟨kP, s3, s4⟩
theorem g_face (X : Stand p l e R s m args below meth c T locs cells slots) (hx : p.tables.exec = Jvm.exec) {pc : Nat} {Ls : Array Slot} {st : List Value} (hZ : Z.Warmed39 s.vm) {own : String} {i : Nat} {y z : MethodName} {C : String} {bytes : ByteArray} {maxL : Nat} {ret : Option FieldType} {rm : Room} {as' : Array Value} {Q : Option Value → Heap → List Loc → Prop} {argsL rest : List Value} {cn : Nat} (hown : s.vm.findClass own = some m.cls) (w1 : (Jvm.Cond.methodLink own i y).before a0 Z = true) (w2 : (Jvm.Cond.declares y).before a0 Z = true) (w5 : (Jvm.Cond.interfaceMethod y.cls y.cls y.name y.desc).before args s = true) (w6 : (Jvm.Cond.selects C y z).before a0 Z = true) (w7 : (Jvm.Cond.instanceMethod z).before a0 Z = true) (w8 : (Jvm.Cond.publicMethod z).before a0 Z = true) (w9 : (Jvm.Cond.unhidden C y.name y.desc).before a0 Z = true) (wc : (Jvm.Cond.castable C y.cls).before a0 Z = true) (w3 : (Jvm.Cond.initialized z.cls).before a0 Z = true) (w4 : (Jvm.Cond.code z bytes maxL ret).before a0 Z = true) (hy : y.cls ≠ "java/lang/invoke/MethodHandle" ∧ y.cls ≠ "java/lang/invoke/VarHandle") (hM : MetFree l z (head1 [Jvm.Cond.code z bytes maxL ret] rm) (fun a U => a = as' ∧ Z.Warmed39 U.vm ∧ U.heap = h) (fun _ _ _ _ _ => True) (fun _ U o U' => ∃ v L, o = .returned v ∧ Q v U'.heap L ∧ FrameEnd U o U' L rm.cells rm.slots)) (eT : T.heap = h) {b : Addr} (E : Exa Z h b C) (hst : st = argsL.reverse ++ .ref b :: rest) (has : (.ref b :: argsL).toArray = as') (W : Nat) (q : Nat) (hq : pc + 5 = q) (hsz : Ls.size = c.maxLocals) (hlen : ∀ sig, parseMethodDescriptor y.desc = some sig → argsL.length = sig.parameters.length) (hW : (rest.map fun v => v.category).sum ≤ W) (hf : rm.frames + 1 ≤ R.frames) (hl : W + (maxL + 11) + rm.locals ≤ R.locals) (hc : cells + rm.cells ≤ R.cells) (hs : slots + rm.slots ≤ R.slots) (hd : decode c.code pc = .ok (.invokeinterface i cn, 5))
    (K : ∀ (v : Option Value) (T' : State) (L : List Loc), Stand p l e R s m args below meth c T' (locs ++ L) (cells + rm.cells) (slots + rm.slots) → Q v T'.heap L → Go p e below Ev T' (mkF m q Ls (v.toList ++ rest))) : Go p e below Ev T (mkF m pc Ls st) := by
  subst hq hst
  obtain ⟨cq, kq, qa, qb, qc⟩ := isOf hZ eT E
  obtain ⟨v, vm1, ⟨T', L', k', n'⟩, -, X', ⟨L, hQ, l', y', z'⟩, st'⟩ := X.interfaceBack hx hown (mvT hZ w1) (mvT hZ w2) w5 (mvT hZ w6) (mvT hZ w7) (mvT hZ w8) (mvT hZ w9) (mvT hZ wc) hy (backOf (W := W) hM hZ w4 w3 hf hl) qa qb qc (g := mkF m pc Ls (argsL.reverse ++ .ref b :: rest)) rfl hsz (Steps.refl _) (argsL := argsL) (rest := rest) hlen rfl (by show 2 * 0 + _ ≤ _; omega) hd (fun _ _ => ⟨has, eT, hc, hs⟩)
  dsimp only [Pt.U, Pt.locs, Pt.cells, Pt.slots] at X' l' y' z' st' hQ
  subst l' y' z'
  exact (K v T' L X' hQ).on fun t k => st'.trans k
theorem g_virtN (X : Stand p l e R s m args below meth c T locs cells slots) (hx : p.tables.exec = Jvm.exec) {pc : Nat} {Ls : Array Slot} {st : List Value} (hZ : Z.Warmed39 s.vm) {own : String} {i : Nat} {y z : MethodName} {C : String} {bytes : ByteArray} {maxL : Nat} {ret : Option FieldType} {rm : Room} {as' : Array Value} {Q : Option Value → Heap → List Loc → Prop} {argsL rest : List Value} {C1 : String} {x1 z1 : MethodName} (hown : s.vm.findClass own = some m.cls) (w1 : (Jvm.Cond.methodLink own i y).before a0 Z = true) (w2 : (Jvm.Cond.declares y).before a0 Z = true) (w5 : (Jvm.Cond.selects C1 x1 z1).before a0 Z = true) (hz1 : z1.cls = y.cls) (w6 : (Jvm.Cond.selects C y z).before a0 Z = true) (w7 : (Jvm.Cond.instanceMethod z).before a0 Z = true) (w3 : (Jvm.Cond.initialized z.cls).before a0 Z = true) (w4 : (Jvm.Cond.code z bytes maxL ret).before a0 Z = true) (hy : y.cls ≠ "java/lang/invoke/MethodHandle" ∧ y.cls ≠ "java/lang/invoke/VarHandle") (hM : MetFree l z (head1 [Jvm.Cond.code z bytes maxL ret] rm) (fun a U => a = as' ∧ Z.Warmed39 U.vm ∧ U.heap = h) (fun _ _ _ _ _ => True) (fun _ U o U' => ∃ v L, o = .returned v ∧ Q v U'.heap L ∧ FrameEnd U o U' L rm.cells rm.slots)) (eT : T.heap = h) {b : Addr} (E : Exa Z h b C) (hst : st = argsL.reverse ++ .ref b :: rest) (has : (.ref b :: argsL).toArray = as') (W : Nat) (q : Nat) (hq : pc + 3 = q) (hsz : Ls.size = c.maxLocals) (hlen : ∀ sig, parseMethodDescriptor y.desc = some sig → argsL.length = sig.parameters.length) (hW : (rest.map fun v => v.category).sum ≤ W) (hf : rm.frames + 1 ≤ R.frames) (hl : W + (maxL + 11) + rm.locals ≤ R.locals) (hc : cells + rm.cells ≤ R.cells) (hs : slots + rm.slots ≤ R.slots) (hd : decode c.code pc = .ok (.invokevirtual i, 3))
    (K : ∀ (v : Option Value) (T' : State) (L : List Loc), Stand p l e R s m args below meth c T' (locs ++ L) (cells + rm.cells) (slots + rm.slots) → Q v T'.heap L → Go p e below Ev T' (mkF m q Ls (v.toList ++ rest))) : Go p e below Ev T (mkF m pc Ls st) := by
  subst hq hst
  obtain ⟨cq, kq, qa, qb, qc⟩ := isOf hZ eT E
  obtain ⟨v, vm1, ⟨T', L', k', n'⟩, -, X', ⟨L, hQ, l', y', z'⟩, st'⟩ := X.virtualBack hx hown (mvT hZ w1) (mvT hZ w2) (own_nf (args := #[]) (mvT hZ w5) hz1) (mvT hZ w6) (mvT hZ w7) hy (backOf (W := W) hM hZ w4 w3 hf hl) qa qc (g := mkF m pc Ls (argsL.reverse ++ .ref b :: rest)) rfl hsz (Steps.refl _) (argsL := argsL) (rest := rest) hlen rfl (by show 2 * 0 + _ ≤ _; omega) hd (fun _ _ => ⟨has, eT, hc, hs⟩)
  dsimp only [Pt.U, Pt.locs, Pt.cells, Pt.slots] at X' l' y' z' st' hQ
  subst l' y' z'
  exact (K v T' L X' hQ).on fun t k => st'.trans k
theorem g_virtUp (X : Stand p l e R s m args below meth c T locs cells slots) (hx : p.tables.exec = Jvm.exec) {pc : Nat} {Ls : Array Slot} {st : List Value} (hZ : Z.Warmed39 s.vm) {own : String} {i : Nat} {y z : MethodName} {C : String} {bytes : ByteArray} {maxL : Nat} {ret : Option FieldType} {rm : Room} {as' : Array Value} {Q : Option Value → Heap → List Loc → Prop} {argsL rest : List Value} {owner : String} (hown : s.vm.findClass own = some m.cls) (w1 : (Jvm.Cond.methodLink own i y).before a0 Z = true) (w2 : (Jvm.Cond.sameMethod y.cls owner y.name y.desc).before a0 Z = true) (w5 : (Jvm.Cond.declares ⟨owner, y.name, y.desc⟩).before a0 Z = true) (w6 : (Jvm.Cond.selects C y z).before a0 Z = true) (w7 : (Jvm.Cond.instanceMethod z).before a0 Z = true) (w3 : (Jvm.Cond.initialized z.cls).before a0 Z = true) (w4 : (Jvm.Cond.code z bytes maxL ret).before a0 Z = true) (hy : owner ≠ "java/lang/invoke/MethodHandle" ∧ owner ≠ "java/lang/invoke/VarHandle") (hM : MetFree l z (head1 [Jvm.Cond.code z bytes maxL ret] rm) (fun a U => a = as' ∧ Z.Warmed39 U.vm ∧ U.heap = h) (fun _ _ _ _ _ => True) (fun _ U o U' => ∃ v L, o = .returned v ∧ Q v U'.heap L ∧ FrameEnd U o U' L rm.cells rm.slots)) (eT : T.heap = h) {b : Addr} (E : Exa Z h b C) (hst : st = argsL.reverse ++ .ref b :: rest) (has : (.ref b :: argsL).toArray = as') (W : Nat) (q : Nat) (hq : pc + 3 = q) (hsz : Ls.size = c.maxLocals) (hlen : ∀ sig, parseMethodDescriptor y.desc = some sig → argsL.length = sig.parameters.length) (hW : (rest.map fun v => v.category).sum ≤ W) (hf : rm.frames + 1 ≤ R.frames) (hl : W + (maxL + 11) + rm.locals ≤ R.locals) (hc : cells + rm.cells ≤ R.cells) (hs : slots + rm.slots ≤ R.slots) (hd : decode c.code pc = .ok (.invokevirtual i, 3))
    (K : ∀ (v : Option Value) (T' : State) (L : List Loc), Stand p l e R s m args below meth c T' (locs ++ L) (cells + rm.cells) (slots + rm.slots) → Q v T'.heap L → Go p e below Ev T' (mkF m q Ls (v.toList ++ rest))) : Go p e below Ev T (mkF m pc Ls st) := by
  subst hq hst
  obtain ⟨cq, kq, qa, qb, qc⟩ := isOf hZ eT E
  obtain ⟨v, vm1, ⟨T', L', k', n'⟩, -, X', ⟨L, hQ, l', y', z'⟩, st'⟩ := X.virtualBackUp hx hown (mvT hZ w1) (mvT hZ w2) (mvT hZ w5) hy (mvT hZ w6) (mvT hZ w7) (backOf (W := W) hM hZ w4 w3 hf hl) qa qc (g := mkF m pc Ls (argsL.reverse ++ .ref b :: rest)) rfl hsz (Steps.refl _) (argsL := argsL) (rest := rest) hlen rfl (by show 2 * 0 + _ ≤ _; omega) hd (fun _ _ => ⟨has, eT, hc, hs⟩)
  dsimp only [Pt.U, Pt.locs, Pt.cells, Pt.slots] at X' l' y' z' st' hQ
  subst l' y' z'
  exact (K v T' L X' hQ).on fun t k => st'.trans k
theorem g_staticUp (X : Stand p l e R s m args below meth c T locs cells slots) (hx : p.tables.exec = Jvm.exec) {pc : Nat} {Ls : Array Slot} {st : List Value} (hZ : Z.Warmed39 s.vm) {own : String} {i : Nat} {y : MethodName} {owner : String} {bytes : ByteArray} {maxL : Nat} {ret : Option FieldType} {rm : Room} {as' : Array Value} {Q : Option Value → Heap → List Loc → Prop} {argsL rest : List Value} (hown : s.vm.findClass own = some m.cls) (w1 : (Jvm.Cond.methodLink own i y).before a0 Z = true) (w2 : (Jvm.Cond.sameMethod y.cls owner y.name y.desc).before a0 Z = true) (w5 : (Jvm.Cond.static ⟨owner, y.name, y.desc⟩).before a0 Z = true) (w3 : (Jvm.Cond.initialized owner).before a0 Z = true) (w4 : (Jvm.Cond.code ⟨owner, y.name, y.desc⟩ bytes maxL ret).before a0 Z = true) (hy : owner ≠ "java/lang/invoke/MethodHandle" ∧ owner ≠ "java/lang/invoke/VarHandle") (hM : MetFree l ⟨owner, y.name, y.desc⟩ (head1 [Jvm.Cond.code ⟨owner, y.name, y.desc⟩ bytes maxL ret] rm) (fun a U => a = as' ∧ Z.Warmed39 U.vm ∧ U.heap = h) (fun _ _ _ _ _ => True) (fun _ U o U' => ∃ v L, o = .returned v ∧ Q v U'.heap L ∧ FrameEnd U o U' L rm.cells rm.slots)) (eT : T.heap = h) (hst : st = argsL.reverse ++ rest) (has : argsL.toArray = as') (W : Nat) (q : Nat) (hq : pc + 3 = q) (hsz : Ls.size = c.maxLocals) (hlen : ∀ sig, parseMethodDescriptor y.desc = some sig → argsL.length = sig.parameters.length) (hW : (rest.map fun v => v.category).sum ≤ W) (hf : rm.frames + 1 ≤ R.frames) (hl : W + (maxL + 11) + rm.locals ≤ R.locals) (hc : cells + rm.cells ≤ R.cells) (hs : slots + rm.slots ≤ R.slots) (hd : decode c.code pc = .ok (.invokestatic i, 3))
    (K : ∀ (v : Option Value) (T' : State) (L : List Loc), Stand p l e R s m args below meth c T' (locs ++ L) (cells + rm.cells) (slots + rm.slots) → Q v T'.heap L → Go p e below Ev T' (mkF m q Ls (v.toList ++ rest))) : Go p e below Ev T (mkF m pc Ls st) := by
  subst hq hst
  obtain ⟨mk, hnamed⟩ := Cond.code_named (mvT hZ w4 : (Jvm.Cond.code ⟨owner, y.name, y.desc⟩ bytes maxL ret).before args s = true)
  obtain ⟨methM, cM, hmethM, -, -, -, -, -, -, hsigM⟩ := Cond.code_spec (args := args) hnamed (mvT hZ w4)
  obtain ⟨v, vm1, ⟨T', L', k', n'⟩, -, X', ⟨L, hQ, l', y', z'⟩, st'⟩ := X.staticBackUp hx hown (mvT hZ w1) (mvT hZ w2) (mvT hZ w5) (mvT hZ w3) hnamed hmethM hsigM hy (backOf (W := W) hM hZ w4 w3 hf hl) (g := mkF m pc Ls (argsL.reverse ++ rest)) rfl hsz (Steps.refl _) (argsL := argsL) (rest := rest) hlen rfl (by show 2 * 0 + _ ≤ _; omega) hd (fun _ _ => ⟨has, eT, hc, hs⟩)
  dsimp only [Pt.U, Pt.locs, Pt.cells, Pt.slots] at X' l' y' z' st' hQ
  subst l' y' z'
  exact (K v T' L X' hQ).on fun t k => st'.trans k
theorem g_getS (X : Stand p l e R s m args below meth c T locs cells slots) (hx : p.tables.exec = Jvm.exec) {pc : Nat} {Ls : Array Slot} {st : List Value} (hZ : Z.Warmed39 s.vm) {own R0 O n d : String} {i : Nat} (hown : s.vm.findClass own = some m.cls) (w : (Jvm.Cond.fieldLink own i R0 n d).before a0 Z = true) (via : Via Z R0 O n d) (eT : T.heap = h) {v : Value} (F : Sta Z h O n d v) (q : Nat) (hd : decode c.code pc = .ok (.getstatic i, 3)) (hq : pc + 3 = q) (K : ∀ T', Stand p l e R s m args below meth c T' locs cells slots → T'.heap = h → Go p e below Ev T' (mkF m q Ls (v :: st))) : Go p e below Ev T (mkF m pc Ls st) := by
  subst hq
  obtain ⟨T', X', e', st'⟩ := getS X hx hZ hown (host := "") w via eT F (g := mkF m pc Ls st) rfl hd
  exact (K T' X' e').on st'
theorem g_newR (X : Stand p l e R s m args below meth c T locs cells slots) (hx : p.tables.exec = Jvm.exec) {pc : Nat} {Ls : Array Slot} {st : List Value} (hZ : Z.Warmed39 s.vm) {own C : String} {i : Nat} (hown : s.vm.findClass own = some m.cls) (w1 : (Jvm.Cond.classLink own i C).before a0 Z = true) (w2 : (Jvm.Cond.arrayOver (.object C)).before a0 Z = true) (eT : T.heap = h) {n : Int32} (hn : 0 ≤ n.toInt) {cap : Nat} (hcap : n.toInt ≤ cap) (hb : cap * 8 ≤ 536870912) (q : Nat) (hd : decode c.code pc = .ok (.anewarray i, 3)) (hq : pc + 3 = q) (hc : cells + 1 ≤ R.cells) (hl : slots + cap ≤ R.slots)
    (K : ∀ (T' : State) (h' : Heap) (k : ClassId) (a : Addr), a = h.size → Stand p l e R s m args below meth c T' locs (cells + 1) (slots + cap) → T'.heap = h' → Ext h h' → Arv Z h' a k (.object C) n [] .null → Ovr Z k C → Go p e below Ev T' (mkF m q Ls (.ref a :: st))) : Go p e below Ev T (mkF m pc Ls (.int n :: st)) := by
  subst hq
  have hn' : ¬ n < 0 := fun q => by have := (own_i0 n).1.mp q; omega
  obtain ⟨T', h', k, X', e', E', A', O', st'⟩ := newR X hx hZ hown w1 w2 eT (g := mkF m pc Ls (.int n :: st)) rfl hd rfl hn' (cap := cap) (by simp only [Int32.toNatClampNeg]; omega) hb hc hl
  exact (K T' h' k _ rfl X' e' E' (Arv.new A' hn') O').on st'
theorem g_aastoreN (X : Stand p l e R s m args below meth c T locs cells slots) (hx : p.tables.exec = Jvm.exec) {pc : Nat} {Ls : Array Slot} {st : List Value} (hZ : Z.Warmed39 s.vm) (eT : T.heap = h) {a : Addr} {k : ClassId} {ty : FieldType} (hty : ty.isReference = true) {z j : Int32} {vs : List Value} {dv : Value} (V : Arv Z h a k ty z vs dv) (hf : fits ty .null = true) (i : Nat) (hi : j.toInt = (i : Int)) (hz : j.toInt < z.toInt) (hv : i < vs.length) (q : Nat) (hd : decode c.code pc = .ok (.aastore, 1)) (hq : pc + 1 = q)
    (K : ∀ T' h', Stand p l e R s m args below meth c T' (locs ++ [⟨a, j.toNatClampNeg⟩]) cells slots → T'.heap = h' → Wr h h' a j.toNatClampNeg .null → Arv Z h' a k ty z (vs.set i .null) dv → Go p e below Ev T' (mkF m q Ls st)) : Go p e below Ev T (mkF m pc Ls (.null :: .int j :: .ref a :: st)) := by
  subst hq
  obtain ⟨cl, A, q1, S, q3, H, G⟩ := V
  have hj := own_at j (by omega) z hz S
  obtain ⟨T', h', X', e', W', st'⟩ := Jvm.RoadKit.stR X hx hZ eT A hj hty (Or.inl rfl) (g := mkF m pc Ls (.null :: .int j :: .ref a :: st)) rfl rfl hd
  exact (K T' h' X' e' W' (Arv.set A q1 S q3 H G hf W' i (own_ncl hi) hv)).on st'
theorem g_acmp_eq (X : Stand p l e R s m args below meth c T locs cells slots) (hx : p.tables.exec = Jvm.exec) {pc : Nat} {Ls : Array Slot} {st : List Value} {x y : Addr} {o : Int} (q1 q2 : Nat) (hd : decode c.code pc = .ok (.if_acmp .eq o, 3)) (ho : 0 ≤ (pc : Int) + o) (h1 : ((pc : Int) + o).toNat = q1) (h2 : pc + 3 = q2) (Kt : x = y → Go p e below Ev T (mkF m q1 Ls st)) (Kf : x ≠ y → Go p e below Ev T (mkF m q2 Ls st)) : Go p e below Ev T (mkF m pc Ls (.ref y :: .ref x :: st)) := by
  by_cases hc : x = y
  · exact (Kt hc).on fun _ k => Jvm.RoadKit.acmp (g := mkF m pc Ls (.ref y :: .ref x :: st)) X hx rfl rfl rfl (pc0 := pc) (pc' := q1) (same := true) rfl hd rfl (by simp [hc]) ho (by simp [acV, h1]) k
  · exact (Kf hc).on fun _ k => Jvm.RoadKit.acmp (g := mkF m pc Ls (.ref y :: .ref x :: st)) X hx rfl rfl rfl (pc0 := pc) (pc' := q2) (same := false) rfl hd rfl (by simp [hc]) ho (by simp [acV, h2]) k
theorem g_copy0 (X : Stand p l e R s m args below meth c T locs cells slots) (hx : p.tables.exec = Jvm.exec) {pc : Nat} {Ls : Array Slot} {st : List Value} (hZ : Z.Warmed39 s.vm) {own : String} {i : Nat} (hown : s.vm.findClass own = some m.cls) (w1 : (Jvm.Cond.methodLink own i Jvm.Stand.acN).before a0 Z = true) (w2 : (Jvm.Cond.native Jvm.Stand.acN).before a0 Z = true) (w3 : (Jvm.Cond.static Jvm.Stand.acN).before a0 Z = true) (w4 : (Jvm.Cond.initialized "java/lang/System").before a0 Z = true) (eT : T.heap = h) {a : Addr} {k : ClassId} {C : String} {z sp dp : Int32} {vs : List Value} {dv : Value} (A : Arv Z h a k (.object C) z vs dv) (b1 : 0 ≤ sp.toInt ∧ sp.toInt ≤ z.toInt) (b2 : 0 ≤ dp.toInt ∧ dp.toInt ≤ z.toInt) (W : Nat) (q : Nat) (hd : decode c.code pc = .ok (.invokestatic i, 3)) (hq : pc + 3 = q) (hsz : Ls.size = c.maxLocals) (hf : 1 ≤ R.frames) (hW : (st.map fun v => v.category).sum ≤ W) (hl : W + (nativeFrameWords "java/lang/System" "arraycopy" 5 + 11) ≤ R.locals)
    (K : ∀ T', Stand p l e R s m args below meth c T' locs cells slots → T'.heap = h → Go p e below Ev T' (mkF m q Ls st)) : Go p e below Ev T (mkF m pc Ls (.int 0 :: .int dp :: .ref a :: .int sp :: .ref a :: st)) := by
  subst hq
  obtain ⟨cs, As, q1, S, q3, H, G⟩ := A
  obtain ⟨os, ks, hks, sc, hsk⟩ := State.isArrayOf_alike hZ.alike As.2.1
  have g1 : ¬ sp < 0 := fun q => by have := (own_i0 sp).1.mp q; omega
  have g2 : ¬ dp < 0 := fun q => by have := (own_i0 dp).1.mp q; omega
  have l0 : (0 : Int32).toInt = 0 := by decide
  have zz : (z.toNatClampNeg : Int) = z.toInt := by simp only [Int32.toNatClampNeg]; omega
  obtain ⟨vm₁, hW₁, X', st'⟩ := X.arraycopyK hx hown (mvT hZ w1) (mvT hZ w2) (mvT hZ w3) (mvT hZ w4) (n := 0) (srcPos := sp) (destPos := dp) (by rw [eT]; exact As.1) (by rw [eT]; exact As.1) os os As.2.2 As.2.2 hks hks hsk hsk (by simp [refKind]) g1 g2 (by decide) (by rw [l0, S]; omega) (by rw [l0, S]; omega) (fun vm₁ hw i hi => absurd hi (Nat.not_lt_zero _)) (g := mkF m pc Ls (.int 0 :: .int dp :: .ref a :: .int sp :: .ref a :: st)) rfl hsz rfl hd hf (by show 2 * 0 + _ + _ ≤ _; omega)
  have e1 : copied cs cs sp dp 0 = cs := rfl
  have e2 : copyLocs a dp.toNatClampNeg (0 : Int32).toNatClampNeg = [] := rfl
  rw [e1] at X' st'
  rw [e2, List.append_nil] at X'
  refine (K _ X' ?_).on st'
  show T.heap.setIfInBounds a cs = h
  rw [eT]
  refine Array.ext_getElem? fun i => ?_
  by_cases e : a = i
  · subst e
    rw [Array.getElem?_setIfInBounds_self_of_lt (Array.getElem?_eq_some_iff.mp As.1).1, As.1]
  · rw [Array.getElem?_setIfInBounds_ne e]
end OwnKit3
theorem own_setnull : ∀ (n i : Nat), (List.replicate n Value.null).set i .null = List.replicate n .null
  | 0, i => rfl
  | n + 1, 0 => rfl
  | n + 1, i + 1 => by
    show Value.null :: (List.replicate n Value.null).set i .null = _
    rw [own_setnull n i]; rfl
theorem own_te {x y : Int32} (h : x.toInt = y.toInt) : x = y := Int32.toInt_inj.mp h
theorem own_ss (x : Int32) : x - x = 0 := by
  have e := c_isub x x
  have r := rng32 (x - x)
  have l0 : (0 : Int32).toInt = 0 := by decide
  exact own_te (by omega)
theorem own_sss (x y : Int32) : x - (x - y) = y := by
  have e := c_isub x y
  have r := rng32 (x - y)
  have e2 := c_isub x (x - y)
  have r2 := rng32 (x - (x - y))
  have r3 := rng32 y
  exact own_te (by omega)
theorem own_a0 (x : Int32) : x + 0 = x := by
  have e := c_iadd x 0
  have r := rng32 (x + 0)
  have r3 := rng32 x
  have l0 : (0 : Int32).toInt = 0 := by decide
  exact own_te (by omega)
theorem own_as (x y : Int32) : y + (x - y) = x := by
  have e := c_isub x y
  have r := rng32 (x - y)
  have e2 := c_iadd y (x - y)
  have r2 := rng32 (y + (x - y))
  have r3 := rng32 x
  exact own_te (by omega)
theorem d4_0 : decode jdk_22_method_1_code 0 = .ok (.aload_n 0, 1) := by decide +kernel
theorem d4_1 : decode jdk_22_method_1_code 1 = .ok (.invokespecial 1, 3) := by decide +kernel
theorem d4_4 : decode jdk_22_method_1_code 4 = .ok (.return_, 1) := by decide +kernel
theorem own_pf0 : plainFor (⟨"java/util/AbstractCollection", "<init>", "()V"⟩ : MethodName) = true := plainFor_of_name (by first | (simp [plainName, overriddenIn]; done) | decide +kernel)
def Q_rmAC (n0 : Nat) (h0 : Heap) (v : Option Value) (h : Heap) (L : List Loc) : Prop := v = none ∧ Fr n0 L ∧ h = h0
theorem ef_rmAC (a : Addr) (m : MethodId) : entryFrame m #[(.ref a)] 1 = mkF m 0 #[.val (.ref a)] [] := by first | (simp [entryFrame, mkF, argsToLocals, Value.category]; done) | rfl
set_option maxRecDepth 65536 in
set_option maxHeartbeats 40000000 in
theorem rmAC (l : Launch) (Z : State) (a0 : Array Value) (hw : ∀ d ∈ tables_1, d.before a0 Z = true) (a : Addr) (h0 : Heap) (n0 : Nat) (Z0 : n0 ≤ h0.size)  :
    MetFree l (⟨"java/util/AbstractCollection", "<init>", "()V"⟩ : MethodName) (head1 [Jvm.Cond.code (⟨"java/util/AbstractCollection", "<init>", "()V"⟩ : MethodName) jdk_22_method_1_code 1 none] ({ frames := 1, cells := 0, slots := 0, locals := 12 } : Room)) (fun as_ U => as_ = #[(.ref a)] ∧ Z.Warmed39 U.vm ∧ U.heap = h0) (fun _ _ _ _ _ => True) (fun _ U o U' => ∃ v L, o = .returned v ∧ Q_rmAC n0 h0 v U'.heap L ∧ FrameEnd U o U' L ({ frames := 1, cells := 0, slots := 0, locals := 12 } : Room).cells ({ frames := 1, cells := 0, slots := 0, locals := 12 } : Room).slots) := by
  refine own_met own_pf0 (ef_rmAC a) ?_
  intro p e s m below meth c T0 X0 hx hby hml hret hlk hnm hown hZ e0
  have N0 := Fr.nil n0
  refine g_aloadN X0 hx 1 (hb hby d4_0) rfl rfl rfl ?_
  refine g_objinit X0 hx hZ hown (hw _ (List.mem_of_getElem? (i := 24) rfl)) (hw _ (List.mem_of_getElem? (i := 25) rfl)) (hw _ (List.mem_of_getElem? (i := 26) rfl)) e0 0 4 (hb hby d4_1) rfl (by rw [hml]; rfl) (by decide) (Nat.le_refl _) (by decide) ?_
  intro T1 X1 e1
  exact g_retV X1 hx hlk hret (hb hby d4_4) (by decide) (by decide) e1 ⟨rfl, N0, rfl⟩
theorem d3_0 : decode jdk_39_method_1_code 0 = .ok (.aload_n 0, 1) := by decide +kernel
theorem d3_1 : decode jdk_39_method_1_code 1 = .ok (.invokespecial 1, 3) := by decide +kernel
theorem d3_4 : decode jdk_39_method_1_code 4 = .ok (.aload_n 0, 1) := by decide +kernel
theorem d3_5 : decode jdk_39_method_1_code 5 = .ok (.iconst 0, 1) := by decide +kernel
theorem d3_6 : decode jdk_39_method_1_code 6 = .ok (.putfield 7, 3) := by decide +kernel
theorem d3_9 : decode jdk_39_method_1_code 9 = .ok (.return_, 1) := by decide +kernel
theorem own_pf1 : plainFor (⟨"java/util/AbstractList", "<init>", "()V"⟩ : MethodName) = true := plainFor_of_name (by first | (simp [plainName, overriddenIn]; done) | decide +kernel)
def Q_rmABa (Z : State) (a : Addr) (n0 : Nat) (h0 : Heap) (v : Option Value) (h : Heap) (L : List Loc) : Prop := v = none ∧ Fr n0 L ∧ Keep h0 h [a] ∧ Fld Z h a "java/util/AbstractList" "modCount" "I" (.int (0 : Int32)) ∧ Fld Z h a "java/util/ArrayList" "elementData" "[Ljava/lang/Object;" .null ∧ Fld Z h a "java/util/ArrayList" "size" "I" (.int (0 : Int32))
theorem ef_rmABa (a : Addr) (m : MethodId) : entryFrame m #[(.ref a)] 1 = mkF m 0 #[.val (.ref a)] [] := by first | (simp [entryFrame, mkF, argsToLocals, Value.category]; done) | rfl
set_option maxRecDepth 65536 in
set_option maxHeartbeats 40000000 in
theorem rmABa (l : Launch) (Z : State) (a0 : Array Value) (hw : ∀ d ∈ tables_1, d.before a0 Z = true) (a : Addr) (h0 : Heap) (n0 : Nat) (Z0 : n0 ≤ h0.size) (Ea : Exa Z h0 a "java/util/ArrayList") (ga : n0 ≤ a) (F0 : Fld Z h0 a "java/util/AbstractList" "modCount" "I" (.int (0 : Int32))) (F1 : Fld Z h0 a "java/util/ArrayList" "elementData" "[Ljava/lang/Object;" .null) (F2 : Fld Z h0 a "java/util/ArrayList" "size" "I" (.int (0 : Int32))) :
    MetFree l (⟨"java/util/AbstractList", "<init>", "()V"⟩ : MethodName) (head1 [Jvm.Cond.code (⟨"java/util/AbstractList", "<init>", "()V"⟩ : MethodName) jdk_39_method_1_code 1 none] ({ frames := 2, cells := 0, slots := 0, locals := 24 } : Room)) (fun as_ U => as_ = #[(.ref a)] ∧ Z.Warmed39 U.vm ∧ U.heap = h0) (fun _ _ _ _ _ => True) (fun _ U o U' => ∃ v L, o = .returned v ∧ Q_rmABa Z a n0 h0 v U'.heap L ∧ FrameEnd U o U' L ({ frames := 2, cells := 0, slots := 0, locals := 24 } : Room).cells ({ frames := 2, cells := 0, slots := 0, locals := 24 } : Room).slots) := by
  refine own_met own_pf1 (ef_rmABa a) ?_
  intro p e s m below meth c T0 X0 hx hby hml hret hlk hnm hown hZ e0
  have N0 := Fr.nil n0
  refine g_aloadN X0 hx 1 (hb hby d3_0) rfl rfl rfl ?_
  refine g_init X0 hx hZ rfl hown (hw _ (List.mem_of_getElem? (i := 18) rfl)) (hw _ (List.mem_of_getElem? (i := 19) rfl)) (hw _ (List.mem_of_getElem? (i := 22) rfl)) (hw _ (List.mem_of_getElem? (i := 23) rfl)) (by decide) (rmAC l Z a0 hw a h0 n0 Z0) e0 (a := a) (argsL := []) (rest := []) rfl rfl 0 4 rfl (by rw [hml]; rfl) (lenOf own_pd0 rfl) (Nat.le_refl _) (by decide) (by decide) (by decide) (by decide) (hb hby d3_1) ?_
  intro v2 T2 L2 X2 hQ2
  obtain ⟨rfl, N2, q2⟩ := hQ2
  have N3 := Fr.app N0 N2
  show Go p e below _ T2 (mkF m 4 #[.val (.ref a)] [])
  refine g_aloadN X2 hx 5 (hb hby d3_4) rfl rfl rfl ?_
  refine g_iconst X2 hx (0 : Int32) 6 (hb hby d3_5) rfl (by decide) ?_
  refine g_putF X2 hx hZ hown (hw _ (List.mem_of_getElem? (i := 27) rfl)) Via.refl q2 F0 Ea (Or.inl (hw _ (List.mem_of_getElem? (i := 28) rfl))) (hw _ (List.mem_of_getElem? (i := 7) rfl)) (ty := .int) (by decide) rfl rfl 9 (hb hby d3_6) rfl ?_
  intro T4 h4 X4 e4 W4
  have F5 : Fld Z h4 a "java/util/AbstractList" "modCount" "I" (.int (0 : Int32)) := F0.same W4
  have F6 := Ea.wr W4
  have F7 := F1.other W4 (Or.inr (slot_ne (Or.inl (hw _ (List.mem_of_getElem? (i := 31) rfl))) (Or.inl (hw _ (List.mem_of_getElem? (i := 28) rfl))) (by decide) (t := (.array (.object "java/lang/Object"))) (t' := .int) (by decide) (by decide)))
  have F8 := F2.other W4 (Or.inr (slot_ne (Or.inl (hw _ (List.mem_of_getElem? (i := 54) rfl))) (Or.inl (hw _ (List.mem_of_getElem? (i := 28) rfl))) (by decide) (t := .int) (t' := .int) (by decide) (by decide)))
  have K9 := (Keep.refl h0 [a]).wr W4 (Or.inl (List.mem_of_getElem? (i := 0) rfl))
  have N10 := Fr.snoc X4 N3 ga
  have Z11 : n0 ≤ h4.size := by rw [W4.size]; exact Z0
  exact g_retV X4 hx hlk hret (hb hby d3_9) (by decide) (by decide) e4 ⟨rfl, N10, K9, F5, F7, F8⟩
def Q_rmABs (Z : State) (a : Addr) (n0 : Nat) (h0 : Heap) (v : Option Value) (h : Heap) (L : List Loc) : Prop := v = none ∧ Fr n0 L ∧ Keep h0 h [a] ∧ Fld Z h a "java/util/AbstractList" "modCount" "I" (.int (0 : Int32)) ∧ Fld Z h a "java/util/ArrayList$SubList" "root" "Ljava/util/ArrayList;" .null ∧ Fld Z h a "java/util/ArrayList$SubList" "parent" "Ljava/util/ArrayList$SubList;" .null ∧ Fld Z h a "java/util/ArrayList$SubList" "offset" "I" (.int (0 : Int32)) ∧ Fld Z h a "java/util/ArrayList$SubList" "size" "I" (.int (0 : Int32))
theorem ef_rmABs (a : Addr) (m : MethodId) : entryFrame m #[(.ref a)] 1 = mkF m 0 #[.val (.ref a)] [] := by first | (simp [entryFrame, mkF, argsToLocals, Value.category]; done) | rfl
set_option maxRecDepth 65536 in
set_option maxHeartbeats 40000000 in
theorem rmABs (l : Launch) (Z : State) (a0 : Array Value) (hw : ∀ d ∈ tables_1, d.before a0 Z = true) (a : Addr) (h0 : Heap) (n0 : Nat) (Z0 : n0 ≤ h0.size) (Ea : Exa Z h0 a "java/util/ArrayList$SubList") (ga : n0 ≤ a) (F0 : Fld Z h0 a "java/util/AbstractList" "modCount" "I" (.int (0 : Int32))) (F1 : Fld Z h0 a "java/util/ArrayList$SubList" "root" "Ljava/util/ArrayList;" .null) (F2 : Fld Z h0 a "java/util/ArrayList$SubList" "parent" "Ljava/util/ArrayList$SubList;" .null) (F3 : Fld Z h0 a "java/util/ArrayList$SubList" "offset" "I" (.int (0 : Int32))) (F4 : Fld Z h0 a "java/util/ArrayList$SubList" "size" "I" (.int (0 : Int32))) :
    MetFree l (⟨"java/util/AbstractList", "<init>", "()V"⟩ : MethodName) (head1 [Jvm.Cond.code (⟨"java/util/AbstractList", "<init>", "()V"⟩ : MethodName) jdk_39_method_1_code 1 none] ({ frames := 2, cells := 0, slots := 0, locals := 24 } : Room)) (fun as_ U => as_ = #[(.ref a)] ∧ Z.Warmed39 U.vm ∧ U.heap = h0) (fun _ _ _ _ _ => True) (fun _ U o U' => ∃ v L, o = .returned v ∧ Q_rmABs Z a n0 h0 v U'.heap L ∧ FrameEnd U o U' L ({ frames := 2, cells := 0, slots := 0, locals := 24 } : Room).cells ({ frames := 2, cells := 0, slots := 0, locals := 24 } : Room).slots) := by
  refine own_met own_pf1 (ef_rmABs a) ?_
  intro p e s m below meth c T0 X0 hx hby hml hret hlk hnm hown hZ e0
  have N0 := Fr.nil n0
  refine g_aloadN X0 hx 1 (hb hby d3_0) rfl rfl rfl ?_
  refine g_init X0 hx hZ rfl hown (hw _ (List.mem_of_getElem? (i := 18) rfl)) (hw _ (List.mem_of_getElem? (i := 19) rfl)) (hw _ (List.mem_of_getElem? (i := 22) rfl)) (hw _ (List.mem_of_getElem? (i := 23) rfl)) (by decide) (rmAC l Z a0 hw a h0 n0 Z0) e0 (a := a) (argsL := []) (rest := []) rfl rfl 0 4 rfl (by rw [hml]; rfl) (lenOf own_pd0 rfl) (Nat.le_refl _) (by decide) (by decide) (by decide) (by decide) (hb hby d3_1) ?_
  intro v12 T12 L12 X12 hQ12
  obtain ⟨rfl, N12, q12⟩ := hQ12
  have N13 := Fr.app N0 N12
  show Go p e below _ T12 (mkF m 4 #[.val (.ref a)] [])
  refine g_aloadN X12 hx 5 (hb hby d3_4) rfl rfl rfl ?_
  refine g_iconst X12 hx (0 : Int32) 6 (hb hby d3_5) rfl (by decide) ?_
  refine g_putF X12 hx hZ hown (hw _ (List.mem_of_getElem? (i := 27) rfl)) Via.refl q12 F0 Ea (Or.inl (hw _ (List.mem_of_getElem? (i := 77) rfl))) (hw _ (List.mem_of_getElem? (i := 68) rfl)) (ty := .int) (by decide) rfl rfl 9 (hb hby d3_6) rfl ?_
  intro T14 h14 X14 e14 W14
  have F15 : Fld Z h14 a "java/util/AbstractList" "modCount" "I" (.int (0 : Int32)) := F0.same W14
  have F16 := Ea.wr W14
  have F17 := F1.other W14 (Or.inr (slot_ne (Or.inr (hw _ (List.mem_of_getElem? (i := 79) rfl))) (Or.inl (hw _ (List.mem_of_getElem? (i := 77) rfl))) (by decide) (t := (.object "java/util/ArrayList")) (t' := .int) (by decide) (by decide)))
  have F18 := F2.other W14 (Or.inr (slot_ne (Or.inr (hw _ (List.mem_of_getElem? (i := 81) rfl))) (Or.inl (hw _ (List.mem_of_getElem? (i := 77) rfl))) (by decide) (t := (.object "java/util/ArrayList$SubList")) (t' := .int) (by decide) (by decide)))
  have F19 := F3.other W14 (Or.inr (slot_ne (Or.inr (hw _ (List.mem_of_getElem? (i := 83) rfl))) (Or.inl (hw _ (List.mem_of_getElem? (i := 77) rfl))) (by decide) (t := .int) (t' := .int) (by decide) (by decide)))
  have F20 := F4.other W14 (Or.inr (slot_ne (Or.inl (hw _ (List.mem_of_getElem? (i := 85) rfl))) (Or.inl (hw _ (List.mem_of_getElem? (i := 77) rfl))) (by decide) (t := .int) (t' := .int) (by decide) (by decide)))
  have K21 := (Keep.refl h0 [a]).wr W14 (Or.inl (List.mem_of_getElem? (i := 0) rfl))
  have N22 := Fr.snoc X14 N13 ga
  have Z23 : n0 ≤ h14.size := by rw [W14.size]; exact Z0
  exact g_retV X14 hx hlk hret (hb hby d3_9) (by decide) (by decide) e14 ⟨rfl, N22, K21, F15, F17, F18, F19, F20⟩
theorem d2_0 : decode jdk_38_method_2_code 0 = .ok (.aload_n 0, 1) := by decide +kernel
theorem d2_1 : decode jdk_38_method_2_code 1 = .ok (.invokespecial 1, 3) := by decide +kernel
theorem d2_4 : decode jdk_38_method_2_code 4 = .ok (.aload_n 0, 1) := by decide +kernel
theorem d2_5 : decode jdk_38_method_2_code 5 = .ok (.getstatic 39, 3) := by decide +kernel
theorem d2_8 : decode jdk_38_method_2_code 8 = .ok (.putfield 9, 3) := by decide +kernel
theorem d2_11 : decode jdk_38_method_2_code 11 = .ok (.return_, 1) := by decide +kernel
theorem own_pf2 : plainFor (⟨"java/util/ArrayList", "<init>", "()V"⟩ : MethodName) = true := plainFor_of_name (by first | (simp [plainName, overriddenIn]; done) | decide +kernel)
def Q_rmAL (Z : State) (a em : Addr) (n0 : Nat) (h0 : Heap) (v : Option Value) (h : Heap) (L : List Loc) : Prop := v = none ∧ Fr n0 L ∧ Keep h0 h [a] ∧ Fld Z h a "java/util/AbstractList" "modCount" "I" (.int (0 : Int32)) ∧ Fld Z h a "java/util/ArrayList" "elementData" "[Ljava/lang/Object;" (.ref em) ∧ Fld Z h a "java/util/ArrayList" "size" "I" (.int (0 : Int32))
theorem ef_rmAL (a : Addr) (m : MethodId) : entryFrame m #[(.ref a)] 1 = mkF m 0 #[.val (.ref a)] [] := by first | (simp [entryFrame, mkF, argsToLocals, Value.category]; done) | rfl
set_option maxRecDepth 65536 in
set_option maxHeartbeats 40000000 in
theorem rmAL (l : Launch) (Z : State) (a0 : Array Value) (hw : ∀ d ∈ tables_1, d.before a0 Z = true) (a : Addr) (h0 : Heap) (n0 : Nat) (Z0 : n0 ≤ h0.size) (em : Addr) (O0 : Old Z n0 h0) (S0 : Sta Z Z.heap "java/util/ArrayList" "DEFAULTCAPACITY_EMPTY_ELEMENTDATA" "[Ljava/lang/Object;" (.ref em)) (Ea : Exa Z h0 a "java/util/ArrayList") (ga : n0 ≤ a) (F0 : Fld Z h0 a "java/util/AbstractList" "modCount" "I" (.int (0 : Int32))) (F1 : Fld Z h0 a "java/util/ArrayList" "elementData" "[Ljava/lang/Object;" .null) (F2 : Fld Z h0 a "java/util/ArrayList" "size" "I" (.int (0 : Int32))) :
    MetFree l (⟨"java/util/ArrayList", "<init>", "()V"⟩ : MethodName) (head1 [Jvm.Cond.code (⟨"java/util/ArrayList", "<init>", "()V"⟩ : MethodName) jdk_38_method_2_code 1 none] ({ frames := 3, cells := 0, slots := 0, locals := 36 } : Room)) (fun as_ U => as_ = #[(.ref a)] ∧ Z.Warmed39 U.vm ∧ U.heap = h0) (fun _ _ _ _ _ => True) (fun _ U o U' => ∃ v L, o = .returned v ∧ Q_rmAL Z a em n0 h0 v U'.heap L ∧ FrameEnd U o U' L ({ frames := 3, cells := 0, slots := 0, locals := 36 } : Room).cells ({ frames := 3, cells := 0, slots := 0, locals := 36 } : Room).slots) := by
  refine own_met own_pf2 (ef_rmAL a) ?_
  intro p e s m below meth c T0 X0 hx hby hml hret hlk hnm hown hZ e0
  have N0 := Fr.nil n0
  refine g_aloadN X0 hx 1 (hb hby d2_0) rfl rfl rfl ?_
  refine g_init X0 hx hZ rfl hown (hw _ (List.mem_of_getElem? (i := 12) rfl)) (hw _ (List.mem_of_getElem? (i := 13) rfl)) (hw _ (List.mem_of_getElem? (i := 16) rfl)) (hw _ (List.mem_of_getElem? (i := 17) rfl)) (by decide) (rmABa l Z a0 hw a h0 n0 Z0 Ea ga F0 F1 F2) e0 (a := a) (argsL := []) (rest := []) rfl rfl 0 4 rfl (by rw [hml]; rfl) (lenOf own_pd0 rfl) (Nat.le_refl _) (by decide) (by decide) (by decide) (by decide) (hb hby d2_1) ?_
  intro v24 T24 L24 X24 hQ24
  obtain ⟨rfl, N24, K24, G0_24, G1_24, G2_24⟩ := hQ24
  have N25 := Fr.app N0 N24
  have F26 := Ea.keep K24
  have F27 := O0.keep K24 (allS ga all0)
  have Z31 : n0 ≤ T24.heap.size := Nat.le_trans Z0 K24.1
  have K32 := (Keep.refl h0 [a]).trans K24 (allS (Or.inl (List.mem_of_getElem? (i := 0) rfl)) all0)
  show Go p e below _ T24 (mkF m 4 #[.val (.ref a)] [])
  refine g_aloadN X24 hx 5 (hb hby d2_4) rfl rfl rfl ?_
  refine g_getS X24 hx hZ hown (hw _ (List.mem_of_getElem? (i := 29) rfl)) Via.refl rfl (Sta.ext F27.2 S0) 8 (hb hby d2_5) rfl ?_
  intro T33 X33 e33
  refine g_putF X33 hx hZ hown (hw _ (List.mem_of_getElem? (i := 30) rfl)) Via.refl e33 G1_24 F26 (Or.inl (hw _ (List.mem_of_getElem? (i := 31) rfl))) (hw _ (List.mem_of_getElem? (i := 7) rfl)) (ty := (.array (.object "java/lang/Object"))) (by decide) rfl rfl 11 (hb hby d2_8) rfl ?_
  intro T34 h34 X34 e34 W34
  have F35 : Fld Z h34 a "java/util/ArrayList" "elementData" "[Ljava/lang/Object;" (.ref em) := G1_24.same W34
  have F36 := F26.wr W34
  have F37 := F27.wr W34 ga
  have F38 := G0_24.other W34 (Or.inr (slot_ne (Or.inl (hw _ (List.mem_of_getElem? (i := 28) rfl))) (Or.inl (hw _ (List.mem_of_getElem? (i := 31) rfl))) (by decide) (t := .int) (t' := (.array (.object "java/lang/Object"))) (by decide) (by decide)))
  have F39 := G2_24.other W34 (Or.inr (slot_ne (Or.inl (hw _ (List.mem_of_getElem? (i := 54) rfl))) (Or.inl (hw _ (List.mem_of_getElem? (i := 31) rfl))) (by decide) (t := .int) (t' := (.array (.object "java/lang/Object"))) (by decide) (by decide)))
  have K40 := K32.wr W34 (Or.inl (List.mem_of_getElem? (i := 0) rfl))
  have N41 := Fr.snoc X34 N25 ga
  have Z42 : n0 ≤ h34.size := by rw [W34.size]; exact Z31
  exact g_retV X34 hx hlk hret (hb hby d2_11) (by decide) (by decide) e34 ⟨rfl, N41, K40, F38, F35, F39⟩
theorem d6_0 : decode prog_10_method_2_code 0 = .ok (.aload_n 0, 1) := by decide +kernel
theorem d6_1 : decode prog_10_method_2_code 1 = .ok (.invokespecial 12, 3) := by decide +kernel
theorem d6_4 : decode prog_10_method_2_code 4 = .ok (.aload_n 0, 1) := by decide +kernel
theorem d6_5 : decode prog_10_method_2_code 5 = .ok (.aload_n 1, 1) := by decide +kernel
theorem d6_6 : decode prog_10_method_2_code 6 = .ok (.putfield 15, 3) := by decide +kernel
theorem d6_9 : decode prog_10_method_2_code 9 = .ok (.return_, 1) := by decide +kernel
theorem own_pf3 : plainFor (⟨"com/example/firm_commit/firmcommit/Synchronizations", "<init>", "(Ljava/util/List;)V"⟩ : MethodName) = true := plainFor_of_name (by first | (simp [plainName, overriddenIn]; done) | decide +kernel)
def Q_rmS2 (Z : State) (a b : Addr) (n0 : Nat) (h0 : Heap) (v : Option Value) (h : Heap) (L : List Loc) : Prop := v = none ∧ Fr n0 L ∧ Keep h0 h [a] ∧ Fld Z h a "com/example/firm_commit/firmcommit/Synchronizations" "_registered" "Ljava/util/List;" (.ref b)
theorem ef_rmS2 (a b : Addr) (m : MethodId) : entryFrame m #[(.ref a), (.ref b)] 2 = mkF m 0 #[.val (.ref a), .val (.ref b)] [] := by first | (simp [entryFrame, mkF, argsToLocals, Value.category]; done) | rfl
set_option maxRecDepth 65536 in
set_option maxHeartbeats 40000000 in
theorem rmS2 (l : Launch) (Z : State) (a0 : Array Value) (hw : ∀ d ∈ tables_1, d.before a0 Z = true) (a b : Addr) (h0 : Heap) (n0 : Nat) (Z0 : n0 ≤ h0.size) (Ea : Exa Z h0 a "com/example/firm_commit/firmcommit/Synchronizations") (ga : n0 ≤ a) (F0 : Fld Z h0 a "com/example/firm_commit/firmcommit/Synchronizations" "_registered" "Ljava/util/List;" .null) :
    MetFree l (⟨"com/example/firm_commit/firmcommit/Synchronizations", "<init>", "(Ljava/util/List;)V"⟩ : MethodName) (head1 [Jvm.Cond.code (⟨"com/example/firm_commit/firmcommit/Synchronizations", "<init>", "(Ljava/util/List;)V"⟩ : MethodName) prog_10_method_2_code 2 none] ({ frames := 1, cells := 0, slots := 0, locals := 12 } : Room)) (fun as_ U => as_ = #[(.ref a), (.ref b)] ∧ Z.Warmed39 U.vm ∧ U.heap = h0) (fun _ _ _ _ _ => True) (fun _ U o U' => ∃ v L, o = .returned v ∧ Q_rmS2 Z a b n0 h0 v U'.heap L ∧ FrameEnd U o U' L ({ frames := 1, cells := 0, slots := 0, locals := 12 } : Room).cells ({ frames := 1, cells := 0, slots := 0, locals := 12 } : Room).slots) := by
  refine own_met own_pf3 (ef_rmS2 a b) ?_
  intro p e s m below meth c T0 X0 hx hby hml hret hlk hnm hown hZ e0
  have N0 := Fr.nil n0
  refine g_aloadN X0 hx 1 (hb hby d6_0) rfl rfl rfl ?_
  refine g_objinit X0 hx hZ hown (hw _ (List.mem_of_getElem? (i := 35) rfl)) (hw _ (List.mem_of_getElem? (i := 25) rfl)) (hw _ (List.mem_of_getElem? (i := 26) rfl)) e0 0 4 (hb hby d6_1) rfl (by rw [hml]; rfl) (by decide) (Nat.le_refl _) (by decide) ?_
  intro T43 X43 e43
  refine g_aloadN X43 hx 5 (hb hby d6_4) rfl rfl rfl ?_
  refine g_aloadN X43 hx 6 (hb hby d6_5) rfl rfl rfl ?_
  refine g_putF X43 hx hZ hown (hw _ (List.mem_of_getElem? (i := 36) rfl)) Via.refl e43 F0 Ea (Or.inr ⟨(hw _ (List.mem_of_getElem? (i := 37) rfl)), rfl, hnm⟩) (hw _ (List.mem_of_getElem? (i := 1) rfl)) (ty := (.object "java/util/List")) (by decide) rfl rfl 9 (hb hby d6_6) rfl ?_
  intro T44 h44 X44 e44 W44
  have F45 : Fld Z h44 a "com/example/firm_commit/firmcommit/Synchronizations" "_registered" "Ljava/util/List;" (.ref b) := F0.same W44
  have F46 := Ea.wr W44
  have K47 := (Keep.refl h0 [a]).wr W44 (Or.inl (List.mem_of_getElem? (i := 0) rfl))
  have N48 := Fr.snoc X44 N0 ga
  have Z49 : n0 ≤ h44.size := by rw [W44.size]; exact Z0
  exact g_retV X44 hx hlk hret (hb hby d6_9) (by decide) (by decide) e44 ⟨rfl, N48, K47, F45⟩
theorem d1_0 : decode prog_10_method_1_code 0 = .ok (.aload_n 0, 1) := by decide +kernel
theorem d1_1 : decode prog_10_method_1_code 1 = .ok (.new 1, 3) := by decide +kernel
theorem d1_4 : decode prog_10_method_1_code 4 = .ok (.dup, 1) := by decide +kernel
theorem d1_5 : decode prog_10_method_1_code 5 = .ok (.invokespecial 3, 3) := by decide +kernel
theorem d1_8 : decode prog_10_method_1_code 8 = .ok (.invokespecial 7, 3) := by decide +kernel
theorem d1_11 : decode prog_10_method_1_code 11 = .ok (.return_, 1) := by decide +kernel
theorem own_pf4 : plainFor (⟨"com/example/firm_commit/firmcommit/Synchronizations", "<init>", "()V"⟩ : MethodName) = true := plainFor_of_name (by first | (simp [plainName, overriddenIn]; done) | decide +kernel)
def Q_rmS1 (Z : State) (a em : Addr) (n0 : Nat) (h0 : Heap) (v : Option Value) (h : Heap) (L : List Loc) : Prop := v = none ∧ Fr n0 L ∧ Keep h0 h [a] ∧ ∃ b : Addr, Fld Z h a "com/example/firm_commit/firmcommit/Synchronizations" "_registered" "Ljava/util/List;" (.ref b) ∧ Exa Z h b "java/util/ArrayList" ∧ n0 ≤ b ∧ h0.size ≤ b ∧ Fld Z h b "java/util/AbstractList" "modCount" "I" (.int (0 : Int32)) ∧ Fld Z h b "java/util/ArrayList" "elementData" "[Ljava/lang/Object;" (.ref em) ∧ Fld Z h b "java/util/ArrayList" "size" "I" (.int (0 : Int32))
theorem ef_rmS1 (a : Addr) (m : MethodId) : entryFrame m #[(.ref a)] 1 = mkF m 0 #[.val (.ref a)] [] := by first | (simp [entryFrame, mkF, argsToLocals, Value.category]; done) | rfl
set_option maxRecDepth 65536 in
set_option maxHeartbeats 40000000 in
theorem rmS1 (l : Launch) (Z : State) (a0 : Array Value) (hw : ∀ d ∈ tables_1, d.before a0 Z = true) (a : Addr) (h0 : Heap) (n0 : Nat) (Z0 : n0 ≤ h0.size) (em : Addr) (O0 : Old Z n0 h0) (S0 : Sta Z Z.heap "java/util/ArrayList" "DEFAULTCAPACITY_EMPTY_ELEMENTDATA" "[Ljava/lang/Object;" (.ref em)) (Ea : Exa Z h0 a "com/example/firm_commit/firmcommit/Synchronizations") (ga : n0 ≤ a) (F0 : Fld Z h0 a "com/example/firm_commit/firmcommit/Synchronizations" "_registered" "Ljava/util/List;" .null) :
    MetFree l (⟨"com/example/firm_commit/firmcommit/Synchronizations", "<init>", "()V"⟩ : MethodName) (head1 [Jvm.Cond.code (⟨"com/example/firm_commit/firmcommit/Synchronizations", "<init>", "()V"⟩ : MethodName) prog_10_method_1_code 1 none] ({ frames := 4, cells := 1, slots := 3, locals := 50 } : Room)) (fun as_ U => as_ = #[(.ref a)] ∧ Z.Warmed39 U.vm ∧ U.heap = h0) (fun _ _ _ _ _ => True) (fun _ U o U' => ∃ v L, o = .returned v ∧ Q_rmS1 Z a em n0 h0 v U'.heap L ∧ FrameEnd U o U' L ({ frames := 4, cells := 1, slots := 3, locals := 50 } : Room).cells ({ frames := 4, cells := 1, slots := 3, locals := 50 } : Room).slots) := by
  refine own_met own_pf4 (ef_rmS1 a) ?_
  intro p e s m below meth c T0 X0 hx hby hml hret hlk hnm hown hZ e0
  have N0 := Fr.nil n0
  refine g_aloadN X0 hx 1 (hb hby d1_0) rfl rfl rfl ?_
  refine g_new X0 hx hZ hown (hw _ (List.mem_of_getElem? (i := 6) rfl)) (hw _ (List.mem_of_getElem? (i := 7) rfl)) (hw _ (List.mem_of_getElem? (i := 8) rfl)) e0 4 (hb hby d1_1) rfl (by decide) (by decide) ?_
  intro T50 h50 a50 g50 X50 e50 E50 A50 D50
  have ne51 : a ≠ a50 := Nat.ne_of_lt (by rw [g50]; exact Ea.lt)
  have ge52 : n0 ≤ a50 := by rw [g50]; exact Z0
  have sz53 : h0.size ≤ a50 := by rw [g50]; exact (Keep.refl h0 [a]).1
  have F54 := Ea.ext E50
  have F55 := O0.ext E50
  have F56 := F0.ext E50
  have K57 := (Keep.refl h0 [a]).ext E50
  have Z58 : n0 ≤ h50.size := Nat.le_trans Z0 E50.1
  have F59 : Fld Z h50 a50 "java/util/AbstractList" "modCount" "I" (.int (0 : Int32)) := D50 (Or.inl (hw _ (List.mem_of_getElem? (i := 28) rfl))) (ty := .int) (by decide)
  have F60 : Fld Z h50 a50 "java/util/ArrayList" "elementData" "[Ljava/lang/Object;" .null := D50 (Or.inl (hw _ (List.mem_of_getElem? (i := 31) rfl))) (ty := (.array (.object "java/lang/Object"))) (by decide)
  have F61 : Fld Z h50 a50 "java/util/ArrayList" "size" "I" (.int (0 : Int32)) := D50 (Or.inl (hw _ (List.mem_of_getElem? (i := 54) rfl))) (ty := .int) (by decide)
  refine g_dup X50 hx 5 (hb hby d1_4) rfl rfl ?_
  refine g_init X50 hx hZ rfl hown (hw _ (List.mem_of_getElem? (i := 9) rfl)) (hw _ (List.mem_of_getElem? (i := 10) rfl)) (hw _ (List.mem_of_getElem? (i := 8) rfl)) (hw _ (List.mem_of_getElem? (i := 11) rfl)) (by decide) (rmAL l Z a0 hw a50 h50 n0 Z58 em F55 S0 A50 ge52 F59 F60 F61) e50 (a := a50) (argsL := []) (rest := [(.ref a50), (.ref a)]) rfl rfl 2 8 rfl (by rw [hml]; rfl) (lenOf own_pd0 rfl) (Nat.le_refl _) (by decide) (by decide) (by decide) (by decide) (hb hby d1_5) ?_
  intro v62 T62 L62 X62 hQ62
  obtain ⟨rfl, N62, K62, G0_62, G1_62, G2_62⟩ := hQ62
  have N63 := Fr.app N0 N62
  have F64 := F54.keep K62
  have F65 := F55.keep K62 (allS ge52 all0)
  have F66 := F56.keep K62 (ninS ne51 nin0)
  have F67 := A50.keep K62
  have Z71 : n0 ≤ T62.heap.size := Nat.le_trans Z58 K62.1
  have K72 := K57.trans K62 (allS (Or.inr sz53) all0)
  show Go p e below _ T62 (mkF m 8 #[.val (.ref a)] [(.ref a50), (.ref a)])
  refine g_init X62 hx hZ rfl hown (hw _ (List.mem_of_getElem? (i := 32) rfl)) (hw _ (List.mem_of_getElem? (i := 33) rfl)) (hw _ (List.mem_of_getElem? (i := 2) rfl)) (hw _ (List.mem_of_getElem? (i := 34) rfl)) (by decide) (rmS2 l Z a0 hw a a50 T62.heap n0 Z71 F64 ga F66) rfl (a := a) (argsL := [(.ref a50)]) (rest := []) rfl rfl 0 11 rfl (by rw [hml]; rfl) (lenOf own_pd1 rfl) (Nat.le_refl _) (by decide) (by decide) (by decide) (by decide) (hb hby d1_8) ?_
  intro v73 T73 L73 X73 hQ73
  obtain ⟨rfl, N73, K73, G0_73⟩ := hQ73
  have N74 := Fr.app N63 N73
  have F75 := F64.keep K73
  have F76 := F65.keep K73 (allS ga all0)
  have F78 := F67.keep K73
  have F79 := G0_62.keep K73 (ninS (Ne.symm ne51) nin0)
  have F80 := G1_62.keep K73 (ninS (Ne.symm ne51) nin0)
  have F81 := G2_62.keep K73 (ninS (Ne.symm ne51) nin0)
  have Z82 : n0 ≤ T73.heap.size := Nat.le_trans Z71 K73.1
  have K83 := K72.trans K73 (allS (Or.inl (List.mem_of_getElem? (i := 0) rfl)) all0)
  show Go p e below _ T73 (mkF m 11 #[.val (.ref a)] [])
  exact g_retV X73 hx hlk hret (hb hby d1_11) (by decide) (by decide) rfl ⟨rfl, N74, K83, a50, G0_73, F78, ge52, sz53, F79, F80, F81⟩
theorem d8_0 : decode jdk_38_method_8_code 0 = .ok (.aload_n 0, 1) := by decide +kernel
theorem d8_1 : decode jdk_38_method_8_code 1 = .ok (.getfield 48, 3) := by decide +kernel
theorem d8_4 : decode jdk_38_method_8_code 4 = .ok (.ireturn, 1) := by decide +kernel
theorem own_pf5 : plainFor (⟨"java/util/ArrayList", "size", "()I"⟩ : MethodName) = true := plainFor_of_name (by first | (simp [plainName, overriddenIn]; done) | decide +kernel)
def Q_rmSz (sz : Int32) (n0 : Nat) (h0 : Heap) (v : Option Value) (h : Heap) (L : List Loc) : Prop := v = some (.int sz) ∧ Fr n0 L ∧ h = h0
theorem ef_rmSz (b : Addr) (m : MethodId) : entryFrame m #[(.ref b)] 1 = mkF m 0 #[.val (.ref b)] [] := by first | (simp [entryFrame, mkF, argsToLocals, Value.category]; done) | rfl
set_option maxRecDepth 65536 in
set_option maxHeartbeats 40000000 in
theorem rmSz (l : Launch) (Z : State) (a0 : Array Value) (hw : ∀ d ∈ tables_1, d.before a0 Z = true) (b : Addr) (h0 : Heap) (n0 : Nat) (Z0 : n0 ≤ h0.size) (sz : Int32) (F0 : Fld Z h0 b "java/util/ArrayList" "size" "I" (.int sz)) :
    MetFree l (⟨"java/util/ArrayList", "size", "()I"⟩ : MethodName) (head1 [Jvm.Cond.code (⟨"java/util/ArrayList", "size", "()I"⟩ : MethodName) jdk_38_method_8_code 1 (some .int)] ({ frames := 0, cells := 0, slots := 0, locals := 0 } : Room)) (fun as_ U => as_ = #[(.ref b)] ∧ Z.Warmed39 U.vm ∧ U.heap = h0) (fun _ _ _ _ _ => True) (fun _ U o U' => ∃ v L, o = .returned v ∧ Q_rmSz sz n0 h0 v U'.heap L ∧ FrameEnd U o U' L ({ frames := 0, cells := 0, slots := 0, locals := 0 } : Room).cells ({ frames := 0, cells := 0, slots := 0, locals := 0 } : Room).slots) := by
  refine own_met own_pf5 (ef_rmSz b) ?_
  intro p e s m below meth c T0 X0 hx hby hml hret hlk hnm hown hZ e0
  have N0 := Fr.nil n0
  refine g_aloadN X0 hx 1 (hb hby d8_0) rfl rfl rfl ?_
  refine g_getF X0 hx hZ hown (hw _ (List.mem_of_getElem? (i := 53) rfl)) Via.refl e0 F0 4 (hb hby d8_1) rfl ?_
  intro T84 X84 e84
  exact g_retI X84 hx hlk hret (hb hby d8_4) (by decide) (by decide) e84 ⟨rfl, N0, rfl⟩
theorem d10_0 : decode jdk_39_method_15_code 0 = .ok (.iload_n 0, 1) := by decide +kernel
theorem d10_1 : decode jdk_39_method_15_code 1 = .ok (.ifCond .ge 30, 3) := by decide +kernel
theorem d10_4 : decode jdk_39_method_15_code 4 = .ok (.new 101, 3) := by decide +kernel
theorem d10_7 : decode jdk_39_method_15_code 7 = .ok (.dup, 1) := by decide +kernel
theorem d10_8 : decode jdk_39_method_15_code 8 = .ok (.new 103, 3) := by decide +kernel
theorem d10_11 : decode jdk_39_method_15_code 11 = .ok (.dup, 1) := by decide +kernel
theorem d10_12 : decode jdk_39_method_15_code 12 = .ok (.invokespecial 105, 3) := by decide +kernel
theorem d10_15 : decode jdk_39_method_15_code 15 = .ok (.ldc 106, 2) := by decide +kernel
theorem d10_17 : decode jdk_39_method_15_code 17 = .ok (.invokevirtual 108, 3) := by decide +kernel
theorem d10_20 : decode jdk_39_method_15_code 20 = .ok (.iload_n 0, 1) := by decide +kernel
theorem d10_21 : decode jdk_39_method_15_code 21 = .ok (.invokevirtual 112, 3) := by decide +kernel
theorem d10_24 : decode jdk_39_method_15_code 24 = .ok (.invokevirtual 115, 3) := by decide +kernel
theorem d10_27 : decode jdk_39_method_15_code 27 = .ok (.invokespecial 119, 3) := by decide +kernel
theorem d10_30 : decode jdk_39_method_15_code 30 = .ok (.athrow, 1) := by decide +kernel
theorem d10_31 : decode jdk_39_method_15_code 31 = .ok (.iload_n 1, 1) := by decide +kernel
theorem d10_32 : decode jdk_39_method_15_code 32 = .ok (.iload_n 2, 1) := by decide +kernel
theorem d10_33 : decode jdk_39_method_15_code 33 = .ok (.if_icmp .le 30, 3) := by decide +kernel
theorem d10_36 : decode jdk_39_method_15_code 36 = .ok (.new 101, 3) := by decide +kernel
theorem d10_39 : decode jdk_39_method_15_code 39 = .ok (.dup, 1) := by decide +kernel
theorem d10_40 : decode jdk_39_method_15_code 40 = .ok (.new 103, 3) := by decide +kernel
theorem d10_43 : decode jdk_39_method_15_code 43 = .ok (.dup, 1) := by decide +kernel
theorem d10_44 : decode jdk_39_method_15_code 44 = .ok (.invokespecial 105, 3) := by decide +kernel
theorem d10_47 : decode jdk_39_method_15_code 47 = .ok (.ldc 122, 2) := by decide +kernel
theorem d10_49 : decode jdk_39_method_15_code 49 = .ok (.invokevirtual 108, 3) := by decide +kernel
theorem d10_52 : decode jdk_39_method_15_code 52 = .ok (.iload_n 1, 1) := by decide +kernel
theorem d10_53 : decode jdk_39_method_15_code 53 = .ok (.invokevirtual 112, 3) := by decide +kernel
theorem d10_56 : decode jdk_39_method_15_code 56 = .ok (.invokevirtual 115, 3) := by decide +kernel
theorem d10_59 : decode jdk_39_method_15_code 59 = .ok (.invokespecial 119, 3) := by decide +kernel
theorem d10_62 : decode jdk_39_method_15_code 62 = .ok (.athrow, 1) := by decide +kernel
theorem d10_63 : decode jdk_39_method_15_code 63 = .ok (.iload_n 0, 1) := by decide +kernel
theorem d10_64 : decode jdk_39_method_15_code 64 = .ok (.iload_n 1, 1) := by decide +kernel
theorem d10_65 : decode jdk_39_method_15_code 65 = .ok (.if_icmp .le 44, 3) := by decide +kernel
theorem d10_68 : decode jdk_39_method_15_code 68 = .ok (.new 124, 3) := by decide +kernel
theorem d10_71 : decode jdk_39_method_15_code 71 = .ok (.dup, 1) := by decide +kernel
theorem d10_72 : decode jdk_39_method_15_code 72 = .ok (.new 103, 3) := by decide +kernel
theorem d10_75 : decode jdk_39_method_15_code 75 = .ok (.dup, 1) := by decide +kernel
theorem d10_76 : decode jdk_39_method_15_code 76 = .ok (.invokespecial 105, 3) := by decide +kernel
theorem d10_79 : decode jdk_39_method_15_code 79 = .ok (.ldc 126, 2) := by decide +kernel
theorem d10_81 : decode jdk_39_method_15_code 81 = .ok (.invokevirtual 108, 3) := by decide +kernel
theorem d10_84 : decode jdk_39_method_15_code 84 = .ok (.iload_n 0, 1) := by decide +kernel
theorem d10_85 : decode jdk_39_method_15_code 85 = .ok (.invokevirtual 112, 3) := by decide +kernel
theorem d10_88 : decode jdk_39_method_15_code 88 = .ok (.ldc 128, 2) := by decide +kernel
theorem d10_90 : decode jdk_39_method_15_code 90 = .ok (.invokevirtual 108, 3) := by decide +kernel
theorem d10_93 : decode jdk_39_method_15_code 93 = .ok (.iload_n 1, 1) := by decide +kernel
theorem d10_94 : decode jdk_39_method_15_code 94 = .ok (.invokevirtual 112, 3) := by decide +kernel
theorem d10_97 : decode jdk_39_method_15_code 97 = .ok (.ldc 130, 2) := by decide +kernel
theorem d10_99 : decode jdk_39_method_15_code 99 = .ok (.invokevirtual 108, 3) := by decide +kernel
theorem d10_102 : decode jdk_39_method_15_code 102 = .ok (.invokevirtual 115, 3) := by decide +kernel
theorem d10_105 : decode jdk_39_method_15_code 105 = .ok (.invokespecial 132, 3) := by decide +kernel
theorem d10_108 : decode jdk_39_method_15_code 108 = .ok (.athrow, 1) := by decide +kernel
theorem d10_109 : decode jdk_39_method_15_code 109 = .ok (.return_, 1) := by decide +kernel
theorem own_pf6 : plainFor (⟨"java/util/AbstractList", "subListRangeCheck", "(III)V"⟩ : MethodName) = true := plainFor_of_name (by first | (simp [plainName, overriddenIn]; done) | decide +kernel)
def Q_rmCk (n0 : Nat) (h0 : Heap) (v : Option Value) (h : Heap) (L : List Loc) : Prop := v = none ∧ Fr n0 L ∧ h = h0
theorem ef_rmCk (x y z : Int32) (m : MethodId) : entryFrame m #[(.int x), (.int y), (.int z)] 3 = mkF m 0 #[.val (.int x), .val (.int y), .val (.int z)] [] := by first | (simp [entryFrame, mkF, argsToLocals, Value.category]; done) | rfl
set_option maxRecDepth 65536 in
set_option maxHeartbeats 40000000 in
theorem rmCk (l : Launch) (Z : State) (a0 : Array Value) (hw : ∀ d ∈ tables_1, d.before a0 Z = true) (x y z : Int32) (h0 : Heap) (n0 : Nat) (Z0 : n0 ≤ h0.size) (b1 : 0 ≤ x.toInt) (b2 : x.toInt ≤ y.toInt) (b3 : y.toInt ≤ z.toInt) :
    MetFree l (⟨"java/util/AbstractList", "subListRangeCheck", "(III)V"⟩ : MethodName) (head1 [Jvm.Cond.code (⟨"java/util/AbstractList", "subListRangeCheck", "(III)V"⟩ : MethodName) jdk_39_method_15_code 3 none] ({ frames := 0, cells := 0, slots := 0, locals := 0 } : Room)) (fun as_ U => as_ = #[(.int x), (.int y), (.int z)] ∧ Z.Warmed39 U.vm ∧ U.heap = h0) (fun _ _ _ _ _ => True) (fun _ U o U' => ∃ v L, o = .returned v ∧ Q_rmCk n0 h0 v U'.heap L ∧ FrameEnd U o U' L ({ frames := 0, cells := 0, slots := 0, locals := 0 } : Room).cells ({ frames := 0, cells := 0, slots := 0, locals := 0 } : Room).slots) := by
  refine own_met own_pf6 (ef_rmCk x y z) ?_
  intro p e s m below meth c T0 X0 hx hby hml hret hlk hnm hown hZ e0
  have N0 := Fr.nil n0
  refine g_iloadN X0 hx 1 (hb hby d10_0) rfl rfl ?_
  refine g_if_ge X0 hx 31 4 (hb hby d10_1) (by decide) (by decide) rfl (fun c85 => ?_) (fun c85 => ?_)
  · skip
    refine g_iloadN X0 hx 32 (hb hby d10_31) rfl rfl ?_
    refine g_iloadN X0 hx 33 (hb hby d10_32) rfl rfl ?_
    refine g_ic_le X0 hx 63 36 (hb hby d10_33) (by decide) (by decide) rfl (fun c86 => ?_) (fun c86 => ?_)
    · skip
      refine g_iloadN X0 hx 64 (hb hby d10_63) rfl rfl ?_
      refine g_iloadN X0 hx 65 (hb hby d10_64) rfl rfl ?_
      refine g_ic_le X0 hx 109 68 (hb hby d10_65) (by decide) (by decide) rfl (fun c87 => ?_) (fun c87 => ?_)
      · skip
        exact g_retV X0 hx hlk hret (hb hby d10_109) (by decide) (by decide) e0 ⟨rfl, N0, rfl⟩
      · skip
        exfalso; omega
    · skip
      exfalso; omega
  · skip
    exfalso; omega
theorem d11_0 : decode jdk_130_method_1_code 0 = .ok (.aload_n 0, 1) := by decide +kernel
theorem d11_1 : decode jdk_130_method_1_code 1 = .ok (.invokespecial 1, 3) := by decide +kernel
theorem d11_4 : decode jdk_130_method_1_code 4 = .ok (.aload_n 0, 1) := by decide +kernel
theorem d11_5 : decode jdk_130_method_1_code 5 = .ok (.aload_n 1, 1) := by decide +kernel
theorem d11_6 : decode jdk_130_method_1_code 6 = .ok (.putfield 7, 3) := by decide +kernel
theorem d11_9 : decode jdk_130_method_1_code 9 = .ok (.aload_n 0, 1) := by decide +kernel
theorem d11_10 : decode jdk_130_method_1_code 10 = .ok (.aconst_null, 1) := by decide +kernel
theorem d11_11 : decode jdk_130_method_1_code 11 = .ok (.putfield 13, 3) := by decide +kernel
theorem d11_14 : decode jdk_130_method_1_code 14 = .ok (.aload_n 0, 1) := by decide +kernel
theorem d11_15 : decode jdk_130_method_1_code 15 = .ok (.iload_n 2, 1) := by decide +kernel
theorem d11_16 : decode jdk_130_method_1_code 16 = .ok (.putfield 17, 3) := by decide +kernel
theorem d11_19 : decode jdk_130_method_1_code 19 = .ok (.aload_n 0, 1) := by decide +kernel
theorem d11_20 : decode jdk_130_method_1_code 20 = .ok (.iload_n 3, 1) := by decide +kernel
theorem d11_21 : decode jdk_130_method_1_code 21 = .ok (.iload_n 2, 1) := by decide +kernel
theorem d11_22 : decode jdk_130_method_1_code 22 = .ok (.isub, 1) := by decide +kernel
theorem d11_23 : decode jdk_130_method_1_code 23 = .ok (.putfield 21, 3) := by decide +kernel
theorem d11_26 : decode jdk_130_method_1_code 26 = .ok (.aload_n 0, 1) := by decide +kernel
theorem d11_27 : decode jdk_130_method_1_code 27 = .ok (.aload_n 1, 1) := by decide +kernel
theorem d11_28 : decode jdk_130_method_1_code 28 = .ok (.getfield 24, 3) := by decide +kernel
theorem d11_31 : decode jdk_130_method_1_code 31 = .ok (.putfield 29, 3) := by decide +kernel
theorem d11_34 : decode jdk_130_method_1_code 34 = .ok (.return_, 1) := by decide +kernel
theorem own_pf7 : plainFor (⟨"java/util/ArrayList$SubList", "<init>", "(Ljava/util/ArrayList;II)V"⟩ : MethodName) = true := plainFor_of_name (by first | (simp [plainName, overriddenIn]; done) | decide +kernel)
def Q_rmSLi (Z : State) (a b : Addr) (x y mc : Int32) (n0 : Nat) (h0 : Heap) (v : Option Value) (h : Heap) (L : List Loc) : Prop := v = none ∧ Fr n0 L ∧ Keep h0 h [a] ∧ Fld Z h a "java/util/AbstractList" "modCount" "I" (.int mc) ∧ Fld Z h a "java/util/ArrayList$SubList" "root" "Ljava/util/ArrayList;" (.ref b) ∧ Fld Z h a "java/util/ArrayList$SubList" "parent" "Ljava/util/ArrayList$SubList;" .null ∧ Fld Z h a "java/util/ArrayList$SubList" "offset" "I" (.int x) ∧ Fld Z h a "java/util/ArrayList$SubList" "size" "I" (.int (y - x))
theorem ef_rmSLi (a b : Addr) (x y : Int32) (m : MethodId) : entryFrame m #[(.ref a), (.ref b), (.int x), (.int y)] 4 = mkF m 0 #[.val (.ref a), .val (.ref b), .val (.int x), .val (.int y)] [] := by first | (simp [entryFrame, mkF, argsToLocals, Value.category]; done) | rfl
set_option maxRecDepth 65536 in
set_option maxHeartbeats 40000000 in
theorem rmSLi (l : Launch) (Z : State) (a0 : Array Value) (hw : ∀ d ∈ tables_1, d.before a0 Z = true) (a b : Addr) (x y : Int32) (h0 : Heap) (n0 : Nat) (Z0 : n0 ≤ h0.size) (mc : Int32) (Ea : Exa Z h0 a "java/util/ArrayList$SubList") (ga : n0 ≤ a) (nab : a ≠ b) (F0 : Fld Z h0 a "java/util/AbstractList" "modCount" "I" (.int (0 : Int32))) (F1 : Fld Z h0 a "java/util/ArrayList$SubList" "root" "Ljava/util/ArrayList;" .null) (F2 : Fld Z h0 a "java/util/ArrayList$SubList" "parent" "Ljava/util/ArrayList$SubList;" .null) (F3 : Fld Z h0 a "java/util/ArrayList$SubList" "offset" "I" (.int (0 : Int32))) (F4 : Fld Z h0 a "java/util/ArrayList$SubList" "size" "I" (.int (0 : Int32))) (Fb : Fld Z h0 b "java/util/AbstractList" "modCount" "I" (.int mc)) :
    MetFree l (⟨"java/util/ArrayList$SubList", "<init>", "(Ljava/util/ArrayList;II)V"⟩ : MethodName) (head1 [Jvm.Cond.code (⟨"java/util/ArrayList$SubList", "<init>", "(Ljava/util/ArrayList;II)V"⟩ : MethodName) jdk_130_method_1_code 4 none] ({ frames := 3, cells := 0, slots := 0, locals := 36 } : Room)) (fun as_ U => as_ = #[(.ref a), (.ref b), (.int x), (.int y)] ∧ Z.Warmed39 U.vm ∧ U.heap = h0) (fun _ _ _ _ _ => True) (fun _ U o U' => ∃ v L, o = .returned v ∧ Q_rmSLi Z a b x y mc n0 h0 v U'.heap L ∧ FrameEnd U o U' L ({ frames := 3, cells := 0, slots := 0, locals := 36 } : Room).cells ({ frames := 3, cells := 0, slots := 0, locals := 36 } : Room).slots) := by
  refine own_met own_pf7 (ef_rmSLi a b x y) ?_
  intro p e s m below meth c T0 X0 hx hby hml hret hlk hnm hown hZ e0
  have N0 := Fr.nil n0
  refine g_aloadN X0 hx 1 (hb hby d11_0) rfl rfl rfl ?_
  refine g_init X0 hx hZ rfl hown (hw _ (List.mem_of_getElem? (i := 74) rfl)) (hw _ (List.mem_of_getElem? (i := 13) rfl)) (hw _ (List.mem_of_getElem? (i := 16) rfl)) (hw _ (List.mem_of_getElem? (i := 17) rfl)) (by decide) (rmABs l Z a0 hw a h0 n0 Z0 Ea ga F0 F1 F2 F3 F4) e0 (a := a) (argsL := []) (rest := []) rfl rfl 0 4 rfl (by rw [hml]; rfl) (lenOf own_pd0 rfl) (Nat.le_refl _) (by decide) (by decide) (by decide) (by decide) (hb hby d11_1) ?_
  intro v88 T88 L88 X88 hQ88
  obtain ⟨rfl, N88, K88, G0_88, G1_88, G2_88, G3_88, G4_88⟩ := hQ88
  have N89 := Fr.app N0 N88
  have F90 := Ea.keep K88
  have F96 := Fb.keep K88 (ninS (Ne.symm nab) nin0)
  have Z97 : n0 ≤ T88.heap.size := Nat.le_trans Z0 K88.1
  have K98 := (Keep.refl h0 [a]).trans K88 (allS (Or.inl (List.mem_of_getElem? (i := 0) rfl)) all0)
  show Go p e below _ T88 (mkF m 4 #[.val (.ref a), .val (.ref b), .val (.int x), .val (.int y)] [])
  refine g_aloadN X88 hx 5 (hb hby d11_4) rfl rfl rfl ?_
  refine g_aloadN X88 hx 6 (hb hby d11_5) rfl rfl rfl ?_
  refine g_putF X88 hx hZ hown (hw _ (List.mem_of_getElem? (i := 78) rfl)) Via.refl rfl G1_88 F90 (Or.inr ⟨(hw _ (List.mem_of_getElem? (i := 79) rfl)), rfl, hnm⟩) (hw _ (List.mem_of_getElem? (i := 68) rfl)) (ty := (.object "java/util/ArrayList")) (by decide) rfl rfl 9 (hb hby d11_6) rfl ?_
  intro T99 h99 X99 e99 W99
  have F100 : Fld Z h99 a "java/util/ArrayList$SubList" "root" "Ljava/util/ArrayList;" (.ref b) := G1_88.same W99
  have F101 := F90.wr W99
  have F102 := F96.other W99 (Or.inl (Ne.symm nab))
  have F103 := G0_88.other W99 (Or.inr (slot_ne (Or.inl (hw _ (List.mem_of_getElem? (i := 77) rfl))) (Or.inr (hw _ (List.mem_of_getElem? (i := 79) rfl))) (by decide) (t := .int) (t' := (.object "java/util/ArrayList")) (by decide) (by decide)))
  have F104 := G2_88.other W99 (Or.inr (slot_ne (Or.inr (hw _ (List.mem_of_getElem? (i := 81) rfl))) (Or.inr (hw _ (List.mem_of_getElem? (i := 79) rfl))) (by decide) (t := (.object "java/util/ArrayList$SubList")) (t' := (.object "java/util/ArrayList")) (by decide) (by decide)))
  have F105 := G3_88.other W99 (Or.inr (slot_ne (Or.inr (hw _ (List.mem_of_getElem? (i := 83) rfl))) (Or.inr (hw _ (List.mem_of_getElem? (i := 79) rfl))) (by decide) (t := .int) (t' := (.object "java/util/ArrayList")) (by decide) (by decide)))
  have F106 := G4_88.other W99 (Or.inr (slot_ne (Or.inl (hw _ (List.mem_of_getElem? (i := 85) rfl))) (Or.inr (hw _ (List.mem_of_getElem? (i := 79) rfl))) (by decide) (t := .int) (t' := (.object "java/util/ArrayList")) (by decide) (by decide)))
  have K107 := K98.wr W99 (Or.inl (List.mem_of_getElem? (i := 0) rfl))
  have N108 := Fr.snoc X99 N89 ga
  have Z109 : n0 ≤ h99.size := by rw [W99.size]; exact Z97
  refine g_aloadN X99 hx 10 (hb hby d11_9) rfl rfl rfl ?_
  refine g_null X99 hx 11 (hb hby d11_10) rfl ?_
  refine g_putF X99 hx hZ hown (hw _ (List.mem_of_getElem? (i := 80) rfl)) Via.refl e99 F104 F101 (Or.inr ⟨(hw _ (List.mem_of_getElem? (i := 81) rfl)), rfl, hnm⟩) (hw _ (List.mem_of_getElem? (i := 68) rfl)) (ty := (.object "java/util/ArrayList$SubList")) (by decide) rfl rfl 14 (hb hby d11_11) rfl ?_
  intro T110 h110 X110 e110 W110
  have F111 : Fld Z h110 a "java/util/ArrayList$SubList" "parent" "Ljava/util/ArrayList$SubList;" .null := F104.same W110
  have F112 := F101.wr W110
  have F113 := F102.other W110 (Or.inl (Ne.symm nab))
  have F114 := F103.other W110 (Or.inr (slot_ne (Or.inl (hw _ (List.mem_of_getElem? (i := 77) rfl))) (Or.inr (hw _ (List.mem_of_getElem? (i := 81) rfl))) (by decide) (t := .int) (t' := (.object "java/util/ArrayList$SubList")) (by decide) (by decide)))
  have F115 := F105.other W110 (Or.inr (slot_ne (Or.inr (hw _ (List.mem_of_getElem? (i := 83) rfl))) (Or.inr (hw _ (List.mem_of_getElem? (i := 81) rfl))) (by decide) (t := .int) (t' := (.object "java/util/ArrayList$SubList")) (by decide) (by decide)))
  have F116 := F106.other W110 (Or.inr (slot_ne (Or.inl (hw _ (List.mem_of_getElem? (i := 85) rfl))) (Or.inr (hw _ (List.mem_of_getElem? (i := 81) rfl))) (by decide) (t := .int) (t' := (.object "java/util/ArrayList$SubList")) (by decide) (by decide)))
  have F117 := F100.other W110 (Or.inr (slot_ne (Or.inr (hw _ (List.mem_of_getElem? (i := 79) rfl))) (Or.inr (hw _ (List.mem_of_getElem? (i := 81) rfl))) (by decide) (t := (.object "java/util/ArrayList")) (t' := (.object "java/util/ArrayList$SubList")) (by decide) (by decide)))
  have K118 := K107.wr W110 (Or.inl (List.mem_of_getElem? (i := 0) rfl))
  have N119 := Fr.snoc X110 N108 ga
  have Z120 : n0 ≤ h110.size := by rw [W110.size]; exact Z109
  refine g_aloadN X110 hx 15 (hb hby d11_14) rfl rfl rfl ?_
  refine g_iloadN X110 hx 16 (hb hby d11_15) rfl rfl ?_
  refine g_putF X110 hx hZ hown (hw _ (List.mem_of_getElem? (i := 82) rfl)) Via.refl e110 F115 F112 (Or.inr ⟨(hw _ (List.mem_of_getElem? (i := 83) rfl)), rfl, hnm⟩) (hw _ (List.mem_of_getElem? (i := 68) rfl)) (ty := .int) (by decide) rfl rfl 19 (hb hby d11_16) rfl ?_
  intro T121 h121 X121 e121 W121
  have F122 : Fld Z h121 a "java/util/ArrayList$SubList" "offset" "I" (.int x) := F115.same W121
  have F123 := F112.wr W121
  have F124 := F113.other W121 (Or.inl (Ne.symm nab))
  have F125 := F114.other W121 (Or.inr (slot_ne (Or.inl (hw _ (List.mem_of_getElem? (i := 77) rfl))) (Or.inr (hw _ (List.mem_of_getElem? (i := 83) rfl))) (by decide) (t := .int) (t' := .int) (by decide) (by decide)))
  have F126 := F116.other W121 (Or.inr (slot_ne (Or.inl (hw _ (List.mem_of_getElem? (i := 85) rfl))) (Or.inr (hw _ (List.mem_of_getElem? (i := 83) rfl))) (by decide) (t := .int) (t' := .int) (by decide) (by decide)))
  have F127 := F117.other W121 (Or.inr (slot_ne (Or.inr (hw _ (List.mem_of_getElem? (i := 79) rfl))) (Or.inr (hw _ (List.mem_of_getElem? (i := 83) rfl))) (by decide) (t := (.object "java/util/ArrayList")) (t' := .int) (by decide) (by decide)))
  have F128 := F111.other W121 (Or.inr (slot_ne (Or.inr (hw _ (List.mem_of_getElem? (i := 81) rfl))) (Or.inr (hw _ (List.mem_of_getElem? (i := 83) rfl))) (by decide) (t := (.object "java/util/ArrayList$SubList")) (t' := .int) (by decide) (by decide)))
  have K129 := K118.wr W121 (Or.inl (List.mem_of_getElem? (i := 0) rfl))
  have N130 := Fr.snoc X121 N119 ga
  have Z131 : n0 ≤ h121.size := by rw [W121.size]; exact Z120
  refine g_aloadN X121 hx 20 (hb hby d11_19) rfl rfl rfl ?_
  refine g_iloadN X121 hx 21 (hb hby d11_20) rfl rfl ?_
  refine g_iloadN X121 hx 22 (hb hby d11_21) rfl rfl ?_
  refine g_isub X121 hx 23 (hb hby d11_22) rfl ?_
  refine g_putF X121 hx hZ hown (hw _ (List.mem_of_getElem? (i := 84) rfl)) Via.refl e121 F126 F123 (Or.inl (hw _ (List.mem_of_getElem? (i := 85) rfl))) (hw _ (List.mem_of_getElem? (i := 68) rfl)) (ty := .int) (by decide) rfl rfl 26 (hb hby d11_23) rfl ?_
  intro T132 h132 X132 e132 W132
  have F133 : Fld Z h132 a "java/util/ArrayList$SubList" "size" "I" (.int (y - x)) := F126.same W132
  have F134 := F123.wr W132
  have F135 := F124.other W132 (Or.inl (Ne.symm nab))
  have F136 := F125.other W132 (Or.inr (slot_ne (Or.inl (hw _ (List.mem_of_getElem? (i := 77) rfl))) (Or.inl (hw _ (List.mem_of_getElem? (i := 85) rfl))) (by decide) (t := .int) (t' := .int) (by decide) (by decide)))
  have F137 := F127.other W132 (Or.inr (slot_ne (Or.inr (hw _ (List.mem_of_getElem? (i := 79) rfl))) (Or.inl (hw _ (List.mem_of_getElem? (i := 85) rfl))) (by decide) (t := (.object "java/util/ArrayList")) (t' := .int) (by decide) (by decide)))
  have F138 := F128.other W132 (Or.inr (slot_ne (Or.inr (hw _ (List.mem_of_getElem? (i := 81) rfl))) (Or.inl (hw _ (List.mem_of_getElem? (i := 85) rfl))) (by decide) (t := (.object "java/util/ArrayList$SubList")) (t' := .int) (by decide) (by decide)))
  have F139 := F122.other W132 (Or.inr (slot_ne (Or.inr (hw _ (List.mem_of_getElem? (i := 83) rfl))) (Or.inl (hw _ (List.mem_of_getElem? (i := 85) rfl))) (by decide) (t := .int) (t' := .int) (by decide) (by decide)))
  have K140 := K129.wr W132 (Or.inl (List.mem_of_getElem? (i := 0) rfl))
  have N141 := Fr.snoc X132 N130 ga
  have Z142 : n0 ≤ h132.size := by rw [W132.size]; exact Z131
  refine g_aloadN X132 hx 27 (hb hby d11_26) rfl rfl rfl ?_
  refine g_aloadN X132 hx 28 (hb hby d11_27) rfl rfl rfl ?_
  refine g_getF X132 hx hZ hown (hw _ (List.mem_of_getElem? (i := 86) rfl)) (Via.of (hw _ (List.mem_of_getElem? (i := 87) rfl))) e132 F135 31 (hb hby d11_28) rfl ?_
  intro T143 X143 e143
  refine g_putF X143 hx hZ hown (hw _ (List.mem_of_getElem? (i := 88) rfl)) (Via.of (hw _ (List.mem_of_getElem? (i := 89) rfl))) e143 F136 F134 (Or.inl (hw _ (List.mem_of_getElem? (i := 77) rfl))) (hw _ (List.mem_of_getElem? (i := 68) rfl)) (ty := .int) (by decide) rfl rfl 34 (hb hby d11_31) rfl ?_
  intro T144 h144 X144 e144 W144
  have F145 : Fld Z h144 a "java/util/AbstractList" "modCount" "I" (.int mc) := F136.same W144
  have F146 := F134.wr W144
  have F147 := F135.other W144 (Or.inl (Ne.symm nab))
  have F148 := F137.other W144 (Or.inr (slot_ne (Or.inr (hw _ (List.mem_of_getElem? (i := 79) rfl))) (Or.inl (hw _ (List.mem_of_getElem? (i := 77) rfl))) (by decide) (t := (.object "java/util/ArrayList")) (t' := .int) (by decide) (by decide)))
  have F149 := F138.other W144 (Or.inr (slot_ne (Or.inr (hw _ (List.mem_of_getElem? (i := 81) rfl))) (Or.inl (hw _ (List.mem_of_getElem? (i := 77) rfl))) (by decide) (t := (.object "java/util/ArrayList$SubList")) (t' := .int) (by decide) (by decide)))
  have F150 := F139.other W144 (Or.inr (slot_ne (Or.inr (hw _ (List.mem_of_getElem? (i := 83) rfl))) (Or.inl (hw _ (List.mem_of_getElem? (i := 77) rfl))) (by decide) (t := .int) (t' := .int) (by decide) (by decide)))
  have F151 := F133.other W144 (Or.inr (slot_ne (Or.inl (hw _ (List.mem_of_getElem? (i := 85) rfl))) (Or.inl (hw _ (List.mem_of_getElem? (i := 77) rfl))) (by decide) (t := .int) (t' := .int) (by decide) (by decide)))
  have K152 := K140.wr W144 (Or.inl (List.mem_of_getElem? (i := 0) rfl))
  have N153 := Fr.snoc X144 N141 ga
  have Z154 : n0 ≤ h144.size := by rw [W144.size]; exact Z142
  exact g_retV X144 hx hlk hret (hb hby d11_34) (by decide) (by decide) e144 ⟨rfl, N153, K152, F145, F148, F149, F150, F151⟩
theorem d9_0 : decode jdk_38_method_56_code 0 = .ok (.iload_n 1, 1) := by decide +kernel
theorem d9_1 : decode jdk_38_method_56_code 1 = .ok (.iload_n 2, 1) := by decide +kernel
theorem d9_2 : decode jdk_38_method_56_code 2 = .ok (.aload_n 0, 1) := by decide +kernel
theorem d9_3 : decode jdk_38_method_56_code 3 = .ok (.getfield 48, 3) := by decide +kernel
theorem d9_6 : decode jdk_38_method_56_code 6 = .ok (.invokestatic 272, 3) := by decide +kernel
theorem d9_9 : decode jdk_38_method_56_code 9 = .ok (.new 276, 3) := by decide +kernel
theorem d9_12 : decode jdk_38_method_56_code 12 = .ok (.dup, 1) := by decide +kernel
theorem d9_13 : decode jdk_38_method_56_code 13 = .ok (.aload_n 0, 1) := by decide +kernel
theorem d9_14 : decode jdk_38_method_56_code 14 = .ok (.iload_n 1, 1) := by decide +kernel
theorem d9_15 : decode jdk_38_method_56_code 15 = .ok (.iload_n 2, 1) := by decide +kernel
theorem d9_16 : decode jdk_38_method_56_code 16 = .ok (.invokespecial 278, 3) := by decide +kernel
theorem d9_19 : decode jdk_38_method_56_code 19 = .ok (.areturn, 1) := by decide +kernel
theorem own_pf8 : plainFor (⟨"java/util/ArrayList", "subList", "(II)Ljava/util/List;"⟩ : MethodName) = true := plainFor_of_name (by first | (simp [plainName, overriddenIn]; done) | decide +kernel)
def Q_rmSub (Z : State) (b : Addr) (x y mc : Int32) (n0 : Nat) (h0 : Heap) (v : Option Value) (h : Heap) (L : List Loc) : Prop := ∃ r : Addr, v = some (.ref r) ∧ Fr n0 L ∧ Keep h0 h [] ∧ Exa Z h r "java/util/ArrayList$SubList" ∧ n0 ≤ r ∧ h0.size ≤ r ∧ Fld Z h r "java/util/AbstractList" "modCount" "I" (.int mc) ∧ Fld Z h r "java/util/ArrayList$SubList" "root" "Ljava/util/ArrayList;" (.ref b) ∧ Fld Z h r "java/util/ArrayList$SubList" "parent" "Ljava/util/ArrayList$SubList;" .null ∧ Fld Z h r "java/util/ArrayList$SubList" "offset" "I" (.int x) ∧ Fld Z h r "java/util/ArrayList$SubList" "size" "I" (.int (y - x))
theorem ef_rmSub (b : Addr) (x y : Int32) (m : MethodId) : entryFrame m #[(.ref b), (.int x), (.int y)] 3 = mkF m 0 #[.val (.ref b), .val (.int x), .val (.int y)] [] := by first | (simp [entryFrame, mkF, argsToLocals, Value.category]; done) | rfl
set_option maxRecDepth 65536 in
set_option maxHeartbeats 40000000 in
theorem rmSub (l : Launch) (Z : State) (a0 : Array Value) (hw : ∀ d ∈ tables_1, d.before a0 Z = true) (b : Addr) (x y : Int32) (h0 : Heap) (n0 : Nat) (Z0 : n0 ≤ h0.size) (mc sz : Int32) (b1 : 0 ≤ x.toInt) (b2 : x.toInt ≤ y.toInt) (b3 : y.toInt ≤ sz.toInt) (Fm : Fld Z h0 b "java/util/AbstractList" "modCount" "I" (.int mc)) (Fz : Fld Z h0 b "java/util/ArrayList" "size" "I" (.int sz)) :
    MetFree l (⟨"java/util/ArrayList", "subList", "(II)Ljava/util/List;"⟩ : MethodName) (head1 [Jvm.Cond.code (⟨"java/util/ArrayList", "subList", "(II)Ljava/util/List;"⟩ : MethodName) jdk_38_method_56_code 3 (some (.object "java/util/List"))] ({ frames := 4, cells := 1, slots := 5, locals := 52 } : Room)) (fun as_ U => as_ = #[(.ref b), (.int x), (.int y)] ∧ Z.Warmed39 U.vm ∧ U.heap = h0) (fun _ _ _ _ _ => True) (fun _ U o U' => ∃ v L, o = .returned v ∧ Q_rmSub Z b x y mc n0 h0 v U'.heap L ∧ FrameEnd U o U' L ({ frames := 4, cells := 1, slots := 5, locals := 52 } : Room).cells ({ frames := 4, cells := 1, slots := 5, locals := 52 } : Room).slots) := by
  refine own_met own_pf8 (ef_rmSub b x y) ?_
  intro p e s m below meth c T0 X0 hx hby hml hret hlk hnm hown hZ e0
  have N0 := Fr.nil n0
  refine g_iloadN X0 hx 1 (hb hby d9_0) rfl rfl ?_
  refine g_iloadN X0 hx 2 (hb hby d9_1) rfl rfl ?_
  refine g_aloadN X0 hx 3 (hb hby d9_2) rfl rfl rfl ?_
  refine g_getF X0 hx hZ hown (hw _ (List.mem_of_getElem? (i := 53) rfl)) Via.refl e0 Fz 6 (hb hby d9_3) rfl ?_
  intro T155 X155 e155
  refine g_staticUp X155 hx hZ (owner := "java/util/AbstractList") hown (hw _ (List.mem_of_getElem? (i := 63) rfl)) (hw _ (List.mem_of_getElem? (i := 64) rfl)) (hw _ (List.mem_of_getElem? (i := 65) rfl)) (hw _ (List.mem_of_getElem? (i := 16) rfl)) (hw _ (List.mem_of_getElem? (i := 66) rfl)) (by decide) (rmCk l Z a0 hw x y sz h0 n0 Z0 b1 b2 b3) e155 (argsL := [(.int x), (.int y), (.int sz)]) (rest := []) rfl rfl 0 9 rfl (by rw [hml]; rfl) (lenOf own_pd5 rfl) (Nat.le_refl _) (by decide) (by decide) (by decide) (by decide) (hb hby d9_6) ?_
  intro v156 T156 L156 X156 hQ156
  obtain ⟨rfl, N156, q156⟩ := hQ156
  have N157 := Fr.app N0 N156
  show Go p e below _ T156 (mkF m 9 #[.val (.ref b), .val (.int x), .val (.int y)] [])
  refine g_new X156 hx hZ hown (hw _ (List.mem_of_getElem? (i := 67) rfl)) (hw _ (List.mem_of_getElem? (i := 68) rfl)) (hw _ (List.mem_of_getElem? (i := 69) rfl)) q156 12 (hb hby d9_9) rfl (by decide) (by decide) ?_
  intro T158 h158 a158 g158 X158 e158 E158 A158 D158
  have ne159 : b ≠ a158 := Nat.ne_of_lt (by rw [g158]; exact Fm.lt)
  have ge160 : n0 ≤ a158 := by rw [g158]; exact Z0
  have sz161 : h0.size ≤ a158 := by rw [g158]; exact (Keep.refl h0 []).1
  have F162 := Fm.ext E158
  have F163 := Fz.ext E158
  have K164 := (Keep.refl h0 []).ext E158
  have Z165 : n0 ≤ h158.size := Nat.le_trans Z0 E158.1
  have F166 : Fld Z h158 a158 "java/util/AbstractList" "modCount" "I" (.int (0 : Int32)) := D158 (Or.inl (hw _ (List.mem_of_getElem? (i := 77) rfl))) (ty := .int) (by decide)
  have F167 : Fld Z h158 a158 "java/util/ArrayList$SubList" "root" "Ljava/util/ArrayList;" .null := D158 (Or.inr (hw _ (List.mem_of_getElem? (i := 79) rfl))) (ty := (.object "java/util/ArrayList")) (by decide)
  have F168 : Fld Z h158 a158 "java/util/ArrayList$SubList" "parent" "Ljava/util/ArrayList$SubList;" .null := D158 (Or.inr (hw _ (List.mem_of_getElem? (i := 81) rfl))) (ty := (.object "java/util/ArrayList$SubList")) (by decide)
  have F169 : Fld Z h158 a158 "java/util/ArrayList$SubList" "offset" "I" (.int (0 : Int32)) := D158 (Or.inr (hw _ (List.mem_of_getElem? (i := 83) rfl))) (ty := .int) (by decide)
  have F170 : Fld Z h158 a158 "java/util/ArrayList$SubList" "size" "I" (.int (0 : Int32)) := D158 (Or.inl (hw _ (List.mem_of_getElem? (i := 85) rfl))) (ty := .int) (by decide)
  refine g_dup X158 hx 13 (hb hby d9_12) rfl rfl ?_
  refine g_aloadN X158 hx 14 (hb hby d9_13) rfl rfl rfl ?_
  refine g_iloadN X158 hx 15 (hb hby d9_14) rfl rfl ?_
  refine g_iloadN X158 hx 16 (hb hby d9_15) rfl rfl ?_
  refine g_init X158 hx hZ rfl hown (hw _ (List.mem_of_getElem? (i := 70) rfl)) (hw _ (List.mem_of_getElem? (i := 71) rfl)) (hw _ (List.mem_of_getElem? (i := 69) rfl)) (hw _ (List.mem_of_getElem? (i := 73) rfl)) (by decide) (rmSLi l Z a0 hw a158 b x y h158 n0 Z165 mc A158 ge160 (Ne.symm ne159) F166 F167 F168 F169 F170 F162) e158 (a := a158) (argsL := [(.ref b), (.int x), (.int y)]) (rest := [(.ref a158)]) rfl rfl 1 19 rfl (by rw [hml]; rfl) (lenOf own_pd6 rfl) (Nat.le_refl _) (by decide) (by decide) (by decide) (by decide) (hb hby d9_16) ?_
  intro v171 T171 L171 X171 hQ171
  obtain ⟨rfl, N171, K171, G0_171, G1_171, G2_171, G3_171, G4_171⟩ := hQ171
  have N172 := Fr.app N157 N171
  have F173 := F162.keep K171 (ninS ne159 nin0)
  have F174 := F163.keep K171 (ninS ne159 nin0)
  have F175 := A158.keep K171
  have Z181 : n0 ≤ T171.heap.size := Nat.le_trans Z165 K171.1
  have K182 := K164.trans K171 (allS (Or.inr sz161) all0)
  show Go p e below _ T171 (mkF m 19 #[.val (.ref b), .val (.int x), .val (.int y)] [(.ref a158)])
  exact g_retA X171 hx hlk hret rfl rfl rfl (hb hby d9_19) (by decide) (by decide) rfl ⟨a158, rfl, N172, K182, F175, ge160, sz161, G0_171, G1_171, G2_171, G3_171, G4_171⟩
theorem d14_0 : decode jdk_130_method_28_code 0 = .ok (.aload_n 0, 1) := by decide +kernel
theorem d14_1 : decode jdk_130_method_28_code 1 = .ok (.getfield 7, 3) := by decide +kernel
theorem d14_4 : decode jdk_130_method_28_code 4 = .ok (.getfield 24, 3) := by decide +kernel
theorem d14_7 : decode jdk_130_method_28_code 7 = .ok (.aload_n 0, 1) := by decide +kernel
theorem d14_8 : decode jdk_130_method_28_code 8 = .ok (.getfield 29, 3) := by decide +kernel
theorem d14_11 : decode jdk_130_method_28_code 11 = .ok (.if_icmp .eq 11, 3) := by decide +kernel
theorem d14_14 : decode jdk_130_method_28_code 14 = .ok (.new 174, 3) := by decide +kernel
theorem d14_17 : decode jdk_130_method_28_code 17 = .ok (.dup, 1) := by decide +kernel
theorem d14_18 : decode jdk_130_method_28_code 18 = .ok (.invokespecial 176, 3) := by decide +kernel
theorem d14_21 : decode jdk_130_method_28_code 21 = .ok (.athrow, 1) := by decide +kernel
theorem d14_22 : decode jdk_130_method_28_code 22 = .ok (.return_, 1) := by decide +kernel
theorem own_pf9 : plainFor (⟨"java/util/ArrayList$SubList", "checkForComodification", "()V"⟩ : MethodName) = true := plainFor_of_name (by first | (simp [plainName, overriddenIn]; done) | decide +kernel)
def Q_rmCm (n0 : Nat) (h0 : Heap) (v : Option Value) (h : Heap) (L : List Loc) : Prop := v = none ∧ Fr n0 L ∧ h = h0
theorem ef_rmCm (r : Addr) (m : MethodId) : entryFrame m #[(.ref r)] 1 = mkF m 0 #[.val (.ref r)] [] := by first | (simp [entryFrame, mkF, argsToLocals, Value.category]; done) | rfl
set_option maxRecDepth 65536 in
set_option maxHeartbeats 40000000 in
theorem rmCm (l : Launch) (Z : State) (a0 : Array Value) (hw : ∀ d ∈ tables_1, d.before a0 Z = true) (r : Addr) (h0 : Heap) (n0 : Nat) (Z0 : n0 ≤ h0.size) (b : Addr) (mc : Int32) (F0 : Fld Z h0 r "java/util/AbstractList" "modCount" "I" (.int mc)) (F1 : Fld Z h0 r "java/util/ArrayList$SubList" "root" "Ljava/util/ArrayList;" (.ref b)) (Fb : Fld Z h0 b "java/util/AbstractList" "modCount" "I" (.int mc)) :
    MetFree l (⟨"java/util/ArrayList$SubList", "checkForComodification", "()V"⟩ : MethodName) (head1 [Jvm.Cond.code (⟨"java/util/ArrayList$SubList", "checkForComodification", "()V"⟩ : MethodName) jdk_130_method_28_code 1 none] ({ frames := 0, cells := 0, slots := 0, locals := 0 } : Room)) (fun as_ U => as_ = #[(.ref r)] ∧ Z.Warmed39 U.vm ∧ U.heap = h0) (fun _ _ _ _ _ => True) (fun _ U o U' => ∃ v L, o = .returned v ∧ Q_rmCm n0 h0 v U'.heap L ∧ FrameEnd U o U' L ({ frames := 0, cells := 0, slots := 0, locals := 0 } : Room).cells ({ frames := 0, cells := 0, slots := 0, locals := 0 } : Room).slots) := by
  refine own_met own_pf9 (ef_rmCm r) ?_
  intro p e s m below meth c T0 X0 hx hby hml hret hlk hnm hown hZ e0
  have N0 := Fr.nil n0
  refine g_aloadN X0 hx 1 (hb hby d14_0) rfl rfl rfl ?_
  refine g_getF X0 hx hZ hown (hw _ (List.mem_of_getElem? (i := 78) rfl)) Via.refl e0 F1 4 (hb hby d14_1) rfl ?_
  intro T183 X183 e183
  refine g_getF X183 hx hZ hown (hw _ (List.mem_of_getElem? (i := 86) rfl)) (Via.of (hw _ (List.mem_of_getElem? (i := 87) rfl))) e183 Fb 7 (hb hby d14_4) rfl ?_
  intro T184 X184 e184
  refine g_aloadN X184 hx 8 (hb hby d14_7) rfl rfl rfl ?_
  refine g_getF X184 hx hZ hown (hw _ (List.mem_of_getElem? (i := 88) rfl)) (Via.of (hw _ (List.mem_of_getElem? (i := 89) rfl))) e184 F0 11 (hb hby d14_8) rfl ?_
  intro T185 X185 e185
  refine g_ic_eq X185 hx 22 14 (hb hby d14_11) (by decide) (by decide) rfl (fun c186 => ?_) (fun c186 => ?_)
  · skip
    exact g_retV X185 hx hlk hret (hb hby d14_22) (by decide) (by decide) e185 ⟨rfl, N0, rfl⟩
  · skip
    exact absurd rfl c186
theorem d13_0 : decode jdk_130_method_5_code 0 = .ok (.aload_n 0, 1) := by decide +kernel
theorem d13_1 : decode jdk_130_method_5_code 1 = .ok (.invokevirtual 36, 3) := by decide +kernel
theorem d13_4 : decode jdk_130_method_5_code 4 = .ok (.aload_n 0, 1) := by decide +kernel
theorem d13_5 : decode jdk_130_method_5_code 5 = .ok (.getfield 21, 3) := by decide +kernel
theorem d13_8 : decode jdk_130_method_5_code 8 = .ok (.ireturn, 1) := by decide +kernel
theorem own_pf10 : plainFor (⟨"java/util/ArrayList$SubList", "size", "()I"⟩ : MethodName) = true := plainFor_of_name (by first | (simp [plainName, overriddenIn]; done) | decide +kernel)
def Q_rmSS (z : Int32) (n0 : Nat) (h0 : Heap) (v : Option Value) (h : Heap) (L : List Loc) : Prop := v = some (.int z) ∧ Fr n0 L ∧ h = h0
theorem ef_rmSS (r : Addr) (m : MethodId) : entryFrame m #[(.ref r)] 1 = mkF m 0 #[.val (.ref r)] [] := by first | (simp [entryFrame, mkF, argsToLocals, Value.category]; done) | rfl
set_option maxRecDepth 65536 in
set_option maxHeartbeats 40000000 in
theorem rmSS (l : Launch) (Z : State) (a0 : Array Value) (hw : ∀ d ∈ tables_1, d.before a0 Z = true) (r : Addr) (h0 : Heap) (n0 : Nat) (Z0 : n0 ≤ h0.size) (b : Addr) (mc z : Int32) (Er : Exa Z h0 r "java/util/ArrayList$SubList") (F0 : Fld Z h0 r "java/util/AbstractList" "modCount" "I" (.int mc)) (F1 : Fld Z h0 r "java/util/ArrayList$SubList" "root" "Ljava/util/ArrayList;" (.ref b)) (F4 : Fld Z h0 r "java/util/ArrayList$SubList" "size" "I" (.int z)) (Fb : Fld Z h0 b "java/util/AbstractList" "modCount" "I" (.int mc)) :
    MetFree l (⟨"java/util/ArrayList$SubList", "size", "()I"⟩ : MethodName) (head1 [Jvm.Cond.code (⟨"java/util/ArrayList$SubList", "size", "()I"⟩ : MethodName) jdk_130_method_5_code 1 (some .int)] ({ frames := 1, cells := 0, slots := 0, locals := 12 } : Room)) (fun as_ U => as_ = #[(.ref r)] ∧ Z.Warmed39 U.vm ∧ U.heap = h0) (fun _ _ _ _ _ => True) (fun _ U o U' => ∃ v L, o = .returned v ∧ Q_rmSS z n0 h0 v U'.heap L ∧ FrameEnd U o U' L ({ frames := 1, cells := 0, slots := 0, locals := 12 } : Room).cells ({ frames := 1, cells := 0, slots := 0, locals := 12 } : Room).slots) := by
  refine own_met own_pf10 (ef_rmSS r) ?_
  intro p e s m below meth c T0 X0 hx hby hml hret hlk hnm hown hZ e0
  have N0 := Fr.nil n0
  refine g_aloadN X0 hx 1 (hb hby d13_0) rfl rfl rfl ?_
  refine g_priv X0 hx hZ (C := "java/util/ArrayList$SubList") (z := ({ cls := "java/util/ArrayList$SubList", name := "checkForComodification", desc := "()V" } : Jvm.MethodName)) hown (hw _ (List.mem_of_getElem? (i := 105) rfl)) (hw _ (List.mem_of_getElem? (i := 107) rfl)) (hw _ (List.mem_of_getElem? (i := 108) rfl)) rfl (hw _ (List.mem_of_getElem? (i := 106) rfl)) (hw _ (List.mem_of_getElem? (i := 69) rfl)) (hw _ (List.mem_of_getElem? (i := 109) rfl)) (by decide) (rmCm l Z a0 hw r h0 n0 Z0 b mc F0 F1 Fb) e0 (b := r) Er (argsL := []) (rest := []) rfl rfl 0 4 rfl (by rw [hml]; rfl) (lenOf own_pd0 rfl) (Nat.le_refl _) (by decide) (by decide) (by decide) (by decide) (hb hby d13_1) ?_
  intro v187 T187 L187 X187 hQ187
  obtain ⟨rfl, N187, q187⟩ := hQ187
  have N188 := Fr.app N0 N187
  show Go p e below _ T187 (mkF m 4 #[.val (.ref r)] [])
  refine g_aloadN X187 hx 5 (hb hby d13_4) rfl rfl rfl ?_
  refine g_getF X187 hx hZ hown (hw _ (List.mem_of_getElem? (i := 84) rfl)) Via.refl q187 F4 8 (hb hby d13_5) rfl ?_
  intro T189 X189 e189
  exact g_retI X189 hx hlk hret (hb hby d13_8) (by decide) (by decide) e189 ⟨rfl, N188, rfl⟩
theorem d18_0 : decode jdk_130_method_29_code 0 = .ok (.aload_n 0, 1) := by decide +kernel
theorem d18_1 : decode jdk_130_method_29_code 1 = .ok (.astore_n 2, 1) := by decide +kernel
theorem d18_2 : decode jdk_130_method_29_code 2 = .ok (.aload_n 2, 1) := by decide +kernel
theorem d18_3 : decode jdk_130_method_29_code 3 = .ok (.dup, 1) := by decide +kernel
theorem d18_4 : decode jdk_130_method_29_code 4 = .ok (.getfield 21, 3) := by decide +kernel
theorem d18_7 : decode jdk_130_method_29_code 7 = .ok (.iload_n 1, 1) := by decide +kernel
theorem d18_8 : decode jdk_130_method_29_code 8 = .ok (.iadd, 1) := by decide +kernel
theorem d18_9 : decode jdk_130_method_29_code 9 = .ok (.putfield 21, 3) := by decide +kernel
theorem d18_12 : decode jdk_130_method_29_code 12 = .ok (.aload_n 2, 1) := by decide +kernel
theorem d18_13 : decode jdk_130_method_29_code 13 = .ok (.aload_n 0, 1) := by decide +kernel
theorem d18_14 : decode jdk_130_method_29_code 14 = .ok (.getfield 7, 3) := by decide +kernel
theorem d18_17 : decode jdk_130_method_29_code 17 = .ok (.getfield 24, 3) := by decide +kernel
theorem d18_20 : decode jdk_130_method_29_code 20 = .ok (.putfield 29, 3) := by decide +kernel
theorem d18_23 : decode jdk_130_method_29_code 23 = .ok (.aload_n 2, 1) := by decide +kernel
theorem d18_24 : decode jdk_130_method_29_code 24 = .ok (.getfield 13, 3) := by decide +kernel
theorem d18_27 : decode jdk_130_method_29_code 27 = .ok (.astore_n 2, 1) := by decide +kernel
theorem d18_28 : decode jdk_130_method_29_code 28 = .ok (.aload_n 2, 1) := by decide +kernel
theorem d18_29 : decode jdk_130_method_29_code 29 = .ok (.ifnonnull (-27), 3) := by decide +kernel
theorem d18_32 : decode jdk_130_method_29_code 32 = .ok (.return_, 1) := by decide +kernel
theorem own_pf11 : plainFor (⟨"java/util/ArrayList$SubList", "updateSizeAndModCount", "(I)V"⟩ : MethodName) = true := plainFor_of_name (by first | (simp [plainName, overriddenIn]; done) | decide +kernel)
def Q_rmUp (r : Addr) (n0 : Nat) (h0 : Heap) (v : Option Value) (h : Heap) (L : List Loc) : Prop := v = none ∧ Fr n0 L ∧ Keep h0 h [r]
theorem ef_rmUp (r : Addr) (t : Int32) (m : MethodId) : entryFrame m #[(.ref r), (.int t)] 3 = mkF m 0 #[.val (.ref r), .val (.int t), .unset] [] := by first | (simp [entryFrame, mkF, argsToLocals, Value.category]; done) | rfl
set_option maxRecDepth 65536 in
set_option maxHeartbeats 40000000 in
theorem rmUp (l : Launch) (Z : State) (a0 : Array Value) (hw : ∀ d ∈ tables_1, d.before a0 Z = true) (r : Addr) (t : Int32) (h0 : Heap) (n0 : Nat) (Z0 : n0 ≤ h0.size) (b : Addr) (x z mc md : Int32) (Er : Exa Z h0 r "java/util/ArrayList$SubList") (gr : n0 ≤ r) (nbr : b ≠ r) (F0 : Fld Z h0 r "java/util/AbstractList" "modCount" "I" (.int mc)) (F1 : Fld Z h0 r "java/util/ArrayList$SubList" "root" "Ljava/util/ArrayList;" (.ref b)) (F2 : Fld Z h0 r "java/util/ArrayList$SubList" "parent" "Ljava/util/ArrayList$SubList;" .null) (F3 : Fld Z h0 r "java/util/ArrayList$SubList" "offset" "I" (.int x)) (F4 : Fld Z h0 r "java/util/ArrayList$SubList" "size" "I" (.int z)) (Fb : Fld Z h0 b "java/util/AbstractList" "modCount" "I" (.int md)) :
    MetFree l (⟨"java/util/ArrayList$SubList", "updateSizeAndModCount", "(I)V"⟩ : MethodName) (head1 [Jvm.Cond.code (⟨"java/util/ArrayList$SubList", "updateSizeAndModCount", "(I)V"⟩ : MethodName) jdk_130_method_29_code 3 none] ({ frames := 0, cells := 0, slots := 0, locals := 0 } : Room)) (fun as_ U => as_ = #[(.ref r), (.int t)] ∧ Z.Warmed39 U.vm ∧ U.heap = h0) (fun _ _ _ _ _ => True) (fun _ U o U' => ∃ v L, o = .returned v ∧ Q_rmUp r n0 h0 v U'.heap L ∧ FrameEnd U o U' L ({ frames := 0, cells := 0, slots := 0, locals := 0 } : Room).cells ({ frames := 0, cells := 0, slots := 0, locals := 0 } : Room).slots) := by
  refine own_met own_pf11 (ef_rmUp r t) ?_
  intro p e s m below meth c T0 X0 hx hby hml hret hlk hnm hown hZ e0
  have N0 := Fr.nil n0
  refine g_aloadN X0 hx 1 (hb hby d18_0) rfl rfl rfl ?_
  refine g_astoreN (l' := #[.val (.ref r), .val (.int t), .val (.ref r)]) X0 hx 2 (hb hby d18_1) rfl rfl rfl ?_
  refine g_aloadN X0 hx 3 (hb hby d18_2) rfl rfl rfl ?_
  refine g_dup X0 hx 4 (hb hby d18_3) rfl rfl ?_
  refine g_getF X0 hx hZ hown (hw _ (List.mem_of_getElem? (i := 84) rfl)) Via.refl e0 F4 7 (hb hby d18_4) rfl ?_
  intro T190 X190 e190
  refine g_iloadN X190 hx 8 (hb hby d18_7) rfl rfl ?_
  refine g_iadd X190 hx 9 (hb hby d18_8) rfl ?_
  refine g_putF X190 hx hZ hown (hw _ (List.mem_of_getElem? (i := 84) rfl)) Via.refl e190 F4 Er (Or.inl (hw _ (List.mem_of_getElem? (i := 85) rfl))) (hw _ (List.mem_of_getElem? (i := 68) rfl)) (ty := .int) (by decide) rfl rfl 12 (hb hby d18_9) rfl ?_
  intro T191 h191 X191 e191 W191
  have F192 : Fld Z h191 r "java/util/ArrayList$SubList" "size" "I" (.int (z + t)) := F4.same W191
  have F193 := Er.wr W191
  have F194 := F0.other W191 (Or.inr (slot_ne (Or.inl (hw _ (List.mem_of_getElem? (i := 77) rfl))) (Or.inl (hw _ (List.mem_of_getElem? (i := 85) rfl))) (by decide) (t := .int) (t' := .int) (by decide) (by decide)))
  have F195 := F1.other W191 (Or.inr (slot_ne (Or.inr (hw _ (List.mem_of_getElem? (i := 79) rfl))) (Or.inl (hw _ (List.mem_of_getElem? (i := 85) rfl))) (by decide) (t := (.object "java/util/ArrayList")) (t' := .int) (by decide) (by decide)))
  have F196 := F2.other W191 (Or.inr (slot_ne (Or.inr (hw _ (List.mem_of_getElem? (i := 81) rfl))) (Or.inl (hw _ (List.mem_of_getElem? (i := 85) rfl))) (by decide) (t := (.object "java/util/ArrayList$SubList")) (t' := .int) (by decide) (by decide)))
  have F197 := F3.other W191 (Or.inr (slot_ne (Or.inr (hw _ (List.mem_of_getElem? (i := 83) rfl))) (Or.inl (hw _ (List.mem_of_getElem? (i := 85) rfl))) (by decide) (t := .int) (t' := .int) (by decide) (by decide)))
  have F198 := Fb.other W191 (Or.inl nbr)
  have K199 := (Keep.refl h0 [r]).wr W191 (Or.inl (List.mem_of_getElem? (i := 0) rfl))
  have N200 := Fr.snoc X191 N0 gr
  have Z201 : n0 ≤ h191.size := by rw [W191.size]; exact Z0
  refine g_aloadN X191 hx 13 (hb hby d18_12) rfl rfl rfl ?_
  refine g_aloadN X191 hx 14 (hb hby d18_13) rfl rfl rfl ?_
  refine g_getF X191 hx hZ hown (hw _ (List.mem_of_getElem? (i := 78) rfl)) Via.refl e191 F195 17 (hb hby d18_14) rfl ?_
  intro T202 X202 e202
  refine g_getF X202 hx hZ hown (hw _ (List.mem_of_getElem? (i := 86) rfl)) (Via.of (hw _ (List.mem_of_getElem? (i := 87) rfl))) e202 F198 20 (hb hby d18_17) rfl ?_
  intro T203 X203 e203
  refine g_putF X203 hx hZ hown (hw _ (List.mem_of_getElem? (i := 88) rfl)) (Via.of (hw _ (List.mem_of_getElem? (i := 89) rfl))) e203 F194 F193 (Or.inl (hw _ (List.mem_of_getElem? (i := 77) rfl))) (hw _ (List.mem_of_getElem? (i := 68) rfl)) (ty := .int) (by decide) rfl rfl 23 (hb hby d18_20) rfl ?_
  intro T204 h204 X204 e204 W204
  have F205 : Fld Z h204 r "java/util/AbstractList" "modCount" "I" (.int md) := F194.same W204
  have F206 := F193.wr W204
  have F207 := F195.other W204 (Or.inr (slot_ne (Or.inr (hw _ (List.mem_of_getElem? (i := 79) rfl))) (Or.inl (hw _ (List.mem_of_getElem? (i := 77) rfl))) (by decide) (t := (.object "java/util/ArrayList")) (t' := .int) (by decide) (by decide)))
  have F208 := F196.other W204 (Or.inr (slot_ne (Or.inr (hw _ (List.mem_of_getElem? (i := 81) rfl))) (Or.inl (hw _ (List.mem_of_getElem? (i := 77) rfl))) (by decide) (t := (.object "java/util/ArrayList$SubList")) (t' := .int) (by decide) (by decide)))
  have F209 := F197.other W204 (Or.inr (slot_ne (Or.inr (hw _ (List.mem_of_getElem? (i := 83) rfl))) (Or.inl (hw _ (List.mem_of_getElem? (i := 77) rfl))) (by decide) (t := .int) (t' := .int) (by decide) (by decide)))
  have F210 := F198.other W204 (Or.inl nbr)
  have F211 := F192.other W204 (Or.inr (slot_ne (Or.inl (hw _ (List.mem_of_getElem? (i := 85) rfl))) (Or.inl (hw _ (List.mem_of_getElem? (i := 77) rfl))) (by decide) (t := .int) (t' := .int) (by decide) (by decide)))
  have K212 := K199.wr W204 (Or.inl (List.mem_of_getElem? (i := 0) rfl))
  have N213 := Fr.snoc X204 N200 gr
  have Z214 : n0 ≤ h204.size := by rw [W204.size]; exact Z201
  refine g_aloadN X204 hx 24 (hb hby d18_23) rfl rfl rfl ?_
  refine g_getF X204 hx hZ hown (hw _ (List.mem_of_getElem? (i := 80) rfl)) Via.refl e204 F208 27 (hb hby d18_24) rfl ?_
  intro T215 X215 e215
  refine g_astoreN (l' := #[.val (.ref r), .val (.int t), .val .null]) X215 hx 28 (hb hby d18_27) rfl rfl rfl ?_
  refine g_aloadN X215 hx 29 (hb hby d18_28) rfl rfl rfl ?_
  refine g_ifnonnull_f X215 hx 32 (hb hby d18_29) rfl ?_
  exact g_retV X215 hx hlk hret (hb hby d18_32) (by decide) (by decide) e215 ⟨rfl, N213, K212⟩
theorem d17_0 : decode jdk_38_method_44_code 0 = .ok (.aload_n 1, 1) := by decide +kernel
theorem d17_1 : decode jdk_38_method_44_code 1 = .ok (.iload_n 3, 1) := by decide +kernel
theorem d17_2 : decode jdk_38_method_44_code 2 = .ok (.aload_n 1, 1) := by decide +kernel
theorem d17_3 : decode jdk_38_method_44_code 3 = .ok (.iload_n 2, 1) := by decide +kernel
theorem d17_4 : decode jdk_38_method_44_code 4 = .ok (.aload_n 0, 1) := by decide +kernel
theorem d17_5 : decode jdk_38_method_44_code 5 = .ok (.getfield 48, 3) := by decide +kernel
theorem d17_8 : decode jdk_38_method_44_code 8 = .ok (.iload_n 3, 1) := by decide +kernel
theorem d17_9 : decode jdk_38_method_44_code 9 = .ok (.isub, 1) := by decide +kernel
theorem d17_10 : decode jdk_38_method_44_code 10 = .ok (.invokestatic 112, 3) := by decide +kernel
theorem d17_13 : decode jdk_38_method_44_code 13 = .ok (.aload_n 0, 1) := by decide +kernel
theorem d17_14 : decode jdk_38_method_44_code 14 = .ok (.getfield 48, 3) := by decide +kernel
theorem d17_17 : decode jdk_38_method_44_code 17 = .ok (.istore 4, 2) := by decide +kernel
theorem d17_19 : decode jdk_38_method_44_code 19 = .ok (.aload_n 0, 1) := by decide +kernel
theorem d17_20 : decode jdk_38_method_44_code 20 = .ok (.dup, 1) := by decide +kernel
theorem d17_21 : decode jdk_38_method_44_code 21 = .ok (.getfield 48, 3) := by decide +kernel
theorem d17_24 : decode jdk_38_method_44_code 24 = .ok (.iload_n 3, 1) := by decide +kernel
theorem d17_25 : decode jdk_38_method_44_code 25 = .ok (.iload_n 2, 1) := by decide +kernel
theorem d17_26 : decode jdk_38_method_44_code 26 = .ok (.isub, 1) := by decide +kernel
theorem d17_27 : decode jdk_38_method_44_code 27 = .ok (.isub, 1) := by decide +kernel
theorem d17_28 : decode jdk_38_method_44_code 28 = .ok (.dup_x1, 1) := by decide +kernel
theorem d17_29 : decode jdk_38_method_44_code 29 = .ok (.putfield 48, 3) := by decide +kernel
theorem d17_32 : decode jdk_38_method_44_code 32 = .ok (.istore 5, 2) := by decide +kernel
theorem d17_34 : decode jdk_38_method_44_code 34 = .ok (.iload 5, 2) := by decide +kernel
theorem d17_36 : decode jdk_38_method_44_code 36 = .ok (.iload 4, 2) := by decide +kernel
theorem d17_38 : decode jdk_38_method_44_code 38 = .ok (.if_icmp .ge 14, 3) := by decide +kernel
theorem d17_41 : decode jdk_38_method_44_code 41 = .ok (.aload_n 1, 1) := by decide +kernel
theorem d17_42 : decode jdk_38_method_44_code 42 = .ok (.iload 5, 2) := by decide +kernel
theorem d17_44 : decode jdk_38_method_44_code 44 = .ok (.aconst_null, 1) := by decide +kernel
theorem d17_45 : decode jdk_38_method_44_code 45 = .ok (.aastore, 1) := by decide +kernel
theorem d17_46 : decode jdk_38_method_44_code 46 = .ok (.iinc 5 1, 3) := by decide +kernel
theorem d17_49 : decode jdk_38_method_44_code 49 = .ok (.goto (-15), 3) := by decide +kernel
theorem d17_52 : decode jdk_38_method_44_code 52 = .ok (.return_, 1) := by decide +kernel
theorem own_pf12 : plainFor (⟨"java/util/ArrayList", "shiftTailOverGap", "([Ljava/lang/Object;II)V"⟩ : MethodName) = true := plainFor_of_name (by first | (simp [plainName, overriddenIn]; done) | decide +kernel)
def Q_rmShA (Z : State) (b ea : Addr) (ke : ClassId) (mc : Int32) (n0 : Nat) (h0 : Heap) (v : Option Value) (h : Heap) (L : List Loc) : Prop := v = none ∧ Fr n0 L ∧ Keep h0 h [b] ∧ Fld Z h b "java/util/AbstractList" "modCount" "I" (.int mc) ∧ Fld Z h b "java/util/ArrayList" "elementData" "[Ljava/lang/Object;" (.ref ea) ∧ Fld Z h b "java/util/ArrayList" "size" "I" (.int (0 : Int32)) ∧ Arv Z h ea ke (.object "java/lang/Object") 0 [] .null
theorem ef_rmShA (b ea : Addr)  (m : MethodId) : entryFrame m #[(.ref b), (.ref ea), (.int (0 : Int32)), (.int (0 : Int32))] 6 = mkF m 0 #[.val (.ref b), .val (.ref ea), .val (.int (0 : Int32)), .val (.int (0 : Int32)), .unset, .unset] [] := by first | (simp [entryFrame, mkF, argsToLocals, Value.category]; done) | rfl
set_option maxRecDepth 65536 in
set_option maxHeartbeats 40000000 in
theorem rmShA (l : Launch) (Z : State) (a0 : Array Value) (hw : ∀ d ∈ tables_1, d.before a0 Z = true) (b ea : Addr)  (h0 : Heap) (n0 : Nat) (Z0 : n0 ≤ h0.size) (ke : ClassId) (mc : Int32)  (Eb : Exa Z h0 b "java/util/ArrayList") (gb : n0 ≤ b)  (nbe : b ≠ ea) (B0 : Fld Z h0 b "java/util/AbstractList" "modCount" "I" (.int mc)) (B1 : Fld Z h0 b "java/util/ArrayList" "elementData" "[Ljava/lang/Object;" (.ref ea)) (B2 : Fld Z h0 b "java/util/ArrayList" "size" "I" (.int (0 : Int32))) (Ve : Arv Z h0 ea ke (.object "java/lang/Object") 0 [] .null)  :
    MetFree l (⟨"java/util/ArrayList", "shiftTailOverGap", "([Ljava/lang/Object;II)V"⟩ : MethodName) (head1 [Jvm.Cond.code (⟨"java/util/ArrayList", "shiftTailOverGap", "([Ljava/lang/Object;II)V"⟩ : MethodName) jdk_38_method_44_code 6 none] ({ frames := 1, cells := 0, slots := 0, locals := 60 } : Room)) (fun as_ U => as_ = #[(.ref b), (.ref ea), (.int (0 : Int32)), (.int (0 : Int32))] ∧ Z.Warmed39 U.vm ∧ U.heap = h0) (fun _ _ _ _ _ => True) (fun _ U o U' => ∃ v L, o = .returned v ∧ Q_rmShA Z b ea ke mc n0 h0 v U'.heap L ∧ FrameEnd U o U' L ({ frames := 1, cells := 0, slots := 0, locals := 60 } : Room).cells ({ frames := 1, cells := 0, slots := 0, locals := 60 } : Room).slots) := by
  refine own_met own_pf12 (ef_rmShA b ea) ?_
  intro p e s m below meth c T0 X0 hx hby hml hret hlk hnm hown hZ e0
  have N0 := Fr.nil n0
  refine g_aloadN X0 hx 1 (hb hby d17_0) rfl rfl rfl ?_
  refine g_iloadN X0 hx 2 (hb hby d17_1) rfl rfl ?_
  refine g_aloadN X0 hx 3 (hb hby d17_2) rfl rfl rfl ?_
  refine g_iloadN X0 hx 4 (hb hby d17_3) rfl rfl ?_
  refine g_aloadN X0 hx 5 (hb hby d17_4) rfl rfl rfl ?_
  refine g_getF X0 hx hZ hown (hw _ (List.mem_of_getElem? (i := 53) rfl)) Via.refl e0 B2 8 (hb hby d17_5) rfl ?_
  intro T216 X216 e216
  refine g_iloadN X216 hx 9 (hb hby d17_8) rfl rfl ?_
  refine g_isub X216 hx 10 (hb hby d17_9) rfl ?_
  rw [own_ss]
  refine g_copy0 X216 hx hZ hown (hw _ (List.mem_of_getElem? (i := 127) rfl)) (hw _ (List.mem_of_getElem? (i := 130) rfl)) (hw _ (List.mem_of_getElem? (i := 128) rfl)) (hw _ (List.mem_of_getElem? (i := 129) rfl)) e216 Ve (by decide) (by decide) 0 13 (hb hby d17_10) rfl (by rw [hml]; rfl) (by decide) (Nat.le_refl _) (by decide) ?_
  intro T217 X217 e217
  refine g_aloadN X217 hx 14 (hb hby d17_13) rfl rfl rfl ?_
  refine g_getF X217 hx hZ hown (hw _ (List.mem_of_getElem? (i := 53) rfl)) Via.refl e217 B2 17 (hb hby d17_14) rfl ?_
  intro T218 X218 e218
  refine g_istore (l' := #[.val (.ref b), .val (.ref ea), .val (.int (0 : Int32)), .val (.int (0 : Int32)), .val (.int (0 : Int32)), .unset]) X218 hx 19 (hb hby d17_17) rfl rfl ?_
  refine g_aloadN X218 hx 20 (hb hby d17_19) rfl rfl rfl ?_
  refine g_dup X218 hx 21 (hb hby d17_20) rfl rfl ?_
  refine g_getF X218 hx hZ hown (hw _ (List.mem_of_getElem? (i := 53) rfl)) Via.refl e218 B2 24 (hb hby d17_21) rfl ?_
  intro T219 X219 e219
  refine g_iloadN X219 hx 25 (hb hby d17_24) rfl rfl ?_
  refine g_iloadN X219 hx 26 (hb hby d17_25) rfl rfl ?_
  refine g_isub X219 hx 27 (hb hby d17_26) rfl ?_
  refine g_isub X219 hx 28 (hb hby d17_27) rfl ?_
  rw [own_sss]
  refine g_dupX1 X219 hx 29 (hb hby d17_28) rfl rfl rfl ?_
  refine g_putF X219 hx hZ hown (hw _ (List.mem_of_getElem? (i := 53) rfl)) Via.refl e219 B2 Eb (Or.inl (hw _ (List.mem_of_getElem? (i := 54) rfl))) (hw _ (List.mem_of_getElem? (i := 7) rfl)) (ty := .int) (by decide) rfl rfl 32 (hb hby d17_29) rfl ?_
  intro T220 h220 X220 e220 W220
  have F221 : Fld Z h220 b "java/util/ArrayList" "size" "I" (.int (0 : Int32)) := B2.same W220
  have F222 := Eb.wr W220
  have F223 := B0.other W220 (Or.inr (slot_ne (Or.inl (hw _ (List.mem_of_getElem? (i := 28) rfl))) (Or.inl (hw _ (List.mem_of_getElem? (i := 54) rfl))) (by decide) (t := .int) (t' := .int) (by decide) (by decide)))
  have F224 := B1.other W220 (Or.inr (slot_ne (Or.inl (hw _ (List.mem_of_getElem? (i := 31) rfl))) (Or.inl (hw _ (List.mem_of_getElem? (i := 54) rfl))) (by decide) (t := (.array (.object "java/lang/Object"))) (t' := .int) (by decide) (by decide)))
  have F225 := Ve.other W220 (Ne.symm nbe)
  have K226 := (Keep.refl h0 [b]).wr W220 (Or.inl (List.mem_of_getElem? (i := 0) rfl))
  have N227 := Fr.snoc X220 N0 gb
  have Z228 : n0 ≤ h220.size := by rw [W220.size]; exact Z0
  refine g_istore (l' := #[.val (.ref b), .val (.ref ea), .val (.int (0 : Int32)), .val (.int (0 : Int32)), .val (.int (0 : Int32)), .val (.int (0 : Int32))]) X220 hx 34 (hb hby d17_32) rfl rfl ?_
  refine g_iload X220 hx 36 (hb hby d17_34) rfl rfl ?_
  refine g_iload X220 hx 38 (hb hby d17_36) rfl rfl ?_
  have ll230 : ((0 : Int32) : Int32).toInt = 0 := by decide
  have ll231 : ((0 : Int32) : Int32).toInt = 0 := by decide
  refine g_ic_ge X220 hx 52 41 (hb hby d17_38) (by decide) (by decide) rfl (fun c229 => ?_) (fun c229 => ?_)
  · skip
    exact g_retV X220 hx hlk hret (hb hby d17_52) (by decide) (by decide) e220 ⟨rfl, N227, K226, F223, F224, F221, F225⟩
  · skip
    exfalso; omega
theorem d16_0 : decode jdk_38_method_43_code 0 = .ok (.iload_n 1, 1) := by decide +kernel
theorem d16_1 : decode jdk_38_method_43_code 1 = .ok (.iload_n 2, 1) := by decide +kernel
theorem d16_2 : decode jdk_38_method_43_code 2 = .ok (.if_icmp .le 16, 3) := by decide +kernel
theorem d16_5 : decode jdk_38_method_43_code 5 = .ok (.new 187, 3) := by decide +kernel
theorem d16_8 : decode jdk_38_method_43_code 8 = .ok (.dup, 1) := by decide +kernel
theorem d16_9 : decode jdk_38_method_43_code 9 = .ok (.iload_n 1, 1) := by decide +kernel
theorem d16_10 : decode jdk_38_method_43_code 10 = .ok (.iload_n 2, 1) := by decide +kernel
theorem d16_11 : decode jdk_38_method_43_code 11 = .ok (.invokestatic 189, 3) := by decide +kernel
theorem d16_14 : decode jdk_38_method_43_code 14 = .ok (.invokespecial 193, 3) := by decide +kernel
theorem d16_17 : decode jdk_38_method_43_code 17 = .ok (.athrow, 1) := by decide +kernel
theorem d16_18 : decode jdk_38_method_43_code 18 = .ok (.aload_n 0, 1) := by decide +kernel
theorem d16_19 : decode jdk_38_method_43_code 19 = .ok (.dup, 1) := by decide +kernel
theorem d16_20 : decode jdk_38_method_43_code 20 = .ok (.getfield 63, 3) := by decide +kernel
theorem d16_23 : decode jdk_38_method_43_code 23 = .ok (.iconst 1, 1) := by decide +kernel
theorem d16_24 : decode jdk_38_method_43_code 24 = .ok (.iadd, 1) := by decide +kernel
theorem d16_25 : decode jdk_38_method_43_code 25 = .ok (.putfield 63, 3) := by decide +kernel
theorem d16_28 : decode jdk_38_method_43_code 28 = .ok (.aload_n 0, 1) := by decide +kernel
theorem d16_29 : decode jdk_38_method_43_code 29 = .ok (.aload_n 0, 1) := by decide +kernel
theorem d16_30 : decode jdk_38_method_43_code 30 = .ok (.getfield 9, 3) := by decide +kernel
theorem d16_33 : decode jdk_38_method_43_code 33 = .ok (.iload_n 1, 1) := by decide +kernel
theorem d16_34 : decode jdk_38_method_43_code 34 = .ok (.iload_n 2, 1) := by decide +kernel
theorem d16_35 : decode jdk_38_method_43_code 35 = .ok (.invokevirtual 194, 3) := by decide +kernel
theorem d16_38 : decode jdk_38_method_43_code 38 = .ok (.return_, 1) := by decide +kernel
theorem own_pf13 : plainFor (⟨"java/util/ArrayList", "removeRange", "(II)V"⟩ : MethodName) = true := plainFor_of_name (by first | (simp [plainName, overriddenIn]; done) | decide +kernel)
def Q_rmRRA (Z : State) (b ea : Addr) (ke : ClassId) (mc : Int32) (n0 : Nat) (h0 : Heap) (v : Option Value) (h : Heap) (L : List Loc) : Prop := v = none ∧ Fr n0 L ∧ Keep h0 h [b] ∧ Fld Z h b "java/util/AbstractList" "modCount" "I" (.int (mc + (1 : Int32))) ∧ Fld Z h b "java/util/ArrayList" "elementData" "[Ljava/lang/Object;" (.ref ea) ∧ Fld Z h b "java/util/ArrayList" "size" "I" (.int (0 : Int32)) ∧ Arv Z h ea ke (.object "java/lang/Object") 0 [] .null
theorem ef_rmRRA (b : Addr)  (m : MethodId) : entryFrame m #[(.ref b), (.int (0 : Int32)), (.int (0 : Int32))] 3 = mkF m 0 #[.val (.ref b), .val (.int (0 : Int32)), .val (.int (0 : Int32))] [] := by first | (simp [entryFrame, mkF, argsToLocals, Value.category]; done) | rfl
set_option maxRecDepth 65536 in
set_option maxHeartbeats 40000000 in
theorem rmRRA (l : Launch) (Z : State) (a0 : Array Value) (hw : ∀ d ∈ tables_1, d.before a0 Z = true) (b : Addr)  (h0 : Heap) (n0 : Nat) (Z0 : n0 ≤ h0.size) (ea : Addr) (ke : ClassId) (mc : Int32)  (Eb : Exa Z h0 b "java/util/ArrayList") (gb : n0 ≤ b)  (nbe : b ≠ ea) (B0 : Fld Z h0 b "java/util/AbstractList" "modCount" "I" (.int mc)) (B1 : Fld Z h0 b "java/util/ArrayList" "elementData" "[Ljava/lang/Object;" (.ref ea)) (B2 : Fld Z h0 b "java/util/ArrayList" "size" "I" (.int (0 : Int32))) (Ve : Arv Z h0 ea ke (.object "java/lang/Object") 0 [] .null)  :
    MetFree l (⟨"java/util/ArrayList", "removeRange", "(II)V"⟩ : MethodName) (head1 [Jvm.Cond.code (⟨"java/util/ArrayList", "removeRange", "(II)V"⟩ : MethodName) jdk_38_method_43_code 3 none] ({ frames := 2, cells := 0, slots := 0, locals := 80 } : Room)) (fun as_ U => as_ = #[(.ref b), (.int (0 : Int32)), (.int (0 : Int32))] ∧ Z.Warmed39 U.vm ∧ U.heap = h0) (fun _ _ _ _ _ => True) (fun _ U o U' => ∃ v L, o = .returned v ∧ Q_rmRRA Z b ea ke mc n0 h0 v U'.heap L ∧ FrameEnd U o U' L ({ frames := 2, cells := 0, slots := 0, locals := 80 } : Room).cells ({ frames := 2, cells := 0, slots := 0, locals := 80 } : Room).slots) := by
  refine own_met own_pf13 (ef_rmRRA b) ?_
  intro p e s m below meth c T0 X0 hx hby hml hret hlk hnm hown hZ e0
  have N0 := Fr.nil n0
  refine g_iloadN X0 hx 1 (hb hby d16_0) rfl rfl ?_
  refine g_iloadN X0 hx 2 (hb hby d16_1) rfl rfl ?_
  have ll233 : ((0 : Int32) : Int32).toInt = 0 := by decide
  have ll234 : ((0 : Int32) : Int32).toInt = 0 := by decide
  refine g_ic_le X0 hx 18 5 (hb hby d16_2) (by decide) (by decide) rfl (fun c232 => ?_) (fun c232 => ?_)
  · skip
    refine g_aloadN X0 hx 19 (hb hby d16_18) rfl rfl rfl ?_
    refine g_dup X0 hx 20 (hb hby d16_19) rfl rfl ?_
    refine g_getF X0 hx hZ hown (hw _ (List.mem_of_getElem? (i := 121) rfl)) (Via.of (hw _ (List.mem_of_getElem? (i := 87) rfl))) e0 B0 23 (hb hby d16_20) rfl ?_
    intro T235 X235 e235
    refine g_iconst X235 hx (1 : Int32) 24 (hb hby d16_23) rfl (by decide) ?_
    refine g_iadd X235 hx 25 (hb hby d16_24) rfl ?_
    refine g_putF X235 hx hZ hown (hw _ (List.mem_of_getElem? (i := 121) rfl)) (Via.of (hw _ (List.mem_of_getElem? (i := 87) rfl))) e235 B0 Eb (Or.inl (hw _ (List.mem_of_getElem? (i := 28) rfl))) (hw _ (List.mem_of_getElem? (i := 7) rfl)) (ty := .int) (by decide) rfl rfl 28 (hb hby d16_25) rfl ?_
    intro T236 h236 X236 e236 W236
    have F237 : Fld Z h236 b "java/util/AbstractList" "modCount" "I" (.int (mc + (1 : Int32))) := B0.same W236
    have F238 := Eb.wr W236
    have F239 := B1.other W236 (Or.inr (slot_ne (Or.inl (hw _ (List.mem_of_getElem? (i := 31) rfl))) (Or.inl (hw _ (List.mem_of_getElem? (i := 28) rfl))) (by decide) (t := (.array (.object "java/lang/Object"))) (t' := .int) (by decide) (by decide)))
    have F240 := B2.other W236 (Or.inr (slot_ne (Or.inl (hw _ (List.mem_of_getElem? (i := 54) rfl))) (Or.inl (hw _ (List.mem_of_getElem? (i := 28) rfl))) (by decide) (t := .int) (t' := .int) (by decide) (by decide)))
    have F241 := Ve.other W236 (Ne.symm nbe)
    have K242 := (Keep.refl h0 [b]).wr W236 (Or.inl (List.mem_of_getElem? (i := 0) rfl))
    have N243 := Fr.snoc X236 N0 gb
    have Z244 : n0 ≤ h236.size := by rw [W236.size]; exact Z0
    refine g_aloadN X236 hx 29 (hb hby d16_28) rfl rfl rfl ?_
    refine g_aloadN X236 hx 30 (hb hby d16_29) rfl rfl rfl ?_
    refine g_getF X236 hx hZ hown (hw _ (List.mem_of_getElem? (i := 30) rfl)) Via.refl e236 F239 33 (hb hby d16_30) rfl ?_
    intro T245 X245 e245
    refine g_iloadN X245 hx 34 (hb hby d16_33) rfl rfl ?_
    refine g_iloadN X245 hx 35 (hb hby d16_34) rfl rfl ?_
    refine g_priv X245 hx hZ (C := "java/util/ArrayList") (z := ({ cls := "java/util/ArrayList", name := "removeRange", desc := "(II)V" } : Jvm.MethodName)) hown (hw _ (List.mem_of_getElem? (i := 122) rfl)) (hw _ (List.mem_of_getElem? (i := 124) rfl)) (hw _ (List.mem_of_getElem? (i := 119) rfl)) rfl (hw _ (List.mem_of_getElem? (i := 123) rfl)) (hw _ (List.mem_of_getElem? (i := 8) rfl)) (hw _ (List.mem_of_getElem? (i := 126) rfl)) (by decide) (rmShA l Z a0 hw b ea  h236 n0 Z244 ke (mc + (1 : Int32))  F238 gb  nbe F237 F239 F240 F241 ) e245 (b := b) F238 (argsL := [(.ref ea), (.int (0 : Int32)), (.int (0 : Int32))]) (rest := []) rfl rfl 0 38 rfl (by rw [hml]; rfl) (lenOf own_pd8 rfl) (Nat.le_refl _) (by decide) (by decide) (by decide) (by decide) (hb hby d16_35) ?_
    intro v246 T246 L246 X246 hQ246
    obtain ⟨rfl, N246, K246, L0_246, L1_246, L2_246, LV_246⟩ := hQ246
    have N247 := Fr.app N243 N246
    have F248 := F238.keep K246
    have F251 := F241.keep K246 (ninS (Ne.symm nbe) nin0)
    have Z253 : n0 ≤ T246.heap.size := Nat.le_trans Z244 K246.1
    have K254 := K242.trans K246 (allS (Or.inl (List.mem_of_getElem? (i := 0) rfl)) all0)
    show Go p e below _ T246 (mkF m 38 #[.val (.ref b), .val (.int (0 : Int32)), .val (.int (0 : Int32))] [])
    exact g_retV X246 hx hlk hret (hb hby d16_38) (by decide) (by decide) rfl ⟨rfl, N247, K254, L0_246, L1_246, L2_246, LV_246⟩
  · skip
    exfalso; omega
theorem d15_0 : decode jdk_130_method_8_code 0 = .ok (.aload_n 0, 1) := by decide +kernel
theorem d15_1 : decode jdk_130_method_8_code 1 = .ok (.invokevirtual 36, 3) := by decide +kernel
theorem d15_4 : decode jdk_130_method_8_code 4 = .ok (.aload_n 0, 1) := by decide +kernel
theorem d15_5 : decode jdk_130_method_8_code 5 = .ok (.getfield 7, 3) := by decide +kernel
theorem d15_8 : decode jdk_130_method_8_code 8 = .ok (.aload_n 0, 1) := by decide +kernel
theorem d15_9 : decode jdk_130_method_8_code 9 = .ok (.getfield 17, 3) := by decide +kernel
theorem d15_12 : decode jdk_130_method_8_code 12 = .ok (.iload_n 1, 1) := by decide +kernel
theorem d15_13 : decode jdk_130_method_8_code 13 = .ok (.iadd, 1) := by decide +kernel
theorem d15_14 : decode jdk_130_method_8_code 14 = .ok (.aload_n 0, 1) := by decide +kernel
theorem d15_15 : decode jdk_130_method_8_code 15 = .ok (.getfield 17, 3) := by decide +kernel
theorem d15_18 : decode jdk_130_method_8_code 18 = .ok (.iload_n 2, 1) := by decide +kernel
theorem d15_19 : decode jdk_130_method_8_code 19 = .ok (.iadd, 1) := by decide +kernel
theorem d15_20 : decode jdk_130_method_8_code 20 = .ok (.invokevirtual 60, 3) := by decide +kernel
theorem d15_23 : decode jdk_130_method_8_code 23 = .ok (.aload_n 0, 1) := by decide +kernel
theorem d15_24 : decode jdk_130_method_8_code 24 = .ok (.iload_n 1, 1) := by decide +kernel
theorem d15_25 : decode jdk_130_method_8_code 25 = .ok (.iload_n 2, 1) := by decide +kernel
theorem d15_26 : decode jdk_130_method_8_code 26 = .ok (.isub, 1) := by decide +kernel
theorem d15_27 : decode jdk_130_method_8_code 27 = .ok (.invokevirtual 54, 3) := by decide +kernel
theorem d15_30 : decode jdk_130_method_8_code 30 = .ok (.return_, 1) := by decide +kernel
theorem own_pf14 : plainFor (⟨"java/util/ArrayList$SubList", "removeRange", "(II)V"⟩ : MethodName) = true := plainFor_of_name (by first | (simp [plainName, overriddenIn]; done) | decide +kernel)
def Q_rmSRA (Z : State) (r b ea : Addr) (ke : ClassId) (mc : Int32) (n0 : Nat) (h0 : Heap) (v : Option Value) (h : Heap) (L : List Loc) : Prop := v = none ∧ Fr n0 L ∧ Keep h0 h [r, b] ∧ Fld Z h b "java/util/AbstractList" "modCount" "I" (.int (mc + (1 : Int32))) ∧ Fld Z h b "java/util/ArrayList" "elementData" "[Ljava/lang/Object;" (.ref ea) ∧ Fld Z h b "java/util/ArrayList" "size" "I" (.int (0 : Int32)) ∧ Arv Z h ea ke (.object "java/lang/Object") 0 [] .null
theorem ef_rmSRA (r : Addr)  (m : MethodId) : entryFrame m #[(.ref r), (.int 0), (.int ((0 : Int32) - (0 : Int32)))] 3 = mkF m 0 #[.val (.ref r), .val (.int 0), .val (.int ((0 : Int32) - (0 : Int32)))] [] := by first | (simp [entryFrame, mkF, argsToLocals, Value.category]; done) | rfl
set_option maxRecDepth 65536 in
set_option maxHeartbeats 40000000 in
theorem rmSRA (l : Launch) (Z : State) (a0 : Array Value) (hw : ∀ d ∈ tables_1, d.before a0 Z = true) (r : Addr)  (h0 : Heap) (n0 : Nat) (Z0 : n0 ≤ h0.size) (b : Addr) (ea : Addr) (ke : ClassId) (mc : Int32)  (Eb : Exa Z h0 b "java/util/ArrayList") (gb : n0 ≤ b)  (nbe : b ≠ ea) (B0 : Fld Z h0 b "java/util/AbstractList" "modCount" "I" (.int mc)) (B1 : Fld Z h0 b "java/util/ArrayList" "elementData" "[Ljava/lang/Object;" (.ref ea)) (B2 : Fld Z h0 b "java/util/ArrayList" "size" "I" (.int (0 : Int32))) (Ve : Arv Z h0 ea ke (.object "java/lang/Object") 0 [] .null)  (Er : Exa Z h0 r "java/util/ArrayList$SubList") (gr : n0 ≤ r) (nrb : r ≠ b) (nre : r ≠ ea) (F0 : Fld Z h0 r "java/util/AbstractList" "modCount" "I" (.int mc)) (F1 : Fld Z h0 r "java/util/ArrayList$SubList" "root" "Ljava/util/ArrayList;" (.ref b)) (F2 : Fld Z h0 r "java/util/ArrayList$SubList" "parent" "Ljava/util/ArrayList$SubList;" .null) (F3 : Fld Z h0 r "java/util/ArrayList$SubList" "offset" "I" (.int (0 : Int32))) (F4 : Fld Z h0 r "java/util/ArrayList$SubList" "size" "I" (.int ((0 : Int32) - (0 : Int32)))) :
    MetFree l (⟨"java/util/ArrayList$SubList", "removeRange", "(II)V"⟩ : MethodName) (head1 [Jvm.Cond.code (⟨"java/util/ArrayList$SubList", "removeRange", "(II)V"⟩ : MethodName) jdk_130_method_8_code 3 none] ({ frames := 3, cells := 0, slots := 0, locals := 100 } : Room)) (fun as_ U => as_ = #[(.ref r), (.int 0), (.int ((0 : Int32) - (0 : Int32)))] ∧ Z.Warmed39 U.vm ∧ U.heap = h0) (fun _ _ _ _ _ => True) (fun _ U o U' => ∃ v L, o = .returned v ∧ Q_rmSRA Z r b ea ke mc n0 h0 v U'.heap L ∧ FrameEnd U o U' L ({ frames := 3, cells := 0, slots := 0, locals := 100 } : Room).cells ({ frames := 3, cells := 0, slots := 0, locals := 100 } : Room).slots) := by
  refine own_met own_pf14 (ef_rmSRA r) ?_
  intro p e s m below meth c T0 X0 hx hby hml hret hlk hnm hown hZ e0
  have N0 := Fr.nil n0
  refine g_aloadN X0 hx 1 (hb hby d15_0) rfl rfl rfl ?_
  refine g_priv X0 hx hZ (C := "java/util/ArrayList$SubList") (z := ({ cls := "java/util/ArrayList$SubList", name := "checkForComodification", desc := "()V" } : Jvm.MethodName)) hown (hw _ (List.mem_of_getElem? (i := 105) rfl)) (hw _ (List.mem_of_getElem? (i := 107) rfl)) (hw _ (List.mem_of_getElem? (i := 108) rfl)) rfl (hw _ (List.mem_of_getElem? (i := 106) rfl)) (hw _ (List.mem_of_getElem? (i := 69) rfl)) (hw _ (List.mem_of_getElem? (i := 109) rfl)) (by decide) (rmCm l Z a0 hw r h0 n0 Z0 b mc F0 F1 B0) e0 (b := r) Er (argsL := []) (rest := []) rfl rfl 0 4 rfl (by rw [hml]; rfl) (lenOf own_pd0 rfl) (Nat.le_refl _) (by decide) (by decide) (by decide) (by decide) (hb hby d15_1) ?_
  intro v255 T255 L255 X255 hQ255
  obtain ⟨rfl, N255, q255⟩ := hQ255
  have N256 := Fr.app N0 N255
  show Go p e below _ T255 (mkF m 4 #[.val (.ref r), .val (.int (0 : Int32)), .val (.int ((0 : Int32) - (0 : Int32)))] [])
  refine g_aloadN X255 hx 5 (hb hby d15_4) rfl rfl rfl ?_
  refine g_getF X255 hx hZ hown (hw _ (List.mem_of_getElem? (i := 78) rfl)) Via.refl q255 F1 8 (hb hby d15_5) rfl ?_
  intro T257 X257 e257
  refine g_aloadN X257 hx 9 (hb hby d15_8) rfl rfl rfl ?_
  refine g_getF X257 hx hZ hown (hw _ (List.mem_of_getElem? (i := 82) rfl)) Via.refl e257 F3 12 (hb hby d15_9) rfl ?_
  intro T258 X258 e258
  refine g_iloadN X258 hx 13 (hb hby d15_12) rfl rfl ?_
  refine g_iadd X258 hx 14 (hb hby d15_13) rfl ?_
  refine g_aloadN X258 hx 15 (hb hby d15_14) rfl rfl rfl ?_
  refine g_getF X258 hx hZ hown (hw _ (List.mem_of_getElem? (i := 82) rfl)) Via.refl e258 F3 18 (hb hby d15_15) rfl ?_
  intro T259 X259 e259
  refine g_iloadN X259 hx 19 (hb hby d15_18) rfl rfl ?_
  refine g_iadd X259 hx 20 (hb hby d15_19) rfl ?_
  rw [own_a0, own_as]
  refine g_virt X259 hx hZ (C := "java/util/ArrayList") hown (hw _ (List.mem_of_getElem? (i := 116) rfl)) (hw _ (List.mem_of_getElem? (i := 117) rfl)) (hw _ (List.mem_of_getElem? (i := 119) rfl)) (hw _ (List.mem_of_getElem? (i := 119) rfl)) (hw _ (List.mem_of_getElem? (i := 118) rfl)) (hw _ (List.mem_of_getElem? (i := 8) rfl)) (hw _ (List.mem_of_getElem? (i := 120) rfl)) (by decide) (rmRRA l Z a0 hw b  h0 n0 Z0 ea ke mc Eb gb  nbe B0 B1 B2 Ve ) e259 (b := b) Eb (argsL := [(.int (0 : Int32)), (.int (0 : Int32))]) (rest := []) rfl rfl 0 23 rfl (by rw [hml]; rfl) (lenOf own_pd7 rfl) (Nat.le_refl _) (by decide) (by decide) (by decide) (by decide) (hb hby d15_20) ?_
  intro v260 T260 L260 X260 hQ260
  obtain ⟨rfl, N260, K260, L0_260, L1_260, L2_260, LV_260⟩ := hQ260
  have N261 := Fr.app N256 N260
  have F262 := Eb.keep K260
  have F266 := Ve.keep K260 (ninS (Ne.symm nbe) nin0)
  have F267 := Er.keep K260
  have F268 := F0.keep K260 (ninS nrb nin0)
  have F269 := F1.keep K260 (ninS nrb nin0)
  have F270 := F2.keep K260 (ninS nrb nin0)
  have F271 := F3.keep K260 (ninS nrb nin0)
  have F272 := F4.keep K260 (ninS nrb nin0)
  have Z273 : n0 ≤ T260.heap.size := Nat.le_trans Z0 K260.1
  have K274 := (Keep.refl h0 [r, b]).trans K260 (allS (Or.inl (List.mem_of_getElem? (i := 1) rfl)) all0)
  show Go p e below _ T260 (mkF m 23 #[.val (.ref r), .val (.int (0 : Int32)), .val (.int ((0 : Int32) - (0 : Int32)))] [])
  refine g_aloadN X260 hx 24 (hb hby d15_23) rfl rfl rfl ?_
  refine g_iloadN X260 hx 25 (hb hby d15_24) rfl rfl ?_
  refine g_iloadN X260 hx 26 (hb hby d15_25) rfl rfl ?_
  refine g_isub X260 hx 27 (hb hby d15_26) rfl ?_
  refine g_priv X260 hx hZ (C := "java/util/ArrayList$SubList") (z := ({ cls := "java/util/ArrayList$SubList", name := "checkForComodification", desc := "()V" } : Jvm.MethodName)) hown (hw _ (List.mem_of_getElem? (i := 131) rfl)) (hw _ (List.mem_of_getElem? (i := 133) rfl)) (hw _ (List.mem_of_getElem? (i := 108) rfl)) rfl (hw _ (List.mem_of_getElem? (i := 132) rfl)) (hw _ (List.mem_of_getElem? (i := 69) rfl)) (hw _ (List.mem_of_getElem? (i := 135) rfl)) (by decide) (rmUp l Z a0 hw r ((0 : Int32) - ((0 : Int32) - (0 : Int32))) T260.heap n0 Z273 b (0 : Int32) ((0 : Int32) - (0 : Int32)) mc (mc + (1 : Int32)) F267 gr (Ne.symm nrb) F268 F269 F270 F271 F272 L0_260) rfl (b := r) F267 (argsL := [(.int ((0 : Int32) - ((0 : Int32) - (0 : Int32))))]) (rest := []) rfl rfl 0 30 rfl (by rw [hml]; rfl) (lenOf own_pd2 rfl) (Nat.le_refl _) (by decide) (by decide) (by decide) (by decide) (hb hby d15_27) ?_
  intro v275 T275 L275 X275 hQ275
  obtain ⟨rfl, N275, K275⟩ := hQ275
  have N276 := Fr.app N261 N275
  have F277 := F262.keep K275
  have F278 := LV_260.keep K275 (ninS (Ne.symm nre) nin0)
  have F279 := F267.keep K275
  have F285 := L0_260.keep K275 (ninS (Ne.symm nrb) nin0)
  have F286 := L1_260.keep K275 (ninS (Ne.symm nrb) nin0)
  have F287 := L2_260.keep K275 (ninS (Ne.symm nrb) nin0)
  have Z288 : n0 ≤ T275.heap.size := Nat.le_trans Z273 K275.1
  have K289 := K274.trans K275 (allS (Or.inl (List.mem_of_getElem? (i := 0) rfl)) all0)
  show Go p e below _ T275 (mkF m 30 #[.val (.ref r), .val (.int (0 : Int32)), .val (.int ((0 : Int32) - (0 : Int32)))] [])
  exact g_retV X275 hx hlk hret (hb hby d15_30) (by decide) (by decide) rfl ⟨rfl, N276, K289, F285, F286, F287, F278⟩
theorem d12_0 : decode jdk_39_method_9_code 0 = .ok (.aload_n 0, 1) := by decide +kernel
theorem d12_1 : decode jdk_39_method_9_code 1 = .ok (.iconst 0, 1) := by decide +kernel
theorem d12_2 : decode jdk_39_method_9_code 2 = .ok (.aload_n 0, 1) := by decide +kernel
theorem d12_3 : decode jdk_39_method_9_code 3 = .ok (.invokevirtual 13, 3) := by decide +kernel
theorem d12_6 : decode jdk_39_method_9_code 6 = .ok (.invokevirtual 59, 3) := by decide +kernel
theorem d12_9 : decode jdk_39_method_9_code 9 = .ok (.return_, 1) := by decide +kernel
theorem own_pf15 : plainFor (⟨"java/util/AbstractList", "clear", "()V"⟩ : MethodName) = true := plainFor_of_name (by first | (simp [plainName, overriddenIn]; done) | decide +kernel)
def Q_rmClA (Z : State) (r b ea : Addr) (ke : ClassId) (mc : Int32) (n0 : Nat) (h0 : Heap) (v : Option Value) (h : Heap) (L : List Loc) : Prop := v = none ∧ Fr n0 L ∧ Keep h0 h [r, b] ∧ Fld Z h b "java/util/AbstractList" "modCount" "I" (.int (mc + (1 : Int32))) ∧ Fld Z h b "java/util/ArrayList" "elementData" "[Ljava/lang/Object;" (.ref ea) ∧ Fld Z h b "java/util/ArrayList" "size" "I" (.int (0 : Int32)) ∧ Arv Z h ea ke (.object "java/lang/Object") 0 [] .null
theorem ef_rmClA (r : Addr) (m : MethodId) : entryFrame m #[(.ref r)] 1 = mkF m 0 #[.val (.ref r)] [] := by first | (simp [entryFrame, mkF, argsToLocals, Value.category]; done) | rfl
set_option maxRecDepth 65536 in
set_option maxHeartbeats 40000000 in
theorem rmClA (l : Launch) (Z : State) (a0 : Array Value) (hw : ∀ d ∈ tables_1, d.before a0 Z = true) (r : Addr) (h0 : Heap) (n0 : Nat) (Z0 : n0 ≤ h0.size) (b : Addr) (ea : Addr) (ke : ClassId) (mc : Int32)  (Eb : Exa Z h0 b "java/util/ArrayList") (gb : n0 ≤ b)  (nbe : b ≠ ea) (B0 : Fld Z h0 b "java/util/AbstractList" "modCount" "I" (.int mc)) (B1 : Fld Z h0 b "java/util/ArrayList" "elementData" "[Ljava/lang/Object;" (.ref ea)) (B2 : Fld Z h0 b "java/util/ArrayList" "size" "I" (.int (0 : Int32))) (Ve : Arv Z h0 ea ke (.object "java/lang/Object") 0 [] .null)  (Er : Exa Z h0 r "java/util/ArrayList$SubList") (gr : n0 ≤ r) (nrb : r ≠ b) (nre : r ≠ ea) (F0 : Fld Z h0 r "java/util/AbstractList" "modCount" "I" (.int mc)) (F1 : Fld Z h0 r "java/util/ArrayList$SubList" "root" "Ljava/util/ArrayList;" (.ref b)) (F2 : Fld Z h0 r "java/util/ArrayList$SubList" "parent" "Ljava/util/ArrayList$SubList;" .null) (F3 : Fld Z h0 r "java/util/ArrayList$SubList" "offset" "I" (.int (0 : Int32))) (F4 : Fld Z h0 r "java/util/ArrayList$SubList" "size" "I" (.int ((0 : Int32) - (0 : Int32)))) :
    MetFree l (⟨"java/util/AbstractList", "clear", "()V"⟩ : MethodName) (head1 [Jvm.Cond.code (⟨"java/util/AbstractList", "clear", "()V"⟩ : MethodName) jdk_39_method_9_code 1 none] ({ frames := 4, cells := 0, slots := 0, locals := 120 } : Room)) (fun as_ U => as_ = #[(.ref r)] ∧ Z.Warmed39 U.vm ∧ U.heap = h0) (fun _ _ _ _ _ => True) (fun _ U o U' => ∃ v L, o = .returned v ∧ Q_rmClA Z r b ea ke mc n0 h0 v U'.heap L ∧ FrameEnd U o U' L ({ frames := 4, cells := 0, slots := 0, locals := 120 } : Room).cells ({ frames := 4, cells := 0, slots := 0, locals := 120 } : Room).slots) := by
  refine own_met own_pf15 (ef_rmClA r) ?_
  intro p e s m below meth c T0 X0 hx hby hml hret hlk hnm hown hZ e0
  have N0 := Fr.nil n0
  refine g_aloadN X0 hx 1 (hb hby d12_0) rfl rfl rfl ?_
  refine g_iconst X0 hx (0 : Int32) 2 (hb hby d12_1) rfl (by decide) ?_
  refine g_aloadN X0 hx 3 (hb hby d12_2) rfl rfl rfl ?_
  refine g_virtUp X0 hx hZ (C := "java/util/ArrayList$SubList") (owner := "java/util/AbstractCollection") hown (hw _ (List.mem_of_getElem? (i := 99) rfl)) (hw _ (List.mem_of_getElem? (i := 100) rfl)) (hw _ (List.mem_of_getElem? (i := 101) rfl)) (hw _ (List.mem_of_getElem? (i := 102) rfl)) (hw _ (List.mem_of_getElem? (i := 103) rfl)) (hw _ (List.mem_of_getElem? (i := 69) rfl)) (hw _ (List.mem_of_getElem? (i := 104) rfl)) (by decide) (rmSS l Z a0 hw r h0 n0 Z0 b mc ((0 : Int32) - (0 : Int32)) Er F0 F1 F4 B0) e0 (b := r) Er (argsL := []) (rest := [(.int (0 : Int32)), (.ref r)]) rfl rfl 2 6 rfl (by rw [hml]; rfl) (lenOf own_pd3 rfl) (Nat.le_refl _) (by decide) (by decide) (by decide) (by decide) (hb hby d12_3) ?_
  intro v290 T290 L290 X290 hQ290
  obtain ⟨rfl, N290, q290⟩ := hQ290
  have N291 := Fr.app N0 N290
  show Go p e below _ T290 (mkF m 6 #[.val (.ref r)] [(.int ((0 : Int32) - (0 : Int32))), (.int (0 : Int32)), (.ref r)])
  refine g_virtN X290 hx hZ (C := "java/util/ArrayList$SubList") (C1 := "java/util/ArrayList$SubList") (x1 := ({ cls := "java/util/List", name := "clear", desc := "()V" } : Jvm.MethodName)) (z1 := ({ cls := "java/util/AbstractList", name := "clear", desc := "()V" } : Jvm.MethodName)) hown (hw _ (List.mem_of_getElem? (i := 110) rfl)) (hw _ (List.mem_of_getElem? (i := 111) rfl)) (hw _ (List.mem_of_getElem? (i := 93) rfl)) rfl (hw _ (List.mem_of_getElem? (i := 113) rfl)) (hw _ (List.mem_of_getElem? (i := 114) rfl)) (hw _ (List.mem_of_getElem? (i := 69) rfl)) (hw _ (List.mem_of_getElem? (i := 115) rfl)) (by decide) (rmSRA l Z a0 hw r  h0 n0 Z0 b ea ke mc Eb gb  nbe B0 B1 B2 Ve  Er gr nrb nre F0 F1 F2 F3 F4) q290 (b := r) Er (argsL := [(.int (0 : Int32)), (.int ((0 : Int32) - (0 : Int32)))]) (rest := []) rfl rfl 0 9 rfl (by rw [hml]; rfl) (lenOf own_pd7 rfl) (Nat.le_refl _) (by decide) (by decide) (by decide) (by decide) (hb hby d12_6) ?_
  intro v292 T292 L292 X292 hQ292
  obtain ⟨rfl, N292, K292, L0_292, L1_292, L2_292, LV_292⟩ := hQ292
  have N293 := Fr.app N291 N292
  have F294 := Eb.keep K292
  have F298 := Ve.keep K292 (ninS (Ne.symm nre) (ninS (Ne.symm nbe) nin0))
  have F299 := Er.keep K292
  have Z305 : n0 ≤ T292.heap.size := Nat.le_trans Z0 K292.1
  have K306 := (Keep.refl h0 [r, b]).trans K292 (allS (Or.inl (List.mem_of_getElem? (i := 0) rfl)) (allS (Or.inl (List.mem_of_getElem? (i := 1) rfl)) all0))
  show Go p e below _ T292 (mkF m 9 #[.val (.ref r)] [])
  exact g_retV X292 hx hlk hret (hb hby d12_9) (by decide) (by decide) rfl ⟨rfl, N293, K306, L0_292, L1_292, L2_292, LV_292⟩
theorem d7_0 : decode prog_10_method_5_code 0 = .ok (.aload_n 0, 1) := by decide +kernel
theorem d7_1 : decode prog_10_method_5_code 1 = .ok (.getfield 15, 3) := by decide +kernel
theorem d7_4 : decode prog_10_method_5_code 4 = .ok (.iload_n 1, 1) := by decide +kernel
theorem d7_5 : decode prog_10_method_5_code 5 = .ok (.aload_n 0, 1) := by decide +kernel
theorem d7_6 : decode prog_10_method_5_code 6 = .ok (.getfield 15, 3) := by decide +kernel
theorem d7_9 : decode prog_10_method_5_code 9 = .ok (.invokeinterface 25 1, 5) := by decide +kernel
theorem d7_14 : decode prog_10_method_5_code 14 = .ok (.invokeinterface 29 3, 5) := by decide +kernel
theorem d7_19 : decode prog_10_method_5_code 19 = .ok (.invokeinterface 33 1, 5) := by decide +kernel
theorem d7_24 : decode prog_10_method_5_code 24 = .ok (.return_, 1) := by decide +kernel
theorem own_pf16 : plainFor (⟨"com/example/firm_commit/firmcommit/Synchronizations", "keepFirst", "(I)V"⟩ : MethodName) = true := plainFor_of_name (by first | (simp [plainName, overriddenIn]; done) | decide +kernel)
def Q_rmKFA (Z : State) (b ea : Addr) (ke : ClassId) (mc : Int32) (n0 : Nat) (h0 : Heap) (v : Option Value) (h : Heap) (L : List Loc) : Prop := v = none ∧ Fr n0 L ∧ Keep h0 h [b] ∧ Fld Z h b "java/util/AbstractList" "modCount" "I" (.int (mc + (1 : Int32))) ∧ Fld Z h b "java/util/ArrayList" "elementData" "[Ljava/lang/Object;" (.ref ea) ∧ Fld Z h b "java/util/ArrayList" "size" "I" (.int (0 : Int32)) ∧ Arv Z h ea ke (.object "java/lang/Object") 0 [] .null
theorem ef_rmKFA (s0 : Addr)  (m : MethodId) : entryFrame m #[(.ref s0), (.int (0 : Int32))] 2 = mkF m 0 #[.val (.ref s0), .val (.int (0 : Int32))] [] := by first | (simp [entryFrame, mkF, argsToLocals, Value.category]; done) | rfl
set_option maxRecDepth 65536 in
set_option maxHeartbeats 40000000 in
theorem rmKFA (l : Launch) (Z : State) (a0 : Array Value) (hw : ∀ d ∈ tables_1, d.before a0 Z = true) (s0 : Addr)  (h0 : Heap) (n0 : Nat) (Z0 : n0 ≤ h0.size) (b : Addr) (ea : Addr) (ke : ClassId) (mc : Int32)  (Eb : Exa Z h0 b "java/util/ArrayList") (gb : n0 ≤ b)  (nbe : b ≠ ea) (B0 : Fld Z h0 b "java/util/AbstractList" "modCount" "I" (.int mc)) (B1 : Fld Z h0 b "java/util/ArrayList" "elementData" "[Ljava/lang/Object;" (.ref ea)) (B2 : Fld Z h0 b "java/util/ArrayList" "size" "I" (.int (0 : Int32))) (Ve : Arv Z h0 ea ke (.object "java/lang/Object") 0 [] .null)  (Fs : Fld Z h0 s0 "com/example/firm_commit/firmcommit/Synchronizations" "_registered" "Ljava/util/List;" (.ref b)) (nsb : s0 ≠ b) (nse : s0 ≠ ea) :
    MetFree l (⟨"com/example/firm_commit/firmcommit/Synchronizations", "keepFirst", "(I)V"⟩ : MethodName) (head1 [Jvm.Cond.code (⟨"com/example/firm_commit/firmcommit/Synchronizations", "keepFirst", "(I)V"⟩ : MethodName) prog_10_method_5_code 2 none] ({ frames := 5, cells := 1, slots := 5, locals := 140 } : Room)) (fun as_ U => as_ = #[(.ref s0), (.int (0 : Int32))] ∧ Z.Warmed39 U.vm ∧ U.heap = h0) (fun _ _ _ _ _ => True) (fun _ U o U' => ∃ v L, o = .returned v ∧ Q_rmKFA Z b ea ke mc n0 h0 v U'.heap L ∧ FrameEnd U o U' L ({ frames := 5, cells := 1, slots := 5, locals := 140 } : Room).cells ({ frames := 5, cells := 1, slots := 5, locals := 140 } : Room).slots) := by
  refine own_met own_pf16 (ef_rmKFA s0) ?_
  intro p e s m below meth c T0 X0 hx hby hml hret hlk hnm hown hZ e0
  have N0 := Fr.nil n0
  refine g_aloadN X0 hx 1 (hb hby d7_0) rfl rfl rfl ?_
  refine g_getF X0 hx hZ hown (hw _ (List.mem_of_getElem? (i := 36) rfl)) Via.refl e0 Fs 4 (hb hby d7_1) rfl ?_
  intro T307 X307 e307
  refine g_iloadN X307 hx 5 (hb hby d7_4) rfl rfl ?_
  refine g_aloadN X307 hx 6 (hb hby d7_5) rfl rfl rfl ?_
  refine g_getF X307 hx hZ hown (hw _ (List.mem_of_getElem? (i := 36) rfl)) Via.refl e307 Fs 9 (hb hby d7_6) rfl ?_
  intro T308 X308 e308
  refine g_face X308 hx hZ (C := "java/util/ArrayList") hown (hw _ (List.mem_of_getElem? (i := 44) rfl)) (hw _ (List.mem_of_getElem? (i := 45) rfl)) (mvT hZ (hw _ (List.mem_of_getElem? (i := 46) rfl))) (hw _ (List.mem_of_getElem? (i := 47) rfl)) (hw _ (List.mem_of_getElem? (i := 48) rfl)) (hw _ (List.mem_of_getElem? (i := 49) rfl)) (hw _ (List.mem_of_getElem? (i := 50) rfl)) (hw _ (List.mem_of_getElem? (i := 51) rfl)) (hw _ (List.mem_of_getElem? (i := 8) rfl)) (hw _ (List.mem_of_getElem? (i := 52) rfl)) (by decide) (rmSz l Z a0 hw b h0 n0 Z0 (0 : Int32) B2) e308 (b := b) Eb (argsL := []) (rest := [(.int (0 : Int32)), (.ref b)]) rfl rfl 2 14 rfl (by rw [hml]; rfl) (lenOf own_pd3 rfl) (Nat.le_refl _) (by decide) (by decide) (by decide) (by decide) (hb hby d7_9) ?_
  intro v309 T309 L309 X309 hQ309
  obtain ⟨rfl, N309, q309⟩ := hQ309
  have N310 := Fr.app N0 N309
  show Go p e below _ T309 (mkF m 14 #[.val (.ref s0), .val (.int (0 : Int32))] [(.int (0 : Int32)), (.int (0 : Int32)), (.ref b)])
  refine g_face X309 hx hZ (C := "java/util/ArrayList") hown (hw _ (List.mem_of_getElem? (i := 55) rfl)) (hw _ (List.mem_of_getElem? (i := 56) rfl)) (mvT hZ (hw _ (List.mem_of_getElem? (i := 57) rfl))) (hw _ (List.mem_of_getElem? (i := 58) rfl)) (hw _ (List.mem_of_getElem? (i := 59) rfl)) (hw _ (List.mem_of_getElem? (i := 60) rfl)) (hw _ (List.mem_of_getElem? (i := 61) rfl)) (hw _ (List.mem_of_getElem? (i := 51) rfl)) (hw _ (List.mem_of_getElem? (i := 8) rfl)) (hw _ (List.mem_of_getElem? (i := 62) rfl)) (by decide) (rmSub l Z a0 hw b (0 : Int32) (0 : Int32) h0 n0 Z0 mc (0 : Int32) (by decide) (by decide) (Int.le_refl _) B0 B2) q309 (b := b) Eb (argsL := [(.int (0 : Int32)), (.int (0 : Int32))]) (rest := []) rfl rfl 0 19 rfl (by rw [hml]; rfl) (lenOf own_pd4 rfl) (Nat.le_refl _) (by decide) (by decide) (by decide) (by decide) (hb hby d7_14) ?_
  intro v311 T311 L311 X311 hQ311
  obtain ⟨r, rfl, N311, K311, Er, gr, sr, F0, F1, F2, F3, F4⟩ := hQ311
  have N312 := Fr.app N310 N311
  have F313 := Eb.keep K311
  have F314 := B0.keep K311 nin0
  have F315 := B1.keep K311 nin0
  have F316 := B2.keep K311 nin0
  have F317 := Ve.keep K311 nin0
  have F318 := Fs.keep K311 nin0
  have Z319 : n0 ≤ T311.heap.size := Nat.le_trans Z0 K311.1
  have K320 := (Keep.refl h0 [b]).trans K311 all0
  have nr_b : b ≠ r := Nat.ne_of_lt (Nat.lt_of_lt_of_le Eb.lt sr)
  have nr_ea : ea ≠ r := Nat.ne_of_lt (Nat.lt_of_lt_of_le Ve.lt sr)
  have nr_s0 : s0 ≠ r := Nat.ne_of_lt (Nat.lt_of_lt_of_le Fs.lt sr)
  show Go p e below _ T311 (mkF m 19 #[.val (.ref s0), .val (.int (0 : Int32))] [(.ref r)])
  refine g_face X311 hx hZ (C := "java/util/ArrayList$SubList") hown (hw _ (List.mem_of_getElem? (i := 90) rfl)) (hw _ (List.mem_of_getElem? (i := 91) rfl)) (mvT hZ (hw _ (List.mem_of_getElem? (i := 92) rfl))) (hw _ (List.mem_of_getElem? (i := 93) rfl)) (hw _ (List.mem_of_getElem? (i := 94) rfl)) (hw _ (List.mem_of_getElem? (i := 95) rfl)) (hw _ (List.mem_of_getElem? (i := 96) rfl)) (hw _ (List.mem_of_getElem? (i := 97) rfl)) (hw _ (List.mem_of_getElem? (i := 16) rfl)) (hw _ (List.mem_of_getElem? (i := 98) rfl)) (by decide) (rmClA l Z a0 hw r T311.heap n0 Z319  b ea ke mc F313 gb  nbe F314 F315 F316 F317  Er gr (Ne.symm nr_b) (Ne.symm nr_ea) F0 F1 F2 F3 F4) rfl (b := r) Er (argsL := []) (rest := []) rfl rfl 0 24 rfl (by rw [hml]; rfl) (lenOf own_pd0 rfl) (Nat.le_refl _) (by decide) (by decide) (by decide) (by decide) (hb hby d7_19) ?_
  intro v321 T321 L321 X321 hQ321
  obtain ⟨rfl, N321, K321, L0_321, L1_321, L2_321, LV_321⟩ := hQ321
  have N322 := Fr.app N312 N321
  have F323 := F313.keep K321
  have F327 := F317.keep K321 (ninS nr_ea (ninS (Ne.symm nbe) nin0))
  have F328 := F318.keep K321 (ninS nr_s0 (ninS nsb nin0))
  have F329 := Er.keep K321
  have Z335 : n0 ≤ T321.heap.size := Nat.le_trans Z319 K321.1
  have K336 := K320.trans K321 (allS (Or.inr sr) (allS (Or.inl (List.mem_of_getElem? (i := 0) rfl)) all0))
  show Go p e below _ T321 (mkF m 24 #[.val (.ref s0), .val (.int (0 : Int32))] [])
  exact g_retV X321 hx hlk hret (hb hby d7_24) (by decide) (by decide) rfl ⟨rfl, N322, K336, L0_321, L1_321, L2_321, LV_321⟩
def Q_rmShB (Z : State) (b ea : Addr) (ke : ClassId) (mc k : Int32) (n0 : Nat) (h0 : Heap) (v : Option Value) (h : Heap) (L : List Loc) : Prop := v = none ∧ Fr n0 L ∧ Keep h0 h [b, ea] ∧ Fld Z h b "java/util/AbstractList" "modCount" "I" (.int mc) ∧ Fld Z h b "java/util/ArrayList" "elementData" "[Ljava/lang/Object;" (.ref ea) ∧ Fld Z h b "java/util/ArrayList" "size" "I" (.int k) ∧ Arv Z h ea ke (.object "java/lang/Object") 10 (List.replicate 10 Value.null) .null
theorem ef_rmShB (b ea : Addr) (k sz : Int32) (m : MethodId) : entryFrame m #[(.ref b), (.ref ea), (.int k), (.int sz)] 6 = mkF m 0 #[.val (.ref b), .val (.ref ea), .val (.int k), .val (.int sz), .unset, .unset] [] := by first | (simp [entryFrame, mkF, argsToLocals, Value.category]; done) | rfl
set_option maxRecDepth 65536 in
set_option maxHeartbeats 40000000 in
theorem rmShB (l : Launch) (Z : State) (a0 : Array Value) (hw : ∀ d ∈ tables_1, d.before a0 Z = true) (b ea : Addr) (k sz : Int32) (h0 : Heap) (n0 : Nat) (Z0 : n0 ≤ h0.size) (ke : ClassId) (mc : Int32) (bz : 0 ≤ sz.toInt ∧ sz.toInt ≤ 4) (Eb : Exa Z h0 b "java/util/ArrayList") (gb : n0 ≤ b) (ge : n0 ≤ ea) (nbe : b ≠ ea) (B0 : Fld Z h0 b "java/util/AbstractList" "modCount" "I" (.int mc)) (B1 : Fld Z h0 b "java/util/ArrayList" "elementData" "[Ljava/lang/Object;" (.ref ea)) (B2 : Fld Z h0 b "java/util/ArrayList" "size" "I" (.int sz)) (Ve : Arv Z h0 ea ke (.object "java/lang/Object") 10 (List.replicate 10 Value.null) .null) (bk : 0 ≤ k.toInt ∧ k.toInt ≤ sz.toInt) :
    MetFree l (⟨"java/util/ArrayList", "shiftTailOverGap", "([Ljava/lang/Object;II)V"⟩ : MethodName) (head1 [Jvm.Cond.code (⟨"java/util/ArrayList", "shiftTailOverGap", "([Ljava/lang/Object;II)V"⟩ : MethodName) jdk_38_method_44_code 6 none] ({ frames := 1, cells := 0, slots := 0, locals := 60 } : Room)) (fun as_ U => as_ = #[(.ref b), (.ref ea), (.int k), (.int sz)] ∧ Z.Warmed39 U.vm ∧ U.heap = h0) (fun _ _ _ _ _ => True) (fun _ U o U' => ∃ v L, o = .returned v ∧ Q_rmShB Z b ea ke mc k n0 h0 v U'.heap L ∧ FrameEnd U o U' L ({ frames := 1, cells := 0, slots := 0, locals := 60 } : Room).cells ({ frames := 1, cells := 0, slots := 0, locals := 60 } : Room).slots) := by
  refine own_met own_pf12 (ef_rmShB b ea k sz) ?_
  intro p e s m below meth c T0 X0 hx hby hml hret hlk hnm hown hZ e0
  have N0 := Fr.nil n0
  refine g_aloadN X0 hx 1 (hb hby d17_0) rfl rfl rfl ?_
  refine g_iloadN X0 hx 2 (hb hby d17_1) rfl rfl ?_
  refine g_aloadN X0 hx 3 (hb hby d17_2) rfl rfl rfl ?_
  refine g_iloadN X0 hx 4 (hb hby d17_3) rfl rfl ?_
  refine g_aloadN X0 hx 5 (hb hby d17_4) rfl rfl rfl ?_
  refine g_getF X0 hx hZ hown (hw _ (List.mem_of_getElem? (i := 53) rfl)) Via.refl e0 B2 8 (hb hby d17_5) rfl ?_
  intro T337 X337 e337
  refine g_iloadN X337 hx 9 (hb hby d17_8) rfl rfl ?_
  refine g_isub X337 hx 10 (hb hby d17_9) rfl ?_
  rw [own_ss]
  refine g_copy0 X337 hx hZ hown (hw _ (List.mem_of_getElem? (i := 127) rfl)) (hw _ (List.mem_of_getElem? (i := 130) rfl)) (hw _ (List.mem_of_getElem? (i := 128) rfl)) (hw _ (List.mem_of_getElem? (i := 129) rfl)) e337 Ve (by have := (by decide : (10 : Int32).toInt = 10); omega) (by have := (by decide : (10 : Int32).toInt = 10); omega) 0 13 (hb hby d17_10) rfl (by rw [hml]; rfl) (by decide) (Nat.le_refl _) (by decide) ?_
  intro T338 X338 e338
  refine g_aloadN X338 hx 14 (hb hby d17_13) rfl rfl rfl ?_
  refine g_getF X338 hx hZ hown (hw _ (List.mem_of_getElem? (i := 53) rfl)) Via.refl e338 B2 17 (hb hby d17_14) rfl ?_
  intro T339 X339 e339
  refine g_istore (l' := #[.val (.ref b), .val (.ref ea), .val (.int k), .val (.int sz), .val (.int sz), .unset]) X339 hx 19 (hb hby d17_17) rfl rfl ?_
  refine g_aloadN X339 hx 20 (hb hby d17_19) rfl rfl rfl ?_
  refine g_dup X339 hx 21 (hb hby d17_20) rfl rfl ?_
  refine g_getF X339 hx hZ hown (hw _ (List.mem_of_getElem? (i := 53) rfl)) Via.refl e339 B2 24 (hb hby d17_21) rfl ?_
  intro T340 X340 e340
  refine g_iloadN X340 hx 25 (hb hby d17_24) rfl rfl ?_
  refine g_iloadN X340 hx 26 (hb hby d17_25) rfl rfl ?_
  refine g_isub X340 hx 27 (hb hby d17_26) rfl ?_
  refine g_isub X340 hx 28 (hb hby d17_27) rfl ?_
  rw [own_sss]
  refine g_dupX1 X340 hx 29 (hb hby d17_28) rfl rfl rfl ?_
  refine g_putF X340 hx hZ hown (hw _ (List.mem_of_getElem? (i := 53) rfl)) Via.refl e340 B2 Eb (Or.inl (hw _ (List.mem_of_getElem? (i := 54) rfl))) (hw _ (List.mem_of_getElem? (i := 7) rfl)) (ty := .int) (by decide) rfl rfl 32 (hb hby d17_29) rfl ?_
  intro T341 h341 X341 e341 W341
  have F342 : Fld Z h341 b "java/util/ArrayList" "size" "I" (.int k) := B2.same W341
  have F343 := Eb.wr W341
  have F344 := B0.other W341 (Or.inr (slot_ne (Or.inl (hw _ (List.mem_of_getElem? (i := 28) rfl))) (Or.inl (hw _ (List.mem_of_getElem? (i := 54) rfl))) (by decide) (t := .int) (t' := .int) (by decide) (by decide)))
  have F345 := B1.other W341 (Or.inr (slot_ne (Or.inl (hw _ (List.mem_of_getElem? (i := 31) rfl))) (Or.inl (hw _ (List.mem_of_getElem? (i := 54) rfl))) (by decide) (t := (.array (.object "java/lang/Object"))) (t' := .int) (by decide) (by decide)))
  have F346 := Ve.other W341 (Ne.symm nbe)
  have K347 := (Keep.refl h0 [b, ea]).wr W341 (Or.inl (List.mem_of_getElem? (i := 0) rfl))
  have N348 := Fr.snoc X341 N0 gb
  have Z349 : n0 ≤ h341.size := by rw [W341.size]; exact Z0
  refine g_istore (l' := #[.val (.ref b), .val (.ref ea), .val (.int k), .val (.int sz), .val (.int sz), .val (.int k)]) X341 hx 34 (hb hby d17_32) rfl rfl ?_
  refine g_iload X341 hx 36 (hb hby d17_34) rfl rfl ?_
  refine g_iload X341 hx 38 (hb hby d17_36) rfl rfl ?_
  refine g_ic_ge X341 hx 52 41 (hb hby d17_38) (by decide) (by decide) rfl (fun c350 => ?_) (fun c350 => ?_)
  · skip
    exact g_retV X341 hx hlk hret (hb hby d17_52) (by decide) (by decide) e341 ⟨rfl, N348, K347, F344, F345, F342, F346⟩
  · skip
    refine g_aloadN X341 hx 42 (hb hby d17_41) rfl rfl rfl ?_
    refine g_iload X341 hx 44 (hb hby d17_42) rfl rfl ?_
    refine g_null X341 hx 45 (hb hby d17_44) rfl ?_
    refine g_aastoreN X341 hx hZ e341 rfl F346 rfl k.toInt.toNat (by omega) (by have := (by decide : (10 : Int32).toInt = 10); omega) (by rw [List.length_replicate]; omega) 46 (hb hby d17_45) rfl ?_
    intro T351 h351 X351 e351 W351 V351
    rw [own_setnull] at V351
    have F352 := F343.wr W351
    have F353 := F344.other W351 (Or.inl nbe)
    have F354 := F345.other W351 (Or.inl nbe)
    have F356 := F342.other W351 (Or.inl nbe)
    have K357 := K347.wr W351 (Or.inl (List.mem_of_getElem? (i := 1) rfl))
    have N358 := Fr.snoc X351 N348 ge
    have Z359 : n0 ≤ h351.size := by rw [W351.size]; exact Z349
    have i0 := c_iadd k 1
    have j0 := rng32 (k + 1)
    have l0 : (1 : Int32).toInt = 1 := by decide
    rw [l0] at i0
    refine g_iinc (w := (1 : Int32)) (l' := #[.val (.ref b), .val (.ref ea), .val (.int k), .val (.int sz), .val (.int sz), .val (.int (k + (1 : Int32)))]) X351 hx 49 (hb hby d17_46) rfl rfl (by decide) rfl ?_
    refine g_goto X351 hx 34 (hb hby d17_49) (by decide) (by decide) ?_
    refine g_iload X351 hx 36 (hb hby d17_34) rfl rfl ?_
    refine g_iload X351 hx 38 (hb hby d17_36) rfl rfl ?_
    refine g_ic_ge X351 hx 52 41 (hb hby d17_38) (by decide) (by decide) rfl (fun c360 => ?_) (fun c360 => ?_)
    · skip
      exact g_retV X351 hx hlk hret (hb hby d17_52) (by decide) (by decide) e351 ⟨rfl, N358, K357, F353, F354, F356, V351⟩
    · skip
      refine g_aloadN X351 hx 42 (hb hby d17_41) rfl rfl rfl ?_
      refine g_iload X351 hx 44 (hb hby d17_42) rfl rfl ?_
      refine g_null X351 hx 45 (hb hby d17_44) rfl ?_
      refine g_aastoreN X351 hx hZ e351 rfl V351 rfl (k + (1 : Int32)).toInt.toNat (by omega) (by have := (by decide : (10 : Int32).toInt = 10); omega) (by rw [List.length_replicate]; omega) 46 (hb hby d17_45) rfl ?_
      intro T361 h361 X361 e361 W361 V361
      rw [own_setnull] at V361
      have F362 := F352.wr W361
      have F363 := F353.other W361 (Or.inl nbe)
      have F364 := F354.other W361 (Or.inl nbe)
      have F366 := F356.other W361 (Or.inl nbe)
      have K367 := K357.wr W361 (Or.inl (List.mem_of_getElem? (i := 1) rfl))
      have N368 := Fr.snoc X361 N358 ge
      have Z369 : n0 ≤ h361.size := by rw [W361.size]; exact Z359
      have i1 := c_iadd (k + (1 : Int32)) 1
      have j1 := rng32 ((k + (1 : Int32)) + 1)
      have l1 : (1 : Int32).toInt = 1 := by decide
      rw [l1] at i1
      refine g_iinc (w := (1 : Int32)) (l' := #[.val (.ref b), .val (.ref ea), .val (.int k), .val (.int sz), .val (.int sz), .val (.int ((k + (1 : Int32)) + (1 : Int32)))]) X361 hx 49 (hb hby d17_46) rfl rfl (by decide) rfl ?_
      refine g_goto X361 hx 34 (hb hby d17_49) (by decide) (by decide) ?_
      refine g_iload X361 hx 36 (hb hby d17_34) rfl rfl ?_
      refine g_iload X361 hx 38 (hb hby d17_36) rfl rfl ?_
      refine g_ic_ge X361 hx 52 41 (hb hby d17_38) (by decide) (by decide) rfl (fun c370 => ?_) (fun c370 => ?_)
      · skip
        exact g_retV X361 hx hlk hret (hb hby d17_52) (by decide) (by decide) e361 ⟨rfl, N368, K367, F363, F364, F366, V361⟩
      · skip
        refine g_aloadN X361 hx 42 (hb hby d17_41) rfl rfl rfl ?_
        refine g_iload X361 hx 44 (hb hby d17_42) rfl rfl ?_
        refine g_null X361 hx 45 (hb hby d17_44) rfl ?_
        refine g_aastoreN X361 hx hZ e361 rfl V361 rfl ((k + (1 : Int32)) + (1 : Int32)).toInt.toNat (by omega) (by have := (by decide : (10 : Int32).toInt = 10); omega) (by rw [List.length_replicate]; omega) 46 (hb hby d17_45) rfl ?_
        intro T371 h371 X371 e371 W371 V371
        rw [own_setnull] at V371
        have F372 := F362.wr W371
        have F373 := F363.other W371 (Or.inl nbe)
        have F374 := F364.other W371 (Or.inl nbe)
        have F376 := F366.other W371 (Or.inl nbe)
        have K377 := K367.wr W371 (Or.inl (List.mem_of_getElem? (i := 1) rfl))
        have N378 := Fr.snoc X371 N368 ge
        have Z379 : n0 ≤ h371.size := by rw [W371.size]; exact Z369
        have i2 := c_iadd ((k + (1 : Int32)) + (1 : Int32)) 1
        have j2 := rng32 (((k + (1 : Int32)) + (1 : Int32)) + 1)
        have l2 : (1 : Int32).toInt = 1 := by decide
        rw [l2] at i2
        refine g_iinc (w := (1 : Int32)) (l' := #[.val (.ref b), .val (.ref ea), .val (.int k), .val (.int sz), .val (.int sz), .val (.int (((k + (1 : Int32)) + (1 : Int32)) + (1 : Int32)))]) X371 hx 49 (hb hby d17_46) rfl rfl (by decide) rfl ?_
        refine g_goto X371 hx 34 (hb hby d17_49) (by decide) (by decide) ?_
        refine g_iload X371 hx 36 (hb hby d17_34) rfl rfl ?_
        refine g_iload X371 hx 38 (hb hby d17_36) rfl rfl ?_
        refine g_ic_ge X371 hx 52 41 (hb hby d17_38) (by decide) (by decide) rfl (fun c380 => ?_) (fun c380 => ?_)
        · skip
          exact g_retV X371 hx hlk hret (hb hby d17_52) (by decide) (by decide) e371 ⟨rfl, N378, K377, F373, F374, F376, V371⟩
        · skip
          refine g_aloadN X371 hx 42 (hb hby d17_41) rfl rfl rfl ?_
          refine g_iload X371 hx 44 (hb hby d17_42) rfl rfl ?_
          refine g_null X371 hx 45 (hb hby d17_44) rfl ?_
          refine g_aastoreN X371 hx hZ e371 rfl V371 rfl (((k + (1 : Int32)) + (1 : Int32)) + (1 : Int32)).toInt.toNat (by omega) (by have := (by decide : (10 : Int32).toInt = 10); omega) (by rw [List.length_replicate]; omega) 46 (hb hby d17_45) rfl ?_
          intro T381 h381 X381 e381 W381 V381
          rw [own_setnull] at V381
          have F382 := F372.wr W381
          have F383 := F373.other W381 (Or.inl nbe)
          have F384 := F374.other W381 (Or.inl nbe)
          have F386 := F376.other W381 (Or.inl nbe)
          have K387 := K377.wr W381 (Or.inl (List.mem_of_getElem? (i := 1) rfl))
          have N388 := Fr.snoc X381 N378 ge
          have Z389 : n0 ≤ h381.size := by rw [W381.size]; exact Z379
          have i3 := c_iadd (((k + (1 : Int32)) + (1 : Int32)) + (1 : Int32)) 1
          have j3 := rng32 ((((k + (1 : Int32)) + (1 : Int32)) + (1 : Int32)) + 1)
          have l3 : (1 : Int32).toInt = 1 := by decide
          rw [l3] at i3
          refine g_iinc (w := (1 : Int32)) (l' := #[.val (.ref b), .val (.ref ea), .val (.int k), .val (.int sz), .val (.int sz), .val (.int ((((k + (1 : Int32)) + (1 : Int32)) + (1 : Int32)) + (1 : Int32)))]) X381 hx 49 (hb hby d17_46) rfl rfl (by decide) rfl ?_
          refine g_goto X381 hx 34 (hb hby d17_49) (by decide) (by decide) ?_
          refine g_iload X381 hx 36 (hb hby d17_34) rfl rfl ?_
          refine g_iload X381 hx 38 (hb hby d17_36) rfl rfl ?_
          refine g_ic_ge X381 hx 52 41 (hb hby d17_38) (by decide) (by decide) rfl (fun c390 => ?_) (fun c390 => ?_)
          · skip
            exact g_retV X381 hx hlk hret (hb hby d17_52) (by decide) (by decide) e381 ⟨rfl, N388, K387, F383, F384, F386, V381⟩
          · skip
            exfalso; omega
def Q_rmRRB (Z : State) (b ea : Addr) (ke : ClassId) (mc k : Int32) (n0 : Nat) (h0 : Heap) (v : Option Value) (h : Heap) (L : List Loc) : Prop := v = none ∧ Fr n0 L ∧ Keep h0 h [b, ea] ∧ Fld Z h b "java/util/AbstractList" "modCount" "I" (.int (mc + (1 : Int32))) ∧ Fld Z h b "java/util/ArrayList" "elementData" "[Ljava/lang/Object;" (.ref ea) ∧ Fld Z h b "java/util/ArrayList" "size" "I" (.int k) ∧ Arv Z h ea ke (.object "java/lang/Object") 10 (List.replicate 10 Value.null) .null
theorem ef_rmRRB (b : Addr) (k sz : Int32) (m : MethodId) : entryFrame m #[(.ref b), (.int k), (.int sz)] 3 = mkF m 0 #[.val (.ref b), .val (.int k), .val (.int sz)] [] := by first | (simp [entryFrame, mkF, argsToLocals, Value.category]; done) | rfl
set_option maxRecDepth 65536 in
set_option maxHeartbeats 40000000 in
theorem rmRRB (l : Launch) (Z : State) (a0 : Array Value) (hw : ∀ d ∈ tables_1, d.before a0 Z = true) (b : Addr) (k sz : Int32) (h0 : Heap) (n0 : Nat) (Z0 : n0 ≤ h0.size) (ea : Addr) (ke : ClassId) (mc : Int32) (bz : 0 ≤ sz.toInt ∧ sz.toInt ≤ 4) (Eb : Exa Z h0 b "java/util/ArrayList") (gb : n0 ≤ b) (ge : n0 ≤ ea) (nbe : b ≠ ea) (B0 : Fld Z h0 b "java/util/AbstractList" "modCount" "I" (.int mc)) (B1 : Fld Z h0 b "java/util/ArrayList" "elementData" "[Ljava/lang/Object;" (.ref ea)) (B2 : Fld Z h0 b "java/util/ArrayList" "size" "I" (.int sz)) (Ve : Arv Z h0 ea ke (.object "java/lang/Object") 10 (List.replicate 10 Value.null) .null) (bk : 0 ≤ k.toInt ∧ k.toInt ≤ sz.toInt) :
    MetFree l (⟨"java/util/ArrayList", "removeRange", "(II)V"⟩ : MethodName) (head1 [Jvm.Cond.code (⟨"java/util/ArrayList", "removeRange", "(II)V"⟩ : MethodName) jdk_38_method_43_code 3 none] ({ frames := 2, cells := 0, slots := 0, locals := 80 } : Room)) (fun as_ U => as_ = #[(.ref b), (.int k), (.int sz)] ∧ Z.Warmed39 U.vm ∧ U.heap = h0) (fun _ _ _ _ _ => True) (fun _ U o U' => ∃ v L, o = .returned v ∧ Q_rmRRB Z b ea ke mc k n0 h0 v U'.heap L ∧ FrameEnd U o U' L ({ frames := 2, cells := 0, slots := 0, locals := 80 } : Room).cells ({ frames := 2, cells := 0, slots := 0, locals := 80 } : Room).slots) := by
  refine own_met own_pf13 (ef_rmRRB b k sz) ?_
  intro p e s m below meth c T0 X0 hx hby hml hret hlk hnm hown hZ e0
  have N0 := Fr.nil n0
  refine g_iloadN X0 hx 1 (hb hby d16_0) rfl rfl ?_
  refine g_iloadN X0 hx 2 (hb hby d16_1) rfl rfl ?_
  refine g_ic_le X0 hx 18 5 (hb hby d16_2) (by decide) (by decide) rfl (fun c391 => ?_) (fun c391 => ?_)
  · skip
    refine g_aloadN X0 hx 19 (hb hby d16_18) rfl rfl rfl ?_
    refine g_dup X0 hx 20 (hb hby d16_19) rfl rfl ?_
    refine g_getF X0 hx hZ hown (hw _ (List.mem_of_getElem? (i := 121) rfl)) (Via.of (hw _ (List.mem_of_getElem? (i := 87) rfl))) e0 B0 23 (hb hby d16_20) rfl ?_
    intro T392 X392 e392
    refine g_iconst X392 hx (1 : Int32) 24 (hb hby d16_23) rfl (by decide) ?_
    refine g_iadd X392 hx 25 (hb hby d16_24) rfl ?_
    refine g_putF X392 hx hZ hown (hw _ (List.mem_of_getElem? (i := 121) rfl)) (Via.of (hw _ (List.mem_of_getElem? (i := 87) rfl))) e392 B0 Eb (Or.inl (hw _ (List.mem_of_getElem? (i := 28) rfl))) (hw _ (List.mem_of_getElem? (i := 7) rfl)) (ty := .int) (by decide) rfl rfl 28 (hb hby d16_25) rfl ?_
    intro T393 h393 X393 e393 W393
    have F394 : Fld Z h393 b "java/util/AbstractList" "modCount" "I" (.int (mc + (1 : Int32))) := B0.same W393
    have F395 := Eb.wr W393
    have F396 := B1.other W393 (Or.inr (slot_ne (Or.inl (hw _ (List.mem_of_getElem? (i := 31) rfl))) (Or.inl (hw _ (List.mem_of_getElem? (i := 28) rfl))) (by decide) (t := (.array (.object "java/lang/Object"))) (t' := .int) (by decide) (by decide)))
    have F397 := B2.other W393 (Or.inr (slot_ne (Or.inl (hw _ (List.mem_of_getElem? (i := 54) rfl))) (Or.inl (hw _ (List.mem_of_getElem? (i := 28) rfl))) (by decide) (t := .int) (t' := .int) (by decide) (by decide)))
    have F398 := Ve.other W393 (Ne.symm nbe)
    have K399 := (Keep.refl h0 [b, ea]).wr W393 (Or.inl (List.mem_of_getElem? (i := 0) rfl))
    have N400 := Fr.snoc X393 N0 gb
    have Z401 : n0 ≤ h393.size := by rw [W393.size]; exact Z0
    refine g_aloadN X393 hx 29 (hb hby d16_28) rfl rfl rfl ?_
    refine g_aloadN X393 hx 30 (hb hby d16_29) rfl rfl rfl ?_
    refine g_getF X393 hx hZ hown (hw _ (List.mem_of_getElem? (i := 30) rfl)) Via.refl e393 F396 33 (hb hby d16_30) rfl ?_
    intro T402 X402 e402
    refine g_iloadN X402 hx 34 (hb hby d16_33) rfl rfl ?_
    refine g_iloadN X402 hx 35 (hb hby d16_34) rfl rfl ?_
    refine g_priv X402 hx hZ (C := "java/util/ArrayList") (z := ({ cls := "java/util/ArrayList", name := "removeRange", desc := "(II)V" } : Jvm.MethodName)) hown (hw _ (List.mem_of_getElem? (i := 122) rfl)) (hw _ (List.mem_of_getElem? (i := 124) rfl)) (hw _ (List.mem_of_getElem? (i := 119) rfl)) rfl (hw _ (List.mem_of_getElem? (i := 123) rfl)) (hw _ (List.mem_of_getElem? (i := 8) rfl)) (hw _ (List.mem_of_getElem? (i := 126) rfl)) (by decide) (rmShB l Z a0 hw b ea k sz h393 n0 Z401 ke (mc + (1 : Int32)) bz F395 gb ge nbe F394 F396 F397 F398 bk) e402 (b := b) F395 (argsL := [(.ref ea), (.int k), (.int sz)]) (rest := []) rfl rfl 0 38 rfl (by rw [hml]; rfl) (lenOf own_pd8 rfl) (Nat.le_refl _) (by decide) (by decide) (by decide) (by decide) (hb hby d16_35) ?_
    intro v403 T403 L403 X403 hQ403
    obtain ⟨rfl, N403, K403, L0_403, L1_403, L2_403, LV_403⟩ := hQ403
    have N404 := Fr.app N400 N403
    have F405 := F395.keep K403
    have Z410 : n0 ≤ T403.heap.size := Nat.le_trans Z401 K403.1
    have K411 := K399.trans K403 (allS (Or.inl (List.mem_of_getElem? (i := 0) rfl)) (allS (Or.inl (List.mem_of_getElem? (i := 1) rfl)) all0))
    show Go p e below _ T403 (mkF m 38 #[.val (.ref b), .val (.int k), .val (.int sz)] [])
    exact g_retV X403 hx hlk hret (hb hby d16_38) (by decide) (by decide) rfl ⟨rfl, N404, K411, L0_403, L1_403, L2_403, LV_403⟩
  · skip
    exfalso; omega
def Q_rmSRB (Z : State) (r b ea : Addr) (ke : ClassId) (mc k : Int32) (n0 : Nat) (h0 : Heap) (v : Option Value) (h : Heap) (L : List Loc) : Prop := v = none ∧ Fr n0 L ∧ Keep h0 h [r, b, ea] ∧ Fld Z h b "java/util/AbstractList" "modCount" "I" (.int (mc + (1 : Int32))) ∧ Fld Z h b "java/util/ArrayList" "elementData" "[Ljava/lang/Object;" (.ref ea) ∧ Fld Z h b "java/util/ArrayList" "size" "I" (.int k) ∧ Arv Z h ea ke (.object "java/lang/Object") 10 (List.replicate 10 Value.null) .null
theorem ef_rmSRB (r : Addr) (k sz : Int32) (m : MethodId) : entryFrame m #[(.ref r), (.int 0), (.int (sz - k))] 3 = mkF m 0 #[.val (.ref r), .val (.int 0), .val (.int (sz - k))] [] := by first | (simp [entryFrame, mkF, argsToLocals, Value.category]; done) | rfl
set_option maxRecDepth 65536 in
set_option maxHeartbeats 40000000 in
theorem rmSRB (l : Launch) (Z : State) (a0 : Array Value) (hw : ∀ d ∈ tables_1, d.before a0 Z = true) (r : Addr) (k sz : Int32) (h0 : Heap) (n0 : Nat) (Z0 : n0 ≤ h0.size) (b : Addr) (ea : Addr) (ke : ClassId) (mc : Int32) (bz : 0 ≤ sz.toInt ∧ sz.toInt ≤ 4) (Eb : Exa Z h0 b "java/util/ArrayList") (gb : n0 ≤ b) (ge : n0 ≤ ea) (nbe : b ≠ ea) (B0 : Fld Z h0 b "java/util/AbstractList" "modCount" "I" (.int mc)) (B1 : Fld Z h0 b "java/util/ArrayList" "elementData" "[Ljava/lang/Object;" (.ref ea)) (B2 : Fld Z h0 b "java/util/ArrayList" "size" "I" (.int sz)) (Ve : Arv Z h0 ea ke (.object "java/lang/Object") 10 (List.replicate 10 Value.null) .null) (bk : 0 ≤ k.toInt ∧ k.toInt ≤ sz.toInt) (Er : Exa Z h0 r "java/util/ArrayList$SubList") (gr : n0 ≤ r) (nrb : r ≠ b) (nre : r ≠ ea) (F0 : Fld Z h0 r "java/util/AbstractList" "modCount" "I" (.int mc)) (F1 : Fld Z h0 r "java/util/ArrayList$SubList" "root" "Ljava/util/ArrayList;" (.ref b)) (F2 : Fld Z h0 r "java/util/ArrayList$SubList" "parent" "Ljava/util/ArrayList$SubList;" .null) (F3 : Fld Z h0 r "java/util/ArrayList$SubList" "offset" "I" (.int k)) (F4 : Fld Z h0 r "java/util/ArrayList$SubList" "size" "I" (.int (sz - k))) :
    MetFree l (⟨"java/util/ArrayList$SubList", "removeRange", "(II)V"⟩ : MethodName) (head1 [Jvm.Cond.code (⟨"java/util/ArrayList$SubList", "removeRange", "(II)V"⟩ : MethodName) jdk_130_method_8_code 3 none] ({ frames := 3, cells := 0, slots := 0, locals := 100 } : Room)) (fun as_ U => as_ = #[(.ref r), (.int 0), (.int (sz - k))] ∧ Z.Warmed39 U.vm ∧ U.heap = h0) (fun _ _ _ _ _ => True) (fun _ U o U' => ∃ v L, o = .returned v ∧ Q_rmSRB Z r b ea ke mc k n0 h0 v U'.heap L ∧ FrameEnd U o U' L ({ frames := 3, cells := 0, slots := 0, locals := 100 } : Room).cells ({ frames := 3, cells := 0, slots := 0, locals := 100 } : Room).slots) := by
  refine own_met own_pf14 (ef_rmSRB r k sz) ?_
  intro p e s m below meth c T0 X0 hx hby hml hret hlk hnm hown hZ e0
  have N0 := Fr.nil n0
  refine g_aloadN X0 hx 1 (hb hby d15_0) rfl rfl rfl ?_
  refine g_priv X0 hx hZ (C := "java/util/ArrayList$SubList") (z := ({ cls := "java/util/ArrayList$SubList", name := "checkForComodification", desc := "()V" } : Jvm.MethodName)) hown (hw _ (List.mem_of_getElem? (i := 105) rfl)) (hw _ (List.mem_of_getElem? (i := 107) rfl)) (hw _ (List.mem_of_getElem? (i := 108) rfl)) rfl (hw _ (List.mem_of_getElem? (i := 106) rfl)) (hw _ (List.mem_of_getElem? (i := 69) rfl)) (hw _ (List.mem_of_getElem? (i := 109) rfl)) (by decide) (rmCm l Z a0 hw r h0 n0 Z0 b mc F0 F1 B0) e0 (b := r) Er (argsL := []) (rest := []) rfl rfl 0 4 rfl (by rw [hml]; rfl) (lenOf own_pd0 rfl) (Nat.le_refl _) (by decide) (by decide) (by decide) (by decide) (hb hby d15_1) ?_
  intro v412 T412 L412 X412 hQ412
  obtain ⟨rfl, N412, q412⟩ := hQ412
  have N413 := Fr.app N0 N412
  show Go p e below _ T412 (mkF m 4 #[.val (.ref r), .val (.int (0 : Int32)), .val (.int (sz - k))] [])
  refine g_aloadN X412 hx 5 (hb hby d15_4) rfl rfl rfl ?_
  refine g_getF X412 hx hZ hown (hw _ (List.mem_of_getElem? (i := 78) rfl)) Via.refl q412 F1 8 (hb hby d15_5) rfl ?_
  intro T414 X414 e414
  refine g_aloadN X414 hx 9 (hb hby d15_8) rfl rfl rfl ?_
  refine g_getF X414 hx hZ hown (hw _ (List.mem_of_getElem? (i := 82) rfl)) Via.refl e414 F3 12 (hb hby d15_9) rfl ?_
  intro T415 X415 e415
  refine g_iloadN X415 hx 13 (hb hby d15_12) rfl rfl ?_
  refine g_iadd X415 hx 14 (hb hby d15_13) rfl ?_
  refine g_aloadN X415 hx 15 (hb hby d15_14) rfl rfl rfl ?_
  refine g_getF X415 hx hZ hown (hw _ (List.mem_of_getElem? (i := 82) rfl)) Via.refl e415 F3 18 (hb hby d15_15) rfl ?_
  intro T416 X416 e416
  refine g_iloadN X416 hx 19 (hb hby d15_18) rfl rfl ?_
  refine g_iadd X416 hx 20 (hb hby d15_19) rfl ?_
  rw [own_a0, own_as]
  refine g_virt X416 hx hZ (C := "java/util/ArrayList") hown (hw _ (List.mem_of_getElem? (i := 116) rfl)) (hw _ (List.mem_of_getElem? (i := 117) rfl)) (hw _ (List.mem_of_getElem? (i := 119) rfl)) (hw _ (List.mem_of_getElem? (i := 119) rfl)) (hw _ (List.mem_of_getElem? (i := 118) rfl)) (hw _ (List.mem_of_getElem? (i := 8) rfl)) (hw _ (List.mem_of_getElem? (i := 120) rfl)) (by decide) (rmRRB l Z a0 hw b k sz h0 n0 Z0 ea ke mc bz Eb gb ge nbe B0 B1 B2 Ve bk) e416 (b := b) Eb (argsL := [(.int k), (.int sz)]) (rest := []) rfl rfl 0 23 rfl (by rw [hml]; rfl) (lenOf own_pd7 rfl) (Nat.le_refl _) (by decide) (by decide) (by decide) (by decide) (hb hby d15_20) ?_
  intro v417 T417 L417 X417 hQ417
  obtain ⟨rfl, N417, K417, L0_417, L1_417, L2_417, LV_417⟩ := hQ417
  have N418 := Fr.app N413 N417
  have F419 := Eb.keep K417
  have F424 := Er.keep K417
  have F425 := F0.keep K417 (ninS nrb (ninS nre nin0))
  have F426 := F1.keep K417 (ninS nrb (ninS nre nin0))
  have F427 := F2.keep K417 (ninS nrb (ninS nre nin0))
  have F428 := F3.keep K417 (ninS nrb (ninS nre nin0))
  have F429 := F4.keep K417 (ninS nrb (ninS nre nin0))
  have Z430 : n0 ≤ T417.heap.size := Nat.le_trans Z0 K417.1
  have K431 := (Keep.refl h0 [r, b, ea]).trans K417 (allS (Or.inl (List.mem_of_getElem? (i := 1) rfl)) (allS (Or.inl (List.mem_of_getElem? (i := 2) rfl)) all0))
  show Go p e below _ T417 (mkF m 23 #[.val (.ref r), .val (.int (0 : Int32)), .val (.int (sz - k))] [])
  refine g_aloadN X417 hx 24 (hb hby d15_23) rfl rfl rfl ?_
  refine g_iloadN X417 hx 25 (hb hby d15_24) rfl rfl ?_
  refine g_iloadN X417 hx 26 (hb hby d15_25) rfl rfl ?_
  refine g_isub X417 hx 27 (hb hby d15_26) rfl ?_
  refine g_priv X417 hx hZ (C := "java/util/ArrayList$SubList") (z := ({ cls := "java/util/ArrayList$SubList", name := "checkForComodification", desc := "()V" } : Jvm.MethodName)) hown (hw _ (List.mem_of_getElem? (i := 131) rfl)) (hw _ (List.mem_of_getElem? (i := 133) rfl)) (hw _ (List.mem_of_getElem? (i := 108) rfl)) rfl (hw _ (List.mem_of_getElem? (i := 132) rfl)) (hw _ (List.mem_of_getElem? (i := 69) rfl)) (hw _ (List.mem_of_getElem? (i := 135) rfl)) (by decide) (rmUp l Z a0 hw r ((0 : Int32) - (sz - k)) T417.heap n0 Z430 b k (sz - k) mc (mc + (1 : Int32)) F424 gr (Ne.symm nrb) F425 F426 F427 F428 F429 L0_417) rfl (b := r) F424 (argsL := [(.int ((0 : Int32) - (sz - k)))]) (rest := []) rfl rfl 0 30 rfl (by rw [hml]; rfl) (lenOf own_pd2 rfl) (Nat.le_refl _) (by decide) (by decide) (by decide) (by decide) (hb hby d15_27) ?_
  intro v432 T432 L432 X432 hQ432
  obtain ⟨rfl, N432, K432⟩ := hQ432
  have N433 := Fr.app N418 N432
  have F434 := F419.keep K432
  have F435 := F424.keep K432
  have F441 := L0_417.keep K432 (ninS (Ne.symm nrb) nin0)
  have F442 := L1_417.keep K432 (ninS (Ne.symm nrb) nin0)
  have F443 := L2_417.keep K432 (ninS (Ne.symm nrb) nin0)
  have F444 := LV_417.keep K432 (ninS (Ne.symm nre) nin0)
  have Z445 : n0 ≤ T432.heap.size := Nat.le_trans Z430 K432.1
  have K446 := K431.trans K432 (allS (Or.inl (List.mem_of_getElem? (i := 0) rfl)) all0)
  show Go p e below _ T432 (mkF m 30 #[.val (.ref r), .val (.int (0 : Int32)), .val (.int (sz - k))] [])
  exact g_retV X432 hx hlk hret (hb hby d15_30) (by decide) (by decide) rfl ⟨rfl, N433, K446, F441, F442, F443, F444⟩
def Q_rmClB (Z : State) (r b ea : Addr) (ke : ClassId) (mc k : Int32) (n0 : Nat) (h0 : Heap) (v : Option Value) (h : Heap) (L : List Loc) : Prop := v = none ∧ Fr n0 L ∧ Keep h0 h [r, b, ea] ∧ Fld Z h b "java/util/AbstractList" "modCount" "I" (.int (mc + (1 : Int32))) ∧ Fld Z h b "java/util/ArrayList" "elementData" "[Ljava/lang/Object;" (.ref ea) ∧ Fld Z h b "java/util/ArrayList" "size" "I" (.int k) ∧ Arv Z h ea ke (.object "java/lang/Object") 10 (List.replicate 10 Value.null) .null
theorem ef_rmClB (r : Addr) (m : MethodId) : entryFrame m #[(.ref r)] 1 = mkF m 0 #[.val (.ref r)] [] := by first | (simp [entryFrame, mkF, argsToLocals, Value.category]; done) | rfl
set_option maxRecDepth 65536 in
set_option maxHeartbeats 40000000 in
theorem rmClB (l : Launch) (Z : State) (a0 : Array Value) (hw : ∀ d ∈ tables_1, d.before a0 Z = true) (r : Addr) (h0 : Heap) (n0 : Nat) (Z0 : n0 ≤ h0.size) (k sz : Int32) (b : Addr) (ea : Addr) (ke : ClassId) (mc : Int32) (bz : 0 ≤ sz.toInt ∧ sz.toInt ≤ 4) (Eb : Exa Z h0 b "java/util/ArrayList") (gb : n0 ≤ b) (ge : n0 ≤ ea) (nbe : b ≠ ea) (B0 : Fld Z h0 b "java/util/AbstractList" "modCount" "I" (.int mc)) (B1 : Fld Z h0 b "java/util/ArrayList" "elementData" "[Ljava/lang/Object;" (.ref ea)) (B2 : Fld Z h0 b "java/util/ArrayList" "size" "I" (.int sz)) (Ve : Arv Z h0 ea ke (.object "java/lang/Object") 10 (List.replicate 10 Value.null) .null) (bk : 0 ≤ k.toInt ∧ k.toInt ≤ sz.toInt) (Er : Exa Z h0 r "java/util/ArrayList$SubList") (gr : n0 ≤ r) (nrb : r ≠ b) (nre : r ≠ ea) (F0 : Fld Z h0 r "java/util/AbstractList" "modCount" "I" (.int mc)) (F1 : Fld Z h0 r "java/util/ArrayList$SubList" "root" "Ljava/util/ArrayList;" (.ref b)) (F2 : Fld Z h0 r "java/util/ArrayList$SubList" "parent" "Ljava/util/ArrayList$SubList;" .null) (F3 : Fld Z h0 r "java/util/ArrayList$SubList" "offset" "I" (.int k)) (F4 : Fld Z h0 r "java/util/ArrayList$SubList" "size" "I" (.int (sz - k))) :
    MetFree l (⟨"java/util/AbstractList", "clear", "()V"⟩ : MethodName) (head1 [Jvm.Cond.code (⟨"java/util/AbstractList", "clear", "()V"⟩ : MethodName) jdk_39_method_9_code 1 none] ({ frames := 4, cells := 0, slots := 0, locals := 120 } : Room)) (fun as_ U => as_ = #[(.ref r)] ∧ Z.Warmed39 U.vm ∧ U.heap = h0) (fun _ _ _ _ _ => True) (fun _ U o U' => ∃ v L, o = .returned v ∧ Q_rmClB Z r b ea ke mc k n0 h0 v U'.heap L ∧ FrameEnd U o U' L ({ frames := 4, cells := 0, slots := 0, locals := 120 } : Room).cells ({ frames := 4, cells := 0, slots := 0, locals := 120 } : Room).slots) := by
  refine own_met own_pf15 (ef_rmClB r) ?_
  intro p e s m below meth c T0 X0 hx hby hml hret hlk hnm hown hZ e0
  have N0 := Fr.nil n0
  refine g_aloadN X0 hx 1 (hb hby d12_0) rfl rfl rfl ?_
  refine g_iconst X0 hx (0 : Int32) 2 (hb hby d12_1) rfl (by decide) ?_
  refine g_aloadN X0 hx 3 (hb hby d12_2) rfl rfl rfl ?_
  refine g_virtUp X0 hx hZ (C := "java/util/ArrayList$SubList") (owner := "java/util/AbstractCollection") hown (hw _ (List.mem_of_getElem? (i := 99) rfl)) (hw _ (List.mem_of_getElem? (i := 100) rfl)) (hw _ (List.mem_of_getElem? (i := 101) rfl)) (hw _ (List.mem_of_getElem? (i := 102) rfl)) (hw _ (List.mem_of_getElem? (i := 103) rfl)) (hw _ (List.mem_of_getElem? (i := 69) rfl)) (hw _ (List.mem_of_getElem? (i := 104) rfl)) (by decide) (rmSS l Z a0 hw r h0 n0 Z0 b mc (sz - k) Er F0 F1 F4 B0) e0 (b := r) Er (argsL := []) (rest := [(.int (0 : Int32)), (.ref r)]) rfl rfl 2 6 rfl (by rw [hml]; rfl) (lenOf own_pd3 rfl) (Nat.le_refl _) (by decide) (by decide) (by decide) (by decide) (hb hby d12_3) ?_
  intro v447 T447 L447 X447 hQ447
  obtain ⟨rfl, N447, q447⟩ := hQ447
  have N448 := Fr.app N0 N447
  show Go p e below _ T447 (mkF m 6 #[.val (.ref r)] [(.int (sz - k)), (.int (0 : Int32)), (.ref r)])
  refine g_virtN X447 hx hZ (C := "java/util/ArrayList$SubList") (C1 := "java/util/ArrayList$SubList") (x1 := ({ cls := "java/util/List", name := "clear", desc := "()V" } : Jvm.MethodName)) (z1 := ({ cls := "java/util/AbstractList", name := "clear", desc := "()V" } : Jvm.MethodName)) hown (hw _ (List.mem_of_getElem? (i := 110) rfl)) (hw _ (List.mem_of_getElem? (i := 111) rfl)) (hw _ (List.mem_of_getElem? (i := 93) rfl)) rfl (hw _ (List.mem_of_getElem? (i := 113) rfl)) (hw _ (List.mem_of_getElem? (i := 114) rfl)) (hw _ (List.mem_of_getElem? (i := 69) rfl)) (hw _ (List.mem_of_getElem? (i := 115) rfl)) (by decide) (rmSRB l Z a0 hw r k sz h0 n0 Z0 b ea ke mc bz Eb gb ge nbe B0 B1 B2 Ve bk Er gr nrb nre F0 F1 F2 F3 F4) q447 (b := r) Er (argsL := [(.int (0 : Int32)), (.int (sz - k))]) (rest := []) rfl rfl 0 9 rfl (by rw [hml]; rfl) (lenOf own_pd7 rfl) (Nat.le_refl _) (by decide) (by decide) (by decide) (by decide) (hb hby d12_6) ?_
  intro v449 T449 L449 X449 hQ449
  obtain ⟨rfl, N449, K449, L0_449, L1_449, L2_449, LV_449⟩ := hQ449
  have N450 := Fr.app N448 N449
  have F451 := Eb.keep K449
  have F456 := Er.keep K449
  have Z462 : n0 ≤ T449.heap.size := Nat.le_trans Z0 K449.1
  have K463 := (Keep.refl h0 [r, b, ea]).trans K449 (allS (Or.inl (List.mem_of_getElem? (i := 0) rfl)) (allS (Or.inl (List.mem_of_getElem? (i := 1) rfl)) (allS (Or.inl (List.mem_of_getElem? (i := 2) rfl)) all0)))
  show Go p e below _ T449 (mkF m 9 #[.val (.ref r)] [])
  exact g_retV X449 hx hlk hret (hb hby d12_9) (by decide) (by decide) rfl ⟨rfl, N450, K463, L0_449, L1_449, L2_449, LV_449⟩
def Q_rmKFB (Z : State) (b ea : Addr) (ke : ClassId) (mc k : Int32) (n0 : Nat) (h0 : Heap) (v : Option Value) (h : Heap) (L : List Loc) : Prop := v = none ∧ Fr n0 L ∧ Keep h0 h [b, ea] ∧ Fld Z h b "java/util/AbstractList" "modCount" "I" (.int (mc + (1 : Int32))) ∧ Fld Z h b "java/util/ArrayList" "elementData" "[Ljava/lang/Object;" (.ref ea) ∧ Fld Z h b "java/util/ArrayList" "size" "I" (.int k) ∧ Arv Z h ea ke (.object "java/lang/Object") 10 (List.replicate 10 Value.null) .null
theorem ef_rmKFB (s0 : Addr) (k : Int32)  (m : MethodId) : entryFrame m #[(.ref s0), (.int k)] 2 = mkF m 0 #[.val (.ref s0), .val (.int k)] [] := by first | (simp [entryFrame, mkF, argsToLocals, Value.category]; done) | rfl
set_option maxRecDepth 65536 in
set_option maxHeartbeats 40000000 in
theorem rmKFB (l : Launch) (Z : State) (a0 : Array Value) (hw : ∀ d ∈ tables_1, d.before a0 Z = true) (s0 : Addr) (k : Int32)  (h0 : Heap) (n0 : Nat) (Z0 : n0 ≤ h0.size) (b : Addr) (ea : Addr) (ke : ClassId) (mc sz : Int32) (bz : 0 ≤ sz.toInt ∧ sz.toInt ≤ 4) (Eb : Exa Z h0 b "java/util/ArrayList") (gb : n0 ≤ b) (ge : n0 ≤ ea) (nbe : b ≠ ea) (B0 : Fld Z h0 b "java/util/AbstractList" "modCount" "I" (.int mc)) (B1 : Fld Z h0 b "java/util/ArrayList" "elementData" "[Ljava/lang/Object;" (.ref ea)) (B2 : Fld Z h0 b "java/util/ArrayList" "size" "I" (.int sz)) (Ve : Arv Z h0 ea ke (.object "java/lang/Object") 10 (List.replicate 10 Value.null) .null) (bk : 0 ≤ k.toInt ∧ k.toInt ≤ sz.toInt) (Fs : Fld Z h0 s0 "com/example/firm_commit/firmcommit/Synchronizations" "_registered" "Ljava/util/List;" (.ref b)) (nsb : s0 ≠ b) (nse : s0 ≠ ea) :
    MetFree l (⟨"com/example/firm_commit/firmcommit/Synchronizations", "keepFirst", "(I)V"⟩ : MethodName) (head1 [Jvm.Cond.code (⟨"com/example/firm_commit/firmcommit/Synchronizations", "keepFirst", "(I)V"⟩ : MethodName) prog_10_method_5_code 2 none] ({ frames := 5, cells := 1, slots := 5, locals := 140 } : Room)) (fun as_ U => as_ = #[(.ref s0), (.int k)] ∧ Z.Warmed39 U.vm ∧ U.heap = h0) (fun _ _ _ _ _ => True) (fun _ U o U' => ∃ v L, o = .returned v ∧ Q_rmKFB Z b ea ke mc k n0 h0 v U'.heap L ∧ FrameEnd U o U' L ({ frames := 5, cells := 1, slots := 5, locals := 140 } : Room).cells ({ frames := 5, cells := 1, slots := 5, locals := 140 } : Room).slots) := by
  refine own_met own_pf16 (ef_rmKFB s0 k) ?_
  intro p e s m below meth c T0 X0 hx hby hml hret hlk hnm hown hZ e0
  have N0 := Fr.nil n0
  refine g_aloadN X0 hx 1 (hb hby d7_0) rfl rfl rfl ?_
  refine g_getF X0 hx hZ hown (hw _ (List.mem_of_getElem? (i := 36) rfl)) Via.refl e0 Fs 4 (hb hby d7_1) rfl ?_
  intro T464 X464 e464
  refine g_iloadN X464 hx 5 (hb hby d7_4) rfl rfl ?_
  refine g_aloadN X464 hx 6 (hb hby d7_5) rfl rfl rfl ?_
  refine g_getF X464 hx hZ hown (hw _ (List.mem_of_getElem? (i := 36) rfl)) Via.refl e464 Fs 9 (hb hby d7_6) rfl ?_
  intro T465 X465 e465
  refine g_face X465 hx hZ (C := "java/util/ArrayList") hown (hw _ (List.mem_of_getElem? (i := 44) rfl)) (hw _ (List.mem_of_getElem? (i := 45) rfl)) (mvT hZ (hw _ (List.mem_of_getElem? (i := 46) rfl))) (hw _ (List.mem_of_getElem? (i := 47) rfl)) (hw _ (List.mem_of_getElem? (i := 48) rfl)) (hw _ (List.mem_of_getElem? (i := 49) rfl)) (hw _ (List.mem_of_getElem? (i := 50) rfl)) (hw _ (List.mem_of_getElem? (i := 51) rfl)) (hw _ (List.mem_of_getElem? (i := 8) rfl)) (hw _ (List.mem_of_getElem? (i := 52) rfl)) (by decide) (rmSz l Z a0 hw b h0 n0 Z0 sz B2) e465 (b := b) Eb (argsL := []) (rest := [(.int k), (.ref b)]) rfl rfl 2 14 rfl (by rw [hml]; rfl) (lenOf own_pd3 rfl) (Nat.le_refl _) (by decide) (by decide) (by decide) (by decide) (hb hby d7_9) ?_
  intro v466 T466 L466 X466 hQ466
  obtain ⟨rfl, N466, q466⟩ := hQ466
  have N467 := Fr.app N0 N466
  show Go p e below _ T466 (mkF m 14 #[.val (.ref s0), .val (.int k)] [(.int sz), (.int k), (.ref b)])
  refine g_face X466 hx hZ (C := "java/util/ArrayList") hown (hw _ (List.mem_of_getElem? (i := 55) rfl)) (hw _ (List.mem_of_getElem? (i := 56) rfl)) (mvT hZ (hw _ (List.mem_of_getElem? (i := 57) rfl))) (hw _ (List.mem_of_getElem? (i := 58) rfl)) (hw _ (List.mem_of_getElem? (i := 59) rfl)) (hw _ (List.mem_of_getElem? (i := 60) rfl)) (hw _ (List.mem_of_getElem? (i := 61) rfl)) (hw _ (List.mem_of_getElem? (i := 51) rfl)) (hw _ (List.mem_of_getElem? (i := 8) rfl)) (hw _ (List.mem_of_getElem? (i := 62) rfl)) (by decide) (rmSub l Z a0 hw b k sz h0 n0 Z0 mc sz bk.1 bk.2 (Int.le_refl _) B0 B2) q466 (b := b) Eb (argsL := [(.int k), (.int sz)]) (rest := []) rfl rfl 0 19 rfl (by rw [hml]; rfl) (lenOf own_pd4 rfl) (Nat.le_refl _) (by decide) (by decide) (by decide) (by decide) (hb hby d7_14) ?_
  intro v468 T468 L468 X468 hQ468
  obtain ⟨r, rfl, N468, K468, Er, gr, sr, F0, F1, F2, F3, F4⟩ := hQ468
  have N469 := Fr.app N467 N468
  have F470 := Eb.keep K468
  have F471 := B0.keep K468 nin0
  have F472 := B1.keep K468 nin0
  have F473 := B2.keep K468 nin0
  have F474 := Ve.keep K468 nin0
  have F475 := Fs.keep K468 nin0
  have Z476 : n0 ≤ T468.heap.size := Nat.le_trans Z0 K468.1
  have K477 := (Keep.refl h0 [b, ea]).trans K468 all0
  have nr_b : b ≠ r := Nat.ne_of_lt (Nat.lt_of_lt_of_le Eb.lt sr)
  have nr_ea : ea ≠ r := Nat.ne_of_lt (Nat.lt_of_lt_of_le Ve.lt sr)
  have nr_s0 : s0 ≠ r := Nat.ne_of_lt (Nat.lt_of_lt_of_le Fs.lt sr)
  show Go p e below _ T468 (mkF m 19 #[.val (.ref s0), .val (.int k)] [(.ref r)])
  refine g_face X468 hx hZ (C := "java/util/ArrayList$SubList") hown (hw _ (List.mem_of_getElem? (i := 90) rfl)) (hw _ (List.mem_of_getElem? (i := 91) rfl)) (mvT hZ (hw _ (List.mem_of_getElem? (i := 92) rfl))) (hw _ (List.mem_of_getElem? (i := 93) rfl)) (hw _ (List.mem_of_getElem? (i := 94) rfl)) (hw _ (List.mem_of_getElem? (i := 95) rfl)) (hw _ (List.mem_of_getElem? (i := 96) rfl)) (hw _ (List.mem_of_getElem? (i := 97) rfl)) (hw _ (List.mem_of_getElem? (i := 16) rfl)) (hw _ (List.mem_of_getElem? (i := 98) rfl)) (by decide) (rmClB l Z a0 hw r T468.heap n0 Z476 k sz b ea ke mc bz F470 gb ge nbe F471 F472 F473 F474 bk Er gr (Ne.symm nr_b) (Ne.symm nr_ea) F0 F1 F2 F3 F4) rfl (b := r) Er (argsL := []) (rest := []) rfl rfl 0 24 rfl (by rw [hml]; rfl) (lenOf own_pd0 rfl) (Nat.le_refl _) (by decide) (by decide) (by decide) (by decide) (hb hby d7_19) ?_
  intro v478 T478 L478 X478 hQ478
  obtain ⟨rfl, N478, K478, L0_478, L1_478, L2_478, LV_478⟩ := hQ478
  have N479 := Fr.app N469 N478
  have F480 := F470.keep K478
  have F485 := F475.keep K478 (ninS nr_s0 (ninS nsb (ninS nse nin0)))
  have F486 := Er.keep K478
  have Z492 : n0 ≤ T478.heap.size := Nat.le_trans Z476 K478.1
  have K493 := K477.trans K478 (allS (Or.inr sr) (allS (Or.inl (List.mem_of_getElem? (i := 0) rfl)) (allS (Or.inl (List.mem_of_getElem? (i := 1) rfl)) all0)))
  show Go p e below _ T478 (mkF m 24 #[.val (.ref s0), .val (.int k)] [])
  exact g_retV X478 hx hlk hret (hb hby d7_24) (by decide) (by decide) rfl ⟨rfl, N479, K493, L0_478, L1_478, L2_478, LV_478⟩
theorem d19_0 : decode prog_10_method_4_code 0 = .ok (.aload_n 0, 1) := by decide +kernel
theorem d19_1 : decode prog_10_method_4_code 1 = .ok (.getfield 15, 3) := by decide +kernel
theorem d19_4 : decode prog_10_method_4_code 4 = .ok (.invokeinterface 25 1, 5) := by decide +kernel
theorem d19_9 : decode prog_10_method_4_code 9 = .ok (.ireturn, 1) := by decide +kernel
theorem own_pf17 : plainFor (⟨"com/example/firm_commit/firmcommit/Synchronizations", "count", "()I"⟩ : MethodName) = true := plainFor_of_name (by first | (simp [plainName, overriddenIn]; done) | decide +kernel)
def Q_rmCt (sz : Int32) (n0 : Nat) (h0 : Heap) (v : Option Value) (h : Heap) (L : List Loc) : Prop := v = some (.int sz) ∧ Fr n0 L ∧ h = h0
theorem ef_rmCt (s0 : Addr) (m : MethodId) : entryFrame m #[(.ref s0)] 1 = mkF m 0 #[.val (.ref s0)] [] := by first | (simp [entryFrame, mkF, argsToLocals, Value.category]; done) | rfl
set_option maxRecDepth 65536 in
set_option maxHeartbeats 40000000 in
theorem rmCt (l : Launch) (Z : State) (a0 : Array Value) (hw : ∀ d ∈ tables_1, d.before a0 Z = true) (s0 : Addr) (h0 : Heap) (n0 : Nat) (Z0 : n0 ≤ h0.size) (b : Addr) (sz : Int32) (Fs : Fld Z h0 s0 "com/example/firm_commit/firmcommit/Synchronizations" "_registered" "Ljava/util/List;" (.ref b)) (Eb : Exa Z h0 b "java/util/ArrayList") (B2 : Fld Z h0 b "java/util/ArrayList" "size" "I" (.int sz)) :
    MetFree l (⟨"com/example/firm_commit/firmcommit/Synchronizations", "count", "()I"⟩ : MethodName) (head1 [Jvm.Cond.code (⟨"com/example/firm_commit/firmcommit/Synchronizations", "count", "()I"⟩ : MethodName) prog_10_method_4_code 1 (some .int)] ({ frames := 1, cells := 0, slots := 0, locals := 12 } : Room)) (fun as_ U => as_ = #[(.ref s0)] ∧ Z.Warmed39 U.vm ∧ U.heap = h0) (fun _ _ _ _ _ => True) (fun _ U o U' => ∃ v L, o = .returned v ∧ Q_rmCt sz n0 h0 v U'.heap L ∧ FrameEnd U o U' L ({ frames := 1, cells := 0, slots := 0, locals := 12 } : Room).cells ({ frames := 1, cells := 0, slots := 0, locals := 12 } : Room).slots) := by
  refine own_met own_pf17 (ef_rmCt s0) ?_
  intro p e s m below meth c T0 X0 hx hby hml hret hlk hnm hown hZ e0
  have N0 := Fr.nil n0
  refine g_aloadN X0 hx 1 (hb hby d19_0) rfl rfl rfl ?_
  refine g_getF X0 hx hZ hown (hw _ (List.mem_of_getElem? (i := 36) rfl)) Via.refl e0 Fs 4 (hb hby d19_1) rfl ?_
  intro T494 X494 e494
  refine g_face X494 hx hZ (C := "java/util/ArrayList") hown (hw _ (List.mem_of_getElem? (i := 44) rfl)) (hw _ (List.mem_of_getElem? (i := 45) rfl)) (mvT hZ (hw _ (List.mem_of_getElem? (i := 46) rfl))) (hw _ (List.mem_of_getElem? (i := 47) rfl)) (hw _ (List.mem_of_getElem? (i := 48) rfl)) (hw _ (List.mem_of_getElem? (i := 49) rfl)) (hw _ (List.mem_of_getElem? (i := 50) rfl)) (hw _ (List.mem_of_getElem? (i := 51) rfl)) (hw _ (List.mem_of_getElem? (i := 8) rfl)) (hw _ (List.mem_of_getElem? (i := 52) rfl)) (by decide) (rmSz l Z a0 hw b h0 n0 Z0 sz B2) e494 (b := b) Eb (argsL := []) (rest := []) rfl rfl 0 9 rfl (by rw [hml]; rfl) (lenOf own_pd3 rfl) (Nat.le_refl _) (by decide) (by decide) (by decide) (by decide) (hb hby d19_4) ?_
  intro v495 T495 L495 X495 hQ495
  obtain ⟨rfl, N495, q495⟩ := hQ495
  have N496 := Fr.app N0 N495
  show Go p e below _ T495 (mkF m 9 #[.val (.ref s0)] [(.int sz)])
  exact g_retI X495 hx hlk hret (hb hby d19_9) (by decide) (by decide) q495 ⟨rfl, N496, rfl⟩
theorem d25_0 : decode jdk_29_method_65_code 0 = .ok (.iload_n 0, 1) := by decide +kernel
theorem d25_1 : decode jdk_29_method_65_code 1 = .ok (.iload_n 1, 1) := by decide +kernel
theorem d25_2 : decode jdk_29_method_65_code 2 = .ok (.if_icmp .lt 7, 3) := by decide +kernel
theorem d25_5 : decode jdk_29_method_65_code 5 = .ok (.iload_n 0, 1) := by decide +kernel
theorem d25_6 : decode jdk_29_method_65_code 6 = .ok (.goto 4, 3) := by decide +kernel
theorem d25_9 : decode jdk_29_method_65_code 9 = .ok (.iload_n 1, 1) := by decide +kernel
theorem d25_10 : decode jdk_29_method_65_code 10 = .ok (.ireturn, 1) := by decide +kernel
theorem own_pf18 : plainFor (⟨"java/lang/Math", "max", "(II)I"⟩ : MethodName) = true := Jvm.Free.JP.mathPlain rfl (by decide)
def Q_rmMx (n0 : Nat) (h0 : Heap) (v : Option Value) (h : Heap) (L : List Loc) : Prop := v = some (.int 10) ∧ Fr n0 L ∧ h = h0
theorem ef_rmMx  (m : MethodId) : entryFrame m #[(.int 10), (.int 1)] 2 = mkF m 0 #[.val (.int 10), .val (.int 1)] [] := by first | (simp [entryFrame, mkF, argsToLocals, Value.category]; done) | rfl
set_option maxRecDepth 65536 in
set_option maxHeartbeats 40000000 in
theorem rmMx (l : Launch) (Z : State) (a0 : Array Value) (hw : ∀ d ∈ tables_1, d.before a0 Z = true)  (h0 : Heap) (n0 : Nat) (Z0 : n0 ≤ h0.size)  :
    MetFree l (⟨"java/lang/Math", "max", "(II)I"⟩ : MethodName) (head1 [Jvm.Cond.code (⟨"java/lang/Math", "max", "(II)I"⟩ : MethodName) jdk_29_method_65_code 2 (some .int)] ({ frames := 0, cells := 0, slots := 0, locals := 0 } : Room)) (fun as_ U => as_ = #[(.int 10), (.int 1)] ∧ Z.Warmed39 U.vm ∧ U.heap = h0) (fun _ _ _ _ _ => True) (fun _ U o U' => ∃ v L, o = .returned v ∧ Q_rmMx n0 h0 v U'.heap L ∧ FrameEnd U o U' L ({ frames := 0, cells := 0, slots := 0, locals := 0 } : Room).cells ({ frames := 0, cells := 0, slots := 0, locals := 0 } : Room).slots) := by
  refine own_met own_pf18 (ef_rmMx ) ?_
  intro p e s m below meth c T0 X0 hx hby hml hret hlk hnm hown hZ e0
  have N0 := Fr.nil n0
  refine g_iloadN X0 hx 1 (hb hby d25_0) rfl rfl ?_
  refine g_iloadN X0 hx 2 (hb hby d25_1) rfl rfl ?_
  have ll498 : ((1 : Int32) : Int32).toInt = 1 := by decide
  have ll499 : ((10 : Int32) : Int32).toInt = 10 := by decide
  refine g_ic_lt X0 hx 9 5 (hb hby d25_2) (by decide) (by decide) rfl (fun c497 => ?_) (fun c497 => ?_)
  · skip
    exfalso; revert c497; decide
  · skip
    refine g_iloadN X0 hx 6 (hb hby d25_5) rfl rfl ?_
    refine g_goto X0 hx 10 (hb hby d25_6) (by decide) (by decide) ?_
    exact g_retI X0 hx hlk hret (hb hby d25_10) (by decide) (by decide) e0 ⟨rfl, N0, rfl⟩
theorem d24_0 : decode jdk_38_method_6_code 0 = .ok (.aload_n 0, 1) := by decide +kernel
theorem d24_1 : decode jdk_38_method_6_code 1 = .ok (.getfield 9, 3) := by decide +kernel
theorem d24_4 : decode jdk_38_method_6_code 4 = .ok (.arraylength, 1) := by decide +kernel
theorem d24_5 : decode jdk_38_method_6_code 5 = .ok (.istore_n 2, 1) := by decide +kernel
theorem d24_6 : decode jdk_38_method_6_code 6 = .ok (.iload_n 2, 1) := by decide +kernel
theorem d24_7 : decode jdk_38_method_6_code 7 = .ok (.ifCond .gt 13, 3) := by decide +kernel
theorem d24_10 : decode jdk_38_method_6_code 10 = .ok (.aload_n 0, 1) := by decide +kernel
theorem d24_11 : decode jdk_38_method_6_code 11 = .ok (.getfield 9, 3) := by decide +kernel
theorem d24_14 : decode jdk_38_method_6_code 14 = .ok (.getstatic 39, 3) := by decide +kernel
theorem d24_17 : decode jdk_38_method_6_code 17 = .ok (.if_acmp .eq 28, 3) := by decide +kernel
theorem d24_20 : decode jdk_38_method_6_code 20 = .ok (.iload_n 2, 1) := by decide +kernel
theorem d24_21 : decode jdk_38_method_6_code 21 = .ok (.iload_n 1, 1) := by decide +kernel
theorem d24_22 : decode jdk_38_method_6_code 22 = .ok (.iload_n 2, 1) := by decide +kernel
theorem d24_23 : decode jdk_38_method_6_code 23 = .ok (.isub, 1) := by decide +kernel
theorem d24_24 : decode jdk_38_method_6_code 24 = .ok (.iload_n 2, 1) := by decide +kernel
theorem d24_25 : decode jdk_38_method_6_code 25 = .ok (.iconst 1, 1) := by decide +kernel
theorem d24_26 : decode jdk_38_method_6_code 26 = .ok (.ishr, 1) := by decide +kernel
theorem d24_27 : decode jdk_38_method_6_code 27 = .ok (.invokestatic 73, 3) := by decide +kernel
theorem d24_30 : decode jdk_38_method_6_code 30 = .ok (.istore_n 3, 1) := by decide +kernel
theorem d24_31 : decode jdk_38_method_6_code 31 = .ok (.aload_n 0, 1) := by decide +kernel
theorem d24_32 : decode jdk_38_method_6_code 32 = .ok (.aload_n 0, 1) := by decide +kernel
theorem d24_33 : decode jdk_38_method_6_code 33 = .ok (.getfield 9, 3) := by decide +kernel
theorem d24_36 : decode jdk_38_method_6_code 36 = .ok (.iload_n 3, 1) := by decide +kernel
theorem d24_37 : decode jdk_38_method_6_code 37 = .ok (.invokestatic 66, 3) := by decide +kernel
theorem d24_40 : decode jdk_38_method_6_code 40 = .ok (.dup_x1, 1) := by decide +kernel
theorem d24_41 : decode jdk_38_method_6_code 41 = .ok (.putfield 9, 3) := by decide +kernel
theorem d24_44 : decode jdk_38_method_6_code 44 = .ok (.areturn, 1) := by decide +kernel
theorem d24_45 : decode jdk_38_method_6_code 45 = .ok (.aload_n 0, 1) := by decide +kernel
theorem d24_46 : decode jdk_38_method_6_code 46 = .ok (.bipush 10, 2) := by decide +kernel
theorem d24_48 : decode jdk_38_method_6_code 48 = .ok (.iload_n 1, 1) := by decide +kernel
theorem d24_49 : decode jdk_38_method_6_code 49 = .ok (.invokestatic 79, 3) := by decide +kernel
theorem d24_52 : decode jdk_38_method_6_code 52 = .ok (.anewarray 7, 3) := by decide +kernel
theorem d24_55 : decode jdk_38_method_6_code 55 = .ok (.dup_x1, 1) := by decide +kernel
theorem d24_56 : decode jdk_38_method_6_code 56 = .ok (.putfield 9, 3) := by decide +kernel
theorem d24_59 : decode jdk_38_method_6_code 59 = .ok (.areturn, 1) := by decide +kernel
theorem own_pf19 : plainFor (⟨"java/util/ArrayList", "grow", "(I)[Ljava/lang/Object;"⟩ : MethodName) = true := plainFor_of_name (by first | (simp [plainName, overriddenIn]; done) | decide +kernel)
def Q_rmG1 (Z : State) (b : Addr) (mc : Int32) (n0 : Nat) (h0 : Heap) (v : Option Value) (h : Heap) (L : List Loc) : Prop := ∃ (es : Addr) (k : ClassId), v = some (.ref es) ∧ Fr n0 L ∧ Keep h0 h [b] ∧ n0 ≤ es ∧ h0.size ≤ es ∧ Arv Z h es k (.object "java/lang/Object") 10 (List.replicate 10 Value.null) .null ∧ b ≠ es ∧ Fld Z h b "java/util/AbstractList" "modCount" "I" (.int mc) ∧ Fld Z h b "java/util/ArrayList" "elementData" "[Ljava/lang/Object;" (.ref es) ∧ Fld Z h b "java/util/ArrayList" "size" "I" (.int (0 : Int32))
theorem ef_rmG1 (b : Addr) (m : MethodId) : entryFrame m #[(.ref b), (.int 1)] 4 = mkF m 0 #[.val (.ref b), .val (.int 1), .unset, .unset] [] := by first | (simp [entryFrame, mkF, argsToLocals, Value.category]; done) | rfl
set_option maxRecDepth 65536 in
set_option maxHeartbeats 40000000 in
theorem rmG1 (l : Launch) (Z : State) (a0 : Array Value) (hw : ∀ d ∈ tables_1, d.before a0 Z = true) (b : Addr) (h0 : Heap) (n0 : Nat) (Z0 : n0 ≤ h0.size) (ea : Addr) (ke : ClassId) (mc : Int32)  (Eb : Exa Z h0 b "java/util/ArrayList") (gb : n0 ≤ b)  (nbe : b ≠ ea) (B0 : Fld Z h0 b "java/util/AbstractList" "modCount" "I" (.int mc)) (B1 : Fld Z h0 b "java/util/ArrayList" "elementData" "[Ljava/lang/Object;" (.ref ea)) (B2 : Fld Z h0 b "java/util/ArrayList" "size" "I" (.int (0 : Int32))) (Ve : Arv Z h0 ea ke (.object "java/lang/Object") 0 [] .null) (O0 : Old Z n0 h0) (S0 : Sta Z Z.heap "java/util/ArrayList" "DEFAULTCAPACITY_EMPTY_ELEMENTDATA" "[Ljava/lang/Object;" (.ref ea)) :
    MetFree l (⟨"java/util/ArrayList", "grow", "(I)[Ljava/lang/Object;"⟩ : MethodName) (head1 [Jvm.Cond.code (⟨"java/util/ArrayList", "grow", "(I)[Ljava/lang/Object;"⟩ : MethodName) jdk_38_method_6_code 4 (some (.array (.object "java/lang/Object")))] ({ frames := 1, cells := 1, slots := 10, locals := 30 } : Room)) (fun as_ U => as_ = #[(.ref b), (.int 1)] ∧ Z.Warmed39 U.vm ∧ U.heap = h0) (fun _ _ _ _ _ => True) (fun _ U o U' => ∃ v L, o = .returned v ∧ Q_rmG1 Z b mc n0 h0 v U'.heap L ∧ FrameEnd U o U' L ({ frames := 1, cells := 1, slots := 10, locals := 30 } : Room).cells ({ frames := 1, cells := 1, slots := 10, locals := 30 } : Room).slots) := by
  refine own_met own_pf19 (ef_rmG1 b) ?_
  intro p e s m below meth c T0 X0 hx hby hml hret hlk hnm hown hZ e0
  have N0 := Fr.nil n0
  refine g_aloadN X0 hx 1 (hb hby d24_0) rfl rfl rfl ?_
  refine g_getF X0 hx hZ hown (hw _ (List.mem_of_getElem? (i := 30) rfl)) Via.refl e0 B1 4 (hb hby d24_1) rfl ?_
  intro T500 X500 e500
  refine g_len X500 hx hZ e500 Ve 5 (hb hby d24_4) rfl ?_
  refine g_istoreN (l' := #[.val (.ref b), .val (.int (1 : Int32)), .val (.int (0 : Int32)), .unset]) X500 hx 6 (hb hby d24_5) rfl rfl ?_
  refine g_iloadN X500 hx 7 (hb hby d24_6) rfl rfl ?_
  have ll502 : ((0 : Int32) : Int32).toInt = 0 := by decide
  refine g_if_gt X500 hx 20 10 (hb hby d24_7) (by decide) (by decide) rfl (fun c501 => ?_) (fun c501 => ?_)
  · skip
    exfalso; revert c501; decide
  · skip
    refine g_aloadN X500 hx 11 (hb hby d24_10) rfl rfl rfl ?_
    refine g_getF X500 hx hZ hown (hw _ (List.mem_of_getElem? (i := 30) rfl)) Via.refl e500 B1 14 (hb hby d24_11) rfl ?_
    intro T503 X503 e503
    refine g_getS X503 hx hZ hown (hw _ (List.mem_of_getElem? (i := 29) rfl)) Via.refl e503 (Sta.ext O0.2 S0) 17 (hb hby d24_14) rfl ?_
    intro T504 X504 e504
    refine g_acmp_eq X504 hx 45 20 (hb hby d24_17) (by decide) (by decide) rfl (fun c505 => ?_) (fun c505 => ?_)
    · skip
      refine g_aloadN X504 hx 46 (hb hby d24_45) rfl rfl rfl ?_
      refine g_bipush X504 hx (10 : Int32) 48 (hb hby d24_46) rfl (by decide) ?_
      refine g_iloadN X504 hx 49 (hb hby d24_48) rfl rfl ?_
      refine g_static X504 hx hZ hown (hw _ (List.mem_of_getElem? (i := 169) rfl)) (hw _ (List.mem_of_getElem? (i := 170) rfl)) (hw _ (List.mem_of_getElem? (i := 171) rfl)) (hw _ (List.mem_of_getElem? (i := 172) rfl)) (by decide) (rmMx l Z a0 hw h0 n0 Z0) e504 (argsL := [(.int (10 : Int32)), (.int (1 : Int32))]) (rest := [(.ref b)]) rfl rfl 1 52 rfl (by rw [hml]; rfl) (lenOf own_pd15 rfl) (Nat.le_refl _) (by decide) (by decide) (by decide) (by decide) (hb hby d24_49) ?_
      intro v506 T506 L506 X506 hQ506
      obtain ⟨rfl, N506, q506⟩ := hQ506
      have N507 := Fr.app N0 N506
      show Go p e below _ T506 (mkF m 52 #[.val (.ref b), .val (.int (1 : Int32)), .val (.int (0 : Int32)), .unset] [(.int (10 : Int32)), (.ref b)])
      refine g_newR X506 hx hZ hown (hw _ (List.mem_of_getElem? (i := 173) rfl)) (hw _ (List.mem_of_getElem? (i := 174) rfl)) q506 (by decide) (cap := 10) (by decide) (by decide) 55 (hb hby d24_52) rfl (by decide) (by decide) ?_
      intro T508 h508 k508 a508 g508 X508 e508 E508 V508 O508
      have ne509 : b ≠ a508 := Nat.ne_of_lt (by rw [g508]; exact Eb.lt)
      have ne510 : ea ≠ a508 := Nat.ne_of_lt (by rw [g508]; exact Ve.lt)
      have ge511 : n0 ≤ a508 := by rw [g508]; exact Z0
      have sz512 : h0.size ≤ a508 := by rw [g508]; exact (Keep.refl h0 [b]).1
      have F513 := Eb.ext E508
      have F514 := B0.ext E508
      have F515 := B1.ext E508
      have F516 := B2.ext E508
      have F517 := Ve.ext E508
      have F518 := O0.ext E508
      have K519 := (Keep.refl h0 [b]).ext E508
      have Z520 : n0 ≤ h508.size := Nat.le_trans Z0 E508.1
      refine g_dupX1 X508 hx 56 (hb hby d24_55) rfl rfl rfl ?_
      refine g_putF X508 hx hZ hown (hw _ (List.mem_of_getElem? (i := 30) rfl)) Via.refl e508 F515 F513 (Or.inl (hw _ (List.mem_of_getElem? (i := 31) rfl))) (hw _ (List.mem_of_getElem? (i := 7) rfl)) (ty := (.array (.object "java/lang/Object"))) (by decide) rfl rfl 59 (hb hby d24_56) rfl ?_
      intro T521 h521 X521 e521 W521
      have F522 : Fld Z h521 b "java/util/ArrayList" "elementData" "[Ljava/lang/Object;" (.ref a508) := F515.same W521
      have F523 := F513.wr W521
      have F524 := F514.other W521 (Or.inr (slot_ne (Or.inl (hw _ (List.mem_of_getElem? (i := 28) rfl))) (Or.inl (hw _ (List.mem_of_getElem? (i := 31) rfl))) (by decide) (t := .int) (t' := (.array (.object "java/lang/Object"))) (by decide) (by decide)))
      have F525 := F516.other W521 (Or.inr (slot_ne (Or.inl (hw _ (List.mem_of_getElem? (i := 54) rfl))) (Or.inl (hw _ (List.mem_of_getElem? (i := 31) rfl))) (by decide) (t := .int) (t' := (.array (.object "java/lang/Object"))) (by decide) (by decide)))
      have F526 := F517.other W521 (Ne.symm nbe)
      have F527 := F518.wr W521 gb
      have F528 := V508.other W521 (Ne.symm ne509)
      have K529 := K519.wr W521 (Or.inl (List.mem_of_getElem? (i := 0) rfl))
      have N530 := Fr.snoc X521 N507 gb
      have Z531 : n0 ≤ h521.size := by rw [W521.size]; exact Z520
      have VB : Arv Z h521 a508 k508 (.object "java/lang/Object") 10 (List.replicate 10 Value.null) .null := F528.pad (pad_rep [] .null 10)
      exact g_retA X521 hx hlk hret rfl rfl rfl (hb hby d24_59) (by decide) (by decide) e521 ⟨a508, _, rfl, N530, K529, ge511, sz512, VB, ne509, F524, F522, F525⟩
    · skip
      exact absurd rfl c505
theorem d23_0 : decode jdk_38_method_7_code 0 = .ok (.aload_n 0, 1) := by decide +kernel
theorem d23_1 : decode jdk_38_method_7_code 1 = .ok (.aload_n 0, 1) := by decide +kernel
theorem d23_2 : decode jdk_38_method_7_code 2 = .ok (.getfield 48, 3) := by decide +kernel
theorem d23_5 : decode jdk_38_method_7_code 5 = .ok (.iconst 1, 1) := by decide +kernel
theorem d23_6 : decode jdk_38_method_7_code 6 = .ok (.iadd, 1) := by decide +kernel
theorem d23_7 : decode jdk_38_method_7_code 7 = .ok (.invokevirtual 69, 3) := by decide +kernel
theorem d23_10 : decode jdk_38_method_7_code 10 = .ok (.areturn, 1) := by decide +kernel
theorem own_pf20 : plainFor (⟨"java/util/ArrayList", "grow", "()[Ljava/lang/Object;"⟩ : MethodName) = true := plainFor_of_name (by first | (simp [plainName, overriddenIn]; done) | decide +kernel)
def Q_rmG0 (Z : State) (b : Addr) (mc : Int32) (n0 : Nat) (h0 : Heap) (v : Option Value) (h : Heap) (L : List Loc) : Prop := ∃ (es : Addr) (k : ClassId), v = some (.ref es) ∧ Fr n0 L ∧ Keep h0 h [b] ∧ n0 ≤ es ∧ h0.size ≤ es ∧ Arv Z h es k (.object "java/lang/Object") 10 (List.replicate 10 Value.null) .null ∧ b ≠ es ∧ Fld Z h b "java/util/AbstractList" "modCount" "I" (.int mc) ∧ Fld Z h b "java/util/ArrayList" "elementData" "[Ljava/lang/Object;" (.ref es) ∧ Fld Z h b "java/util/ArrayList" "size" "I" (.int (0 : Int32))
theorem ef_rmG0 (b : Addr) (m : MethodId) : entryFrame m #[(.ref b)] 1 = mkF m 0 #[.val (.ref b)] [] := by first | (simp [entryFrame, mkF, argsToLocals, Value.category]; done) | rfl
set_option maxRecDepth 65536 in
set_option maxHeartbeats 40000000 in
theorem rmG0 (l : Launch) (Z : State) (a0 : Array Value) (hw : ∀ d ∈ tables_1, d.before a0 Z = true) (b : Addr) (h0 : Heap) (n0 : Nat) (Z0 : n0 ≤ h0.size) (ea : Addr) (ke : ClassId) (mc : Int32)  (Eb : Exa Z h0 b "java/util/ArrayList") (gb : n0 ≤ b)  (nbe : b ≠ ea) (B0 : Fld Z h0 b "java/util/AbstractList" "modCount" "I" (.int mc)) (B1 : Fld Z h0 b "java/util/ArrayList" "elementData" "[Ljava/lang/Object;" (.ref ea)) (B2 : Fld Z h0 b "java/util/ArrayList" "size" "I" (.int (0 : Int32))) (Ve : Arv Z h0 ea ke (.object "java/lang/Object") 0 [] .null) (O0 : Old Z n0 h0) (S0 : Sta Z Z.heap "java/util/ArrayList" "DEFAULTCAPACITY_EMPTY_ELEMENTDATA" "[Ljava/lang/Object;" (.ref ea)) :
    MetFree l (⟨"java/util/ArrayList", "grow", "()[Ljava/lang/Object;"⟩ : MethodName) (head1 [Jvm.Cond.code (⟨"java/util/ArrayList", "grow", "()[Ljava/lang/Object;"⟩ : MethodName) jdk_38_method_7_code 1 (some (.array (.object "java/lang/Object")))] ({ frames := 2, cells := 1, slots := 10, locals := 60 } : Room)) (fun as_ U => as_ = #[(.ref b)] ∧ Z.Warmed39 U.vm ∧ U.heap = h0) (fun _ _ _ _ _ => True) (fun _ U o U' => ∃ v L, o = .returned v ∧ Q_rmG0 Z b mc n0 h0 v U'.heap L ∧ FrameEnd U o U' L ({ frames := 2, cells := 1, slots := 10, locals := 60 } : Room).cells ({ frames := 2, cells := 1, slots := 10, locals := 60 } : Room).slots) := by
  refine own_met own_pf20 (ef_rmG0 b) ?_
  intro p e s m below meth c T0 X0 hx hby hml hret hlk hnm hown hZ e0
  have N0 := Fr.nil n0
  refine g_aloadN X0 hx 1 (hb hby d23_0) rfl rfl rfl ?_
  refine g_aloadN X0 hx 2 (hb hby d23_1) rfl rfl rfl ?_
  refine g_getF X0 hx hZ hown (hw _ (List.mem_of_getElem? (i := 53) rfl)) Via.refl e0 B2 5 (hb hby d23_2) rfl ?_
  intro T532 X532 e532
  refine g_iconst X532 hx (1 : Int32) 6 (hb hby d23_5) rfl (by decide) ?_
  refine g_iaddC X532 hx (1 : Int32) (by decide) 7 (hb hby d23_6) rfl ?_
  refine g_priv X532 hx hZ (C := "java/util/ArrayList") (z := ({ cls := "java/util/ArrayList", name := "removeRange", desc := "(II)V" } : Jvm.MethodName)) hown (hw _ (List.mem_of_getElem? (i := 164) rfl)) (hw _ (List.mem_of_getElem? (i := 166) rfl)) (hw _ (List.mem_of_getElem? (i := 119) rfl)) rfl (hw _ (List.mem_of_getElem? (i := 165) rfl)) (hw _ (List.mem_of_getElem? (i := 8) rfl)) (hw _ (List.mem_of_getElem? (i := 168) rfl)) (by decide) (rmG1 l Z a0 hw b h0 n0 Z0 ea ke mc Eb gb  nbe B0 B1 B2 Ve O0 S0) e532 (b := b) Eb (argsL := [(.int (1 : Int32))]) (rest := []) rfl rfl 0 10 rfl (by rw [hml]; rfl) (lenOf own_pd14 rfl) (Nat.le_refl _) (by decide) (by decide) (by decide) (by decide) (hb hby d23_7) ?_
  intro v533 T533 L533 X533 hQ533
  obtain ⟨es, kb, rfl, N533, K533, ges, ses, VB, nbs, L0_533, L1_533, L2_533⟩ := hQ533
  have N534 := Fr.app N0 N533
  have F535 := Eb.keep K533
  have F539 := O0.keep K533 (allS gb all0)
  have Z540 : n0 ≤ T533.heap.size := Nat.le_trans Z0 K533.1
  have K541 := (Keep.refl h0 [b]).trans K533 (allS (Or.inl (List.mem_of_getElem? (i := 0) rfl)) all0)
  show Go p e below _ T533 (mkF m 10 #[.val (.ref b)] [(.ref es)])
  exact g_retA X533 hx hlk hret rfl rfl rfl (hb hby d23_10) (by decide) (by decide) rfl ⟨es, _, rfl, N534, K541, ges, ses, VB, nbs, L0_533, L1_533, L2_533⟩
theorem d22_0 : decode jdk_38_method_24_code 0 = .ok (.iload_n 3, 1) := by decide +kernel
theorem d22_1 : decode jdk_38_method_24_code 1 = .ok (.aload_n 2, 1) := by decide +kernel
theorem d22_2 : decode jdk_38_method_24_code 2 = .ok (.arraylength, 1) := by decide +kernel
theorem d22_3 : decode jdk_38_method_24_code 3 = .ok (.if_icmp .ne 8, 3) := by decide +kernel
theorem d22_6 : decode jdk_38_method_24_code 6 = .ok (.aload_n 0, 1) := by decide +kernel
theorem d22_7 : decode jdk_38_method_24_code 7 = .ok (.invokevirtual 129, 3) := by decide +kernel
theorem d22_10 : decode jdk_38_method_24_code 10 = .ok (.astore_n 2, 1) := by decide +kernel
theorem d22_11 : decode jdk_38_method_24_code 11 = .ok (.aload_n 2, 1) := by decide +kernel
theorem d22_12 : decode jdk_38_method_24_code 12 = .ok (.iload_n 3, 1) := by decide +kernel
theorem d22_13 : decode jdk_38_method_24_code 13 = .ok (.aload_n 1, 1) := by decide +kernel
theorem d22_14 : decode jdk_38_method_24_code 14 = .ok (.aastore, 1) := by decide +kernel
theorem d22_15 : decode jdk_38_method_24_code 15 = .ok (.aload_n 0, 1) := by decide +kernel
theorem d22_16 : decode jdk_38_method_24_code 16 = .ok (.iload_n 3, 1) := by decide +kernel
theorem d22_17 : decode jdk_38_method_24_code 17 = .ok (.iconst 1, 1) := by decide +kernel
theorem d22_18 : decode jdk_38_method_24_code 18 = .ok (.iadd, 1) := by decide +kernel
theorem d22_19 : decode jdk_38_method_24_code 19 = .ok (.putfield 48, 3) := by decide +kernel
theorem d22_22 : decode jdk_38_method_24_code 22 = .ok (.return_, 1) := by decide +kernel
theorem own_pf21 : plainFor (⟨"java/util/ArrayList", "add", "(Ljava/lang/Object;[Ljava/lang/Object;I)V"⟩ : MethodName) = true := plainFor_of_name (by first | (simp [plainName, overriddenIn]; done) | decide +kernel)
def Q_rmA3A (Z : State) (b : Addr) (mc : Int32) (n0 : Nat) (h0 : Heap) (v : Option Value) (h : Heap) (L : List Loc) : Prop := ∃ (es : Addr) (k : ClassId), v = none ∧ Fr n0 L ∧ Keep h0 h [b] ∧ n0 ≤ es ∧ h0.size ≤ es ∧ Arv Z h es k (.object "java/lang/Object") 10 (List.replicate 10 Value.null) .null ∧ b ≠ es ∧ Fld Z h b "java/util/AbstractList" "modCount" "I" (.int mc) ∧ Fld Z h b "java/util/ArrayList" "elementData" "[Ljava/lang/Object;" (.ref es) ∧ Fld Z h b "java/util/ArrayList" "size" "I" (.int (1 : Int32))
theorem ef_rmA3A (b ea : Addr) (m : MethodId) : entryFrame m #[(.ref b), .null, (.ref ea), (.int (0 : Int32))] 4 = mkF m 0 #[.val (.ref b), .val .null, .val (.ref ea), .val (.int (0 : Int32))] [] := by first | (simp [entryFrame, mkF, argsToLocals, Value.category]; done) | rfl
set_option maxRecDepth 65536 in
set_option maxHeartbeats 40000000 in
theorem rmA3A (l : Launch) (Z : State) (a0 : Array Value) (hw : ∀ d ∈ tables_1, d.before a0 Z = true) (b ea : Addr) (h0 : Heap) (n0 : Nat) (Z0 : n0 ≤ h0.size) (ke : ClassId) (mc : Int32)  (Eb : Exa Z h0 b "java/util/ArrayList") (gb : n0 ≤ b)  (nbe : b ≠ ea) (B0 : Fld Z h0 b "java/util/AbstractList" "modCount" "I" (.int mc)) (B1 : Fld Z h0 b "java/util/ArrayList" "elementData" "[Ljava/lang/Object;" (.ref ea)) (B2 : Fld Z h0 b "java/util/ArrayList" "size" "I" (.int (0 : Int32))) (Ve : Arv Z h0 ea ke (.object "java/lang/Object") 0 [] .null) (O0 : Old Z n0 h0) (S0 : Sta Z Z.heap "java/util/ArrayList" "DEFAULTCAPACITY_EMPTY_ELEMENTDATA" "[Ljava/lang/Object;" (.ref ea)) :
    MetFree l (⟨"java/util/ArrayList", "add", "(Ljava/lang/Object;[Ljava/lang/Object;I)V"⟩ : MethodName) (head1 [Jvm.Cond.code (⟨"java/util/ArrayList", "add", "(Ljava/lang/Object;[Ljava/lang/Object;I)V"⟩ : MethodName) jdk_38_method_24_code 4 none] ({ frames := 3, cells := 1, slots := 10, locals := 80 } : Room)) (fun as_ U => as_ = #[(.ref b), .null, (.ref ea), (.int (0 : Int32))] ∧ Z.Warmed39 U.vm ∧ U.heap = h0) (fun _ _ _ _ _ => True) (fun _ U o U' => ∃ v L, o = .returned v ∧ Q_rmA3A Z b mc n0 h0 v U'.heap L ∧ FrameEnd U o U' L ({ frames := 3, cells := 1, slots := 10, locals := 80 } : Room).cells ({ frames := 3, cells := 1, slots := 10, locals := 80 } : Room).slots) := by
  refine own_met own_pf21 (ef_rmA3A b ea) ?_
  intro p e s m below meth c T0 X0 hx hby hml hret hlk hnm hown hZ e0
  have N0 := Fr.nil n0
  refine g_iloadN X0 hx 1 (hb hby d22_0) rfl rfl ?_
  refine g_aloadN X0 hx 2 (hb hby d22_1) rfl rfl rfl ?_
  refine g_len X0 hx hZ e0 Ve 3 (hb hby d22_2) rfl ?_
  have ll543 : ((0 : Int32) : Int32).toInt = 0 := by decide
  have ll544 : ((0 : Int32) : Int32).toInt = 0 := by decide
  refine g_ic_ne X0 hx 11 6 (hb hby d22_3) (by decide) (by decide) rfl (fun c542 => ?_) (fun c542 => ?_)
  · skip
    exact absurd rfl c542
  · skip
    refine g_aloadN X0 hx 7 (hb hby d22_6) rfl rfl rfl ?_
    refine g_priv X0 hx hZ (C := "java/util/ArrayList") (z := ({ cls := "java/util/ArrayList", name := "removeRange", desc := "(II)V" } : Jvm.MethodName)) hown (hw _ (List.mem_of_getElem? (i := 159) rfl)) (hw _ (List.mem_of_getElem? (i := 161) rfl)) (hw _ (List.mem_of_getElem? (i := 119) rfl)) rfl (hw _ (List.mem_of_getElem? (i := 160) rfl)) (hw _ (List.mem_of_getElem? (i := 8) rfl)) (hw _ (List.mem_of_getElem? (i := 163) rfl)) (by decide) (rmG0 l Z a0 hw b h0 n0 Z0 ea ke mc Eb gb  nbe B0 B1 B2 Ve O0 S0) e0 (b := b) Eb (argsL := []) (rest := []) rfl rfl 0 10 rfl (by rw [hml]; rfl) (lenOf own_pd13 rfl) (Nat.le_refl _) (by decide) (by decide) (by decide) (by decide) (hb hby d22_7) ?_
    intro v545 T545 L545 X545 hQ545
    obtain ⟨es, kb, rfl, N545, K545, ges, ses, VB, nbs, L0_545, L1_545, L2_545⟩ := hQ545
    have N546 := Fr.app N0 N545
    have F547 := Eb.keep K545
    have F551 := O0.keep K545 (allS gb all0)
    have Z552 : n0 ≤ T545.heap.size := Nat.le_trans Z0 K545.1
    have K553 := (Keep.refl h0 [b]).trans K545 (allS (Or.inl (List.mem_of_getElem? (i := 0) rfl)) all0)
    show Go p e below _ T545 (mkF m 10 #[.val (.ref b), .val .null, .val (.ref ea), .val (.int (0 : Int32))] [(.ref es)])
    refine g_astoreN (l' := #[.val (.ref b), .val .null, .val (.ref es), .val (.int (0 : Int32))]) X545 hx 11 (hb hby d22_10) rfl rfl rfl ?_
    refine g_aloadN X545 hx 12 (hb hby d22_11) rfl rfl rfl ?_
    refine g_iloadN X545 hx 13 (hb hby d22_12) rfl rfl ?_
    refine g_aloadN X545 hx 14 (hb hby d22_13) rfl rfl rfl ?_
    have l0 : (0 : Int32).toInt = 0 := by decide
    refine g_aastoreN X545 hx hZ rfl rfl VB rfl 0 (by omega) (by have := (by decide : (10 : Int32).toInt = 10); omega) (by rw [List.length_replicate]; omega) 15 (hb hby d22_14) rfl ?_
    intro T554 h554 X554 e554 W554 V554
    rw [own_setnull] at V554
    have F555 := F547.wr W554
    have F556 := F551.wr W554 ges
    have F557 := L0_545.other W554 (Or.inl nbs)
    have F558 := L1_545.other W554 (Or.inl nbs)
    have F559 := L2_545.other W554 (Or.inl nbs)
    have K561 := K553.wr W554 (Or.inr ses)
    have N562 := Fr.snoc X554 N546 ges
    have Z563 : n0 ≤ h554.size := by rw [W554.size]; exact Z552
    refine g_aloadN X554 hx 16 (hb hby d22_15) rfl rfl rfl ?_
    refine g_iloadN X554 hx 17 (hb hby d22_16) rfl rfl ?_
    refine g_iconst X554 hx (1 : Int32) 18 (hb hby d22_17) rfl (by decide) ?_
    refine g_iaddC X554 hx (1 : Int32) (by decide) 19 (hb hby d22_18) rfl ?_
    refine g_putF X554 hx hZ hown (hw _ (List.mem_of_getElem? (i := 53) rfl)) Via.refl e554 F559 F555 (Or.inl (hw _ (List.mem_of_getElem? (i := 54) rfl))) (hw _ (List.mem_of_getElem? (i := 7) rfl)) (ty := .int) (by decide) rfl rfl 22 (hb hby d22_19) rfl ?_
    intro T564 h564 X564 e564 W564
    have F565 : Fld Z h564 b "java/util/ArrayList" "size" "I" (.int (1 : Int32)) := F559.same W564
    have F566 := F555.wr W564
    have F567 := F556.wr W564 gb
    have F568 := F557.other W564 (Or.inr (slot_ne (Or.inl (hw _ (List.mem_of_getElem? (i := 28) rfl))) (Or.inl (hw _ (List.mem_of_getElem? (i := 54) rfl))) (by decide) (t := .int) (t' := .int) (by decide) (by decide)))
    have F569 := F558.other W564 (Or.inr (slot_ne (Or.inl (hw _ (List.mem_of_getElem? (i := 31) rfl))) (Or.inl (hw _ (List.mem_of_getElem? (i := 54) rfl))) (by decide) (t := (.array (.object "java/lang/Object"))) (t' := .int) (by decide) (by decide)))
    have F570 := V554.other W564 (Ne.symm nbs)
    have K571 := K561.wr W564 (Or.inl (List.mem_of_getElem? (i := 0) rfl))
    have N572 := Fr.snoc X564 N562 gb
    have Z573 : n0 ≤ h564.size := by rw [W564.size]; exact Z563
    exact g_retV X564 hx hlk hret (hb hby d22_22) (by decide) (by decide) e564 ⟨es, _, rfl, N572, K571, ges, ses, F570, nbs, F568, F569, F565⟩
theorem d21_0 : decode jdk_38_method_25_code 0 = .ok (.aload_n 0, 1) := by decide +kernel
theorem d21_1 : decode jdk_38_method_25_code 1 = .ok (.dup, 1) := by decide +kernel
theorem d21_2 : decode jdk_38_method_25_code 2 = .ok (.getfield 63, 3) := by decide +kernel
theorem d21_5 : decode jdk_38_method_25_code 5 = .ok (.iconst 1, 1) := by decide +kernel
theorem d21_6 : decode jdk_38_method_25_code 6 = .ok (.iadd, 1) := by decide +kernel
theorem d21_7 : decode jdk_38_method_25_code 7 = .ok (.putfield 63, 3) := by decide +kernel
theorem d21_10 : decode jdk_38_method_25_code 10 = .ok (.aload_n 0, 1) := by decide +kernel
theorem d21_11 : decode jdk_38_method_25_code 11 = .ok (.aload_n 1, 1) := by decide +kernel
theorem d21_12 : decode jdk_38_method_25_code 12 = .ok (.aload_n 0, 1) := by decide +kernel
theorem d21_13 : decode jdk_38_method_25_code 13 = .ok (.getfield 9, 3) := by decide +kernel
theorem d21_16 : decode jdk_38_method_25_code 16 = .ok (.aload_n 0, 1) := by decide +kernel
theorem d21_17 : decode jdk_38_method_25_code 17 = .ok (.getfield 48, 3) := by decide +kernel
theorem d21_20 : decode jdk_38_method_25_code 20 = .ok (.invokevirtual 131, 3) := by decide +kernel
theorem d21_23 : decode jdk_38_method_25_code 23 = .ok (.iconst 1, 1) := by decide +kernel
theorem d21_24 : decode jdk_38_method_25_code 24 = .ok (.ireturn, 1) := by decide +kernel
theorem own_pf22 : plainFor (⟨"java/util/ArrayList", "add", "(Ljava/lang/Object;)Z"⟩ : MethodName) = true := plainFor_of_name (by first | (simp [plainName, overriddenIn]; done) | decide +kernel)
def Q_rmAdA (Z : State) (b : Addr) (mc : Int32) (n0 : Nat) (h0 : Heap) (v : Option Value) (h : Heap) (L : List Loc) : Prop := ∃ (es : Addr) (k : ClassId), v = some (.int 1) ∧ Fr n0 L ∧ Keep h0 h [b] ∧ n0 ≤ es ∧ h0.size ≤ es ∧ Arv Z h es k (.object "java/lang/Object") 10 (List.replicate 10 Value.null) .null ∧ b ≠ es ∧ Fld Z h b "java/util/AbstractList" "modCount" "I" (.int (mc + (1 : Int32))) ∧ Fld Z h b "java/util/ArrayList" "elementData" "[Ljava/lang/Object;" (.ref es) ∧ Fld Z h b "java/util/ArrayList" "size" "I" (.int (1 : Int32))
theorem ef_rmAdA (b : Addr) (m : MethodId) : entryFrame m #[(.ref b), .null] 2 = mkF m 0 #[.val (.ref b), .val .null] [] := by first | (simp [entryFrame, mkF, argsToLocals, Value.category]; done) | rfl
set_option maxRecDepth 65536 in
set_option maxHeartbeats 40000000 in
theorem rmAdA (l : Launch) (Z : State) (a0 : Array Value) (hw : ∀ d ∈ tables_1, d.before a0 Z = true) (b : Addr) (h0 : Heap) (n0 : Nat) (Z0 : n0 ≤ h0.size) (ea : Addr) (ke : ClassId) (mc : Int32)  (Eb : Exa Z h0 b "java/util/ArrayList") (gb : n0 ≤ b)  (nbe : b ≠ ea) (B0 : Fld Z h0 b "java/util/AbstractList" "modCount" "I" (.int mc)) (B1 : Fld Z h0 b "java/util/ArrayList" "elementData" "[Ljava/lang/Object;" (.ref ea)) (B2 : Fld Z h0 b "java/util/ArrayList" "size" "I" (.int (0 : Int32))) (Ve : Arv Z h0 ea ke (.object "java/lang/Object") 0 [] .null) (O0 : Old Z n0 h0) (S0 : Sta Z Z.heap "java/util/ArrayList" "DEFAULTCAPACITY_EMPTY_ELEMENTDATA" "[Ljava/lang/Object;" (.ref ea)) :
    MetFree l (⟨"java/util/ArrayList", "add", "(Ljava/lang/Object;)Z"⟩ : MethodName) (head1 [Jvm.Cond.code (⟨"java/util/ArrayList", "add", "(Ljava/lang/Object;)Z"⟩ : MethodName) jdk_38_method_25_code 2 (some .boolean)] ({ frames := 4, cells := 1, slots := 10, locals := 100 } : Room)) (fun as_ U => as_ = #[(.ref b), .null] ∧ Z.Warmed39 U.vm ∧ U.heap = h0) (fun _ _ _ _ _ => True) (fun _ U o U' => ∃ v L, o = .returned v ∧ Q_rmAdA Z b mc n0 h0 v U'.heap L ∧ FrameEnd U o U' L ({ frames := 4, cells := 1, slots := 10, locals := 100 } : Room).cells ({ frames := 4, cells := 1, slots := 10, locals := 100 } : Room).slots) := by
  refine own_met own_pf22 (ef_rmAdA b) ?_
  intro p e s m below meth c T0 X0 hx hby hml hret hlk hnm hown hZ e0
  have N0 := Fr.nil n0
  refine g_aloadN X0 hx 1 (hb hby d21_0) rfl rfl rfl ?_
  refine g_dup X0 hx 2 (hb hby d21_1) rfl rfl ?_
  refine g_getF X0 hx hZ hown (hw _ (List.mem_of_getElem? (i := 121) rfl)) (Via.of (hw _ (List.mem_of_getElem? (i := 87) rfl))) e0 B0 5 (hb hby d21_2) rfl ?_
  intro T574 X574 e574
  refine g_iconst X574 hx (1 : Int32) 6 (hb hby d21_5) rfl (by decide) ?_
  refine g_iadd X574 hx 7 (hb hby d21_6) rfl ?_
  refine g_putF X574 hx hZ hown (hw _ (List.mem_of_getElem? (i := 121) rfl)) (Via.of (hw _ (List.mem_of_getElem? (i := 87) rfl))) e574 B0 Eb (Or.inl (hw _ (List.mem_of_getElem? (i := 28) rfl))) (hw _ (List.mem_of_getElem? (i := 7) rfl)) (ty := .int) (by decide) rfl rfl 10 (hb hby d21_7) rfl ?_
  intro T575 h575 X575 e575 W575
  have F576 : Fld Z h575 b "java/util/AbstractList" "modCount" "I" (.int (mc + (1 : Int32))) := B0.same W575
  have F577 := Eb.wr W575
  have F578 := B1.other W575 (Or.inr (slot_ne (Or.inl (hw _ (List.mem_of_getElem? (i := 31) rfl))) (Or.inl (hw _ (List.mem_of_getElem? (i := 28) rfl))) (by decide) (t := (.array (.object "java/lang/Object"))) (t' := .int) (by decide) (by decide)))
  have F579 := B2.other W575 (Or.inr (slot_ne (Or.inl (hw _ (List.mem_of_getElem? (i := 54) rfl))) (Or.inl (hw _ (List.mem_of_getElem? (i := 28) rfl))) (by decide) (t := .int) (t' := .int) (by decide) (by decide)))
  have F580 := Ve.other W575 (Ne.symm nbe)
  have F581 := O0.wr W575 gb
  have K582 := (Keep.refl h0 [b]).wr W575 (Or.inl (List.mem_of_getElem? (i := 0) rfl))
  have N583 := Fr.snoc X575 N0 gb
  have Z584 : n0 ≤ h575.size := by rw [W575.size]; exact Z0
  refine g_aloadN X575 hx 11 (hb hby d21_10) rfl rfl rfl ?_
  refine g_aloadN X575 hx 12 (hb hby d21_11) rfl rfl rfl ?_
  refine g_aloadN X575 hx 13 (hb hby d21_12) rfl rfl rfl ?_
  refine g_getF X575 hx hZ hown (hw _ (List.mem_of_getElem? (i := 30) rfl)) Via.refl e575 F578 16 (hb hby d21_13) rfl ?_
  intro T585 X585 e585
  refine g_aloadN X585 hx 17 (hb hby d21_16) rfl rfl rfl ?_
  refine g_getF X585 hx hZ hown (hw _ (List.mem_of_getElem? (i := 53) rfl)) Via.refl e585 F579 20 (hb hby d21_17) rfl ?_
  intro T586 X586 e586
  refine g_priv X586 hx hZ (C := "java/util/ArrayList") (z := ({ cls := "java/util/ArrayList", name := "removeRange", desc := "(II)V" } : Jvm.MethodName)) hown (hw _ (List.mem_of_getElem? (i := 154) rfl)) (hw _ (List.mem_of_getElem? (i := 156) rfl)) (hw _ (List.mem_of_getElem? (i := 119) rfl)) rfl (hw _ (List.mem_of_getElem? (i := 155) rfl)) (hw _ (List.mem_of_getElem? (i := 8) rfl)) (hw _ (List.mem_of_getElem? (i := 158) rfl)) (by decide) (rmA3A l Z a0 hw b ea h575 n0 Z584 ke (mc + (1 : Int32)) F577 gb  nbe F576 F578 F579 F580 F581 S0) e586 (b := b) F577 (argsL := [.null, (.ref ea), (.int (0 : Int32))]) (rest := []) rfl rfl 0 23 rfl (by rw [hml]; rfl) (lenOf own_pd12 rfl) (Nat.le_refl _) (by decide) (by decide) (by decide) (by decide) (hb hby d21_20) ?_
  intro v587 T587 L587 X587 hQ587
  obtain ⟨es, kb, rfl, N587, K587, ges, ses, VB, nbs, L0_587, L1_587, L2_587⟩ := hQ587
  have N588 := Fr.app N583 N587
  have ses := Nat.le_trans (K582).1 ses
  have F589 := F577.keep K587
  have F592 := F581.keep K587 (allS gb all0)
  have Z594 : n0 ≤ T587.heap.size := Nat.le_trans Z584 K587.1
  have K595 := K582.trans K587 (allS (Or.inl (List.mem_of_getElem? (i := 0) rfl)) all0)
  show Go p e below _ T587 (mkF m 23 #[.val (.ref b), .val .null] [])
  refine g_iconst X587 hx (1 : Int32) 24 (hb hby d21_23) rfl (by decide) ?_
  exact g_retZ X587 hx hlk hret (hb hby d21_24) (by decide) (by decide) rfl ⟨es, _, rfl, N588, K595, ges, ses, VB, nbs, L0_587, L1_587, L2_587⟩
theorem d20_0 : decode prog_10_method_3_code 0 = .ok (.aload_n 0, 1) := by decide +kernel
theorem d20_1 : decode prog_10_method_3_code 1 = .ok (.getfield 15, 3) := by decide +kernel
theorem d20_4 : decode prog_10_method_3_code 4 = .ok (.aload_n 1, 1) := by decide +kernel
theorem d20_5 : decode prog_10_method_3_code 5 = .ok (.invokeinterface 19 2, 5) := by decide +kernel
theorem d20_10 : decode prog_10_method_3_code 10 = .ok (.pop, 1) := by decide +kernel
theorem d20_11 : decode prog_10_method_3_code 11 = .ok (.return_, 1) := by decide +kernel
theorem own_pf23 : plainFor (⟨"com/example/firm_commit/firmcommit/Synchronizations", "add", "(Lcom/example/firm_commit/firmcommit/TransactionSynchronization;)V"⟩ : MethodName) = true := plainFor_of_name (by first | (simp [plainName, overriddenIn]; done) | decide +kernel)
def Q_rmSAA (Z : State) (b : Addr) (mc : Int32) (n0 : Nat) (h0 : Heap) (v : Option Value) (h : Heap) (L : List Loc) : Prop := ∃ (es : Addr) (k : ClassId), v = none ∧ Fr n0 L ∧ Keep h0 h [b] ∧ n0 ≤ es ∧ h0.size ≤ es ∧ Arv Z h es k (.object "java/lang/Object") 10 (List.replicate 10 Value.null) .null ∧ b ≠ es ∧ Fld Z h b "java/util/AbstractList" "modCount" "I" (.int (mc + (1 : Int32))) ∧ Fld Z h b "java/util/ArrayList" "elementData" "[Ljava/lang/Object;" (.ref es) ∧ Fld Z h b "java/util/ArrayList" "size" "I" (.int (1 : Int32))
theorem ef_rmSAA (s0 : Addr) (m : MethodId) : entryFrame m #[(.ref s0), .null] 2 = mkF m 0 #[.val (.ref s0), .val .null] [] := by first | (simp [entryFrame, mkF, argsToLocals, Value.category]; done) | rfl
set_option maxRecDepth 65536 in
set_option maxHeartbeats 40000000 in
theorem rmSAA (l : Launch) (Z : State) (a0 : Array Value) (hw : ∀ d ∈ tables_1, d.before a0 Z = true) (s0 : Addr) (h0 : Heap) (n0 : Nat) (Z0 : n0 ≤ h0.size) (b : Addr) (ea : Addr) (ke : ClassId) (mc : Int32)  (Eb : Exa Z h0 b "java/util/ArrayList") (gb : n0 ≤ b)  (nbe : b ≠ ea) (B0 : Fld Z h0 b "java/util/AbstractList" "modCount" "I" (.int mc)) (B1 : Fld Z h0 b "java/util/ArrayList" "elementData" "[Ljava/lang/Object;" (.ref ea)) (B2 : Fld Z h0 b "java/util/ArrayList" "size" "I" (.int (0 : Int32))) (Ve : Arv Z h0 ea ke (.object "java/lang/Object") 0 [] .null) (Fs : Fld Z h0 s0 "com/example/firm_commit/firmcommit/Synchronizations" "_registered" "Ljava/util/List;" (.ref b)) (nsb : s0 ≠ b) (nse : s0 ≠ ea) (O0 : Old Z n0 h0) (S0 : Sta Z Z.heap "java/util/ArrayList" "DEFAULTCAPACITY_EMPTY_ELEMENTDATA" "[Ljava/lang/Object;" (.ref ea)) :
    MetFree l (⟨"com/example/firm_commit/firmcommit/Synchronizations", "add", "(Lcom/example/firm_commit/firmcommit/TransactionSynchronization;)V"⟩ : MethodName) (head1 [Jvm.Cond.code (⟨"com/example/firm_commit/firmcommit/Synchronizations", "add", "(Lcom/example/firm_commit/firmcommit/TransactionSynchronization;)V"⟩ : MethodName) prog_10_method_3_code 2 none] ({ frames := 5, cells := 1, slots := 10, locals := 120 } : Room)) (fun as_ U => as_ = #[(.ref s0), .null] ∧ Z.Warmed39 U.vm ∧ U.heap = h0) (fun _ _ _ _ _ => True) (fun _ U o U' => ∃ v L, o = .returned v ∧ Q_rmSAA Z b mc n0 h0 v U'.heap L ∧ FrameEnd U o U' L ({ frames := 5, cells := 1, slots := 10, locals := 120 } : Room).cells ({ frames := 5, cells := 1, slots := 10, locals := 120 } : Room).slots) := by
  refine own_met own_pf23 (ef_rmSAA s0) ?_
  intro p e s m below meth c T0 X0 hx hby hml hret hlk hnm hown hZ e0
  have N0 := Fr.nil n0
  refine g_aloadN X0 hx 1 (hb hby d20_0) rfl rfl rfl ?_
  refine g_getF X0 hx hZ hown (hw _ (List.mem_of_getElem? (i := 36) rfl)) Via.refl e0 Fs 4 (hb hby d20_1) rfl ?_
  intro T596 X596 e596
  refine g_aloadN X596 hx 5 (hb hby d20_4) rfl rfl rfl ?_
  refine g_face X596 hx hZ (C := "java/util/ArrayList") hown (hw _ (List.mem_of_getElem? (i := 146) rfl)) (hw _ (List.mem_of_getElem? (i := 147) rfl)) (mvT hZ (hw _ (List.mem_of_getElem? (i := 148) rfl))) (hw _ (List.mem_of_getElem? (i := 149) rfl)) (hw _ (List.mem_of_getElem? (i := 150) rfl)) (hw _ (List.mem_of_getElem? (i := 151) rfl)) (hw _ (List.mem_of_getElem? (i := 152) rfl)) (hw _ (List.mem_of_getElem? (i := 51) rfl)) (hw _ (List.mem_of_getElem? (i := 8) rfl)) (hw _ (List.mem_of_getElem? (i := 153) rfl)) (by decide) (rmAdA l Z a0 hw b h0 n0 Z0 ea ke mc Eb gb  nbe B0 B1 B2 Ve O0 S0) e596 (b := b) Eb (argsL := [.null]) (rest := []) rfl rfl 0 10 rfl (by rw [hml]; rfl) (lenOf own_pd11 rfl) (Nat.le_refl _) (by decide) (by decide) (by decide) (by decide) (hb hby d20_5) ?_
  intro v597 T597 L597 X597 hQ597
  obtain ⟨es, kb, rfl, N597, K597, ges, ses, VB, nbs, L0_597, L1_597, L2_597⟩ := hQ597
  have N598 := Fr.app N0 N597
  have ses := Nat.le_trans ((Keep.refl h0 [b])).1 ses
  have F599 := Eb.keep K597
  have F603 := Fs.keep K597 (ninS nsb nin0)
  have F604 := O0.keep K597 (allS gb all0)
  have Z605 : n0 ≤ T597.heap.size := Nat.le_trans Z0 K597.1
  have K606 := (Keep.refl h0 [b]).trans K597 (allS (Or.inl (List.mem_of_getElem? (i := 0) rfl)) all0)
  show Go p e below _ T597 (mkF m 10 #[.val (.ref s0), .val .null] [(.int (1 : Int32))])
  refine g_pop X597 hx 11 (hb hby d20_10) rfl rfl ?_
  exact g_retV X597 hx hlk hret (hb hby d20_11) (by decide) (by decide) rfl ⟨es, _, rfl, N598, K606, ges, ses, VB, nbs, L0_597, L1_597, L2_597⟩
def Q_rmA3B (Z : State) (b ea : Addr) (ke : ClassId) (mc sz : Int32) (n0 : Nat) (h0 : Heap) (v : Option Value) (h : Heap) (L : List Loc) : Prop := v = none ∧ Fr n0 L ∧ Keep h0 h [b, ea] ∧ Fld Z h b "java/util/AbstractList" "modCount" "I" (.int mc) ∧ Fld Z h b "java/util/ArrayList" "elementData" "[Ljava/lang/Object;" (.ref ea) ∧ Fld Z h b "java/util/ArrayList" "size" "I" (.int (sz + (1 : Int32))) ∧ Arv Z h ea ke (.object "java/lang/Object") 10 (List.replicate 10 Value.null) .null
theorem ef_rmA3B (b ea : Addr) (sz : Int32) (m : MethodId) : entryFrame m #[(.ref b), .null, (.ref ea), (.int sz)] 4 = mkF m 0 #[.val (.ref b), .val .null, .val (.ref ea), .val (.int sz)] [] := by first | (simp [entryFrame, mkF, argsToLocals, Value.category]; done) | rfl
set_option maxRecDepth 65536 in
set_option maxHeartbeats 40000000 in
theorem rmA3B (l : Launch) (Z : State) (a0 : Array Value) (hw : ∀ d ∈ tables_1, d.before a0 Z = true) (b ea : Addr) (sz : Int32) (h0 : Heap) (n0 : Nat) (Z0 : n0 ≤ h0.size) (ke : ClassId) (mc : Int32) (bz : 0 ≤ sz.toInt ∧ sz.toInt ≤ 4) (Eb : Exa Z h0 b "java/util/ArrayList") (gb : n0 ≤ b) (ge : n0 ≤ ea) (nbe : b ≠ ea) (B0 : Fld Z h0 b "java/util/AbstractList" "modCount" "I" (.int mc)) (B1 : Fld Z h0 b "java/util/ArrayList" "elementData" "[Ljava/lang/Object;" (.ref ea)) (B2 : Fld Z h0 b "java/util/ArrayList" "size" "I" (.int sz)) (Ve : Arv Z h0 ea ke (.object "java/lang/Object") 10 (List.replicate 10 Value.null) .null) :
    MetFree l (⟨"java/util/ArrayList", "add", "(Ljava/lang/Object;[Ljava/lang/Object;I)V"⟩ : MethodName) (head1 [Jvm.Cond.code (⟨"java/util/ArrayList", "add", "(Ljava/lang/Object;[Ljava/lang/Object;I)V"⟩ : MethodName) jdk_38_method_24_code 4 none] ({ frames := 0, cells := 0, slots := 0, locals := 0 } : Room)) (fun as_ U => as_ = #[(.ref b), .null, (.ref ea), (.int sz)] ∧ Z.Warmed39 U.vm ∧ U.heap = h0) (fun _ _ _ _ _ => True) (fun _ U o U' => ∃ v L, o = .returned v ∧ Q_rmA3B Z b ea ke mc sz n0 h0 v U'.heap L ∧ FrameEnd U o U' L ({ frames := 0, cells := 0, slots := 0, locals := 0 } : Room).cells ({ frames := 0, cells := 0, slots := 0, locals := 0 } : Room).slots) := by
  refine own_met own_pf21 (ef_rmA3B b ea sz) ?_
  intro p e s m below meth c T0 X0 hx hby hml hret hlk hnm hown hZ e0
  have N0 := Fr.nil n0
  refine g_iloadN X0 hx 1 (hb hby d22_0) rfl rfl ?_
  refine g_aloadN X0 hx 2 (hb hby d22_1) rfl rfl rfl ?_
  refine g_len X0 hx hZ e0 Ve 3 (hb hby d22_2) rfl ?_
  have l10 : (10 : Int32).toInt = 10 := by decide
  have ll608 : ((10 : Int32) : Int32).toInt = 10 := by decide
  refine g_ic_ne X0 hx 11 6 (hb hby d22_3) (by decide) (by decide) rfl (fun c607 => ?_) (fun c607 => ?_)
  · skip
    refine g_aloadN X0 hx 12 (hb hby d22_11) rfl rfl rfl ?_
    refine g_iloadN X0 hx 13 (hb hby d22_12) rfl rfl ?_
    refine g_aloadN X0 hx 14 (hb hby d22_13) rfl rfl rfl ?_
    refine g_aastoreN X0 hx hZ e0 rfl Ve rfl sz.toInt.toNat (by omega) (by have := (by decide : (10 : Int32).toInt = 10); omega) (by rw [List.length_replicate]; omega) 15 (hb hby d22_14) rfl ?_
    intro T609 h609 X609 e609 W609 V609
    rw [own_setnull] at V609
    have F610 := Eb.wr W609
    have F611 := B0.other W609 (Or.inl nbe)
    have F612 := B1.other W609 (Or.inl nbe)
    have F613 := B2.other W609 (Or.inl nbe)
    have K615 := (Keep.refl h0 [b, ea]).wr W609 (Or.inl (List.mem_of_getElem? (i := 1) rfl))
    have N616 := Fr.snoc X609 N0 ge
    have Z617 : n0 ≤ h609.size := by rw [W609.size]; exact Z0
    refine g_aloadN X609 hx 16 (hb hby d22_15) rfl rfl rfl ?_
    refine g_iloadN X609 hx 17 (hb hby d22_16) rfl rfl ?_
    refine g_iconst X609 hx (1 : Int32) 18 (hb hby d22_17) rfl (by decide) ?_
    refine g_iadd X609 hx 19 (hb hby d22_18) rfl ?_
    refine g_putF X609 hx hZ hown (hw _ (List.mem_of_getElem? (i := 53) rfl)) Via.refl e609 F613 F610 (Or.inl (hw _ (List.mem_of_getElem? (i := 54) rfl))) (hw _ (List.mem_of_getElem? (i := 7) rfl)) (ty := .int) (by decide) rfl rfl 22 (hb hby d22_19) rfl ?_
    intro T618 h618 X618 e618 W618
    have F619 : Fld Z h618 b "java/util/ArrayList" "size" "I" (.int (sz + (1 : Int32))) := F613.same W618
    have F620 := F610.wr W618
    have F621 := F611.other W618 (Or.inr (slot_ne (Or.inl (hw _ (List.mem_of_getElem? (i := 28) rfl))) (Or.inl (hw _ (List.mem_of_getElem? (i := 54) rfl))) (by decide) (t := .int) (t' := .int) (by decide) (by decide)))
    have F622 := F612.other W618 (Or.inr (slot_ne (Or.inl (hw _ (List.mem_of_getElem? (i := 31) rfl))) (Or.inl (hw _ (List.mem_of_getElem? (i := 54) rfl))) (by decide) (t := (.array (.object "java/lang/Object"))) (t' := .int) (by decide) (by decide)))
    have F623 := V609.other W618 (Ne.symm nbe)
    have K624 := K615.wr W618 (Or.inl (List.mem_of_getElem? (i := 0) rfl))
    have N625 := Fr.snoc X618 N616 gb
    have Z626 : n0 ≤ h618.size := by rw [W618.size]; exact Z617
    exact g_retV X618 hx hlk hret (hb hby d22_22) (by decide) (by decide) e618 ⟨rfl, N625, K624, F621, F622, F619, F623⟩
  · skip
    exfalso; omega
def Q_rmAdB (Z : State) (b ea : Addr) (ke : ClassId) (mc sz : Int32) (n0 : Nat) (h0 : Heap) (v : Option Value) (h : Heap) (L : List Loc) : Prop := v = some (.int 1) ∧ Fr n0 L ∧ Keep h0 h [b, ea] ∧ Fld Z h b "java/util/AbstractList" "modCount" "I" (.int (mc + (1 : Int32))) ∧ Fld Z h b "java/util/ArrayList" "elementData" "[Ljava/lang/Object;" (.ref ea) ∧ Fld Z h b "java/util/ArrayList" "size" "I" (.int (sz + (1 : Int32))) ∧ Arv Z h ea ke (.object "java/lang/Object") 10 (List.replicate 10 Value.null) .null
theorem ef_rmAdB (b : Addr) (m : MethodId) : entryFrame m #[(.ref b), .null] 2 = mkF m 0 #[.val (.ref b), .val .null] [] := by first | (simp [entryFrame, mkF, argsToLocals, Value.category]; done) | rfl
set_option maxRecDepth 65536 in
set_option maxHeartbeats 40000000 in
theorem rmAdB (l : Launch) (Z : State) (a0 : Array Value) (hw : ∀ d ∈ tables_1, d.before a0 Z = true) (b : Addr) (h0 : Heap) (n0 : Nat) (Z0 : n0 ≤ h0.size) (ea : Addr) (ke : ClassId) (mc sz : Int32) (bz : 0 ≤ sz.toInt ∧ sz.toInt ≤ 4) (Eb : Exa Z h0 b "java/util/ArrayList") (gb : n0 ≤ b) (ge : n0 ≤ ea) (nbe : b ≠ ea) (B0 : Fld Z h0 b "java/util/AbstractList" "modCount" "I" (.int mc)) (B1 : Fld Z h0 b "java/util/ArrayList" "elementData" "[Ljava/lang/Object;" (.ref ea)) (B2 : Fld Z h0 b "java/util/ArrayList" "size" "I" (.int sz)) (Ve : Arv Z h0 ea ke (.object "java/lang/Object") 10 (List.replicate 10 Value.null) .null) :
    MetFree l (⟨"java/util/ArrayList", "add", "(Ljava/lang/Object;)Z"⟩ : MethodName) (head1 [Jvm.Cond.code (⟨"java/util/ArrayList", "add", "(Ljava/lang/Object;)Z"⟩ : MethodName) jdk_38_method_25_code 2 (some .boolean)] ({ frames := 1, cells := 0, slots := 0, locals := 20 } : Room)) (fun as_ U => as_ = #[(.ref b), .null] ∧ Z.Warmed39 U.vm ∧ U.heap = h0) (fun _ _ _ _ _ => True) (fun _ U o U' => ∃ v L, o = .returned v ∧ Q_rmAdB Z b ea ke mc sz n0 h0 v U'.heap L ∧ FrameEnd U o U' L ({ frames := 1, cells := 0, slots := 0, locals := 20 } : Room).cells ({ frames := 1, cells := 0, slots := 0, locals := 20 } : Room).slots) := by
  refine own_met own_pf22 (ef_rmAdB b) ?_
  intro p e s m below meth c T0 X0 hx hby hml hret hlk hnm hown hZ e0
  have N0 := Fr.nil n0
  refine g_aloadN X0 hx 1 (hb hby d21_0) rfl rfl rfl ?_
  refine g_dup X0 hx 2 (hb hby d21_1) rfl rfl ?_
  refine g_getF X0 hx hZ hown (hw _ (List.mem_of_getElem? (i := 121) rfl)) (Via.of (hw _ (List.mem_of_getElem? (i := 87) rfl))) e0 B0 5 (hb hby d21_2) rfl ?_
  intro T627 X627 e627
  refine g_iconst X627 hx (1 : Int32) 6 (hb hby d21_5) rfl (by decide) ?_
  refine g_iadd X627 hx 7 (hb hby d21_6) rfl ?_
  refine g_putF X627 hx hZ hown (hw _ (List.mem_of_getElem? (i := 121) rfl)) (Via.of (hw _ (List.mem_of_getElem? (i := 87) rfl))) e627 B0 Eb (Or.inl (hw _ (List.mem_of_getElem? (i := 28) rfl))) (hw _ (List.mem_of_getElem? (i := 7) rfl)) (ty := .int) (by decide) rfl rfl 10 (hb hby d21_7) rfl ?_
  intro T628 h628 X628 e628 W628
  have F629 : Fld Z h628 b "java/util/AbstractList" "modCount" "I" (.int (mc + (1 : Int32))) := B0.same W628
  have F630 := Eb.wr W628
  have F631 := B1.other W628 (Or.inr (slot_ne (Or.inl (hw _ (List.mem_of_getElem? (i := 31) rfl))) (Or.inl (hw _ (List.mem_of_getElem? (i := 28) rfl))) (by decide) (t := (.array (.object "java/lang/Object"))) (t' := .int) (by decide) (by decide)))
  have F632 := B2.other W628 (Or.inr (slot_ne (Or.inl (hw _ (List.mem_of_getElem? (i := 54) rfl))) (Or.inl (hw _ (List.mem_of_getElem? (i := 28) rfl))) (by decide) (t := .int) (t' := .int) (by decide) (by decide)))
  have F633 := Ve.other W628 (Ne.symm nbe)
  have K634 := (Keep.refl h0 [b, ea]).wr W628 (Or.inl (List.mem_of_getElem? (i := 0) rfl))
  have N635 := Fr.snoc X628 N0 gb
  have Z636 : n0 ≤ h628.size := by rw [W628.size]; exact Z0
  refine g_aloadN X628 hx 11 (hb hby d21_10) rfl rfl rfl ?_
  refine g_aloadN X628 hx 12 (hb hby d21_11) rfl rfl rfl ?_
  refine g_aloadN X628 hx 13 (hb hby d21_12) rfl rfl rfl ?_
  refine g_getF X628 hx hZ hown (hw _ (List.mem_of_getElem? (i := 30) rfl)) Via.refl e628 F631 16 (hb hby d21_13) rfl ?_
  intro T637 X637 e637
  refine g_aloadN X637 hx 17 (hb hby d21_16) rfl rfl rfl ?_
  refine g_getF X637 hx hZ hown (hw _ (List.mem_of_getElem? (i := 53) rfl)) Via.refl e637 F632 20 (hb hby d21_17) rfl ?_
  intro T638 X638 e638
  refine g_priv X638 hx hZ (C := "java/util/ArrayList") (z := ({ cls := "java/util/ArrayList", name := "removeRange", desc := "(II)V" } : Jvm.MethodName)) hown (hw _ (List.mem_of_getElem? (i := 154) rfl)) (hw _ (List.mem_of_getElem? (i := 156) rfl)) (hw _ (List.mem_of_getElem? (i := 119) rfl)) rfl (hw _ (List.mem_of_getElem? (i := 155) rfl)) (hw _ (List.mem_of_getElem? (i := 8) rfl)) (hw _ (List.mem_of_getElem? (i := 158) rfl)) (by decide) (rmA3B l Z a0 hw b ea sz h628 n0 Z636 ke (mc + (1 : Int32)) bz F630 gb ge nbe F629 F631 F632 F633) e638 (b := b) F630 (argsL := [.null, (.ref ea), (.int sz)]) (rest := []) rfl rfl 0 23 rfl (by rw [hml]; rfl) (lenOf own_pd12 rfl) (Nat.le_refl _) (by decide) (by decide) (by decide) (by decide) (hb hby d21_20) ?_
  intro v639 T639 L639 X639 hQ639
  obtain ⟨rfl, N639, K639, L0_639, L1_639, L2_639, LV_639⟩ := hQ639
  have N640 := Fr.app N635 N639
  have F641 := F630.keep K639
  have Z646 : n0 ≤ T639.heap.size := Nat.le_trans Z636 K639.1
  have K647 := K634.trans K639 (allS (Or.inl (List.mem_of_getElem? (i := 0) rfl)) (allS (Or.inl (List.mem_of_getElem? (i := 1) rfl)) all0))
  show Go p e below _ T639 (mkF m 23 #[.val (.ref b), .val .null] [])
  refine g_iconst X639 hx (1 : Int32) 24 (hb hby d21_23) rfl (by decide) ?_
  exact g_retZ X639 hx hlk hret (hb hby d21_24) (by decide) (by decide) rfl ⟨rfl, N640, K647, L0_639, L1_639, L2_639, LV_639⟩
def Q_rmSAB (Z : State) (b ea : Addr) (ke : ClassId) (mc sz : Int32) (n0 : Nat) (h0 : Heap) (v : Option Value) (h : Heap) (L : List Loc) : Prop := v = none ∧ Fr n0 L ∧ Keep h0 h [b, ea] ∧ Fld Z h b "java/util/AbstractList" "modCount" "I" (.int (mc + (1 : Int32))) ∧ Fld Z h b "java/util/ArrayList" "elementData" "[Ljava/lang/Object;" (.ref ea) ∧ Fld Z h b "java/util/ArrayList" "size" "I" (.int (sz + (1 : Int32))) ∧ Arv Z h ea ke (.object "java/lang/Object") 10 (List.replicate 10 Value.null) .null
theorem ef_rmSAB (s0 : Addr) (m : MethodId) : entryFrame m #[(.ref s0), .null] 2 = mkF m 0 #[.val (.ref s0), .val .null] [] := by first | (simp [entryFrame, mkF, argsToLocals, Value.category]; done) | rfl
set_option maxRecDepth 65536 in
set_option maxHeartbeats 40000000 in
theorem rmSAB (l : Launch) (Z : State) (a0 : Array Value) (hw : ∀ d ∈ tables_1, d.before a0 Z = true) (s0 : Addr) (h0 : Heap) (n0 : Nat) (Z0 : n0 ≤ h0.size) (b : Addr) (ea : Addr) (ke : ClassId) (mc sz : Int32) (bz : 0 ≤ sz.toInt ∧ sz.toInt ≤ 4) (Eb : Exa Z h0 b "java/util/ArrayList") (gb : n0 ≤ b) (ge : n0 ≤ ea) (nbe : b ≠ ea) (B0 : Fld Z h0 b "java/util/AbstractList" "modCount" "I" (.int mc)) (B1 : Fld Z h0 b "java/util/ArrayList" "elementData" "[Ljava/lang/Object;" (.ref ea)) (B2 : Fld Z h0 b "java/util/ArrayList" "size" "I" (.int sz)) (Ve : Arv Z h0 ea ke (.object "java/lang/Object") 10 (List.replicate 10 Value.null) .null) (Fs : Fld Z h0 s0 "com/example/firm_commit/firmcommit/Synchronizations" "_registered" "Ljava/util/List;" (.ref b)) (nsb : s0 ≠ b) (nse : s0 ≠ ea) :
    MetFree l (⟨"com/example/firm_commit/firmcommit/Synchronizations", "add", "(Lcom/example/firm_commit/firmcommit/TransactionSynchronization;)V"⟩ : MethodName) (head1 [Jvm.Cond.code (⟨"com/example/firm_commit/firmcommit/Synchronizations", "add", "(Lcom/example/firm_commit/firmcommit/TransactionSynchronization;)V"⟩ : MethodName) prog_10_method_3_code 2 none] ({ frames := 2, cells := 0, slots := 0, locals := 40 } : Room)) (fun as_ U => as_ = #[(.ref s0), .null] ∧ Z.Warmed39 U.vm ∧ U.heap = h0) (fun _ _ _ _ _ => True) (fun _ U o U' => ∃ v L, o = .returned v ∧ Q_rmSAB Z b ea ke mc sz n0 h0 v U'.heap L ∧ FrameEnd U o U' L ({ frames := 2, cells := 0, slots := 0, locals := 40 } : Room).cells ({ frames := 2, cells := 0, slots := 0, locals := 40 } : Room).slots) := by
  refine own_met own_pf23 (ef_rmSAB s0) ?_
  intro p e s m below meth c T0 X0 hx hby hml hret hlk hnm hown hZ e0
  have N0 := Fr.nil n0
  refine g_aloadN X0 hx 1 (hb hby d20_0) rfl rfl rfl ?_
  refine g_getF X0 hx hZ hown (hw _ (List.mem_of_getElem? (i := 36) rfl)) Via.refl e0 Fs 4 (hb hby d20_1) rfl ?_
  intro T648 X648 e648
  refine g_aloadN X648 hx 5 (hb hby d20_4) rfl rfl rfl ?_
  refine g_face X648 hx hZ (C := "java/util/ArrayList") hown (hw _ (List.mem_of_getElem? (i := 146) rfl)) (hw _ (List.mem_of_getElem? (i := 147) rfl)) (mvT hZ (hw _ (List.mem_of_getElem? (i := 148) rfl))) (hw _ (List.mem_of_getElem? (i := 149) rfl)) (hw _ (List.mem_of_getElem? (i := 150) rfl)) (hw _ (List.mem_of_getElem? (i := 151) rfl)) (hw _ (List.mem_of_getElem? (i := 152) rfl)) (hw _ (List.mem_of_getElem? (i := 51) rfl)) (hw _ (List.mem_of_getElem? (i := 8) rfl)) (hw _ (List.mem_of_getElem? (i := 153) rfl)) (by decide) (rmAdB l Z a0 hw b h0 n0 Z0 ea ke mc sz bz Eb gb ge nbe B0 B1 B2 Ve) e648 (b := b) Eb (argsL := [.null]) (rest := []) rfl rfl 0 10 rfl (by rw [hml]; rfl) (lenOf own_pd11 rfl) (Nat.le_refl _) (by decide) (by decide) (by decide) (by decide) (hb hby d20_5) ?_
  intro v649 T649 L649 X649 hQ649
  obtain ⟨rfl, N649, K649, L0_649, L1_649, L2_649, LV_649⟩ := hQ649
  have N650 := Fr.app N0 N649
  have F651 := Eb.keep K649
  have F656 := Fs.keep K649 (ninS nsb (ninS nse nin0))
  have Z657 : n0 ≤ T649.heap.size := Nat.le_trans Z0 K649.1
  have K658 := (Keep.refl h0 [b, ea]).trans K649 (allS (Or.inl (List.mem_of_getElem? (i := 0) rfl)) (allS (Or.inl (List.mem_of_getElem? (i := 1) rfl)) all0))
  show Go p e below _ T649 (mkF m 10 #[.val (.ref s0), .val .null] [(.int (1 : Int32))])
  refine g_pop X649 hx 11 (hb hby d20_10) rfl rfl ?_
  exact g_retV X649 hx hlk hret (hb hby d20_11) (by decide) (by decide) rfl ⟨rfl, N650, K658, L0_649, L1_649, L2_649, LV_649⟩
theorem own_kp (x : Int32) : 0 ≤ (x &&& (2147483647 : Int32)).toInt := by
  have := c_mask x 2147483647 31 (by decide) (by decide)
  have e : ((2 ^ 31 : Nat) : Int) = 2147483648 := rfl
  rw [e] at this
  omega
theorem own_m {x d r : Int32} (h : (x &&& (2147483647 : Int32)) % d = r) (hd : 0 < d.toInt) : 0 ≤ r.toInt ∧ r.toInt < d.toInt := by
  have := (c_iremV (x &&& 2147483647) d).1 (own_kp x) hd
  rw [h] at this
  exact ⟨this.1, this.2.1⟩
theorem own_n4 {x n : Int32} (h : x &&& (3 : Int32) = n) : n = 0 ∨ n = 1 ∨ n = 2 ∨ n = 3 := by
  have e1 := c_mask x 3 2 (by decide) (by decide)
  have e : ((2 ^ 2 : Nat) : Int) = 4 := rfl
  rw [h, e] at e1
  have C : n.toInt = 0 ∨ n.toInt = 1 ∨ n.toInt = 2 ∨ n.toInt = 3 := by omega
  rcases C with C | C | C | C
  · left; exact own_te (by rw [C]; decide)
  · right; left; exact own_te (by rw [C]; decide)
  · right; right; left; exact own_te (by rw [C]; decide)
  · right; right; right; exact own_te (by rw [C]; decide)
theorem own_n2 {x n : Int32} (h : x &&& (1 : Int32) = n) : n = 0 ∨ n = 1 := by
  have e1 := c_mask x 1 1 (by decide) (by decide)
  have e : ((2 ^ 1 : Nat) : Int) = 2 := rfl
  rw [h, e] at e1
  have C : n.toInt = 0 ∨ n.toInt = 1 := by omega
  rcases C with C | C
  · left; exact own_te (by rw [C]; decide)
  · right; exact own_te (by rw [C]; decide)
theorem own_nz {x : Int32} (h : 0 < x.toInt) : x ≠ 0 := fun q => by rw [q] at h; exact absurd h (by decide)
theorem own_pfx : plainFor x = true := plainFor_of_name (show plainName "com/example/firm_commit/firmcommit/SynchronizationsKeepFirstPinLaw" = true by first | (simp [plainName, overriddenIn]; done) | decide +kernel)
theorem ef_rm0 (p0 : Int32) (p1 : Int32) (p2 : Int32) (p3 : Int32) (m : MethodId) : entryFrame m #[(.int p0), (.int p1), (.int p2), (.int p3)] maxLocals = mkF m 0 #[.val (.int p0), .val (.int p1), .val (.int p2), .val (.int p3), .unset, .unset, .unset, .unset, .unset, .unset, .unset] [] := by first | (simp [entryFrame, mkF, argsToLocals, Value.category, maxLocals]; done) | rfl
set_option maxRecDepth 65536 in
set_option maxHeartbeats 40000000 in
theorem rm0 (l : Launch) (Z : State) (a0 : Array Value) (hw : ∀ d ∈ tables_1, d.before a0 Z = true) (ws : List Jvm.Cond) (p0 : Int32) (p1 : Int32) (p2 : Int32) (p3 : Int32) (h0 : Heap) (n0 : Nat) (Z0 : n0 ≤ h0.size) (em : Addr) (ke : ClassId) (O0 : Old Z n0 h0) (S0 : Sta Z Z.heap "java/util/ArrayList" "DEFAULTCAPACITY_EMPTY_ELEMENTDATA" "[Ljava/lang/Object;" (.ref em)) (VE : Arv Z Z.heap em ke (.object "java/lang/Object") 0 [] .null) :
    MetFree l x (head1 (Jvm.Cond.code x code maxLocals ret :: ws) room_1) (fun as_ U => as_ = #[(.int p0), (.int p1), (.int p2), (.int p3)] ∧ Z.Warmed39 U.vm ∧ U.heap = h0) (fun _ _ _ _ _ => True) (fun _ U o U' => ∃ v L, o = .returned v ∧ Q_rm0 n0 v U'.heap L ∧ FrameEnd U o U' L 24 128) := by
  refine own_met own_pfx (ef_rm0 p0 p1 p2 p3) ?_
  intro p e s m below meth c T0 X0 hx hby hml hret hlk hnm hown hZ e0
  have N0 := Fr.nil n0
  refine g_new X0 hx hZ hown (hw _ (List.mem_of_getElem? (i := 0) rfl)) (hw _ (List.mem_of_getElem? (i := 1) rfl)) (hw _ (List.mem_of_getElem? (i := 2) rfl)) e0 3 (hb hby at_0) rfl (by decide) (by decide) ?_
  intro T659 h659 a659 g659 X659 e659 E659 A659 D659
  have ge660 : n0 ≤ a659 := by rw [g659]; exact Z0
  have F661 := O0.ext E659
  have Z662 : n0 ≤ h659.size := Nat.le_trans Z0 E659.1
  have F663 : Fld Z h659 a659 "com/example/firm_commit/firmcommit/Synchronizations" "_registered" "Ljava/util/List;" .null := D659 (Or.inr (hw _ (List.mem_of_getElem? (i := 37) rfl))) (ty := (.object "java/util/List")) (by decide)
  refine g_dup X659 hx 4 (hb hby at_3) rfl rfl ?_
  refine g_init X659 hx hZ rfl hown (hw _ (List.mem_of_getElem? (i := 3) rfl)) (hw _ (List.mem_of_getElem? (i := 4) rfl)) (hw _ (List.mem_of_getElem? (i := 2) rfl)) (hw _ (List.mem_of_getElem? (i := 5) rfl)) (by decide) (rmS1 l Z a0 hw a659 h659 n0 Z662 em F661 S0 A659 ge660 F663) e659 (a := a659) (argsL := []) (rest := [(.ref a659)]) rfl rfl 1 7 rfl (by rw [hml]; rfl) (lenOf own_pd0 rfl) (Nat.le_refl _) (by decide) (by decide) (by decide) (by decide) (hb hby at_4) ?_
  intro v664 T664 L664 X664 hQ664
  obtain ⟨rfl, N664, K664, b, Fs, Eb, gb, sb, B0, B1, B2⟩ := hQ664
  have N665 := Fr.app N0 N664
  have F666 := F661.keep K664 (allS ge660 all0)
  have F667 := A659.keep K664
  have Z669 : n0 ≤ T664.heap.size := Nat.le_trans Z662 K664.1
  have nob : a659 ≠ b := Nat.ne_of_lt (Nat.lt_of_lt_of_le A659.lt sb)
  have Ve := VE.ext F666.2
  have nbe : b ≠ em := Ne.symm (Nat.ne_of_lt (Nat.lt_of_lt_of_le (F666.1 ▸ VE.lt) gb))
  have noe : a659 ≠ em := Ne.symm (Nat.ne_of_lt (Nat.lt_of_lt_of_le (F666.1 ▸ VE.lt) ge660))
  show Go p e below _ T664 (mkF m 7 #[.val (.int p0), .val (.int p1), .val (.int p2), .val (.int p3), .unset, .unset, .unset, .unset, .unset, .unset, .unset] [(.ref a659)])
  refine g_astore (l' := #[.val (.int p0), .val (.int p1), .val (.int p2), .val (.int p3), .val (.ref a659), .unset, .unset, .unset, .unset, .unset, .unset]) X664 hx 9 (hb hby at_7) rfl rfl rfl ?_
  refine g_iloadN X664 hx 10 (hb hby at_9) rfl rfl ?_
  refine g_iconst X664 hx (3 : Int32) 11 (hb hby at_10) rfl (by decide) ?_
  refine g_iand X664 hx 12 (hb hby at_11) rfl ?_
  refine g_istore (l' := #[.val (.int p0), .val (.int p1), .val (.int p2), .val (.int p3), .val (.ref a659), .val (.int (p0 &&& (3 : Int32))), .unset, .unset, .unset, .unset, .unset]) X664 hx 14 (hb hby at_12) rfl rfl ?_
  generalize hn : (p0 &&& (3 : Int32)) = n
  have l1_ : (1 : Int32).toInt = 1 := by decide
  have l0_ : (0 : Int32).toInt = 0 := by decide
  rcases own_n4 hn with rfl | rfl | rfl | rfl
  · skip
    refine g_iload X664 hx 16 (hb hby at_14) rfl rfl ?_
    have ll671 : ((0 : Int32) : Int32).toInt = 0 := by decide
    refine g_if_le X664 hx 25 19 (hb hby at_16) (by decide) (by decide) rfl (fun c670 => ?_) (fun c670 => ?_)
    · skip
      refine g_iload X664 hx 27 (hb hby at_25) rfl rfl ?_
      refine g_iconst X664 hx (1 : Int32) 28 (hb hby at_27) rfl (by decide) ?_
      have ll673 : ((1 : Int32) : Int32).toInt = 1 := by decide
      have ll674 : ((0 : Int32) : Int32).toInt = 0 := by decide
      refine g_ic_le X664 hx 37 31 (hb hby at_28) (by decide) (by decide) rfl (fun c672 => ?_) (fun c672 => ?_)
      · skip
        refine g_iload X664 hx 39 (hb hby at_37) rfl rfl ?_
        refine g_iconst X664 hx (2 : Int32) 40 (hb hby at_39) rfl (by decide) ?_
        have ll676 : ((2 : Int32) : Int32).toInt = 2 := by decide
        have ll677 : ((0 : Int32) : Int32).toInt = 0 := by decide
        refine g_ic_le X664 hx 49 43 (hb hby at_40) (by decide) (by decide) rfl (fun c675 => ?_) (fun c675 => ?_)
        · skip
          refine g_iloadN X664 hx 50 (hb hby at_49) rfl rfl ?_
          refine g_ldcI X664 hx 52 hZ hown (hw _ (List.mem_of_getElem? (i := 38) rfl)) (hb hby at_50) rfl ?_
          refine g_iand X664 hx 53 (hb hby at_52) rfl ?_
          refine g_iload X664 hx 55 (hb hby at_53) rfl rfl ?_
          refine g_iconst X664 hx (1 : Int32) 56 (hb hby at_55) rfl (by decide) ?_
          refine g_iaddC X664 hx (1 : Int32) (by decide) 57 (hb hby at_56) rfl ?_
          refine g_irem X664 hx 58 (hb hby at_57) rfl (by decide) ?_
          refine g_istore (l' := #[.val (.int p0), .val (.int p1), .val (.int p2), .val (.int p3), .val (.ref a659), .val (.int (0 : Int32)), .val (.int ((p1 &&& (2147483647 : Int32)) % (1 : Int32))), .unset, .unset, .unset, .unset]) X664 hx 60 (hb hby at_58) rfl rfl ?_
          generalize hk : ((p1 &&& (2147483647 : Int32)) % (1 : Int32)) = k
          have bk := own_m hk (by decide)
          have ld : ((1 : Int32) : Int32).toInt = 1 := by decide
          rw [ld] at bk
          obtain rfl : k = 0 := own_te (by omega)
          refine g_aload X664 hx 62 (hb hby at_60) rfl rfl rfl ?_
          refine g_iload X664 hx 64 (hb hby at_62) rfl rfl ?_
          refine g_virt X664 hx hZ (C := "com/example/firm_commit/firmcommit/Synchronizations") hown (hw _ (List.mem_of_getElem? (i := 39) rfl)) (hw _ (List.mem_of_getElem? (i := 40) rfl)) (hw _ (List.mem_of_getElem? (i := 42) rfl)) (hw _ (List.mem_of_getElem? (i := 42) rfl)) (hw _ (List.mem_of_getElem? (i := 41) rfl)) (hw _ (List.mem_of_getElem? (i := 2) rfl)) (hw _ (List.mem_of_getElem? (i := 43) rfl)) (by decide) (rmKFA l Z a0 hw a659  T664.heap n0 Z669 b em ke (0 : Int32)  Eb gb  nbe B0 B1 B2 Ve  Fs nob noe) rfl (b := a659) F667 (argsL := [(.int (0 : Int32))]) (rest := []) rfl rfl 0 67 rfl (by rw [hml]; rfl) (lenOf own_pd2 rfl) (Nat.le_refl _) (by decide) (by decide) (by decide) (by decide) (hb hby at_64) ?_
          intro v678 T678 L678 X678 hQ678
          obtain ⟨rfl, N678, K678, L0_678, L1_678, L2_678, LV_678⟩ := hQ678
          have N679 := Fr.app N665 N678
          have F680 := F666.keep K678 (allS gb all0)
          have F681 := F667.keep K678
          have F682 := Fs.keep K678 (ninS nob nin0)
          have F683 := Eb.keep K678
          have F687 := Ve.keep K678 (ninS (Ne.symm nbe) nin0)
          have Z688 : n0 ≤ T678.heap.size := Nat.le_trans Z669 K678.1
          show Go p e below _ T678 (mkF m 67 #[.val (.int p0), .val (.int p1), .val (.int p2), .val (.int p3), .val (.ref a659), .val (.int (0 : Int32)), .val (.int (0 : Int32)), .unset, .unset, .unset, .unset] [])
          refine g_aload X678 hx 69 (hb hby at_67) rfl rfl rfl ?_
          refine g_virt X678 hx hZ (C := "com/example/firm_commit/firmcommit/Synchronizations") hown (hw _ (List.mem_of_getElem? (i := 136) rfl)) (hw _ (List.mem_of_getElem? (i := 137) rfl)) (hw _ (List.mem_of_getElem? (i := 139) rfl)) (hw _ (List.mem_of_getElem? (i := 139) rfl)) (hw _ (List.mem_of_getElem? (i := 138) rfl)) (hw _ (List.mem_of_getElem? (i := 2) rfl)) (hw _ (List.mem_of_getElem? (i := 140) rfl)) (by decide) (rmCt l Z a0 hw a659 T678.heap n0 Z688 b (0 : Int32) F682 F683 L2_678) rfl (b := a659) F681 (argsL := []) (rest := []) rfl rfl 0 72 rfl (by rw [hml]; rfl) (lenOf own_pd3 rfl) (Nat.le_refl _) (by decide) (by decide) (by decide) (by decide) (hb hby at_69) ?_
          intro v689 T689 L689 X689 hQ689
          obtain ⟨rfl, N689, q689⟩ := hQ689
          have N690 := Fr.app N679 N689
          show Go p e below _ T689 (mkF m 72 #[.val (.int p0), .val (.int p1), .val (.int p2), .val (.int p3), .val (.ref a659), .val (.int (0 : Int32)), .val (.int (0 : Int32)), .unset, .unset, .unset, .unset] [(.int (0 : Int32))])
          refine g_iload X689 hx 74 (hb hby at_72) rfl rfl ?_
          have ll692 : ((0 : Int32) : Int32).toInt = 0 := by decide
          have ll693 : ((0 : Int32) : Int32).toInt = 0 := by decide
          refine g_ic_ne X689 hx 81 77 (hb hby at_74) (by decide) (by decide) rfl (fun c691 => ?_) (fun c691 => ?_)
          · skip
            exact absurd rfl c691
          · skip
            refine g_iconst X689 hx (1 : Int32) 78 (hb hby at_77) rfl (by decide) ?_
            refine g_goto X689 hx 82 (hb hby at_78) (by decide) (by decide) ?_
            refine g_istore (l' := #[.val (.int p0), .val (.int p1), .val (.int p2), .val (.int p3), .val (.ref a659), .val (.int (0 : Int32)), .val (.int (0 : Int32)), .val (.int (1 : Int32)), .unset, .unset, .unset]) X689 hx 84 (hb hby at_82) rfl rfl ?_
            refine g_iloadN X689 hx 85 (hb hby at_84) rfl rfl ?_
            refine g_iconst X689 hx (1 : Int32) 86 (hb hby at_85) rfl (by decide) ?_
            refine g_iand X689 hx 87 (hb hby at_86) rfl ?_
            refine g_istore (l' := #[.val (.int p0), .val (.int p1), .val (.int p2), .val (.int p3), .val (.ref a659), .val (.int (0 : Int32)), .val (.int (0 : Int32)), .val (.int (1 : Int32)), .val (.int (p2 &&& (1 : Int32))), .unset, .unset]) X689 hx 89 (hb hby at_87) rfl rfl ?_
            generalize hmm : (p2 &&& (1 : Int32)) = mm
            rcases own_n2 hmm with rfl | rfl
            · skip
              refine g_iload X689 hx 91 (hb hby at_89) rfl rfl ?_
              have ll695 : ((0 : Int32) : Int32).toInt = 0 := by decide
              refine g_if_le X689 hx 100 94 (hb hby at_91) (by decide) (by decide) rfl (fun c694 => ?_) (fun c694 => ?_)
              · skip
                refine g_iloadN X689 hx 101 (hb hby at_100) rfl rfl ?_
                refine g_ldcI X689 hx 103 hZ hown (hw _ (List.mem_of_getElem? (i := 38) rfl)) (hb hby at_101) rfl ?_
                refine g_iand X689 hx 104 (hb hby at_103) rfl ?_
                refine g_iload X689 hx 106 (hb hby at_104) rfl rfl ?_
                refine g_iload X689 hx 108 (hb hby at_106) rfl rfl ?_
                refine g_iaddC X689 hx (0 : Int32) (by decide) 109 (hb hby at_108) rfl ?_
                refine g_iconst X689 hx (1 : Int32) 110 (hb hby at_109) rfl (by decide) ?_
                refine g_iaddC X689 hx (1 : Int32) (by decide) 111 (hb hby at_110) rfl ?_
                have ld2 : ((1 : Int32) : Int32).toInt = 1 := by decide
                refine g_irem X689 hx 112 (hb hby at_111) rfl (by decide) ?_
                refine g_istore (l' := #[.val (.int p0), .val (.int p1), .val (.int p2), .val (.int p3), .val (.ref a659), .val (.int (0 : Int32)), .val (.int (0 : Int32)), .val (.int (1 : Int32)), .val (.int (0 : Int32)), .val (.int ((p3 &&& (2147483647 : Int32)) % (1 : Int32))), .unset]) X689 hx 114 (hb hby at_112) rfl rfl ?_
                generalize hj : ((p3 &&& (2147483647 : Int32)) % (1 : Int32)) = j
                have bj := own_m hj (by rw [ld2]; omega)
                rw [ld2] at bj
                obtain rfl : j = 0 := own_te (by omega)
                refine g_aload X689 hx 116 (hb hby at_114) rfl rfl rfl ?_
                refine g_iload X689 hx 118 (hb hby at_116) rfl rfl ?_
                refine g_virt X689 hx hZ (C := "com/example/firm_commit/firmcommit/Synchronizations") hown (hw _ (List.mem_of_getElem? (i := 39) rfl)) (hw _ (List.mem_of_getElem? (i := 40) rfl)) (hw _ (List.mem_of_getElem? (i := 42) rfl)) (hw _ (List.mem_of_getElem? (i := 42) rfl)) (hw _ (List.mem_of_getElem? (i := 41) rfl)) (hw _ (List.mem_of_getElem? (i := 2) rfl)) (hw _ (List.mem_of_getElem? (i := 43) rfl)) (by decide) (rmKFA l Z a0 hw a659  T678.heap n0 Z688 b em ke ((0 : Int32) + (1 : Int32))  F683 gb  nbe L0_678 L1_678 L2_678 LV_678  F682 nob noe) q689 (b := a659) F681 (argsL := [(.int (0 : Int32))]) (rest := []) rfl rfl 0 121 rfl (by rw [hml]; rfl) (lenOf own_pd2 rfl) (Nat.le_refl _) (by decide) (by decide) (by decide) (by decide) (hb hby at_118) ?_
                intro v696 T696 L696 X696 hQ696
                obtain ⟨rfl, N696, K696, L0_696, L1_696, L2_696, LV_696⟩ := hQ696
                have N697 := Fr.app N690 N696
                have F698 := F680.keep K696 (allS gb all0)
                have F699 := F681.keep K696
                have F700 := F682.keep K696 (ninS nob nin0)
                have F701 := F683.keep K696
                have F702 := LV_678.keep K696 (ninS (Ne.symm nbe) nin0)
                have Z706 : n0 ≤ T696.heap.size := Nat.le_trans Z688 K696.1
                show Go p e below _ T696 (mkF m 121 #[.val (.int p0), .val (.int p1), .val (.int p2), .val (.int p3), .val (.ref a659), .val (.int (0 : Int32)), .val (.int (0 : Int32)), .val (.int (1 : Int32)), .val (.int (0 : Int32)), .val (.int (0 : Int32)), .unset] [])
                refine g_aload X696 hx 123 (hb hby at_121) rfl rfl rfl ?_
                refine g_virt X696 hx hZ (C := "com/example/firm_commit/firmcommit/Synchronizations") hown (hw _ (List.mem_of_getElem? (i := 136) rfl)) (hw _ (List.mem_of_getElem? (i := 137) rfl)) (hw _ (List.mem_of_getElem? (i := 139) rfl)) (hw _ (List.mem_of_getElem? (i := 139) rfl)) (hw _ (List.mem_of_getElem? (i := 138) rfl)) (hw _ (List.mem_of_getElem? (i := 2) rfl)) (hw _ (List.mem_of_getElem? (i := 140) rfl)) (by decide) (rmCt l Z a0 hw a659 T696.heap n0 Z706 b (0 : Int32) F700 F701 L2_696) rfl (b := a659) F699 (argsL := []) (rest := []) rfl rfl 0 126 rfl (by rw [hml]; rfl) (lenOf own_pd3 rfl) (Nat.le_refl _) (by decide) (by decide) (by decide) (by decide) (hb hby at_123) ?_
                intro v707 T707 L707 X707 hQ707
                obtain ⟨rfl, N707, q707⟩ := hQ707
                have N708 := Fr.app N697 N707
                show Go p e below _ T707 (mkF m 126 #[.val (.int p0), .val (.int p1), .val (.int p2), .val (.int p3), .val (.ref a659), .val (.int (0 : Int32)), .val (.int (0 : Int32)), .val (.int (1 : Int32)), .val (.int (0 : Int32)), .val (.int (0 : Int32)), .unset] [(.int (0 : Int32))])
                refine g_iload X707 hx 128 (hb hby at_126) rfl rfl ?_
                have ll710 : ((0 : Int32) : Int32).toInt = 0 := by decide
                have ll711 : ((0 : Int32) : Int32).toInt = 0 := by decide
                refine g_ic_ne X707 hx 135 131 (hb hby at_128) (by decide) (by decide) rfl (fun c709 => ?_) (fun c709 => ?_)
                · skip
                  exact absurd rfl c709
                · skip
                  refine g_iconst X707 hx (1 : Int32) 132 (hb hby at_131) rfl (by decide) ?_
                  refine g_goto X707 hx 136 (hb hby at_132) (by decide) (by decide) ?_
                  refine g_istore (l' := #[.val (.int p0), .val (.int p1), .val (.int p2), .val (.int p3), .val (.ref a659), .val (.int (0 : Int32)), .val (.int (0 : Int32)), .val (.int (1 : Int32)), .val (.int (0 : Int32)), .val (.int (0 : Int32)), .val (.int (1 : Int32))]) X707 hx 138 (hb hby at_136) rfl rfl ?_
                  refine g_iload X707 hx 140 (hb hby at_138) rfl rfl ?_
                  have ll713 : ((1 : Int32) : Int32).toInt = 1 := by decide
                  refine g_if_eq X707 hx 152 143 (hb hby at_140) (by decide) (by decide) rfl (fun c712 => ?_) (fun c712 => ?_)
                  · skip
                    exfalso; revert c712; decide
                  · skip
                    refine g_iload X707 hx 145 (hb hby at_143) rfl rfl ?_
                    have ll715 : ((1 : Int32) : Int32).toInt = 1 := by decide
                    refine g_if_eq X707 hx 152 148 (hb hby at_145) (by decide) (by decide) rfl (fun c714 => ?_) (fun c714 => ?_)
                    · skip
                      exfalso; revert c714; decide
                    · skip
                      refine g_iconst X707 hx (1 : Int32) 149 (hb hby at_148) rfl (by decide) ?_
                      refine g_goto X707 hx 153 (hb hby at_149) (by decide) (by decide) ?_
                      exact g_retZ X707 hx hlk hret (hb hby at_153) (by decide) (by decide) q707 ⟨rfl, N708⟩
              · skip
                exfalso; revert c694; decide
            · skip
              refine g_iload X689 hx 91 (hb hby at_89) rfl rfl ?_
              have ll717 : ((1 : Int32) : Int32).toInt = 1 := by decide
              refine g_if_le X689 hx 100 94 (hb hby at_91) (by decide) (by decide) rfl (fun c716 => ?_) (fun c716 => ?_)
              · skip
                exfalso; revert c716; decide
              · skip
                refine g_aload X689 hx 96 (hb hby at_94) rfl rfl rfl ?_
                refine g_null X689 hx 97 (hb hby at_96) rfl ?_
                refine g_virt X689 hx hZ (C := "com/example/firm_commit/firmcommit/Synchronizations") hown (hw _ (List.mem_of_getElem? (i := 141) rfl)) (hw _ (List.mem_of_getElem? (i := 142) rfl)) (hw _ (List.mem_of_getElem? (i := 144) rfl)) (hw _ (List.mem_of_getElem? (i := 144) rfl)) (hw _ (List.mem_of_getElem? (i := 143) rfl)) (hw _ (List.mem_of_getElem? (i := 2) rfl)) (hw _ (List.mem_of_getElem? (i := 145) rfl)) (by decide) (rmSAA l Z a0 hw a659 T678.heap n0 Z688 b em ke ((0 : Int32) + (1 : Int32))  F683 gb  nbe L0_678 L1_678 L2_678 LV_678 F682 nob noe F680 S0) q689 (b := a659) F681 (argsL := [.null]) (rest := []) rfl rfl 0 100 rfl (by rw [hml]; rfl) (lenOf own_pd10 rfl) (Nat.le_refl _) (by decide) (by decide) (by decide) (by decide) (hb hby at_97) ?_
                intro v718 T718 L718 X718 hQ718
                obtain ⟨es718, kb718, rfl, N718, K718, ge718, se718, VB718, nb718, L0_718, L1_718, L2_718⟩ := hQ718
                have N719 := Fr.app N690 N718
                have F720 := F680.keep K718 (allS gb all0)
                have F721 := F681.keep K718
                have F722 := F682.keep K718 (ninS nob nin0)
                have F723 := F683.keep K718
                have Z727 : n0 ≤ T718.heap.size := Nat.le_trans Z688 K718.1
                have no718 : a659 ≠ es718 := Nat.ne_of_lt (Nat.lt_of_lt_of_le F681.lt se718)
                show Go p e below _ T718 (mkF m 100 #[.val (.int p0), .val (.int p1), .val (.int p2), .val (.int p3), .val (.ref a659), .val (.int (0 : Int32)), .val (.int (0 : Int32)), .val (.int (1 : Int32)), .val (.int (1 : Int32)), .unset, .unset] [])
                refine g_iloadN X718 hx 101 (hb hby at_100) rfl rfl ?_
                refine g_ldcI X718 hx 103 hZ hown (hw _ (List.mem_of_getElem? (i := 38) rfl)) (hb hby at_101) rfl ?_
                refine g_iand X718 hx 104 (hb hby at_103) rfl ?_
                refine g_iload X718 hx 106 (hb hby at_104) rfl rfl ?_
                refine g_iload X718 hx 108 (hb hby at_106) rfl rfl ?_
                refine g_iaddC X718 hx (1 : Int32) (by decide) 109 (hb hby at_108) rfl ?_
                refine g_iconst X718 hx (1 : Int32) 110 (hb hby at_109) rfl (by decide) ?_
                refine g_iaddC X718 hx (2 : Int32) (by decide) 111 (hb hby at_110) rfl ?_
                have ld2 : ((2 : Int32) : Int32).toInt = 2 := by decide
                refine g_irem X718 hx 112 (hb hby at_111) rfl (by decide) ?_
                refine g_istore (l' := #[.val (.int p0), .val (.int p1), .val (.int p2), .val (.int p3), .val (.ref a659), .val (.int (0 : Int32)), .val (.int (0 : Int32)), .val (.int (1 : Int32)), .val (.int (1 : Int32)), .val (.int ((p3 &&& (2147483647 : Int32)) % (2 : Int32))), .unset]) X718 hx 114 (hb hby at_112) rfl rfl ?_
                generalize hj : ((p3 &&& (2147483647 : Int32)) % (2 : Int32)) = j
                have bj := own_m hj (by rw [ld2]; omega)
                rw [ld2] at bj
                refine g_aload X718 hx 116 (hb hby at_114) rfl rfl rfl ?_
                refine g_iload X718 hx 118 (hb hby at_116) rfl rfl ?_
                refine g_virt X718 hx hZ (C := "com/example/firm_commit/firmcommit/Synchronizations") hown (hw _ (List.mem_of_getElem? (i := 39) rfl)) (hw _ (List.mem_of_getElem? (i := 40) rfl)) (hw _ (List.mem_of_getElem? (i := 42) rfl)) (hw _ (List.mem_of_getElem? (i := 42) rfl)) (hw _ (List.mem_of_getElem? (i := 41) rfl)) (hw _ (List.mem_of_getElem? (i := 2) rfl)) (hw _ (List.mem_of_getElem? (i := 43) rfl)) (by decide) (rmKFB l Z a0 hw a659 j T718.heap n0 Z727 b es718 kb718 (((0 : Int32) + (1 : Int32)) + (1 : Int32)) (1 : Int32) (by omega) F723 gb ge718 nb718 L0_718 L1_718 L2_718 VB718 (by omega) F722 nob no718) rfl (b := a659) F721 (argsL := [(.int j)]) (rest := []) rfl rfl 0 121 rfl (by rw [hml]; rfl) (lenOf own_pd2 rfl) (Nat.le_refl _) (by decide) (by decide) (by decide) (by decide) (hb hby at_118) ?_
                intro v728 T728 L728 X728 hQ728
                obtain ⟨rfl, N728, K728, L0_728, L1_728, L2_728, LV_728⟩ := hQ728
                have N729 := Fr.app N719 N728
                have F730 := F720.keep K728 (allS gb (allS ge718 all0))
                have F731 := F721.keep K728
                have F732 := F722.keep K728 (ninS nob (ninS no718 nin0))
                have F733 := F723.keep K728
                have Z738 : n0 ≤ T728.heap.size := Nat.le_trans Z727 K728.1
                show Go p e below _ T728 (mkF m 121 #[.val (.int p0), .val (.int p1), .val (.int p2), .val (.int p3), .val (.ref a659), .val (.int (0 : Int32)), .val (.int (0 : Int32)), .val (.int (1 : Int32)), .val (.int (1 : Int32)), .val (.int j), .unset] [])
                refine g_aload X728 hx 123 (hb hby at_121) rfl rfl rfl ?_
                refine g_virt X728 hx hZ (C := "com/example/firm_commit/firmcommit/Synchronizations") hown (hw _ (List.mem_of_getElem? (i := 136) rfl)) (hw _ (List.mem_of_getElem? (i := 137) rfl)) (hw _ (List.mem_of_getElem? (i := 139) rfl)) (hw _ (List.mem_of_getElem? (i := 139) rfl)) (hw _ (List.mem_of_getElem? (i := 138) rfl)) (hw _ (List.mem_of_getElem? (i := 2) rfl)) (hw _ (List.mem_of_getElem? (i := 140) rfl)) (by decide) (rmCt l Z a0 hw a659 T728.heap n0 Z738 b j F732 F733 L2_728) rfl (b := a659) F731 (argsL := []) (rest := []) rfl rfl 0 126 rfl (by rw [hml]; rfl) (lenOf own_pd3 rfl) (Nat.le_refl _) (by decide) (by decide) (by decide) (by decide) (hb hby at_123) ?_
                intro v739 T739 L739 X739 hQ739
                obtain ⟨rfl, N739, q739⟩ := hQ739
                have N740 := Fr.app N729 N739
                show Go p e below _ T739 (mkF m 126 #[.val (.int p0), .val (.int p1), .val (.int p2), .val (.int p3), .val (.ref a659), .val (.int (0 : Int32)), .val (.int (0 : Int32)), .val (.int (1 : Int32)), .val (.int (1 : Int32)), .val (.int j), .unset] [(.int j)])
                refine g_iload X739 hx 128 (hb hby at_126) rfl rfl ?_
                refine g_ic_ne X739 hx 135 131 (hb hby at_128) (by decide) (by decide) rfl (fun c741 => ?_) (fun c741 => ?_)
                · skip
                  exact absurd rfl c741
                · skip
                  refine g_iconst X739 hx (1 : Int32) 132 (hb hby at_131) rfl (by decide) ?_
                  refine g_goto X739 hx 136 (hb hby at_132) (by decide) (by decide) ?_
                  refine g_istore (l' := #[.val (.int p0), .val (.int p1), .val (.int p2), .val (.int p3), .val (.ref a659), .val (.int (0 : Int32)), .val (.int (0 : Int32)), .val (.int (1 : Int32)), .val (.int (1 : Int32)), .val (.int j), .val (.int (1 : Int32))]) X739 hx 138 (hb hby at_136) rfl rfl ?_
                  refine g_iload X739 hx 140 (hb hby at_138) rfl rfl ?_
                  have ll743 : ((1 : Int32) : Int32).toInt = 1 := by decide
                  refine g_if_eq X739 hx 152 143 (hb hby at_140) (by decide) (by decide) rfl (fun c742 => ?_) (fun c742 => ?_)
                  · skip
                    exfalso; revert c742; decide
                  · skip
                    refine g_iload X739 hx 145 (hb hby at_143) rfl rfl ?_
                    have ll745 : ((1 : Int32) : Int32).toInt = 1 := by decide
                    refine g_if_eq X739 hx 152 148 (hb hby at_145) (by decide) (by decide) rfl (fun c744 => ?_) (fun c744 => ?_)
                    · skip
                      exfalso; revert c744; decide
                    · skip
                      refine g_iconst X739 hx (1 : Int32) 149 (hb hby at_148) rfl (by decide) ?_
                      refine g_goto X739 hx 153 (hb hby at_149) (by decide) (by decide) ?_
                      exact g_retZ X739 hx hlk hret (hb hby at_153) (by decide) (by decide) q739 ⟨rfl, N740⟩
        · skip
          exfalso; revert c675; decide
      · skip
        exfalso; revert c672; decide
    · skip
      exfalso; revert c670; decide
  · skip
    refine g_iload X664 hx 16 (hb hby at_14) rfl rfl ?_
    have ll747 : ((1 : Int32) : Int32).toInt = 1 := by decide
    refine g_if_le X664 hx 25 19 (hb hby at_16) (by decide) (by decide) rfl (fun c746 => ?_) (fun c746 => ?_)
    · skip
      exfalso; revert c746; decide
    · skip
      refine g_aload X664 hx 21 (hb hby at_19) rfl rfl rfl ?_
      refine g_null X664 hx 22 (hb hby at_21) rfl ?_
      refine g_virt X664 hx hZ (C := "com/example/firm_commit/firmcommit/Synchronizations") hown (hw _ (List.mem_of_getElem? (i := 141) rfl)) (hw _ (List.mem_of_getElem? (i := 142) rfl)) (hw _ (List.mem_of_getElem? (i := 144) rfl)) (hw _ (List.mem_of_getElem? (i := 144) rfl)) (hw _ (List.mem_of_getElem? (i := 143) rfl)) (hw _ (List.mem_of_getElem? (i := 2) rfl)) (hw _ (List.mem_of_getElem? (i := 145) rfl)) (by decide) (rmSAA l Z a0 hw a659 T664.heap n0 Z669 b em ke (0 : Int32)  Eb gb  nbe B0 B1 B2 Ve Fs nob noe F666 S0) rfl (b := a659) F667 (argsL := [.null]) (rest := []) rfl rfl 0 25 rfl (by rw [hml]; rfl) (lenOf own_pd10 rfl) (Nat.le_refl _) (by decide) (by decide) (by decide) (by decide) (hb hby at_22) ?_
      intro v748 T748 L748 X748 hQ748
      obtain ⟨es748, kb748, rfl, N748, K748, ge748, se748, VB748, nb748, L0_748, L1_748, L2_748⟩ := hQ748
      have N749 := Fr.app N665 N748
      have F750 := F666.keep K748 (allS gb all0)
      have F751 := F667.keep K748
      have F752 := Fs.keep K748 (ninS nob nin0)
      have F753 := Eb.keep K748
      have Z757 : n0 ≤ T748.heap.size := Nat.le_trans Z669 K748.1
      have no748 : a659 ≠ es748 := Nat.ne_of_lt (Nat.lt_of_lt_of_le F667.lt se748)
      show Go p e below _ T748 (mkF m 25 #[.val (.int p0), .val (.int p1), .val (.int p2), .val (.int p3), .val (.ref a659), .val (.int (1 : Int32)), .unset, .unset, .unset, .unset, .unset] [])
      refine g_iload X748 hx 27 (hb hby at_25) rfl rfl ?_
      refine g_iconst X748 hx (1 : Int32) 28 (hb hby at_27) rfl (by decide) ?_
      have ll759 : ((1 : Int32) : Int32).toInt = 1 := by decide
      have ll760 : ((1 : Int32) : Int32).toInt = 1 := by decide
      refine g_ic_le X748 hx 37 31 (hb hby at_28) (by decide) (by decide) rfl (fun c758 => ?_) (fun c758 => ?_)
      · skip
        refine g_iload X748 hx 39 (hb hby at_37) rfl rfl ?_
        refine g_iconst X748 hx (2 : Int32) 40 (hb hby at_39) rfl (by decide) ?_
        have ll762 : ((2 : Int32) : Int32).toInt = 2 := by decide
        have ll763 : ((1 : Int32) : Int32).toInt = 1 := by decide
        refine g_ic_le X748 hx 49 43 (hb hby at_40) (by decide) (by decide) rfl (fun c761 => ?_) (fun c761 => ?_)
        · skip
          refine g_iloadN X748 hx 50 (hb hby at_49) rfl rfl ?_
          refine g_ldcI X748 hx 52 hZ hown (hw _ (List.mem_of_getElem? (i := 38) rfl)) (hb hby at_50) rfl ?_
          refine g_iand X748 hx 53 (hb hby at_52) rfl ?_
          refine g_iload X748 hx 55 (hb hby at_53) rfl rfl ?_
          refine g_iconst X748 hx (1 : Int32) 56 (hb hby at_55) rfl (by decide) ?_
          refine g_iaddC X748 hx (2 : Int32) (by decide) 57 (hb hby at_56) rfl ?_
          refine g_irem X748 hx 58 (hb hby at_57) rfl (by decide) ?_
          refine g_istore (l' := #[.val (.int p0), .val (.int p1), .val (.int p2), .val (.int p3), .val (.ref a659), .val (.int (1 : Int32)), .val (.int ((p1 &&& (2147483647 : Int32)) % (2 : Int32))), .unset, .unset, .unset, .unset]) X748 hx 60 (hb hby at_58) rfl rfl ?_
          generalize hk : ((p1 &&& (2147483647 : Int32)) % (2 : Int32)) = k
          have bk := own_m hk (by decide)
          have ld : ((2 : Int32) : Int32).toInt = 2 := by decide
          rw [ld] at bk
          refine g_aload X748 hx 62 (hb hby at_60) rfl rfl rfl ?_
          refine g_iload X748 hx 64 (hb hby at_62) rfl rfl ?_
          refine g_virt X748 hx hZ (C := "com/example/firm_commit/firmcommit/Synchronizations") hown (hw _ (List.mem_of_getElem? (i := 39) rfl)) (hw _ (List.mem_of_getElem? (i := 40) rfl)) (hw _ (List.mem_of_getElem? (i := 42) rfl)) (hw _ (List.mem_of_getElem? (i := 42) rfl)) (hw _ (List.mem_of_getElem? (i := 41) rfl)) (hw _ (List.mem_of_getElem? (i := 2) rfl)) (hw _ (List.mem_of_getElem? (i := 43) rfl)) (by decide) (rmKFB l Z a0 hw a659 k T748.heap n0 Z757 b es748 kb748 ((0 : Int32) + (1 : Int32)) (1 : Int32) (by omega) F753 gb ge748 nb748 L0_748 L1_748 L2_748 VB748 (by omega) F752 nob no748) rfl (b := a659) F751 (argsL := [(.int k)]) (rest := []) rfl rfl 0 67 rfl (by rw [hml]; rfl) (lenOf own_pd2 rfl) (Nat.le_refl _) (by decide) (by decide) (by decide) (by decide) (hb hby at_64) ?_
          intro v764 T764 L764 X764 hQ764
          obtain ⟨rfl, N764, K764, L0_764, L1_764, L2_764, LV_764⟩ := hQ764
          have N765 := Fr.app N749 N764
          have F766 := F750.keep K764 (allS gb (allS ge748 all0))
          have F767 := F751.keep K764
          have F768 := F752.keep K764 (ninS nob (ninS no748 nin0))
          have F769 := F753.keep K764
          have Z774 : n0 ≤ T764.heap.size := Nat.le_trans Z757 K764.1
          show Go p e below _ T764 (mkF m 67 #[.val (.int p0), .val (.int p1), .val (.int p2), .val (.int p3), .val (.ref a659), .val (.int (1 : Int32)), .val (.int k), .unset, .unset, .unset, .unset] [])
          refine g_aload X764 hx 69 (hb hby at_67) rfl rfl rfl ?_
          refine g_virt X764 hx hZ (C := "com/example/firm_commit/firmcommit/Synchronizations") hown (hw _ (List.mem_of_getElem? (i := 136) rfl)) (hw _ (List.mem_of_getElem? (i := 137) rfl)) (hw _ (List.mem_of_getElem? (i := 139) rfl)) (hw _ (List.mem_of_getElem? (i := 139) rfl)) (hw _ (List.mem_of_getElem? (i := 138) rfl)) (hw _ (List.mem_of_getElem? (i := 2) rfl)) (hw _ (List.mem_of_getElem? (i := 140) rfl)) (by decide) (rmCt l Z a0 hw a659 T764.heap n0 Z774 b k F768 F769 L2_764) rfl (b := a659) F767 (argsL := []) (rest := []) rfl rfl 0 72 rfl (by rw [hml]; rfl) (lenOf own_pd3 rfl) (Nat.le_refl _) (by decide) (by decide) (by decide) (by decide) (hb hby at_69) ?_
          intro v775 T775 L775 X775 hQ775
          obtain ⟨rfl, N775, q775⟩ := hQ775
          have N776 := Fr.app N765 N775
          show Go p e below _ T775 (mkF m 72 #[.val (.int p0), .val (.int p1), .val (.int p2), .val (.int p3), .val (.ref a659), .val (.int (1 : Int32)), .val (.int k), .unset, .unset, .unset, .unset] [(.int k)])
          refine g_iload X775 hx 74 (hb hby at_72) rfl rfl ?_
          refine g_ic_ne X775 hx 81 77 (hb hby at_74) (by decide) (by decide) rfl (fun c777 => ?_) (fun c777 => ?_)
          · skip
            exact absurd rfl c777
          · skip
            refine g_iconst X775 hx (1 : Int32) 78 (hb hby at_77) rfl (by decide) ?_
            refine g_goto X775 hx 82 (hb hby at_78) (by decide) (by decide) ?_
            refine g_istore (l' := #[.val (.int p0), .val (.int p1), .val (.int p2), .val (.int p3), .val (.ref a659), .val (.int (1 : Int32)), .val (.int k), .val (.int (1 : Int32)), .unset, .unset, .unset]) X775 hx 84 (hb hby at_82) rfl rfl ?_
            refine g_iloadN X775 hx 85 (hb hby at_84) rfl rfl ?_
            refine g_iconst X775 hx (1 : Int32) 86 (hb hby at_85) rfl (by decide) ?_
            refine g_iand X775 hx 87 (hb hby at_86) rfl ?_
            refine g_istore (l' := #[.val (.int p0), .val (.int p1), .val (.int p2), .val (.int p3), .val (.ref a659), .val (.int (1 : Int32)), .val (.int k), .val (.int (1 : Int32)), .val (.int (p2 &&& (1 : Int32))), .unset, .unset]) X775 hx 89 (hb hby at_87) rfl rfl ?_
            generalize hmm : (p2 &&& (1 : Int32)) = mm
            rcases own_n2 hmm with rfl | rfl
            · skip
              refine g_iload X775 hx 91 (hb hby at_89) rfl rfl ?_
              have ll779 : ((0 : Int32) : Int32).toInt = 0 := by decide
              refine g_if_le X775 hx 100 94 (hb hby at_91) (by decide) (by decide) rfl (fun c778 => ?_) (fun c778 => ?_)
              · skip
                refine g_iloadN X775 hx 101 (hb hby at_100) rfl rfl ?_
                refine g_ldcI X775 hx 103 hZ hown (hw _ (List.mem_of_getElem? (i := 38) rfl)) (hb hby at_101) rfl ?_
                refine g_iand X775 hx 104 (hb hby at_103) rfl ?_
                refine g_iload X775 hx 106 (hb hby at_104) rfl rfl ?_
                refine g_iload X775 hx 108 (hb hby at_106) rfl rfl ?_
                refine g_iadd X775 hx 109 (hb hby at_108) rfl ?_
                refine g_iconst X775 hx (1 : Int32) 110 (hb hby at_109) rfl (by decide) ?_
                refine g_iadd X775 hx 111 (hb hby at_110) rfl ?_
                have ta := c_iadd k 0
                have tb := rng32 (k + 0)
                have tc := c_iadd (k + 0) 1
                have td := rng32 (k + 0 + 1)
                have ld2 : (((k + (0 : Int32)) + (1 : Int32)) : Int32).toInt = k.toInt + 0 + 1 := by have := (by decide : (0 : Int32).toInt = 0); omega
                refine g_irem X775 hx 112 (hb hby at_111) rfl (own_nz (by rw [ld2]; omega)) ?_
                refine g_istore (l' := #[.val (.int p0), .val (.int p1), .val (.int p2), .val (.int p3), .val (.ref a659), .val (.int (1 : Int32)), .val (.int k), .val (.int (1 : Int32)), .val (.int (0 : Int32)), .val (.int ((p3 &&& (2147483647 : Int32)) % ((k + (0 : Int32)) + (1 : Int32)))), .unset]) X775 hx 114 (hb hby at_112) rfl rfl ?_
                generalize hj : ((p3 &&& (2147483647 : Int32)) % ((k + (0 : Int32)) + (1 : Int32))) = j
                have bj := own_m hj (by rw [ld2]; omega)
                rw [ld2] at bj
                refine g_aload X775 hx 116 (hb hby at_114) rfl rfl rfl ?_
                refine g_iload X775 hx 118 (hb hby at_116) rfl rfl ?_
                refine g_virt X775 hx hZ (C := "com/example/firm_commit/firmcommit/Synchronizations") hown (hw _ (List.mem_of_getElem? (i := 39) rfl)) (hw _ (List.mem_of_getElem? (i := 40) rfl)) (hw _ (List.mem_of_getElem? (i := 42) rfl)) (hw _ (List.mem_of_getElem? (i := 42) rfl)) (hw _ (List.mem_of_getElem? (i := 41) rfl)) (hw _ (List.mem_of_getElem? (i := 2) rfl)) (hw _ (List.mem_of_getElem? (i := 43) rfl)) (by decide) (rmKFB l Z a0 hw a659 j T764.heap n0 Z774 b es748 kb748 (((0 : Int32) + (1 : Int32)) + (1 : Int32)) k (by omega) F769 gb ge748 nb748 L0_764 L1_764 L2_764 LV_764 (by omega) F768 nob no748) q775 (b := a659) F767 (argsL := [(.int j)]) (rest := []) rfl rfl 0 121 rfl (by rw [hml]; rfl) (lenOf own_pd2 rfl) (Nat.le_refl _) (by decide) (by decide) (by decide) (by decide) (hb hby at_118) ?_
                intro v780 T780 L780 X780 hQ780
                obtain ⟨rfl, N780, K780, L0_780, L1_780, L2_780, LV_780⟩ := hQ780
                have N781 := Fr.app N776 N780
                have F782 := F766.keep K780 (allS gb (allS ge748 all0))
                have F783 := F767.keep K780
                have F784 := F768.keep K780 (ninS nob (ninS no748 nin0))
                have F785 := F769.keep K780
                have Z790 : n0 ≤ T780.heap.size := Nat.le_trans Z774 K780.1
                show Go p e below _ T780 (mkF m 121 #[.val (.int p0), .val (.int p1), .val (.int p2), .val (.int p3), .val (.ref a659), .val (.int (1 : Int32)), .val (.int k), .val (.int (1 : Int32)), .val (.int (0 : Int32)), .val (.int j), .unset] [])
                refine g_aload X780 hx 123 (hb hby at_121) rfl rfl rfl ?_
                refine g_virt X780 hx hZ (C := "com/example/firm_commit/firmcommit/Synchronizations") hown (hw _ (List.mem_of_getElem? (i := 136) rfl)) (hw _ (List.mem_of_getElem? (i := 137) rfl)) (hw _ (List.mem_of_getElem? (i := 139) rfl)) (hw _ (List.mem_of_getElem? (i := 139) rfl)) (hw _ (List.mem_of_getElem? (i := 138) rfl)) (hw _ (List.mem_of_getElem? (i := 2) rfl)) (hw _ (List.mem_of_getElem? (i := 140) rfl)) (by decide) (rmCt l Z a0 hw a659 T780.heap n0 Z790 b j F784 F785 L2_780) rfl (b := a659) F783 (argsL := []) (rest := []) rfl rfl 0 126 rfl (by rw [hml]; rfl) (lenOf own_pd3 rfl) (Nat.le_refl _) (by decide) (by decide) (by decide) (by decide) (hb hby at_123) ?_
                intro v791 T791 L791 X791 hQ791
                obtain ⟨rfl, N791, q791⟩ := hQ791
                have N792 := Fr.app N781 N791
                show Go p e below _ T791 (mkF m 126 #[.val (.int p0), .val (.int p1), .val (.int p2), .val (.int p3), .val (.ref a659), .val (.int (1 : Int32)), .val (.int k), .val (.int (1 : Int32)), .val (.int (0 : Int32)), .val (.int j), .unset] [(.int j)])
                refine g_iload X791 hx 128 (hb hby at_126) rfl rfl ?_
                refine g_ic_ne X791 hx 135 131 (hb hby at_128) (by decide) (by decide) rfl (fun c793 => ?_) (fun c793 => ?_)
                · skip
                  exact absurd rfl c793
                · skip
                  refine g_iconst X791 hx (1 : Int32) 132 (hb hby at_131) rfl (by decide) ?_
                  refine g_goto X791 hx 136 (hb hby at_132) (by decide) (by decide) ?_
                  refine g_istore (l' := #[.val (.int p0), .val (.int p1), .val (.int p2), .val (.int p3), .val (.ref a659), .val (.int (1 : Int32)), .val (.int k), .val (.int (1 : Int32)), .val (.int (0 : Int32)), .val (.int j), .val (.int (1 : Int32))]) X791 hx 138 (hb hby at_136) rfl rfl ?_
                  refine g_iload X791 hx 140 (hb hby at_138) rfl rfl ?_
                  have ll795 : ((1 : Int32) : Int32).toInt = 1 := by decide
                  refine g_if_eq X791 hx 152 143 (hb hby at_140) (by decide) (by decide) rfl (fun c794 => ?_) (fun c794 => ?_)
                  · skip
                    exfalso; revert c794; decide
                  · skip
                    refine g_iload X791 hx 145 (hb hby at_143) rfl rfl ?_
                    have ll797 : ((1 : Int32) : Int32).toInt = 1 := by decide
                    refine g_if_eq X791 hx 152 148 (hb hby at_145) (by decide) (by decide) rfl (fun c796 => ?_) (fun c796 => ?_)
                    · skip
                      exfalso; revert c796; decide
                    · skip
                      refine g_iconst X791 hx (1 : Int32) 149 (hb hby at_148) rfl (by decide) ?_
                      refine g_goto X791 hx 153 (hb hby at_149) (by decide) (by decide) ?_
                      exact g_retZ X791 hx hlk hret (hb hby at_153) (by decide) (by decide) q791 ⟨rfl, N792⟩
              · skip
                exfalso; revert c778; decide
            · skip
              refine g_iload X775 hx 91 (hb hby at_89) rfl rfl ?_
              have ll799 : ((1 : Int32) : Int32).toInt = 1 := by decide
              refine g_if_le X775 hx 100 94 (hb hby at_91) (by decide) (by decide) rfl (fun c798 => ?_) (fun c798 => ?_)
              · skip
                exfalso; revert c798; decide
              · skip
                refine g_aload X775 hx 96 (hb hby at_94) rfl rfl rfl ?_
                refine g_null X775 hx 97 (hb hby at_96) rfl ?_
                refine g_virt X775 hx hZ (C := "com/example/firm_commit/firmcommit/Synchronizations") hown (hw _ (List.mem_of_getElem? (i := 141) rfl)) (hw _ (List.mem_of_getElem? (i := 142) rfl)) (hw _ (List.mem_of_getElem? (i := 144) rfl)) (hw _ (List.mem_of_getElem? (i := 144) rfl)) (hw _ (List.mem_of_getElem? (i := 143) rfl)) (hw _ (List.mem_of_getElem? (i := 2) rfl)) (hw _ (List.mem_of_getElem? (i := 145) rfl)) (by decide) (rmSAB l Z a0 hw a659 T764.heap n0 Z774 b es748 kb748 (((0 : Int32) + (1 : Int32)) + (1 : Int32)) k (by omega) F769 gb ge748 nb748 L0_764 L1_764 L2_764 LV_764 F768 nob no748 ) q775 (b := a659) F767 (argsL := [.null]) (rest := []) rfl rfl 0 100 rfl (by rw [hml]; rfl) (lenOf own_pd10 rfl) (Nat.le_refl _) (by decide) (by decide) (by decide) (by decide) (hb hby at_97) ?_
                intro v800 T800 L800 X800 hQ800
                obtain ⟨rfl, N800, K800, L0_800, L1_800, L2_800, LV_800⟩ := hQ800
                have N801 := Fr.app N776 N800
                have F802 := F766.keep K800 (allS gb (allS ge748 all0))
                have F803 := F767.keep K800
                have F804 := F768.keep K800 (ninS nob (ninS no748 nin0))
                have F805 := F769.keep K800
                have Z810 : n0 ≤ T800.heap.size := Nat.le_trans Z774 K800.1
                have sa800 := c_iadd k 1
                have sb800 := rng32 (k + 1)
                rw [l1_] at sa800
                show Go p e below _ T800 (mkF m 100 #[.val (.int p0), .val (.int p1), .val (.int p2), .val (.int p3), .val (.ref a659), .val (.int (1 : Int32)), .val (.int k), .val (.int (1 : Int32)), .val (.int (1 : Int32)), .unset, .unset] [])
                refine g_iloadN X800 hx 101 (hb hby at_100) rfl rfl ?_
                refine g_ldcI X800 hx 103 hZ hown (hw _ (List.mem_of_getElem? (i := 38) rfl)) (hb hby at_101) rfl ?_
                refine g_iand X800 hx 104 (hb hby at_103) rfl ?_
                refine g_iload X800 hx 106 (hb hby at_104) rfl rfl ?_
                refine g_iload X800 hx 108 (hb hby at_106) rfl rfl ?_
                refine g_iadd X800 hx 109 (hb hby at_108) rfl ?_
                refine g_iconst X800 hx (1 : Int32) 110 (hb hby at_109) rfl (by decide) ?_
                refine g_iadd X800 hx 111 (hb hby at_110) rfl ?_
                have ta := c_iadd k 1
                have tb := rng32 (k + 1)
                have tc := c_iadd (k + 1) 1
                have td := rng32 (k + 1 + 1)
                have ld2 : (((k + (1 : Int32)) + (1 : Int32)) : Int32).toInt = k.toInt + 1 + 1 := by have := (by decide : (1 : Int32).toInt = 1); omega
                refine g_irem X800 hx 112 (hb hby at_111) rfl (own_nz (by rw [ld2]; omega)) ?_
                refine g_istore (l' := #[.val (.int p0), .val (.int p1), .val (.int p2), .val (.int p3), .val (.ref a659), .val (.int (1 : Int32)), .val (.int k), .val (.int (1 : Int32)), .val (.int (1 : Int32)), .val (.int ((p3 &&& (2147483647 : Int32)) % ((k + (1 : Int32)) + (1 : Int32)))), .unset]) X800 hx 114 (hb hby at_112) rfl rfl ?_
                generalize hj : ((p3 &&& (2147483647 : Int32)) % ((k + (1 : Int32)) + (1 : Int32))) = j
                have bj := own_m hj (by rw [ld2]; omega)
                rw [ld2] at bj
                refine g_aload X800 hx 116 (hb hby at_114) rfl rfl rfl ?_
                refine g_iload X800 hx 118 (hb hby at_116) rfl rfl ?_
                refine g_virt X800 hx hZ (C := "com/example/firm_commit/firmcommit/Synchronizations") hown (hw _ (List.mem_of_getElem? (i := 39) rfl)) (hw _ (List.mem_of_getElem? (i := 40) rfl)) (hw _ (List.mem_of_getElem? (i := 42) rfl)) (hw _ (List.mem_of_getElem? (i := 42) rfl)) (hw _ (List.mem_of_getElem? (i := 41) rfl)) (hw _ (List.mem_of_getElem? (i := 2) rfl)) (hw _ (List.mem_of_getElem? (i := 43) rfl)) (by decide) (rmKFB l Z a0 hw a659 j T800.heap n0 Z810 b es748 kb748 ((((0 : Int32) + (1 : Int32)) + (1 : Int32)) + (1 : Int32)) (k + (1 : Int32)) (by omega) F805 gb ge748 nb748 L0_800 L1_800 L2_800 LV_800 (by omega) F804 nob no748) rfl (b := a659) F803 (argsL := [(.int j)]) (rest := []) rfl rfl 0 121 rfl (by rw [hml]; rfl) (lenOf own_pd2 rfl) (Nat.le_refl _) (by decide) (by decide) (by decide) (by decide) (hb hby at_118) ?_
                intro v811 T811 L811 X811 hQ811
                obtain ⟨rfl, N811, K811, L0_811, L1_811, L2_811, LV_811⟩ := hQ811
                have N812 := Fr.app N801 N811
                have F813 := F802.keep K811 (allS gb (allS ge748 all0))
                have F814 := F803.keep K811
                have F815 := F804.keep K811 (ninS nob (ninS no748 nin0))
                have F816 := F805.keep K811
                have Z821 : n0 ≤ T811.heap.size := Nat.le_trans Z810 K811.1
                show Go p e below _ T811 (mkF m 121 #[.val (.int p0), .val (.int p1), .val (.int p2), .val (.int p3), .val (.ref a659), .val (.int (1 : Int32)), .val (.int k), .val (.int (1 : Int32)), .val (.int (1 : Int32)), .val (.int j), .unset] [])
                refine g_aload X811 hx 123 (hb hby at_121) rfl rfl rfl ?_
                refine g_virt X811 hx hZ (C := "com/example/firm_commit/firmcommit/Synchronizations") hown (hw _ (List.mem_of_getElem? (i := 136) rfl)) (hw _ (List.mem_of_getElem? (i := 137) rfl)) (hw _ (List.mem_of_getElem? (i := 139) rfl)) (hw _ (List.mem_of_getElem? (i := 139) rfl)) (hw _ (List.mem_of_getElem? (i := 138) rfl)) (hw _ (List.mem_of_getElem? (i := 2) rfl)) (hw _ (List.mem_of_getElem? (i := 140) rfl)) (by decide) (rmCt l Z a0 hw a659 T811.heap n0 Z821 b j F815 F816 L2_811) rfl (b := a659) F814 (argsL := []) (rest := []) rfl rfl 0 126 rfl (by rw [hml]; rfl) (lenOf own_pd3 rfl) (Nat.le_refl _) (by decide) (by decide) (by decide) (by decide) (hb hby at_123) ?_
                intro v822 T822 L822 X822 hQ822
                obtain ⟨rfl, N822, q822⟩ := hQ822
                have N823 := Fr.app N812 N822
                show Go p e below _ T822 (mkF m 126 #[.val (.int p0), .val (.int p1), .val (.int p2), .val (.int p3), .val (.ref a659), .val (.int (1 : Int32)), .val (.int k), .val (.int (1 : Int32)), .val (.int (1 : Int32)), .val (.int j), .unset] [(.int j)])
                refine g_iload X822 hx 128 (hb hby at_126) rfl rfl ?_
                refine g_ic_ne X822 hx 135 131 (hb hby at_128) (by decide) (by decide) rfl (fun c824 => ?_) (fun c824 => ?_)
                · skip
                  exact absurd rfl c824
                · skip
                  refine g_iconst X822 hx (1 : Int32) 132 (hb hby at_131) rfl (by decide) ?_
                  refine g_goto X822 hx 136 (hb hby at_132) (by decide) (by decide) ?_
                  refine g_istore (l' := #[.val (.int p0), .val (.int p1), .val (.int p2), .val (.int p3), .val (.ref a659), .val (.int (1 : Int32)), .val (.int k), .val (.int (1 : Int32)), .val (.int (1 : Int32)), .val (.int j), .val (.int (1 : Int32))]) X822 hx 138 (hb hby at_136) rfl rfl ?_
                  refine g_iload X822 hx 140 (hb hby at_138) rfl rfl ?_
                  have ll826 : ((1 : Int32) : Int32).toInt = 1 := by decide
                  refine g_if_eq X822 hx 152 143 (hb hby at_140) (by decide) (by decide) rfl (fun c825 => ?_) (fun c825 => ?_)
                  · skip
                    exfalso; revert c825; decide
                  · skip
                    refine g_iload X822 hx 145 (hb hby at_143) rfl rfl ?_
                    have ll828 : ((1 : Int32) : Int32).toInt = 1 := by decide
                    refine g_if_eq X822 hx 152 148 (hb hby at_145) (by decide) (by decide) rfl (fun c827 => ?_) (fun c827 => ?_)
                    · skip
                      exfalso; revert c827; decide
                    · skip
                      refine g_iconst X822 hx (1 : Int32) 149 (hb hby at_148) rfl (by decide) ?_
                      refine g_goto X822 hx 153 (hb hby at_149) (by decide) (by decide) ?_
                      exact g_retZ X822 hx hlk hret (hb hby at_153) (by decide) (by decide) q822 ⟨rfl, N823⟩
        · skip
          exfalso; revert c761; decide
      · skip
        exfalso; revert c758; decide
  · skip
    refine g_iload X664 hx 16 (hb hby at_14) rfl rfl ?_
    have ll830 : ((2 : Int32) : Int32).toInt = 2 := by decide
    refine g_if_le X664 hx 25 19 (hb hby at_16) (by decide) (by decide) rfl (fun c829 => ?_) (fun c829 => ?_)
    · skip
      exfalso; revert c829; decide
    · skip
      refine g_aload X664 hx 21 (hb hby at_19) rfl rfl rfl ?_
      refine g_null X664 hx 22 (hb hby at_21) rfl ?_
      refine g_virt X664 hx hZ (C := "com/example/firm_commit/firmcommit/Synchronizations") hown (hw _ (List.mem_of_getElem? (i := 141) rfl)) (hw _ (List.mem_of_getElem? (i := 142) rfl)) (hw _ (List.mem_of_getElem? (i := 144) rfl)) (hw _ (List.mem_of_getElem? (i := 144) rfl)) (hw _ (List.mem_of_getElem? (i := 143) rfl)) (hw _ (List.mem_of_getElem? (i := 2) rfl)) (hw _ (List.mem_of_getElem? (i := 145) rfl)) (by decide) (rmSAA l Z a0 hw a659 T664.heap n0 Z669 b em ke (0 : Int32)  Eb gb  nbe B0 B1 B2 Ve Fs nob noe F666 S0) rfl (b := a659) F667 (argsL := [.null]) (rest := []) rfl rfl 0 25 rfl (by rw [hml]; rfl) (lenOf own_pd10 rfl) (Nat.le_refl _) (by decide) (by decide) (by decide) (by decide) (hb hby at_22) ?_
      intro v831 T831 L831 X831 hQ831
      obtain ⟨es831, kb831, rfl, N831, K831, ge831, se831, VB831, nb831, L0_831, L1_831, L2_831⟩ := hQ831
      have N832 := Fr.app N665 N831
      have F833 := F666.keep K831 (allS gb all0)
      have F834 := F667.keep K831
      have F835 := Fs.keep K831 (ninS nob nin0)
      have F836 := Eb.keep K831
      have Z840 : n0 ≤ T831.heap.size := Nat.le_trans Z669 K831.1
      have no831 : a659 ≠ es831 := Nat.ne_of_lt (Nat.lt_of_lt_of_le F667.lt se831)
      show Go p e below _ T831 (mkF m 25 #[.val (.int p0), .val (.int p1), .val (.int p2), .val (.int p3), .val (.ref a659), .val (.int (2 : Int32)), .unset, .unset, .unset, .unset, .unset] [])
      refine g_iload X831 hx 27 (hb hby at_25) rfl rfl ?_
      refine g_iconst X831 hx (1 : Int32) 28 (hb hby at_27) rfl (by decide) ?_
      have ll842 : ((1 : Int32) : Int32).toInt = 1 := by decide
      have ll843 : ((2 : Int32) : Int32).toInt = 2 := by decide
      refine g_ic_le X831 hx 37 31 (hb hby at_28) (by decide) (by decide) rfl (fun c841 => ?_) (fun c841 => ?_)
      · skip
        exfalso; revert c841; decide
      · skip
        refine g_aload X831 hx 33 (hb hby at_31) rfl rfl rfl ?_
        refine g_null X831 hx 34 (hb hby at_33) rfl ?_
        refine g_virt X831 hx hZ (C := "com/example/firm_commit/firmcommit/Synchronizations") hown (hw _ (List.mem_of_getElem? (i := 141) rfl)) (hw _ (List.mem_of_getElem? (i := 142) rfl)) (hw _ (List.mem_of_getElem? (i := 144) rfl)) (hw _ (List.mem_of_getElem? (i := 144) rfl)) (hw _ (List.mem_of_getElem? (i := 143) rfl)) (hw _ (List.mem_of_getElem? (i := 2) rfl)) (hw _ (List.mem_of_getElem? (i := 145) rfl)) (by decide) (rmSAB l Z a0 hw a659 T831.heap n0 Z840 b es831 kb831 ((0 : Int32) + (1 : Int32)) (1 : Int32) (by omega) F836 gb ge831 nb831 L0_831 L1_831 L2_831 VB831 F835 nob no831 ) rfl (b := a659) F834 (argsL := [.null]) (rest := []) rfl rfl 0 37 rfl (by rw [hml]; rfl) (lenOf own_pd10 rfl) (Nat.le_refl _) (by decide) (by decide) (by decide) (by decide) (hb hby at_34) ?_
        intro v844 T844 L844 X844 hQ844
        obtain ⟨rfl, N844, K844, L0_844, L1_844, L2_844, LV_844⟩ := hQ844
        have N845 := Fr.app N832 N844
        have F846 := F833.keep K844 (allS gb (allS ge831 all0))
        have F847 := F834.keep K844
        have F848 := F835.keep K844 (ninS nob (ninS no831 nin0))
        have F849 := F836.keep K844
        have Z854 : n0 ≤ T844.heap.size := Nat.le_trans Z840 K844.1
        have sa844 := c_iadd (1 : Int32) 1
        have sb844 := rng32 ((1 : Int32) + 1)
        rw [l1_] at sa844
        show Go p e below _ T844 (mkF m 37 #[.val (.int p0), .val (.int p1), .val (.int p2), .val (.int p3), .val (.ref a659), .val (.int (2 : Int32)), .unset, .unset, .unset, .unset, .unset] [])
        refine g_iload X844 hx 39 (hb hby at_37) rfl rfl ?_
        refine g_iconst X844 hx (2 : Int32) 40 (hb hby at_39) rfl (by decide) ?_
        have ll856 : ((2 : Int32) : Int32).toInt = 2 := by decide
        have ll857 : ((2 : Int32) : Int32).toInt = 2 := by decide
        refine g_ic_le X844 hx 49 43 (hb hby at_40) (by decide) (by decide) rfl (fun c855 => ?_) (fun c855 => ?_)
        · skip
          refine g_iloadN X844 hx 50 (hb hby at_49) rfl rfl ?_
          refine g_ldcI X844 hx 52 hZ hown (hw _ (List.mem_of_getElem? (i := 38) rfl)) (hb hby at_50) rfl ?_
          refine g_iand X844 hx 53 (hb hby at_52) rfl ?_
          refine g_iload X844 hx 55 (hb hby at_53) rfl rfl ?_
          refine g_iconst X844 hx (1 : Int32) 56 (hb hby at_55) rfl (by decide) ?_
          refine g_iaddC X844 hx (3 : Int32) (by decide) 57 (hb hby at_56) rfl ?_
          refine g_irem X844 hx 58 (hb hby at_57) rfl (by decide) ?_
          refine g_istore (l' := #[.val (.int p0), .val (.int p1), .val (.int p2), .val (.int p3), .val (.ref a659), .val (.int (2 : Int32)), .val (.int ((p1 &&& (2147483647 : Int32)) % (3 : Int32))), .unset, .unset, .unset, .unset]) X844 hx 60 (hb hby at_58) rfl rfl ?_
          generalize hk : ((p1 &&& (2147483647 : Int32)) % (3 : Int32)) = k
          have bk := own_m hk (by decide)
          have ld : ((3 : Int32) : Int32).toInt = 3 := by decide
          rw [ld] at bk
          refine g_aload X844 hx 62 (hb hby at_60) rfl rfl rfl ?_
          refine g_iload X844 hx 64 (hb hby at_62) rfl rfl ?_
          refine g_virt X844 hx hZ (C := "com/example/firm_commit/firmcommit/Synchronizations") hown (hw _ (List.mem_of_getElem? (i := 39) rfl)) (hw _ (List.mem_of_getElem? (i := 40) rfl)) (hw _ (List.mem_of_getElem? (i := 42) rfl)) (hw _ (List.mem_of_getElem? (i := 42) rfl)) (hw _ (List.mem_of_getElem? (i := 41) rfl)) (hw _ (List.mem_of_getElem? (i := 2) rfl)) (hw _ (List.mem_of_getElem? (i := 43) rfl)) (by decide) (rmKFB l Z a0 hw a659 k T844.heap n0 Z854 b es831 kb831 (((0 : Int32) + (1 : Int32)) + (1 : Int32)) ((1 : Int32) + (1 : Int32)) (by omega) F849 gb ge831 nb831 L0_844 L1_844 L2_844 LV_844 (by omega) F848 nob no831) rfl (b := a659) F847 (argsL := [(.int k)]) (rest := []) rfl rfl 0 67 rfl (by rw [hml]; rfl) (lenOf own_pd2 rfl) (Nat.le_refl _) (by decide) (by decide) (by decide) (by decide) (hb hby at_64) ?_
          intro v858 T858 L858 X858 hQ858
          obtain ⟨rfl, N858, K858, L0_858, L1_858, L2_858, LV_858⟩ := hQ858
          have N859 := Fr.app N845 N858
          have F860 := F846.keep K858 (allS gb (allS ge831 all0))
          have F861 := F847.keep K858
          have F862 := F848.keep K858 (ninS nob (ninS no831 nin0))
          have F863 := F849.keep K858
          have Z868 : n0 ≤ T858.heap.size := Nat.le_trans Z854 K858.1
          show Go p e below _ T858 (mkF m 67 #[.val (.int p0), .val (.int p1), .val (.int p2), .val (.int p3), .val (.ref a659), .val (.int (2 : Int32)), .val (.int k), .unset, .unset, .unset, .unset] [])
          refine g_aload X858 hx 69 (hb hby at_67) rfl rfl rfl ?_
          refine g_virt X858 hx hZ (C := "com/example/firm_commit/firmcommit/Synchronizations") hown (hw _ (List.mem_of_getElem? (i := 136) rfl)) (hw _ (List.mem_of_getElem? (i := 137) rfl)) (hw _ (List.mem_of_getElem? (i := 139) rfl)) (hw _ (List.mem_of_getElem? (i := 139) rfl)) (hw _ (List.mem_of_getElem? (i := 138) rfl)) (hw _ (List.mem_of_getElem? (i := 2) rfl)) (hw _ (List.mem_of_getElem? (i := 140) rfl)) (by decide) (rmCt l Z a0 hw a659 T858.heap n0 Z868 b k F862 F863 L2_858) rfl (b := a659) F861 (argsL := []) (rest := []) rfl rfl 0 72 rfl (by rw [hml]; rfl) (lenOf own_pd3 rfl) (Nat.le_refl _) (by decide) (by decide) (by decide) (by decide) (hb hby at_69) ?_
          intro v869 T869 L869 X869 hQ869
          obtain ⟨rfl, N869, q869⟩ := hQ869
          have N870 := Fr.app N859 N869
          show Go p e below _ T869 (mkF m 72 #[.val (.int p0), .val (.int p1), .val (.int p2), .val (.int p3), .val (.ref a659), .val (.int (2 : Int32)), .val (.int k), .unset, .unset, .unset, .unset] [(.int k)])
          refine g_iload X869 hx 74 (hb hby at_72) rfl rfl ?_
          refine g_ic_ne X869 hx 81 77 (hb hby at_74) (by decide) (by decide) rfl (fun c871 => ?_) (fun c871 => ?_)
          · skip
            exact absurd rfl c871
          · skip
            refine g_iconst X869 hx (1 : Int32) 78 (hb hby at_77) rfl (by decide) ?_
            refine g_goto X869 hx 82 (hb hby at_78) (by decide) (by decide) ?_
            refine g_istore (l' := #[.val (.int p0), .val (.int p1), .val (.int p2), .val (.int p3), .val (.ref a659), .val (.int (2 : Int32)), .val (.int k), .val (.int (1 : Int32)), .unset, .unset, .unset]) X869 hx 84 (hb hby at_82) rfl rfl ?_
            refine g_iloadN X869 hx 85 (hb hby at_84) rfl rfl ?_
            refine g_iconst X869 hx (1 : Int32) 86 (hb hby at_85) rfl (by decide) ?_
            refine g_iand X869 hx 87 (hb hby at_86) rfl ?_
            refine g_istore (l' := #[.val (.int p0), .val (.int p1), .val (.int p2), .val (.int p3), .val (.ref a659), .val (.int (2 : Int32)), .val (.int k), .val (.int (1 : Int32)), .val (.int (p2 &&& (1 : Int32))), .unset, .unset]) X869 hx 89 (hb hby at_87) rfl rfl ?_
            generalize hmm : (p2 &&& (1 : Int32)) = mm
            rcases own_n2 hmm with rfl | rfl
            · skip
              refine g_iload X869 hx 91 (hb hby at_89) rfl rfl ?_
              have ll873 : ((0 : Int32) : Int32).toInt = 0 := by decide
              refine g_if_le X869 hx 100 94 (hb hby at_91) (by decide) (by decide) rfl (fun c872 => ?_) (fun c872 => ?_)
              · skip
                refine g_iloadN X869 hx 101 (hb hby at_100) rfl rfl ?_
                refine g_ldcI X869 hx 103 hZ hown (hw _ (List.mem_of_getElem? (i := 38) rfl)) (hb hby at_101) rfl ?_
                refine g_iand X869 hx 104 (hb hby at_103) rfl ?_
                refine g_iload X869 hx 106 (hb hby at_104) rfl rfl ?_
                refine g_iload X869 hx 108 (hb hby at_106) rfl rfl ?_
                refine g_iadd X869 hx 109 (hb hby at_108) rfl ?_
                refine g_iconst X869 hx (1 : Int32) 110 (hb hby at_109) rfl (by decide) ?_
                refine g_iadd X869 hx 111 (hb hby at_110) rfl ?_
                have ta := c_iadd k 0
                have tb := rng32 (k + 0)
                have tc := c_iadd (k + 0) 1
                have td := rng32 (k + 0 + 1)
                have ld2 : (((k + (0 : Int32)) + (1 : Int32)) : Int32).toInt = k.toInt + 0 + 1 := by have := (by decide : (0 : Int32).toInt = 0); omega
                refine g_irem X869 hx 112 (hb hby at_111) rfl (own_nz (by rw [ld2]; omega)) ?_
                refine g_istore (l' := #[.val (.int p0), .val (.int p1), .val (.int p2), .val (.int p3), .val (.ref a659), .val (.int (2 : Int32)), .val (.int k), .val (.int (1 : Int32)), .val (.int (0 : Int32)), .val (.int ((p3 &&& (2147483647 : Int32)) % ((k + (0 : Int32)) + (1 : Int32)))), .unset]) X869 hx 114 (hb hby at_112) rfl rfl ?_
                generalize hj : ((p3 &&& (2147483647 : Int32)) % ((k + (0 : Int32)) + (1 : Int32))) = j
                have bj := own_m hj (by rw [ld2]; omega)
                rw [ld2] at bj
                refine g_aload X869 hx 116 (hb hby at_114) rfl rfl rfl ?_
                refine g_iload X869 hx 118 (hb hby at_116) rfl rfl ?_
                refine g_virt X869 hx hZ (C := "com/example/firm_commit/firmcommit/Synchronizations") hown (hw _ (List.mem_of_getElem? (i := 39) rfl)) (hw _ (List.mem_of_getElem? (i := 40) rfl)) (hw _ (List.mem_of_getElem? (i := 42) rfl)) (hw _ (List.mem_of_getElem? (i := 42) rfl)) (hw _ (List.mem_of_getElem? (i := 41) rfl)) (hw _ (List.mem_of_getElem? (i := 2) rfl)) (hw _ (List.mem_of_getElem? (i := 43) rfl)) (by decide) (rmKFB l Z a0 hw a659 j T858.heap n0 Z868 b es831 kb831 ((((0 : Int32) + (1 : Int32)) + (1 : Int32)) + (1 : Int32)) k (by omega) F863 gb ge831 nb831 L0_858 L1_858 L2_858 LV_858 (by omega) F862 nob no831) q869 (b := a659) F861 (argsL := [(.int j)]) (rest := []) rfl rfl 0 121 rfl (by rw [hml]; rfl) (lenOf own_pd2 rfl) (Nat.le_refl _) (by decide) (by decide) (by decide) (by decide) (hb hby at_118) ?_
                intro v874 T874 L874 X874 hQ874
                obtain ⟨rfl, N874, K874, L0_874, L1_874, L2_874, LV_874⟩ := hQ874
                have N875 := Fr.app N870 N874
                have F876 := F860.keep K874 (allS gb (allS ge831 all0))
                have F877 := F861.keep K874
                have F878 := F862.keep K874 (ninS nob (ninS no831 nin0))
                have F879 := F863.keep K874
                have Z884 : n0 ≤ T874.heap.size := Nat.le_trans Z868 K874.1
                show Go p e below _ T874 (mkF m 121 #[.val (.int p0), .val (.int p1), .val (.int p2), .val (.int p3), .val (.ref a659), .val (.int (2 : Int32)), .val (.int k), .val (.int (1 : Int32)), .val (.int (0 : Int32)), .val (.int j), .unset] [])
                refine g_aload X874 hx 123 (hb hby at_121) rfl rfl rfl ?_
                refine g_virt X874 hx hZ (C := "com/example/firm_commit/firmcommit/Synchronizations") hown (hw _ (List.mem_of_getElem? (i := 136) rfl)) (hw _ (List.mem_of_getElem? (i := 137) rfl)) (hw _ (List.mem_of_getElem? (i := 139) rfl)) (hw _ (List.mem_of_getElem? (i := 139) rfl)) (hw _ (List.mem_of_getElem? (i := 138) rfl)) (hw _ (List.mem_of_getElem? (i := 2) rfl)) (hw _ (List.mem_of_getElem? (i := 140) rfl)) (by decide) (rmCt l Z a0 hw a659 T874.heap n0 Z884 b j F878 F879 L2_874) rfl (b := a659) F877 (argsL := []) (rest := []) rfl rfl 0 126 rfl (by rw [hml]; rfl) (lenOf own_pd3 rfl) (Nat.le_refl _) (by decide) (by decide) (by decide) (by decide) (hb hby at_123) ?_
                intro v885 T885 L885 X885 hQ885
                obtain ⟨rfl, N885, q885⟩ := hQ885
                have N886 := Fr.app N875 N885
                show Go p e below _ T885 (mkF m 126 #[.val (.int p0), .val (.int p1), .val (.int p2), .val (.int p3), .val (.ref a659), .val (.int (2 : Int32)), .val (.int k), .val (.int (1 : Int32)), .val (.int (0 : Int32)), .val (.int j), .unset] [(.int j)])
                refine g_iload X885 hx 128 (hb hby at_126) rfl rfl ?_
                refine g_ic_ne X885 hx 135 131 (hb hby at_128) (by decide) (by decide) rfl (fun c887 => ?_) (fun c887 => ?_)
                · skip
                  exact absurd rfl c887
                · skip
                  refine g_iconst X885 hx (1 : Int32) 132 (hb hby at_131) rfl (by decide) ?_
                  refine g_goto X885 hx 136 (hb hby at_132) (by decide) (by decide) ?_
                  refine g_istore (l' := #[.val (.int p0), .val (.int p1), .val (.int p2), .val (.int p3), .val (.ref a659), .val (.int (2 : Int32)), .val (.int k), .val (.int (1 : Int32)), .val (.int (0 : Int32)), .val (.int j), .val (.int (1 : Int32))]) X885 hx 138 (hb hby at_136) rfl rfl ?_
                  refine g_iload X885 hx 140 (hb hby at_138) rfl rfl ?_
                  have ll889 : ((1 : Int32) : Int32).toInt = 1 := by decide
                  refine g_if_eq X885 hx 152 143 (hb hby at_140) (by decide) (by decide) rfl (fun c888 => ?_) (fun c888 => ?_)
                  · skip
                    exfalso; revert c888; decide
                  · skip
                    refine g_iload X885 hx 145 (hb hby at_143) rfl rfl ?_
                    have ll891 : ((1 : Int32) : Int32).toInt = 1 := by decide
                    refine g_if_eq X885 hx 152 148 (hb hby at_145) (by decide) (by decide) rfl (fun c890 => ?_) (fun c890 => ?_)
                    · skip
                      exfalso; revert c890; decide
                    · skip
                      refine g_iconst X885 hx (1 : Int32) 149 (hb hby at_148) rfl (by decide) ?_
                      refine g_goto X885 hx 153 (hb hby at_149) (by decide) (by decide) ?_
                      exact g_retZ X885 hx hlk hret (hb hby at_153) (by decide) (by decide) q885 ⟨rfl, N886⟩
              · skip
                exfalso; revert c872; decide
            · skip
              refine g_iload X869 hx 91 (hb hby at_89) rfl rfl ?_
              have ll893 : ((1 : Int32) : Int32).toInt = 1 := by decide
              refine g_if_le X869 hx 100 94 (hb hby at_91) (by decide) (by decide) rfl (fun c892 => ?_) (fun c892 => ?_)
              · skip
                exfalso; revert c892; decide
              · skip
                refine g_aload X869 hx 96 (hb hby at_94) rfl rfl rfl ?_
                refine g_null X869 hx 97 (hb hby at_96) rfl ?_
                refine g_virt X869 hx hZ (C := "com/example/firm_commit/firmcommit/Synchronizations") hown (hw _ (List.mem_of_getElem? (i := 141) rfl)) (hw _ (List.mem_of_getElem? (i := 142) rfl)) (hw _ (List.mem_of_getElem? (i := 144) rfl)) (hw _ (List.mem_of_getElem? (i := 144) rfl)) (hw _ (List.mem_of_getElem? (i := 143) rfl)) (hw _ (List.mem_of_getElem? (i := 2) rfl)) (hw _ (List.mem_of_getElem? (i := 145) rfl)) (by decide) (rmSAB l Z a0 hw a659 T858.heap n0 Z868 b es831 kb831 ((((0 : Int32) + (1 : Int32)) + (1 : Int32)) + (1 : Int32)) k (by omega) F863 gb ge831 nb831 L0_858 L1_858 L2_858 LV_858 F862 nob no831 ) q869 (b := a659) F861 (argsL := [.null]) (rest := []) rfl rfl 0 100 rfl (by rw [hml]; rfl) (lenOf own_pd10 rfl) (Nat.le_refl _) (by decide) (by decide) (by decide) (by decide) (hb hby at_97) ?_
                intro v894 T894 L894 X894 hQ894
                obtain ⟨rfl, N894, K894, L0_894, L1_894, L2_894, LV_894⟩ := hQ894
                have N895 := Fr.app N870 N894
                have F896 := F860.keep K894 (allS gb (allS ge831 all0))
                have F897 := F861.keep K894
                have F898 := F862.keep K894 (ninS nob (ninS no831 nin0))
                have F899 := F863.keep K894
                have Z904 : n0 ≤ T894.heap.size := Nat.le_trans Z868 K894.1
                have sa894 := c_iadd k 1
                have sb894 := rng32 (k + 1)
                rw [l1_] at sa894
                show Go p e below _ T894 (mkF m 100 #[.val (.int p0), .val (.int p1), .val (.int p2), .val (.int p3), .val (.ref a659), .val (.int (2 : Int32)), .val (.int k), .val (.int (1 : Int32)), .val (.int (1 : Int32)), .unset, .unset] [])
                refine g_iloadN X894 hx 101 (hb hby at_100) rfl rfl ?_
                refine g_ldcI X894 hx 103 hZ hown (hw _ (List.mem_of_getElem? (i := 38) rfl)) (hb hby at_101) rfl ?_
                refine g_iand X894 hx 104 (hb hby at_103) rfl ?_
                refine g_iload X894 hx 106 (hb hby at_104) rfl rfl ?_
                refine g_iload X894 hx 108 (hb hby at_106) rfl rfl ?_
                refine g_iadd X894 hx 109 (hb hby at_108) rfl ?_
                refine g_iconst X894 hx (1 : Int32) 110 (hb hby at_109) rfl (by decide) ?_
                refine g_iadd X894 hx 111 (hb hby at_110) rfl ?_
                have ta := c_iadd k 1
                have tb := rng32 (k + 1)
                have tc := c_iadd (k + 1) 1
                have td := rng32 (k + 1 + 1)
                have ld2 : (((k + (1 : Int32)) + (1 : Int32)) : Int32).toInt = k.toInt + 1 + 1 := by have := (by decide : (1 : Int32).toInt = 1); omega
                refine g_irem X894 hx 112 (hb hby at_111) rfl (own_nz (by rw [ld2]; omega)) ?_
                refine g_istore (l' := #[.val (.int p0), .val (.int p1), .val (.int p2), .val (.int p3), .val (.ref a659), .val (.int (2 : Int32)), .val (.int k), .val (.int (1 : Int32)), .val (.int (1 : Int32)), .val (.int ((p3 &&& (2147483647 : Int32)) % ((k + (1 : Int32)) + (1 : Int32)))), .unset]) X894 hx 114 (hb hby at_112) rfl rfl ?_
                generalize hj : ((p3 &&& (2147483647 : Int32)) % ((k + (1 : Int32)) + (1 : Int32))) = j
                have bj := own_m hj (by rw [ld2]; omega)
                rw [ld2] at bj
                refine g_aload X894 hx 116 (hb hby at_114) rfl rfl rfl ?_
                refine g_iload X894 hx 118 (hb hby at_116) rfl rfl ?_
                refine g_virt X894 hx hZ (C := "com/example/firm_commit/firmcommit/Synchronizations") hown (hw _ (List.mem_of_getElem? (i := 39) rfl)) (hw _ (List.mem_of_getElem? (i := 40) rfl)) (hw _ (List.mem_of_getElem? (i := 42) rfl)) (hw _ (List.mem_of_getElem? (i := 42) rfl)) (hw _ (List.mem_of_getElem? (i := 41) rfl)) (hw _ (List.mem_of_getElem? (i := 2) rfl)) (hw _ (List.mem_of_getElem? (i := 43) rfl)) (by decide) (rmKFB l Z a0 hw a659 j T894.heap n0 Z904 b es831 kb831 (((((0 : Int32) + (1 : Int32)) + (1 : Int32)) + (1 : Int32)) + (1 : Int32)) (k + (1 : Int32)) (by omega) F899 gb ge831 nb831 L0_894 L1_894 L2_894 LV_894 (by omega) F898 nob no831) rfl (b := a659) F897 (argsL := [(.int j)]) (rest := []) rfl rfl 0 121 rfl (by rw [hml]; rfl) (lenOf own_pd2 rfl) (Nat.le_refl _) (by decide) (by decide) (by decide) (by decide) (hb hby at_118) ?_
                intro v905 T905 L905 X905 hQ905
                obtain ⟨rfl, N905, K905, L0_905, L1_905, L2_905, LV_905⟩ := hQ905
                have N906 := Fr.app N895 N905
                have F907 := F896.keep K905 (allS gb (allS ge831 all0))
                have F908 := F897.keep K905
                have F909 := F898.keep K905 (ninS nob (ninS no831 nin0))
                have F910 := F899.keep K905
                have Z915 : n0 ≤ T905.heap.size := Nat.le_trans Z904 K905.1
                show Go p e below _ T905 (mkF m 121 #[.val (.int p0), .val (.int p1), .val (.int p2), .val (.int p3), .val (.ref a659), .val (.int (2 : Int32)), .val (.int k), .val (.int (1 : Int32)), .val (.int (1 : Int32)), .val (.int j), .unset] [])
                refine g_aload X905 hx 123 (hb hby at_121) rfl rfl rfl ?_
                refine g_virt X905 hx hZ (C := "com/example/firm_commit/firmcommit/Synchronizations") hown (hw _ (List.mem_of_getElem? (i := 136) rfl)) (hw _ (List.mem_of_getElem? (i := 137) rfl)) (hw _ (List.mem_of_getElem? (i := 139) rfl)) (hw _ (List.mem_of_getElem? (i := 139) rfl)) (hw _ (List.mem_of_getElem? (i := 138) rfl)) (hw _ (List.mem_of_getElem? (i := 2) rfl)) (hw _ (List.mem_of_getElem? (i := 140) rfl)) (by decide) (rmCt l Z a0 hw a659 T905.heap n0 Z915 b j F909 F910 L2_905) rfl (b := a659) F908 (argsL := []) (rest := []) rfl rfl 0 126 rfl (by rw [hml]; rfl) (lenOf own_pd3 rfl) (Nat.le_refl _) (by decide) (by decide) (by decide) (by decide) (hb hby at_123) ?_
                intro v916 T916 L916 X916 hQ916
                obtain ⟨rfl, N916, q916⟩ := hQ916
                have N917 := Fr.app N906 N916
                show Go p e below _ T916 (mkF m 126 #[.val (.int p0), .val (.int p1), .val (.int p2), .val (.int p3), .val (.ref a659), .val (.int (2 : Int32)), .val (.int k), .val (.int (1 : Int32)), .val (.int (1 : Int32)), .val (.int j), .unset] [(.int j)])
                refine g_iload X916 hx 128 (hb hby at_126) rfl rfl ?_
                refine g_ic_ne X916 hx 135 131 (hb hby at_128) (by decide) (by decide) rfl (fun c918 => ?_) (fun c918 => ?_)
                · skip
                  exact absurd rfl c918
                · skip
                  refine g_iconst X916 hx (1 : Int32) 132 (hb hby at_131) rfl (by decide) ?_
                  refine g_goto X916 hx 136 (hb hby at_132) (by decide) (by decide) ?_
                  refine g_istore (l' := #[.val (.int p0), .val (.int p1), .val (.int p2), .val (.int p3), .val (.ref a659), .val (.int (2 : Int32)), .val (.int k), .val (.int (1 : Int32)), .val (.int (1 : Int32)), .val (.int j), .val (.int (1 : Int32))]) X916 hx 138 (hb hby at_136) rfl rfl ?_
                  refine g_iload X916 hx 140 (hb hby at_138) rfl rfl ?_
                  have ll920 : ((1 : Int32) : Int32).toInt = 1 := by decide
                  refine g_if_eq X916 hx 152 143 (hb hby at_140) (by decide) (by decide) rfl (fun c919 => ?_) (fun c919 => ?_)
                  · skip
                    exfalso; revert c919; decide
                  · skip
                    refine g_iload X916 hx 145 (hb hby at_143) rfl rfl ?_
                    have ll922 : ((1 : Int32) : Int32).toInt = 1 := by decide
                    refine g_if_eq X916 hx 152 148 (hb hby at_145) (by decide) (by decide) rfl (fun c921 => ?_) (fun c921 => ?_)
                    · skip
                      exfalso; revert c921; decide
                    · skip
                      refine g_iconst X916 hx (1 : Int32) 149 (hb hby at_148) rfl (by decide) ?_
                      refine g_goto X916 hx 153 (hb hby at_149) (by decide) (by decide) ?_
                      exact g_retZ X916 hx hlk hret (hb hby at_153) (by decide) (by decide) q916 ⟨rfl, N917⟩
        · skip
          exfalso; revert c855; decide
  · skip
    refine g_iload X664 hx 16 (hb hby at_14) rfl rfl ?_
    have ll924 : ((3 : Int32) : Int32).toInt = 3 := by decide
    refine g_if_le X664 hx 25 19 (hb hby at_16) (by decide) (by decide) rfl (fun c923 => ?_) (fun c923 => ?_)
    · skip
      exfalso; revert c923; decide
    · skip
      refine g_aload X664 hx 21 (hb hby at_19) rfl rfl rfl ?_
      refine g_null X664 hx 22 (hb hby at_21) rfl ?_
      refine g_virt X664 hx hZ (C := "com/example/firm_commit/firmcommit/Synchronizations") hown (hw _ (List.mem_of_getElem? (i := 141) rfl)) (hw _ (List.mem_of_getElem? (i := 142) rfl)) (hw _ (List.mem_of_getElem? (i := 144) rfl)) (hw _ (List.mem_of_getElem? (i := 144) rfl)) (hw _ (List.mem_of_getElem? (i := 143) rfl)) (hw _ (List.mem_of_getElem? (i := 2) rfl)) (hw _ (List.mem_of_getElem? (i := 145) rfl)) (by decide) (rmSAA l Z a0 hw a659 T664.heap n0 Z669 b em ke (0 : Int32)  Eb gb  nbe B0 B1 B2 Ve Fs nob noe F666 S0) rfl (b := a659) F667 (argsL := [.null]) (rest := []) rfl rfl 0 25 rfl (by rw [hml]; rfl) (lenOf own_pd10 rfl) (Nat.le_refl _) (by decide) (by decide) (by decide) (by decide) (hb hby at_22) ?_
      intro v925 T925 L925 X925 hQ925
      obtain ⟨es925, kb925, rfl, N925, K925, ge925, se925, VB925, nb925, L0_925, L1_925, L2_925⟩ := hQ925
      have N926 := Fr.app N665 N925
      have F927 := F666.keep K925 (allS gb all0)
      have F928 := F667.keep K925
      have F929 := Fs.keep K925 (ninS nob nin0)
      have F930 := Eb.keep K925
      have Z934 : n0 ≤ T925.heap.size := Nat.le_trans Z669 K925.1
      have no925 : a659 ≠ es925 := Nat.ne_of_lt (Nat.lt_of_lt_of_le F667.lt se925)
      show Go p e below _ T925 (mkF m 25 #[.val (.int p0), .val (.int p1), .val (.int p2), .val (.int p3), .val (.ref a659), .val (.int (3 : Int32)), .unset, .unset, .unset, .unset, .unset] [])
      refine g_iload X925 hx 27 (hb hby at_25) rfl rfl ?_
      refine g_iconst X925 hx (1 : Int32) 28 (hb hby at_27) rfl (by decide) ?_
      have ll936 : ((1 : Int32) : Int32).toInt = 1 := by decide
      have ll937 : ((3 : Int32) : Int32).toInt = 3 := by decide
      refine g_ic_le X925 hx 37 31 (hb hby at_28) (by decide) (by decide) rfl (fun c935 => ?_) (fun c935 => ?_)
      · skip
        exfalso; revert c935; decide
      · skip
        refine g_aload X925 hx 33 (hb hby at_31) rfl rfl rfl ?_
        refine g_null X925 hx 34 (hb hby at_33) rfl ?_
        refine g_virt X925 hx hZ (C := "com/example/firm_commit/firmcommit/Synchronizations") hown (hw _ (List.mem_of_getElem? (i := 141) rfl)) (hw _ (List.mem_of_getElem? (i := 142) rfl)) (hw _ (List.mem_of_getElem? (i := 144) rfl)) (hw _ (List.mem_of_getElem? (i := 144) rfl)) (hw _ (List.mem_of_getElem? (i := 143) rfl)) (hw _ (List.mem_of_getElem? (i := 2) rfl)) (hw _ (List.mem_of_getElem? (i := 145) rfl)) (by decide) (rmSAB l Z a0 hw a659 T925.heap n0 Z934 b es925 kb925 ((0 : Int32) + (1 : Int32)) (1 : Int32) (by omega) F930 gb ge925 nb925 L0_925 L1_925 L2_925 VB925 F929 nob no925 ) rfl (b := a659) F928 (argsL := [.null]) (rest := []) rfl rfl 0 37 rfl (by rw [hml]; rfl) (lenOf own_pd10 rfl) (Nat.le_refl _) (by decide) (by decide) (by decide) (by decide) (hb hby at_34) ?_
        intro v938 T938 L938 X938 hQ938
        obtain ⟨rfl, N938, K938, L0_938, L1_938, L2_938, LV_938⟩ := hQ938
        have N939 := Fr.app N926 N938
        have F940 := F927.keep K938 (allS gb (allS ge925 all0))
        have F941 := F928.keep K938
        have F942 := F929.keep K938 (ninS nob (ninS no925 nin0))
        have F943 := F930.keep K938
        have Z948 : n0 ≤ T938.heap.size := Nat.le_trans Z934 K938.1
        have sa938 := c_iadd (1 : Int32) 1
        have sb938 := rng32 ((1 : Int32) + 1)
        rw [l1_] at sa938
        show Go p e below _ T938 (mkF m 37 #[.val (.int p0), .val (.int p1), .val (.int p2), .val (.int p3), .val (.ref a659), .val (.int (3 : Int32)), .unset, .unset, .unset, .unset, .unset] [])
        refine g_iload X938 hx 39 (hb hby at_37) rfl rfl ?_
        refine g_iconst X938 hx (2 : Int32) 40 (hb hby at_39) rfl (by decide) ?_
        have ll950 : ((2 : Int32) : Int32).toInt = 2 := by decide
        have ll951 : ((3 : Int32) : Int32).toInt = 3 := by decide
        refine g_ic_le X938 hx 49 43 (hb hby at_40) (by decide) (by decide) rfl (fun c949 => ?_) (fun c949 => ?_)
        · skip
          exfalso; revert c949; decide
        · skip
          refine g_aload X938 hx 45 (hb hby at_43) rfl rfl rfl ?_
          refine g_null X938 hx 46 (hb hby at_45) rfl ?_
          refine g_virt X938 hx hZ (C := "com/example/firm_commit/firmcommit/Synchronizations") hown (hw _ (List.mem_of_getElem? (i := 141) rfl)) (hw _ (List.mem_of_getElem? (i := 142) rfl)) (hw _ (List.mem_of_getElem? (i := 144) rfl)) (hw _ (List.mem_of_getElem? (i := 144) rfl)) (hw _ (List.mem_of_getElem? (i := 143) rfl)) (hw _ (List.mem_of_getElem? (i := 2) rfl)) (hw _ (List.mem_of_getElem? (i := 145) rfl)) (by decide) (rmSAB l Z a0 hw a659 T938.heap n0 Z948 b es925 kb925 (((0 : Int32) + (1 : Int32)) + (1 : Int32)) ((1 : Int32) + (1 : Int32)) (by omega) F943 gb ge925 nb925 L0_938 L1_938 L2_938 LV_938 F942 nob no925 ) rfl (b := a659) F941 (argsL := [.null]) (rest := []) rfl rfl 0 49 rfl (by rw [hml]; rfl) (lenOf own_pd10 rfl) (Nat.le_refl _) (by decide) (by decide) (by decide) (by decide) (hb hby at_46) ?_
          intro v952 T952 L952 X952 hQ952
          obtain ⟨rfl, N952, K952, L0_952, L1_952, L2_952, LV_952⟩ := hQ952
          have N953 := Fr.app N939 N952
          have F954 := F940.keep K952 (allS gb (allS ge925 all0))
          have F955 := F941.keep K952
          have F956 := F942.keep K952 (ninS nob (ninS no925 nin0))
          have F957 := F943.keep K952
          have Z962 : n0 ≤ T952.heap.size := Nat.le_trans Z948 K952.1
          have sa952 := c_iadd ((1 : Int32) + (1 : Int32)) 1
          have sb952 := rng32 (((1 : Int32) + (1 : Int32)) + 1)
          rw [l1_] at sa952
          show Go p e below _ T952 (mkF m 49 #[.val (.int p0), .val (.int p1), .val (.int p2), .val (.int p3), .val (.ref a659), .val (.int (3 : Int32)), .unset, .unset, .unset, .unset, .unset] [])
          refine g_iloadN X952 hx 50 (hb hby at_49) rfl rfl ?_
          refine g_ldcI X952 hx 52 hZ hown (hw _ (List.mem_of_getElem? (i := 38) rfl)) (hb hby at_50) rfl ?_
          refine g_iand X952 hx 53 (hb hby at_52) rfl ?_
          refine g_iload X952 hx 55 (hb hby at_53) rfl rfl ?_
          refine g_iconst X952 hx (1 : Int32) 56 (hb hby at_55) rfl (by decide) ?_
          refine g_iaddC X952 hx (4 : Int32) (by decide) 57 (hb hby at_56) rfl ?_
          refine g_irem X952 hx 58 (hb hby at_57) rfl (by decide) ?_
          refine g_istore (l' := #[.val (.int p0), .val (.int p1), .val (.int p2), .val (.int p3), .val (.ref a659), .val (.int (3 : Int32)), .val (.int ((p1 &&& (2147483647 : Int32)) % (4 : Int32))), .unset, .unset, .unset, .unset]) X952 hx 60 (hb hby at_58) rfl rfl ?_
          generalize hk : ((p1 &&& (2147483647 : Int32)) % (4 : Int32)) = k
          have bk := own_m hk (by decide)
          have ld : ((4 : Int32) : Int32).toInt = 4 := by decide
          rw [ld] at bk
          refine g_aload X952 hx 62 (hb hby at_60) rfl rfl rfl ?_
          refine g_iload X952 hx 64 (hb hby at_62) rfl rfl ?_
          refine g_virt X952 hx hZ (C := "com/example/firm_commit/firmcommit/Synchronizations") hown (hw _ (List.mem_of_getElem? (i := 39) rfl)) (hw _ (List.mem_of_getElem? (i := 40) rfl)) (hw _ (List.mem_of_getElem? (i := 42) rfl)) (hw _ (List.mem_of_getElem? (i := 42) rfl)) (hw _ (List.mem_of_getElem? (i := 41) rfl)) (hw _ (List.mem_of_getElem? (i := 2) rfl)) (hw _ (List.mem_of_getElem? (i := 43) rfl)) (by decide) (rmKFB l Z a0 hw a659 k T952.heap n0 Z962 b es925 kb925 ((((0 : Int32) + (1 : Int32)) + (1 : Int32)) + (1 : Int32)) (((1 : Int32) + (1 : Int32)) + (1 : Int32)) (by omega) F957 gb ge925 nb925 L0_952 L1_952 L2_952 LV_952 (by omega) F956 nob no925) rfl (b := a659) F955 (argsL := [(.int k)]) (rest := []) rfl rfl 0 67 rfl (by rw [hml]; rfl) (lenOf own_pd2 rfl) (Nat.le_refl _) (by decide) (by decide) (by decide) (by decide) (hb hby at_64) ?_
          intro v963 T963 L963 X963 hQ963
          obtain ⟨rfl, N963, K963, L0_963, L1_963, L2_963, LV_963⟩ := hQ963
          have N964 := Fr.app N953 N963
          have F965 := F954.keep K963 (allS gb (allS ge925 all0))
          have F966 := F955.keep K963
          have F967 := F956.keep K963 (ninS nob (ninS no925 nin0))
          have F968 := F957.keep K963
          have Z973 : n0 ≤ T963.heap.size := Nat.le_trans Z962 K963.1
          show Go p e below _ T963 (mkF m 67 #[.val (.int p0), .val (.int p1), .val (.int p2), .val (.int p3), .val (.ref a659), .val (.int (3 : Int32)), .val (.int k), .unset, .unset, .unset, .unset] [])
          refine g_aload X963 hx 69 (hb hby at_67) rfl rfl rfl ?_
          refine g_virt X963 hx hZ (C := "com/example/firm_commit/firmcommit/Synchronizations") hown (hw _ (List.mem_of_getElem? (i := 136) rfl)) (hw _ (List.mem_of_getElem? (i := 137) rfl)) (hw _ (List.mem_of_getElem? (i := 139) rfl)) (hw _ (List.mem_of_getElem? (i := 139) rfl)) (hw _ (List.mem_of_getElem? (i := 138) rfl)) (hw _ (List.mem_of_getElem? (i := 2) rfl)) (hw _ (List.mem_of_getElem? (i := 140) rfl)) (by decide) (rmCt l Z a0 hw a659 T963.heap n0 Z973 b k F967 F968 L2_963) rfl (b := a659) F966 (argsL := []) (rest := []) rfl rfl 0 72 rfl (by rw [hml]; rfl) (lenOf own_pd3 rfl) (Nat.le_refl _) (by decide) (by decide) (by decide) (by decide) (hb hby at_69) ?_
          intro v974 T974 L974 X974 hQ974
          obtain ⟨rfl, N974, q974⟩ := hQ974
          have N975 := Fr.app N964 N974
          show Go p e below _ T974 (mkF m 72 #[.val (.int p0), .val (.int p1), .val (.int p2), .val (.int p3), .val (.ref a659), .val (.int (3 : Int32)), .val (.int k), .unset, .unset, .unset, .unset] [(.int k)])
          refine g_iload X974 hx 74 (hb hby at_72) rfl rfl ?_
          refine g_ic_ne X974 hx 81 77 (hb hby at_74) (by decide) (by decide) rfl (fun c976 => ?_) (fun c976 => ?_)
          · skip
            exact absurd rfl c976
          · skip
            refine g_iconst X974 hx (1 : Int32) 78 (hb hby at_77) rfl (by decide) ?_
            refine g_goto X974 hx 82 (hb hby at_78) (by decide) (by decide) ?_
            refine g_istore (l' := #[.val (.int p0), .val (.int p1), .val (.int p2), .val (.int p3), .val (.ref a659), .val (.int (3 : Int32)), .val (.int k), .val (.int (1 : Int32)), .unset, .unset, .unset]) X974 hx 84 (hb hby at_82) rfl rfl ?_
            refine g_iloadN X974 hx 85 (hb hby at_84) rfl rfl ?_
            refine g_iconst X974 hx (1 : Int32) 86 (hb hby at_85) rfl (by decide) ?_
            refine g_iand X974 hx 87 (hb hby at_86) rfl ?_
            refine g_istore (l' := #[.val (.int p0), .val (.int p1), .val (.int p2), .val (.int p3), .val (.ref a659), .val (.int (3 : Int32)), .val (.int k), .val (.int (1 : Int32)), .val (.int (p2 &&& (1 : Int32))), .unset, .unset]) X974 hx 89 (hb hby at_87) rfl rfl ?_
            generalize hmm : (p2 &&& (1 : Int32)) = mm
            rcases own_n2 hmm with rfl | rfl
            · skip
              refine g_iload X974 hx 91 (hb hby at_89) rfl rfl ?_
              have ll978 : ((0 : Int32) : Int32).toInt = 0 := by decide
              refine g_if_le X974 hx 100 94 (hb hby at_91) (by decide) (by decide) rfl (fun c977 => ?_) (fun c977 => ?_)
              · skip
                refine g_iloadN X974 hx 101 (hb hby at_100) rfl rfl ?_
                refine g_ldcI X974 hx 103 hZ hown (hw _ (List.mem_of_getElem? (i := 38) rfl)) (hb hby at_101) rfl ?_
                refine g_iand X974 hx 104 (hb hby at_103) rfl ?_
                refine g_iload X974 hx 106 (hb hby at_104) rfl rfl ?_
                refine g_iload X974 hx 108 (hb hby at_106) rfl rfl ?_
                refine g_iadd X974 hx 109 (hb hby at_108) rfl ?_
                refine g_iconst X974 hx (1 : Int32) 110 (hb hby at_109) rfl (by decide) ?_
                refine g_iadd X974 hx 111 (hb hby at_110) rfl ?_
                have ta := c_iadd k 0
                have tb := rng32 (k + 0)
                have tc := c_iadd (k + 0) 1
                have td := rng32 (k + 0 + 1)
                have ld2 : (((k + (0 : Int32)) + (1 : Int32)) : Int32).toInt = k.toInt + 0 + 1 := by have := (by decide : (0 : Int32).toInt = 0); omega
                refine g_irem X974 hx 112 (hb hby at_111) rfl (own_nz (by rw [ld2]; omega)) ?_
                refine g_istore (l' := #[.val (.int p0), .val (.int p1), .val (.int p2), .val (.int p3), .val (.ref a659), .val (.int (3 : Int32)), .val (.int k), .val (.int (1 : Int32)), .val (.int (0 : Int32)), .val (.int ((p3 &&& (2147483647 : Int32)) % ((k + (0 : Int32)) + (1 : Int32)))), .unset]) X974 hx 114 (hb hby at_112) rfl rfl ?_
                generalize hj : ((p3 &&& (2147483647 : Int32)) % ((k + (0 : Int32)) + (1 : Int32))) = j
                have bj := own_m hj (by rw [ld2]; omega)
                rw [ld2] at bj
                refine g_aload X974 hx 116 (hb hby at_114) rfl rfl rfl ?_
                refine g_iload X974 hx 118 (hb hby at_116) rfl rfl ?_
                refine g_virt X974 hx hZ (C := "com/example/firm_commit/firmcommit/Synchronizations") hown (hw _ (List.mem_of_getElem? (i := 39) rfl)) (hw _ (List.mem_of_getElem? (i := 40) rfl)) (hw _ (List.mem_of_getElem? (i := 42) rfl)) (hw _ (List.mem_of_getElem? (i := 42) rfl)) (hw _ (List.mem_of_getElem? (i := 41) rfl)) (hw _ (List.mem_of_getElem? (i := 2) rfl)) (hw _ (List.mem_of_getElem? (i := 43) rfl)) (by decide) (rmKFB l Z a0 hw a659 j T963.heap n0 Z973 b es925 kb925 (((((0 : Int32) + (1 : Int32)) + (1 : Int32)) + (1 : Int32)) + (1 : Int32)) k (by omega) F968 gb ge925 nb925 L0_963 L1_963 L2_963 LV_963 (by omega) F967 nob no925) q974 (b := a659) F966 (argsL := [(.int j)]) (rest := []) rfl rfl 0 121 rfl (by rw [hml]; rfl) (lenOf own_pd2 rfl) (Nat.le_refl _) (by decide) (by decide) (by decide) (by decide) (hb hby at_118) ?_
                intro v979 T979 L979 X979 hQ979
                obtain ⟨rfl, N979, K979, L0_979, L1_979, L2_979, LV_979⟩ := hQ979
                have N980 := Fr.app N975 N979
                have F981 := F965.keep K979 (allS gb (allS ge925 all0))
                have F982 := F966.keep K979
                have F983 := F967.keep K979 (ninS nob (ninS no925 nin0))
                have F984 := F968.keep K979
                have Z989 : n0 ≤ T979.heap.size := Nat.le_trans Z973 K979.1
                show Go p e below _ T979 (mkF m 121 #[.val (.int p0), .val (.int p1), .val (.int p2), .val (.int p3), .val (.ref a659), .val (.int (3 : Int32)), .val (.int k), .val (.int (1 : Int32)), .val (.int (0 : Int32)), .val (.int j), .unset] [])
                refine g_aload X979 hx 123 (hb hby at_121) rfl rfl rfl ?_
                refine g_virt X979 hx hZ (C := "com/example/firm_commit/firmcommit/Synchronizations") hown (hw _ (List.mem_of_getElem? (i := 136) rfl)) (hw _ (List.mem_of_getElem? (i := 137) rfl)) (hw _ (List.mem_of_getElem? (i := 139) rfl)) (hw _ (List.mem_of_getElem? (i := 139) rfl)) (hw _ (List.mem_of_getElem? (i := 138) rfl)) (hw _ (List.mem_of_getElem? (i := 2) rfl)) (hw _ (List.mem_of_getElem? (i := 140) rfl)) (by decide) (rmCt l Z a0 hw a659 T979.heap n0 Z989 b j F983 F984 L2_979) rfl (b := a659) F982 (argsL := []) (rest := []) rfl rfl 0 126 rfl (by rw [hml]; rfl) (lenOf own_pd3 rfl) (Nat.le_refl _) (by decide) (by decide) (by decide) (by decide) (hb hby at_123) ?_
                intro v990 T990 L990 X990 hQ990
                obtain ⟨rfl, N990, q990⟩ := hQ990
                have N991 := Fr.app N980 N990
                show Go p e below _ T990 (mkF m 126 #[.val (.int p0), .val (.int p1), .val (.int p2), .val (.int p3), .val (.ref a659), .val (.int (3 : Int32)), .val (.int k), .val (.int (1 : Int32)), .val (.int (0 : Int32)), .val (.int j), .unset] [(.int j)])
                refine g_iload X990 hx 128 (hb hby at_126) rfl rfl ?_
                refine g_ic_ne X990 hx 135 131 (hb hby at_128) (by decide) (by decide) rfl (fun c992 => ?_) (fun c992 => ?_)
                · skip
                  exact absurd rfl c992
                · skip
                  refine g_iconst X990 hx (1 : Int32) 132 (hb hby at_131) rfl (by decide) ?_
                  refine g_goto X990 hx 136 (hb hby at_132) (by decide) (by decide) ?_
                  refine g_istore (l' := #[.val (.int p0), .val (.int p1), .val (.int p2), .val (.int p3), .val (.ref a659), .val (.int (3 : Int32)), .val (.int k), .val (.int (1 : Int32)), .val (.int (0 : Int32)), .val (.int j), .val (.int (1 : Int32))]) X990 hx 138 (hb hby at_136) rfl rfl ?_
                  refine g_iload X990 hx 140 (hb hby at_138) rfl rfl ?_
                  have ll994 : ((1 : Int32) : Int32).toInt = 1 := by decide
                  refine g_if_eq X990 hx 152 143 (hb hby at_140) (by decide) (by decide) rfl (fun c993 => ?_) (fun c993 => ?_)
                  · skip
                    exfalso; revert c993; decide
                  · skip
                    refine g_iload X990 hx 145 (hb hby at_143) rfl rfl ?_
                    have ll996 : ((1 : Int32) : Int32).toInt = 1 := by decide
                    refine g_if_eq X990 hx 152 148 (hb hby at_145) (by decide) (by decide) rfl (fun c995 => ?_) (fun c995 => ?_)
                    · skip
                      exfalso; revert c995; decide
                    · skip
                      refine g_iconst X990 hx (1 : Int32) 149 (hb hby at_148) rfl (by decide) ?_
                      refine g_goto X990 hx 153 (hb hby at_149) (by decide) (by decide) ?_
                      exact g_retZ X990 hx hlk hret (hb hby at_153) (by decide) (by decide) q990 ⟨rfl, N991⟩
              · skip
                exfalso; revert c977; decide
            · skip
              refine g_iload X974 hx 91 (hb hby at_89) rfl rfl ?_
              have ll998 : ((1 : Int32) : Int32).toInt = 1 := by decide
              refine g_if_le X974 hx 100 94 (hb hby at_91) (by decide) (by decide) rfl (fun c997 => ?_) (fun c997 => ?_)
              · skip
                exfalso; revert c997; decide
              · skip
                refine g_aload X974 hx 96 (hb hby at_94) rfl rfl rfl ?_
                refine g_null X974 hx 97 (hb hby at_96) rfl ?_
                refine g_virt X974 hx hZ (C := "com/example/firm_commit/firmcommit/Synchronizations") hown (hw _ (List.mem_of_getElem? (i := 141) rfl)) (hw _ (List.mem_of_getElem? (i := 142) rfl)) (hw _ (List.mem_of_getElem? (i := 144) rfl)) (hw _ (List.mem_of_getElem? (i := 144) rfl)) (hw _ (List.mem_of_getElem? (i := 143) rfl)) (hw _ (List.mem_of_getElem? (i := 2) rfl)) (hw _ (List.mem_of_getElem? (i := 145) rfl)) (by decide) (rmSAB l Z a0 hw a659 T963.heap n0 Z973 b es925 kb925 (((((0 : Int32) + (1 : Int32)) + (1 : Int32)) + (1 : Int32)) + (1 : Int32)) k (by omega) F968 gb ge925 nb925 L0_963 L1_963 L2_963 LV_963 F967 nob no925 ) q974 (b := a659) F966 (argsL := [.null]) (rest := []) rfl rfl 0 100 rfl (by rw [hml]; rfl) (lenOf own_pd10 rfl) (Nat.le_refl _) (by decide) (by decide) (by decide) (by decide) (hb hby at_97) ?_
                intro v999 T999 L999 X999 hQ999
                obtain ⟨rfl, N999, K999, L0_999, L1_999, L2_999, LV_999⟩ := hQ999
                have N1000 := Fr.app N975 N999
                have F1001 := F965.keep K999 (allS gb (allS ge925 all0))
                have F1002 := F966.keep K999
                have F1003 := F967.keep K999 (ninS nob (ninS no925 nin0))
                have F1004 := F968.keep K999
                have Z1009 : n0 ≤ T999.heap.size := Nat.le_trans Z973 K999.1
                have sa999 := c_iadd k 1
                have sb999 := rng32 (k + 1)
                rw [l1_] at sa999
                show Go p e below _ T999 (mkF m 100 #[.val (.int p0), .val (.int p1), .val (.int p2), .val (.int p3), .val (.ref a659), .val (.int (3 : Int32)), .val (.int k), .val (.int (1 : Int32)), .val (.int (1 : Int32)), .unset, .unset] [])
                refine g_iloadN X999 hx 101 (hb hby at_100) rfl rfl ?_
                refine g_ldcI X999 hx 103 hZ hown (hw _ (List.mem_of_getElem? (i := 38) rfl)) (hb hby at_101) rfl ?_
                refine g_iand X999 hx 104 (hb hby at_103) rfl ?_
                refine g_iload X999 hx 106 (hb hby at_104) rfl rfl ?_
                refine g_iload X999 hx 108 (hb hby at_106) rfl rfl ?_
                refine g_iadd X999 hx 109 (hb hby at_108) rfl ?_
                refine g_iconst X999 hx (1 : Int32) 110 (hb hby at_109) rfl (by decide) ?_
                refine g_iadd X999 hx 111 (hb hby at_110) rfl ?_
                have ta := c_iadd k 1
                have tb := rng32 (k + 1)
                have tc := c_iadd (k + 1) 1
                have td := rng32 (k + 1 + 1)
                have ld2 : (((k + (1 : Int32)) + (1 : Int32)) : Int32).toInt = k.toInt + 1 + 1 := by have := (by decide : (1 : Int32).toInt = 1); omega
                refine g_irem X999 hx 112 (hb hby at_111) rfl (own_nz (by rw [ld2]; omega)) ?_
                refine g_istore (l' := #[.val (.int p0), .val (.int p1), .val (.int p2), .val (.int p3), .val (.ref a659), .val (.int (3 : Int32)), .val (.int k), .val (.int (1 : Int32)), .val (.int (1 : Int32)), .val (.int ((p3 &&& (2147483647 : Int32)) % ((k + (1 : Int32)) + (1 : Int32)))), .unset]) X999 hx 114 (hb hby at_112) rfl rfl ?_
                generalize hj : ((p3 &&& (2147483647 : Int32)) % ((k + (1 : Int32)) + (1 : Int32))) = j
                have bj := own_m hj (by rw [ld2]; omega)
                rw [ld2] at bj
                refine g_aload X999 hx 116 (hb hby at_114) rfl rfl rfl ?_
                refine g_iload X999 hx 118 (hb hby at_116) rfl rfl ?_
                refine g_virt X999 hx hZ (C := "com/example/firm_commit/firmcommit/Synchronizations") hown (hw _ (List.mem_of_getElem? (i := 39) rfl)) (hw _ (List.mem_of_getElem? (i := 40) rfl)) (hw _ (List.mem_of_getElem? (i := 42) rfl)) (hw _ (List.mem_of_getElem? (i := 42) rfl)) (hw _ (List.mem_of_getElem? (i := 41) rfl)) (hw _ (List.mem_of_getElem? (i := 2) rfl)) (hw _ (List.mem_of_getElem? (i := 43) rfl)) (by decide) (rmKFB l Z a0 hw a659 j T999.heap n0 Z1009 b es925 kb925 ((((((0 : Int32) + (1 : Int32)) + (1 : Int32)) + (1 : Int32)) + (1 : Int32)) + (1 : Int32)) (k + (1 : Int32)) (by omega) F1004 gb ge925 nb925 L0_999 L1_999 L2_999 LV_999 (by omega) F1003 nob no925) rfl (b := a659) F1002 (argsL := [(.int j)]) (rest := []) rfl rfl 0 121 rfl (by rw [hml]; rfl) (lenOf own_pd2 rfl) (Nat.le_refl _) (by decide) (by decide) (by decide) (by decide) (hb hby at_118) ?_
                intro v1010 T1010 L1010 X1010 hQ1010
                obtain ⟨rfl, N1010, K1010, L0_1010, L1_1010, L2_1010, LV_1010⟩ := hQ1010
                have N1011 := Fr.app N1000 N1010
                have F1012 := F1001.keep K1010 (allS gb (allS ge925 all0))
                have F1013 := F1002.keep K1010
                have F1014 := F1003.keep K1010 (ninS nob (ninS no925 nin0))
                have F1015 := F1004.keep K1010
                have Z1020 : n0 ≤ T1010.heap.size := Nat.le_trans Z1009 K1010.1
                show Go p e below _ T1010 (mkF m 121 #[.val (.int p0), .val (.int p1), .val (.int p2), .val (.int p3), .val (.ref a659), .val (.int (3 : Int32)), .val (.int k), .val (.int (1 : Int32)), .val (.int (1 : Int32)), .val (.int j), .unset] [])
                refine g_aload X1010 hx 123 (hb hby at_121) rfl rfl rfl ?_
                refine g_virt X1010 hx hZ (C := "com/example/firm_commit/firmcommit/Synchronizations") hown (hw _ (List.mem_of_getElem? (i := 136) rfl)) (hw _ (List.mem_of_getElem? (i := 137) rfl)) (hw _ (List.mem_of_getElem? (i := 139) rfl)) (hw _ (List.mem_of_getElem? (i := 139) rfl)) (hw _ (List.mem_of_getElem? (i := 138) rfl)) (hw _ (List.mem_of_getElem? (i := 2) rfl)) (hw _ (List.mem_of_getElem? (i := 140) rfl)) (by decide) (rmCt l Z a0 hw a659 T1010.heap n0 Z1020 b j F1014 F1015 L2_1010) rfl (b := a659) F1013 (argsL := []) (rest := []) rfl rfl 0 126 rfl (by rw [hml]; rfl) (lenOf own_pd3 rfl) (Nat.le_refl _) (by decide) (by decide) (by decide) (by decide) (hb hby at_123) ?_
                intro v1021 T1021 L1021 X1021 hQ1021
                obtain ⟨rfl, N1021, q1021⟩ := hQ1021
                have N1022 := Fr.app N1011 N1021
                show Go p e below _ T1021 (mkF m 126 #[.val (.int p0), .val (.int p1), .val (.int p2), .val (.int p3), .val (.ref a659), .val (.int (3 : Int32)), .val (.int k), .val (.int (1 : Int32)), .val (.int (1 : Int32)), .val (.int j), .unset] [(.int j)])
                refine g_iload X1021 hx 128 (hb hby at_126) rfl rfl ?_
                refine g_ic_ne X1021 hx 135 131 (hb hby at_128) (by decide) (by decide) rfl (fun c1023 => ?_) (fun c1023 => ?_)
                · skip
                  exact absurd rfl c1023
                · skip
                  refine g_iconst X1021 hx (1 : Int32) 132 (hb hby at_131) rfl (by decide) ?_
                  refine g_goto X1021 hx 136 (hb hby at_132) (by decide) (by decide) ?_
                  refine g_istore (l' := #[.val (.int p0), .val (.int p1), .val (.int p2), .val (.int p3), .val (.ref a659), .val (.int (3 : Int32)), .val (.int k), .val (.int (1 : Int32)), .val (.int (1 : Int32)), .val (.int j), .val (.int (1 : Int32))]) X1021 hx 138 (hb hby at_136) rfl rfl ?_
                  refine g_iload X1021 hx 140 (hb hby at_138) rfl rfl ?_
                  have ll1025 : ((1 : Int32) : Int32).toInt = 1 := by decide
                  refine g_if_eq X1021 hx 152 143 (hb hby at_140) (by decide) (by decide) rfl (fun c1024 => ?_) (fun c1024 => ?_)
                  · skip
                    exfalso; revert c1024; decide
                  · skip
                    refine g_iload X1021 hx 145 (hb hby at_143) rfl rfl ?_
                    have ll1027 : ((1 : Int32) : Int32).toInt = 1 := by decide
                    refine g_if_eq X1021 hx 152 148 (hb hby at_145) (by decide) (by decide) rfl (fun c1026 => ?_) (fun c1026 => ?_)
                    · skip
                      exfalso; revert c1026; decide
                    · skip
                      refine g_iconst X1021 hx (1 : Int32) 149 (hb hby at_148) rfl (by decide) ?_
                      refine g_goto X1021 hx 153 (hb hby at_149) (by decide) (by decide) ?_
                      exact g_retZ X1021 hx hlk hret (hb hby at_153) (by decide) (by decide) q1021 ⟨rfl, N1022⟩
theorem own_len {Z : State} {a0 : Array Value} {t : Term} {em : Addr} {cl : Cell} {v : Value} (ev : t.eval a0 Z none [] Z = some (.ref em)) (at_ : Z.arrayAt? em = some cl) (q : (Term.length t).eval a0 Z none [] Z = some v) : cl.slots.size < 2 ^ 31 := by
  refine Decidable.byContradiction fun hn => ?_
  have hn' : ¬ cl.slots.size < 2147483648 := hn
  simp [Term.eval, ev, at_, hn'] at q
theorem own_em {Z : State} {a0 : Array Value} (w1 : (Jvm.Cond.laysStatic "java/util/ArrayList" "DEFAULTCAPACITY_EMPTY_ELEMENTDATA" "[Ljava/lang/Object;").before a0 Z = true) (w2 : (Jvm.Cond.initialized "java/util/ArrayList").before a0 Z = true) (w3 : (Jvm.Cond.arrayOf (Jvm.Term.static "java/util/ArrayList" "DEFAULTCAPACITY_EMPTY_ELEMENTDATA" "[Ljava/lang/Object;") (Jvm.ClassFile.FieldType.object "java/lang/Object")).value a0 Z none Z [] = some true) (w4 : (Jvm.Cond.eq (Jvm.Term.length (Jvm.Term.static "java/util/ArrayList" "DEFAULTCAPACITY_EMPTY_ELEMENTDATA" "[Ljava/lang/Object;")) (Jvm.Term.int 0)).value a0 Z none Z [] = some true) : ∃ (em : Addr) (ke : ClassId), Sta Z Z.heap "java/util/ArrayList" "DEFAULTCAPACITY_EMPTY_ELEMENTDATA" "[Ljava/lang/Object;" (.ref em) ∧ Arv Z Z.heap em ke (.object "java/lang/Object") 0 [] .null := by
  obtain ⟨em, ev⟩ := arr_v w3
  obtain ⟨cl, A⟩ := Arr.start ev w3
  have S := Sta.start ev (Or.inr ⟨w2, w1⟩)
  have q := eqv_i (F := Jvm.Term.int 0) (Term.int_eval 0) w4
  have at_ := Arr.fin (Vm.Alike.refl _) A
  have h2 : cl.slots.size < 2 ^ 31 := own_len ev at_ q
  have h3 : cl.slots.size.toInt32 = 0 := Value.int.inj (Option.some.inj ((len_f ev at_ h2).symm.trans q))
  have h4 := len_toInt h2
  rw [h3] at h4
  have l0 : (0 : Int32).toInt = 0 := by decide
  have h5 : cl.slots.size = 0 := by omega
  exact ⟨em, cl.cls, S, cl, A, rfl, by rw [h5]; rfl, by decide, fun k hk => absurd hk (by omega), fun i hi => absurd hi (by omega)⟩
set_option maxRecDepth 65536 in
set_option maxHeartbeats 40000000 in
theorem comes_1 {Post : Tables → Env → Array Value → State → Outcome → State → Prop} (hpost : ∀ tb e args s v u, (limb_1_1.after args s (.returned v) u = true ∧ limb_1_2.after args s (.returned v) u = true ∧ True) → FrameEnd s (.returned v) u (Jvm.fieldLocs frame_1_writes args s ++ Jvm.arrayLocs frame_1_arrays args s ++ Jvm.staticLocs frame_1_statics s) 24 128 → Post tb e args s (.returned v) u) :
    ArmFor flags0 classFile x code maxLocals ret World_1 tables_1 room_1 Calls_1 rest_1 Pre_1 Post := by
  intro l hfl _ _ p e ha hc hk s m args below hf hA hF happ hP
  obtain ⟨hcalls, hrest, hpre⟩ := hP
  obtain ⟨-, -, -, hnamed, -, -, -, hat⟩ := (Spec.applies_iff hf).mp happ
  obtain ⟨hg, hn⟩ := and_e (Cond.before_iff.mp (show (Jvm.Cond.and given_1 narrow_1).before args s = true from hpre))
  obtain ⟨h1, g0⟩ := and_e hg
  obtain ⟨t0, g1⟩ := and_e g0
  obtain ⟨t1, g2⟩ := and_e g1
  obtain ⟨t2, g3⟩ := and_e g2
  have t3 := g3
  obtain ⟨w0, w1, w2, w3, rfl⟩ : ∃ w0 w1 w2 w3 : Value, args = #[w0, w1, w2, w3] := by
    have hs : args.size = 4 := by simpa [Cond.value, given_1] using h1
    obtain ⟨L⟩ := args
    match L, hs with
    | [w0, w1, w2, w3], _ => exact ⟨w0, w1, w2, w3, rfl⟩
  have hw := fun d (hd : d ∈ tables_1) => atoms_spec (ws := Jvm.Cond.code x code maxLocals ret :: tables_1) hat d (List.mem_cons_of_mem _ hd)
  obtain ⟨u0, v0⟩ := and_e (Cond.before_iff.mp (show rest_1_c.before _ s = true from hrest))
  obtain ⟨u1, v1⟩ := and_e v0
  obtain ⟨u2, v2⟩ := and_e v1
  obtain ⟨u3, v3⟩ := and_e v2
  obtain ⟨u4, v4⟩ := and_e v3
  obtain ⟨u5, v5⟩ := and_e v4
  obtain ⟨u6, v6⟩ := and_e v5
  obtain ⟨u7, v7⟩ := and_e v6
  obtain ⟨u8, v8⟩ := and_e v7
  obtain ⟨em, ke, S0, VE⟩ := own_em (Cond.before_iff.mpr u2) (hw _ (List.mem_of_getElem? (i := 8) rfl)) u6 u8
  obtain ⟨i0, e0⟩ := is_v t0
  obtain rfl : w0 = (.int i0) := Option.some.inj e0
  obtain ⟨i1, e1⟩ := is_v t1
  obtain rfl : w1 = (.int i1) := Option.some.inj e1
  obtain ⟨i2, e2⟩ := is_v t2
  obtain rfl : w2 = (.int i2) := Option.some.inj e2
  obtain ⟨i3, e3⟩ := is_v t3
  obtain rfl : w3 = (.int i3) := Option.some.inj e3
  obtain ⟨n, o, h1, h2, h3, _, L, rfl, ⟨rfl, N⟩, hq⟩ := rm0 l s _ hw tables_1 i0 i1 i2 i3 s.heap s.heap.size (Nat.le_refl _) em ke (Old.start s) S0 VE p e ha hc hk s m _ below hf ((Spec.applies_iff_loose hf).mp happ).1 ⟨rfl, State.Warmed39.refl s, rfl⟩ trivial
  refine ⟨n, _, h1, h2, h3, hpost _ _ _ _ _ _ ⟨Cond.after_iff.mpr rfl, Cond.after_iff.mpr (eq_i res_at (Term.int_eval (1)) rfl), trivial⟩ ⟨hq.1, hq.2.1, (hq.2.2.sift fun y hy => Or.inr (N y hy)).mono (by decide) (by decide)⟩⟩
theorem main_1_1 : Claimed_1_1 := comes_1 fun _ _ _ _ _ _ h hF => ⟨h.1, hF⟩
theorem main_1_2 : Claimed_1_2 := comes_1 fun _ _ _ _ _ _ h hF => ⟨h.2.1, hF⟩
end Jvm.Pilot.@@N@@
namespace Jvm.Pilot.@@N@@
open Jvm Jvm.ClassFile Sem Op Lib Jvm.Free Jvm.Stand Jvm.Pilot.@@N@@.Jvm.D
/-! MADE BY PROGRAM (witnessworld.py) out of the Statement's table words and the real class files: 21 classes; the members and pool entries that the words name. The judged class is class 1, her method 1. -/
namespace start1
open Jvm.ClassFile
def u (s : String) : CpInfo := .utf8 (stringToUtf16 s)
/-- a pool by its gaps: so many unusable entries, then the entry; so many at the end -/
def gap : Nat → List CpInfo → List CpInfo
  | 0, r => r
  | n + 1, r => .unusable :: gap n r
def poolList (es : List (Nat × CpInfo)) (last : Nat) : List CpInfo := es.foldr (fun e r => gap e.1 (e.2 :: r)) (gap last [])
def pool (es : List (Nat × CpInfo)) (last : Nat) : Array CpInfo := ⟨poolList es last⟩
def fileOf (pool : Array CpInfo) (this : Nat) (attrs : Array Attribute := #[]) (ms : Array MethodInfo := #[]) (fl : Nat := 33) (sup : Nat := 0) (ifs : Array Nat := #[]) (fds : Array FieldInfo := #[]) : ClassFile where
  minorVersion := 0
  majorVersion := 65
  constantPool := pool
  accessFlags := fl
  thisClass := this
  superClass := sup
  interfaces := ifs
  fields := fds
  methods := ms
  attributes := attrs
def plain (name : String) (sup : Option ClassId) : Class where
  name := name
  kind := .ordinary
  loader := none
  accessFlags := 33
  super := sup
  interfaces := #[]
  cf := none
  fields := #[]
  methods := #[]
  instanceTypes := #[]
  staticTypes := #[]
  resolved := #[]
  callSites := []
  init := .initialized
  statics := none
  mirror := none

def pool0 : Array CpInfo := pool [(5, u "<init>"), (0, u "()V"), (1, .class_ 10), (1, u "java/lang/Object")] 113

def k0c0 : Code := { maxStack := 0, maxLocals := 1, code := object_method_1_code, exceptionTable := #[], attributes := #[] }
def k0m0 : Method := { name := "<init>", desc := "()V", sig := { parameters := [], returnType := none }, accessFlags := 1, code := some k0c0 }
/-- java/lang/Object -/
def k0 : Class := { plain "java/lang/Object" none with
  accessFlags := 33
  interfaces := #[]
  cf := some (fileOf pool0 8 #[] #[{ accessFlags := 1, nameIndex := 5, descriptorIndex := 6, attributes := #[] }] 33 0 #[] #[])
  fields := #[]
  methods := #[k0m0]
  instanceTypes := #[]
  staticTypes := #[]
  resolved := Array.replicate 124 none
  statics := none }

def pool1 : Array CpInfo := pool [(2, .class_ 4), (0, .nameAndType 5 6), (0, u "java/lang/Object"), (0, u "<init>"), (0, u "()V"), (0, .class_ 8), (0, u "com/example/firm_commit/firmcommit/Synchronizations"), (0, .methodref 7 3), (0, .methodref 7 11), (0, .nameAndType 12 13), (0, u "add"), (0, u "(Lcom/example/firm_commit/firmcommit/TransactionSynchronization;)V"), (0, .integer 2147483647), (0, .methodref 7 16), (0, .nameAndType 17 18), (0, u "keepFirst"), (0, u "(I)V"), (0, .methodref 7 20), (0, .nameAndType 21 22), (0, u "count"), (0, u "()I"), (0, .class_ 24), (0, u "com/example/firm_commit/firmcommit/SynchronizationsKeepFirstPinLaw"), (2, u "law"), (0, u "(IIII)Z")] 3

def k1m0 : Method := { name := "<init>", desc := "()V", sig := { parameters := [], returnType := none }, accessFlags := 2, code := none }
def k1c1 : Code := { maxStack := 3, maxLocals := 11, code := code, exceptionTable := #[], attributes := #[] }
def k1m1 : Method := { name := "law", desc := "(IIII)Z", sig := { parameters := [.int, .int, .int, .int], returnType := some .boolean }, accessFlags := 9, code := some k1c1 }
/-- com/example/firm_commit/firmcommit/SynchronizationsKeepFirstPinLaw -/
def k1 : Class := { plain "com/example/firm_commit/firmcommit/SynchronizationsKeepFirstPinLaw" (some 0) with
  accessFlags := 49
  interfaces := #[]
  cf := some (fileOf pool1 23 #[] #[{ accessFlags := 2, nameIndex := 5, descriptorIndex := 6, attributes := #[] }, { accessFlags := 9, nameIndex := 27, descriptorIndex := 28, attributes := #[] }] 49 2 #[] #[])
  fields := #[]
  methods := #[k1m0, k1m1]
  instanceTypes := #[]
  staticTypes := #[]
  resolved := Array.replicate 32 none
  statics := none }

def pool2 : Array CpInfo := pool [(1, .class_ 2), (0, u "java/util/ArrayList"), (0, .methodref 1 4), (0, .nameAndType 5 6), (0, u "<init>"), (0, u "()V"), (0, .methodref 8 9), (0, .class_ 10), (0, .nameAndType 5 11), (0, u "com/example/firm_commit/firmcommit/Synchronizations"), (0, u "(Ljava/util/List;)V"), (0, .methodref 13 4), (0, .class_ 14), (0, u "java/lang/Object"), (0, .fieldref 8 16), (0, .nameAndType 17 18), (0, u "_registered"), (0, u "Ljava/util/List;"), (0, .interfaceMethodref 20 21), (0, .class_ 22), (0, .nameAndType 23 24), (0, u "java/util/List"), (0, u "add"), (0, u "(Ljava/lang/Object;)Z"), (0, .interfaceMethodref 20 26), (0, .nameAndType 27 28), (0, u "size"), (0, u "()I"), (0, .interfaceMethodref 20 30), (0, .nameAndType 31 32), (0, u "subList"), (0, u "(II)Ljava/util/List;"), (0, .interfaceMethodref 20 34), (0, .nameAndType 35 6), (0, u "clear"), (53, u "NONE"), (0, u "Lcom/example/firm_commit/firmcommit/Synchronizations;"), (5, u "(Lcom/example/firm_commit/firmcommit/TransactionSynchronization;)V"), (0, u "count"), (0, u "keepFirst"), (0, u "(I)V")] 40

def k2c0 : Code := { maxStack := 3, maxLocals := 1, code := prog_10_method_1_code, exceptionTable := #[], attributes := #[] }
def k2m0 : Method := { name := "<init>", desc := "()V", sig := { parameters := [], returnType := none }, accessFlags := 0, code := some k2c0 }
def k2c1 : Code := { maxStack := 2, maxLocals := 2, code := prog_10_method_2_code, exceptionTable := #[], attributes := #[] }
def k2m1 : Method := { name := "<init>", desc := "(Ljava/util/List;)V", sig := { parameters := [(.object "java/util/List")], returnType := none }, accessFlags := 2, code := some k2c1 }
def k2c2 : Code := { maxStack := 2, maxLocals := 2, code := prog_10_method_3_code, exceptionTable := #[], attributes := #[] }
def k2m2 : Method := { name := "add", desc := "(Lcom/example/firm_commit/firmcommit/TransactionSynchronization;)V", sig := { parameters := [(.object "com/example/firm_commit/firmcommit/TransactionSynchronization")], returnType := none }, accessFlags := 0, code := some k2c2 }
def k2c3 : Code := { maxStack := 1, maxLocals := 1, code := prog_10_method_4_code, exceptionTable := #[], attributes := #[] }
def k2m3 : Method := { name := "count", desc := "()I", sig := { parameters := [], returnType := some .int }, accessFlags := 0, code := some k2c3 }
def k2c4 : Code := { maxStack := 3, maxLocals := 2, code := prog_10_method_5_code, exceptionTable := #[], attributes := #[] }
def k2m4 : Method := { name := "keepFirst", desc := "(I)V", sig := { parameters := [.int], returnType := none }, accessFlags := 0, code := some k2c4 }
/-- com/example/firm_commit/firmcommit/Synchronizations -/
def k2 : Class := { plain "com/example/firm_commit/firmcommit/Synchronizations" (some 0) with
  accessFlags := 48
  interfaces := #[]
  cf := some (fileOf pool2 8 #[] #[{ accessFlags := 0, nameIndex := 5, descriptorIndex := 6, attributes := #[] }, { accessFlags := 2, nameIndex := 5, descriptorIndex := 11, attributes := #[] }, { accessFlags := 0, nameIndex := 23, descriptorIndex := 96, attributes := #[] }, { accessFlags := 0, nameIndex := 97, descriptorIndex := 28, attributes := #[] }, { accessFlags := 0, nameIndex := 98, descriptorIndex := 99, attributes := #[] }] 48 13 #[] #[{ accessFlags := 24, nameIndex := 89, descriptorIndex := 90, attributes := #[] }, { accessFlags := 18, nameIndex := 17, descriptorIndex := 18, attributes := #[] }])
  fields := #[{ name := "NONE", type := (.object "com/example/firm_commit/firmcommit/Synchronizations"), accessFlags := 24, slot := 0, constantValue := 0 }, { name := "_registered", type := (.object "java/util/List"), accessFlags := 18, slot := 0, constantValue := 0 }]
  methods := #[k2m0, k2m1, k2m2, k2m3, k2m4]
  instanceTypes := #[(.object "java/util/List")]
  staticTypes := #[(.object "com/example/firm_commit/firmcommit/Synchronizations")]
  resolved := Array.replicate 140 none
  statics := none }

def pool3 : Array CpInfo := pool [(8, .class_ 10), (1, u "java/lang/Iterable"), (24, .class_ 36), (0, u "java/lang/Object")] 25

/-- java/lang/Iterable -/
def k3 : Class := { plain "java/lang/Iterable" (some 0) with
  accessFlags := 1537
  interfaces := #[]
  cf := some (fileOf pool3 8 #[] #[] 1537 35 #[] #[])
  fields := #[]
  methods := #[]
  instanceTypes := #[]
  staticTypes := #[]
  resolved := Array.replicate 62 none
  statics := none }

def pool4 : Array CpInfo := pool [(10, .class_ 12), (1, u "java/util/Collection"), (47, .class_ 61), (0, u "java/lang/Object"), (0, .class_ 63), (0, u "java/lang/Iterable")] 51

/-- java/util/Collection -/
def k4 : Class := { plain "java/util/Collection" (some 0) with
  accessFlags := 1537
  interfaces := #[3]
  cf := some (fileOf pool4 10 #[] #[] 1537 60 #[62] #[])
  fields := #[]
  methods := #[]
  instanceTypes := #[]
  staticTypes := #[]
  resolved := Array.replicate 115 none
  statics := none }

def pool5 : Array CpInfo := pool [(1, .methodref 2 3), (0, .class_ 4), (0, .nameAndType 5 6), (0, u "java/lang/Object"), (0, u "<init>"), (0, u "()V"), (1, .class_ 10), (1, u "java/util/AbstractCollection"), (0, u "size"), (0, u "()I"), (64, .class_ 78), (0, u "java/util/Collection")] 81

def k5c0 : Code := { maxStack := 1, maxLocals := 1, code := jdk_22_method_1_code, exceptionTable := #[], attributes := #[] }
def k5m0 : Method := { name := "<init>", desc := "()V", sig := { parameters := [], returnType := none }, accessFlags := 4, code := some k5c0 }
def k5m1 : Method := { name := "size", desc := "()I", sig := { parameters := [], returnType := some .int }, accessFlags := 1025, code := none }
/-- java/util/AbstractCollection -/
def k5 : Class := { plain "java/util/AbstractCollection" (some 0) with
  accessFlags := 1057
  interfaces := #[4]
  cf := some (fileOf pool5 8 #[] #[{ accessFlags := 4, nameIndex := 5, descriptorIndex := 6, attributes := #[] }, { accessFlags := 1025, nameIndex := 11, descriptorIndex := 12, attributes := #[] }] 1057 2 #[77] #[])
  fields := #[]
  methods := #[k5m0, k5m1]
  instanceTypes := #[]
  staticTypes := #[]
  resolved := Array.replicate 160 none
  statics := none }

def pool6 : Array CpInfo := pool [(8, .class_ 10), (1, u "java/util/SequencedCollection"), (15, .class_ 27), (0, u "java/lang/Object"), (0, .class_ 29), (0, u "java/util/Collection")] 27

/-- java/util/SequencedCollection -/
def k6 : Class := { plain "java/util/SequencedCollection" (some 0) with
  accessFlags := 1537
  interfaces := #[4]
  cf := some (fileOf pool6 8 #[] #[] 1537 26 #[28] #[])
  fields := #[]
  methods := #[]
  instanceTypes := #[]
  staticTypes := #[]
  resolved := Array.replicate 57 none
  statics := none }

def pool7 : Array CpInfo := pool [(8, .class_ 10), (1, u "java/util/List"), (49, u "add"), (3, u "(Ljava/lang/Object;)Z"), (7, u "()V"), (6, u "size"), (0, u "()I"), (22, .class_ 104), (0, u "java/lang/Object"), (15, .class_ 121), (0, u "java/util/SequencedCollection"), (47, u "clear"), (12, u "subList"), (0, u "(II)Ljava/util/List;")] 67

def k7m0 : Method := { name := "size", desc := "()I", sig := { parameters := [], returnType := some .int }, accessFlags := 1025, code := none }
def k7m1 : Method := { name := "add", desc := "(Ljava/lang/Object;)Z", sig := { parameters := [(.object "java/lang/Object")], returnType := some .boolean }, accessFlags := 1025, code := none }
def k7m2 : Method := { name := "clear", desc := "()V", sig := { parameters := [], returnType := none }, accessFlags := 1025, code := none }
def k7m3 : Method := { name := "subList", desc := "(II)Ljava/util/List;", sig := { parameters := [.int, .int], returnType := some (.object "java/util/List") }, accessFlags := 1025, code := none }
/-- java/util/List -/
def k7 : Class := { plain "java/util/List" (some 0) with
  accessFlags := 1537
  interfaces := #[6]
  cf := some (fileOf pool7 8 #[] #[{ accessFlags := 1025, nameIndex := 79, descriptorIndex := 80, attributes := #[] }, { accessFlags := 1025, nameIndex := 60, descriptorIndex := 64, attributes := #[] }, { accessFlags := 1025, nameIndex := 169, descriptorIndex := 72, attributes := #[] }, { accessFlags := 1025, nameIndex := 182, descriptorIndex := 183, attributes := #[] }] 1537 103 #[120] #[])
  fields := #[]
  methods := #[k7m0, k7m1, k7m2, k7m3]
  instanceTypes := #[]
  staticTypes := #[]
  resolved := Array.replicate 251 none
  statics := none }

def pool8 : Array CpInfo := pool [(1, .methodref 2 3), (0, .class_ 4), (0, .nameAndType 5 6), (0, u "java/util/AbstractCollection"), (0, u "<init>"), (0, u "()V"), (0, .fieldref 8 9), (0, .class_ 10), (0, .nameAndType 11 12), (0, u "java/util/AbstractList"), (0, u "modCount"), (0, u "I"), (0, .methodref 8 14), (0, .nameAndType 15 16), (0, u "size"), (0, u "()I"), (42, .methodref 8 60), (0, .nameAndType 61 62), (0, u "removeRange"), (0, u "(II)V"), (14, .class_ 78), (0, u "java/util/AbstractList$Itr"), (3, .class_ 83), (0, u "java/util/AbstractList$ListItr"), (5, u "subListRangeCheck"), (0, u "(III)V"), (2, .class_ 94), (0, u "java/util/AbstractList$RandomAccessSubList"), (3, .class_ 99), (0, u "java/util/AbstractList$SubList"), (33, .class_ 134), (0, u "java/util/List"), (45, u "clear"), (27, .class_ 209), (0, u "java/util/AbstractList$SubList$1"), (0, .class_ 211), (0, u "java/util/AbstractList$RandomAccessSpliterator")] 6

def k8c0 : Code := { maxStack := 2, maxLocals := 1, code := jdk_39_method_1_code, exceptionTable := #[], attributes := #[] }
def k8m0 : Method := { name := "<init>", desc := "()V", sig := { parameters := [], returnType := none }, accessFlags := 4, code := some k8c0 }
def k8c1 : Code := { maxStack := 3, maxLocals := 1, code := jdk_39_method_9_code, exceptionTable := #[], attributes := #[] }
def k8m1 : Method := { name := "clear", desc := "()V", sig := { parameters := [], returnType := none }, accessFlags := 1, code := some k8c1 }
def k8c2 : Code := { maxStack := 4, maxLocals := 3, code := jdk_39_method_15_code, exceptionTable := #[], attributes := #[] }
def k8m2 : Method := { name := "subListRangeCheck", desc := "(III)V", sig := { parameters := [.int, .int, .int], returnType := none }, accessFlags := 8, code := some k8c2 }
def k8c3 : Code := { maxStack := 2, maxLocals := 6, code := ⟨#[0x2a, 0x1b, 0xb6, 0x00, 0x2f, 0x4e, 0x03, 0x36, 0x04, 0x1c, 0x1b, 0x64, 0x36, 0x05, 0x15, 0x04, 0x15, 0x05, 0xa2, 0x00, 0x16, 0x2d, 0xb9, 0x00, 0x22, 0x01, 0x00, 0x57, 0x2d, 0xb9, 0x00, 0x8c, 0x01, 0x00, 0x84, 0x04, 0x01, 0xa7, 0xff, 0xe9, 0xb1]⟩, exceptionTable := #[], attributes := #[] }
def k8m3 : Method := { name := "removeRange", desc := "(II)V", sig := { parameters := [.int, .int], returnType := none }, accessFlags := 4, code := some k8c3 }
/-- java/util/AbstractList -/
def k8 : Class := { plain "java/util/AbstractList" (some 5) with
  accessFlags := 1057
  interfaces := #[7]
  cf := some (fileOf pool8 8 #[.nestMembers #[93, 98, 208, 210, 82, 77]] #[{ accessFlags := 4, nameIndex := 5, descriptorIndex := 6, attributes := #[] }, { accessFlags := 1, nameIndex := 180, descriptorIndex := 6, attributes := #[] }, { accessFlags := 8, nameIndex := 89, descriptorIndex := 90, attributes := #[] }, { accessFlags := 4, nameIndex := 61, descriptorIndex := 62, attributes := #[] }] 1057 2 #[133] #[{ accessFlags := 132, nameIndex := 11, descriptorIndex := 12, attributes := #[] }])
  fields := #[{ name := "modCount", type := .int, accessFlags := 132, slot := 0, constantValue := 0 }]
  methods := #[k8m0, k8m1, k8m2, k8m3]
  instanceTypes := #[.int]
  staticTypes := #[]
  resolved := Array.replicate 218 none
  statics := none }

def pool9 : Array CpInfo := pool [(1, .class_ 2), (0, u "java/util/RandomAccess"), (0, .class_ 4), (0, u "java/lang/Object")] 2

/-- java/util/RandomAccess -/
def k9 : Class := { plain "java/util/RandomAccess" (some 0) with
  accessFlags := 1537
  interfaces := #[]
  cf := some (fileOf pool9 1 #[] #[] 1537 3 #[] #[])
  fields := #[]
  methods := #[]
  instanceTypes := #[]
  staticTypes := #[]
  resolved := Array.replicate 7 none
  statics := none }

def pool10 : Array CpInfo := pool [(1, .class_ 2), (0, u "java/lang/Cloneable"), (0, .class_ 4), (0, u "java/lang/Object")] 2

/-- java/lang/Cloneable -/
def k10 : Class := { plain "java/lang/Cloneable" (some 0) with
  accessFlags := 1537
  interfaces := #[]
  cf := some (fileOf pool10 1 #[] #[] 1537 3 #[] #[])
  fields := #[]
  methods := #[]
  instanceTypes := #[]
  staticTypes := #[]
  resolved := Array.replicate 7 none
  statics := none }

def pool11 : Array CpInfo := pool [(1, .class_ 2), (0, u "java/io/Serializable"), (0, .class_ 4), (0, u "java/lang/Object")] 2

/-- java/io/Serializable -/
def k11 : Class := { plain "java/io/Serializable" (some 0) with
  accessFlags := 1537
  interfaces := #[]
  cf := some (fileOf pool11 1 #[] #[] 1537 3 #[] #[])
  fields := #[]
  methods := #[]
  instanceTypes := #[]
  staticTypes := #[]
  resolved := Array.replicate 7 none
  statics := none }

def pool12 : Array CpInfo := pool [(1, .methodref 2 3), (0, .class_ 4), (0, .nameAndType 5 6), (0, u "java/util/AbstractList"), (0, u "<init>"), (0, u "()V"), (0, .class_ 8), (0, u "java/lang/Object"), (0, .fieldref 10 11), (0, .class_ 12), (0, .nameAndType 13 14), (0, u "java/util/ArrayList"), (0, u "elementData"), (0, u "[Ljava/lang/Object;"), (2, u "EMPTY_ELEMENTDATA"), (21, .fieldref 10 40), (0, .nameAndType 41 14), (0, u "DEFAULTCAPACITY_EMPTY_ELEMENTDATA"), (5, u "()[Ljava/lang/Object;"), (0, .fieldref 10 49), (0, .nameAndType 50 51), (0, u "size"), (0, u "I"), (11, .fieldref 10 64), (0, .nameAndType 65 51), (0, u "modCount"), (3, .methodref 10 70), (0, .nameAndType 71 72), (0, u "grow"), (0, u "(I)[Ljava/lang/Object;"), (6, .methodref 80 81), (0, .class_ 82), (0, .nameAndType 83 84), (0, u "java/lang/Math"), (0, u "max"), (0, u "(II)I"), (11, u "(Ljava/lang/Object;)Z"), (15, .methodref 113 114), (0, .class_ 115), (0, .nameAndType 116 117), (0, u "java/lang/System"), (0, u "arraycopy"), (0, u "(Ljava/lang/Object;ILjava/lang/Object;II)V"), (11, .methodref 10 130), (0, .nameAndType 71 47), (0, .methodref 10 132), (0, .nameAndType 133 134), (0, u "add"), (0, u "(Ljava/lang/Object;[Ljava/lang/Object;I)V"), (13, .class_ 149), (0, u "java/util/List"), (36, u "()I"), (7, .methodref 10 195), (0, .nameAndType 196 197), (0, u "shiftTailOverGap"), (0, u "([Ljava/lang/Object;II)V"), (64, .class_ 263), (0, u "java/util/ArrayList$ListItr"), (3, .class_ 268), (0, u "java/util/ArrayList$Itr"), (3, .methodref 10 273), (0, .nameAndType 274 275), (0, u "subListRangeCheck"), (0, u "(III)V"), (0, .class_ 277), (0, u "java/util/ArrayList$SubList"), (0, .methodref 276 279), (0, .nameAndType 5 280), (0, u "(Ljava/util/ArrayList;II)V"), (9, .class_ 291), (0, u "java/util/ArrayList$ArrayListSpliterator"), (37, .class_ 330), (0, u "java/util/RandomAccess"), (0, .class_ 332), (0, u "java/lang/Cloneable"), (0, .class_ 334), (0, u "java/io/Serializable"), (0, u "serialVersionUID"), (0, u "J"), (3, u "DEFAULT_CAPACITY"), (86, u "removeRange"), (0, u "(II)V"), (30, u "subList"), (0, u "(II)Ljava/util/List;"), (39, .class_ 501), (0, u "java/util/ArrayList$SubList$2"), (0, .class_ 503), (0, u "java/util/ArrayList$SubList$1")] 5

def k12c0 : Code := { maxStack := 2, maxLocals := 1, code := jdk_38_method_2_code, exceptionTable := #[], attributes := #[] }
def k12m0 : Method := { name := "<init>", desc := "()V", sig := { parameters := [], returnType := none }, accessFlags := 1, code := some k12c0 }
def k12c1 : Code := { maxStack := 4, maxLocals := 4, code := jdk_38_method_6_code, exceptionTable := #[], attributes := #[] }
def k12m1 : Method := { name := "grow", desc := "(I)[Ljava/lang/Object;", sig := { parameters := [.int], returnType := some (.array (.object "java/lang/Object")) }, accessFlags := 2, code := some k12c1 }
def k12c2 : Code := { maxStack := 3, maxLocals := 1, code := jdk_38_method_7_code, exceptionTable := #[], attributes := #[] }
def k12m2 : Method := { name := "grow", desc := "()[Ljava/lang/Object;", sig := { parameters := [], returnType := some (.array (.object "java/lang/Object")) }, accessFlags := 2, code := some k12c2 }
def k12c3 : Code := { maxStack := 1, maxLocals := 1, code := jdk_38_method_8_code, exceptionTable := #[], attributes := #[] }
def k12m3 : Method := { name := "size", desc := "()I", sig := { parameters := [], returnType := some .int }, accessFlags := 1, code := some k12c3 }
def k12c4 : Code := { maxStack := 3, maxLocals := 4, code := jdk_38_method_24_code, exceptionTable := #[], attributes := #[] }
def k12m4 : Method := { name := "add", desc := "(Ljava/lang/Object;[Ljava/lang/Object;I)V", sig := { parameters := [(.object "java/lang/Object"), (.array (.object "java/lang/Object")), .int], returnType := none }, accessFlags := 2, code := some k12c4 }
def k12c5 : Code := { maxStack := 4, maxLocals := 2, code := jdk_38_method_25_code, exceptionTable := #[], attributes := #[] }
def k12m5 : Method := { name := "add", desc := "(Ljava/lang/Object;)Z", sig := { parameters := [(.object "java/lang/Object")], returnType := some .boolean }, accessFlags := 1, code := some k12c5 }
def k12c6 : Code := { maxStack := 4, maxLocals := 3, code := jdk_38_method_43_code, exceptionTable := #[], attributes := #[] }
def k12m6 : Method := { name := "removeRange", desc := "(II)V", sig := { parameters := [.int, .int], returnType := none }, accessFlags := 4, code := some k12c6 }
def k12c7 : Code := { maxStack := 6, maxLocals := 6, code := jdk_38_method_44_code, exceptionTable := #[], attributes := #[] }
def k12m7 : Method := { name := "shiftTailOverGap", desc := "([Ljava/lang/Object;II)V", sig := { parameters := [(.array (.object "java/lang/Object")), .int, .int], returnType := none }, accessFlags := 2, code := some k12c7 }
def k12c8 : Code := { maxStack := 5, maxLocals := 3, code := jdk_38_method_56_code, exceptionTable := #[], attributes := #[] }
def k12m8 : Method := { name := "subList", desc := "(II)Ljava/util/List;", sig := { parameters := [.int, .int], returnType := some (.object "java/util/List") }, accessFlags := 1, code := some k12c8 }
/-- java/util/ArrayList -/
def k12 : Class := { plain "java/util/ArrayList" (some 8) with
  accessFlags := 33
  interfaces := #[7, 9, 10, 11]
  cf := some (fileOf pool12 10 #[.nestMembers #[290, 276, 500, 502, 262, 267]] #[{ accessFlags := 1, nameIndex := 5, descriptorIndex := 6, attributes := #[] }, { accessFlags := 2, nameIndex := 71, descriptorIndex := 72, attributes := #[] }, { accessFlags := 2, nameIndex := 71, descriptorIndex := 47, attributes := #[] }, { accessFlags := 1, nameIndex := 50, descriptorIndex := 186, attributes := #[] }, { accessFlags := 2, nameIndex := 133, descriptorIndex := 134, attributes := #[] }, { accessFlags := 1, nameIndex := 133, descriptorIndex := 96, attributes := #[] }, { accessFlags := 4, nameIndex := 427, descriptorIndex := 428, attributes := #[] }, { accessFlags := 2, nameIndex := 196, descriptorIndex := 197, attributes := #[] }, { accessFlags := 1, nameIndex := 459, descriptorIndex := 460, attributes := #[] }] 33 2 #[148, 329, 331, 333] #[{ accessFlags := 26, nameIndex := 335, descriptorIndex := 336, attributes := #[] }, { accessFlags := 26, nameIndex := 340, descriptorIndex := 51, attributes := #[] }, { accessFlags := 26, nameIndex := 17, descriptorIndex := 14, attributes := #[] }, { accessFlags := 26, nameIndex := 41, descriptorIndex := 14, attributes := #[] }, { accessFlags := 128, nameIndex := 13, descriptorIndex := 14, attributes := #[] }, { accessFlags := 2, nameIndex := 50, descriptorIndex := 51, attributes := #[] }])
  fields := #[{ name := "serialVersionUID", type := .long, accessFlags := 26, slot := 0, constantValue := 0 }, { name := "DEFAULT_CAPACITY", type := .int, accessFlags := 26, slot := 1, constantValue := 0 }, { name := "EMPTY_ELEMENTDATA", type := (.array (.object "java/lang/Object")), accessFlags := 26, slot := 2, constantValue := 0 }, { name := "DEFAULTCAPACITY_EMPTY_ELEMENTDATA", type := (.array (.object "java/lang/Object")), accessFlags := 26, slot := 3, constantValue := 0 }, { name := "elementData", type := (.array (.object "java/lang/Object")), accessFlags := 128, slot := 1, constantValue := 0 }, { name := "size", type := .int, accessFlags := 2, slot := 2, constantValue := 0 }]
  methods := #[k12m0, k12m1, k12m2, k12m3, k12m4, k12m5, k12m6, k12m7, k12m8]
  instanceTypes := #[.int, (.array (.object "java/lang/Object")), .int]
  staticTypes := #[.long, .int, (.array (.object "java/lang/Object")), (.array (.object "java/lang/Object"))]
  resolved := Array.replicate 509 none
  statics := some 0 }

def pool13 : Array CpInfo := pool [(1, .methodref 2 3), (0, .class_ 4), (0, .nameAndType 5 6), (0, u "java/util/AbstractList"), (0, u "<init>"), (0, u "()V"), (0, .fieldref 8 9), (0, .class_ 10), (0, .nameAndType 11 12), (0, u "java/util/ArrayList$SubList"), (0, u "root"), (0, u "Ljava/util/ArrayList;"), (0, .fieldref 8 14), (0, .nameAndType 15 16), (0, u "parent"), (0, u "Ljava/util/ArrayList$SubList;"), (0, .fieldref 8 18), (0, .nameAndType 19 20), (0, u "offset"), (0, u "I"), (0, .fieldref 8 22), (0, .nameAndType 23 20), (0, u "size"), (0, .fieldref 25 26), (0, .class_ 27), (0, .nameAndType 28 20), (0, u "java/util/ArrayList"), (0, u "modCount"), (0, .fieldref 8 26), (6, .methodref 8 37), (0, .nameAndType 38 6), (0, u "checkForComodification"), (10, u "(I)V"), (4, .methodref 8 55), (0, .nameAndType 56 49), (0, u "updateSizeAndModCount"), (3, .methodref 25 61), (0, .nameAndType 62 63), (0, u "removeRange"), (0, u "(II)V"), (8, u "()I"), (109, .class_ 183), (0, u "java/util/RandomAccess"), (3, u "(Ljava/util/ArrayList;II)V")] 82

def k13c0 : Code := { maxStack := 3, maxLocals := 4, code := jdk_130_method_1_code, exceptionTable := #[], attributes := #[] }
def k13m0 : Method := { name := "<init>", desc := "(Ljava/util/ArrayList;II)V", sig := { parameters := [(.object "java/util/ArrayList"), .int, .int], returnType := none }, accessFlags := 1, code := some k13c0 }
def k13c1 : Code := { maxStack := 1, maxLocals := 1, code := jdk_130_method_5_code, exceptionTable := #[], attributes := #[] }
def k13m1 : Method := { name := "size", desc := "()I", sig := { parameters := [], returnType := some .int }, accessFlags := 1, code := some k13c1 }
def k13c2 : Code := { maxStack := 4, maxLocals := 3, code := jdk_130_method_8_code, exceptionTable := #[], attributes := #[] }
def k13m2 : Method := { name := "removeRange", desc := "(II)V", sig := { parameters := [.int, .int], returnType := none }, accessFlags := 4, code := some k13c2 }
def k13c3 : Code := { maxStack := 2, maxLocals := 1, code := jdk_130_method_28_code, exceptionTable := #[], attributes := #[] }
def k13m3 : Method := { name := "checkForComodification", desc := "()V", sig := { parameters := [], returnType := none }, accessFlags := 2, code := some k13c3 }
def k13c4 : Code := { maxStack := 3, maxLocals := 3, code := jdk_130_method_29_code, exceptionTable := #[], attributes := #[] }
def k13m4 : Method := { name := "updateSizeAndModCount", desc := "(I)V", sig := { parameters := [.int], returnType := none }, accessFlags := 2, code := some k13c4 }
/-- java/util/ArrayList$SubList -/
def k13 : Class := { plain "java/util/ArrayList$SubList" (some 8) with
  accessFlags := 32
  interfaces := #[9]
  cf := some (fileOf pool13 8 #[.nestHost 25] #[{ accessFlags := 1, nameIndex := 5, descriptorIndex := 187, attributes := #[] }, { accessFlags := 1, nameIndex := 23, descriptorIndex := 72, attributes := #[] }, { accessFlags := 4, nameIndex := 62, descriptorIndex := 63, attributes := #[] }, { accessFlags := 2, nameIndex := 38, descriptorIndex := 6, attributes := #[] }, { accessFlags := 2, nameIndex := 56, descriptorIndex := 49, attributes := #[] }] 32 2 #[182] #[{ accessFlags := 18, nameIndex := 11, descriptorIndex := 12, attributes := #[] }, { accessFlags := 18, nameIndex := 15, descriptorIndex := 16, attributes := #[] }, { accessFlags := 18, nameIndex := 19, descriptorIndex := 20, attributes := #[] }, { accessFlags := 2, nameIndex := 23, descriptorIndex := 20, attributes := #[] }])
  fields := #[{ name := "root", type := (.object "java/util/ArrayList"), accessFlags := 18, slot := 1, constantValue := 0 }, { name := "parent", type := (.object "java/util/ArrayList$SubList"), accessFlags := 18, slot := 2, constantValue := 0 }, { name := "offset", type := .int, accessFlags := 18, slot := 3, constantValue := 0 }, { name := "size", type := .int, accessFlags := 2, slot := 4, constantValue := 0 }]
  methods := #[k13m0, k13m1, k13m2, k13m3, k13m4]
  instanceTypes := #[.int, (.object "java/util/ArrayList"), (.object "java/util/ArrayList$SubList"), .int, .int]
  staticTypes := #[]
  resolved := Array.replicate 270 none
  statics := none }

def pool14 : Array CpInfo := pool [(2, .class_ 4), (1, u "java/lang/Object"), (0, u "<init>"), (0, u "()V"), (1, .class_ 10), (1, u "java/lang/System"), (0, u "allowSecurityManager"), (0, u "I"), (16, u "cons"), (0, u "Ljava/io/Console;"), (77, .class_ 110), (1, u "java/lang/System$CallersHolder"), (43, u "initialErrStream"), (0, u "Ljava/io/PrintStream;"), (19, u "security"), (0, u "Ljava/lang/SecurityManager;"), (31, .class_ 209), (0, u "java/lang/System$1"), (7, u "props"), (0, u "Ljava/util/Properties;"), (2, u "lineSeparator"), (0, u "Ljava/lang/String;"), (96, .class_ 321), (1, u "java/lang/System$LoggerFinder"), (5, .class_ 328), (0, u "java/lang/System$Logger"), (67, u "err"), (2, u "out"), (91, u "notSupportedJnuEncoding"), (15, u "in"), (17, u "initialIn"), (0, u "Ljava/io/InputStream;"), (35, u "bootLayer"), (0, u "Ljava/lang/ModuleLayer;"), (99, .class_ 664), (0, u "java/lang/System$2"), (9, u "NEVER"), (2, u "MAYBE"), (49, u "arraycopy"), (0, u "(Ljava/lang/Object;ILjava/lang/Object;II)V"), (72, .class_ 802), (0, u "java/lang/System$Logger$Level")] 31

def k14m0 : Method := { name := "<init>", desc := "()V", sig := { parameters := [], returnType := none }, accessFlags := 2, code := none }
def k14m1 : Method := { name := "arraycopy", desc := "(Ljava/lang/Object;ILjava/lang/Object;II)V", sig := { parameters := [(.object "java/lang/Object"), .int, (.object "java/lang/Object"), .int, .int], returnType := none }, accessFlags := 265, code := none }
/-- java/lang/System -/
def k14 : Class := { plain "java/lang/System" (some 0) with
  accessFlags := 49
  interfaces := #[]
  cf := some (fileOf pool14 8 #[.nestMembers #[319, 327, 801, 108, 663, 208]] #[{ accessFlags := 2, nameIndex := 5, descriptorIndex := 6, attributes := #[] }, { accessFlags := 265, nameIndex := 727, descriptorIndex := 728, attributes := #[] }] 49 2 #[] #[{ accessFlags := 25, nameIndex := 507, descriptorIndex := 526, attributes := #[] }, { accessFlags := 25, nameIndex := 399, descriptorIndex := 155, attributes := #[] }, { accessFlags := 25, nameIndex := 396, descriptorIndex := 155, attributes := #[] }, { accessFlags := 10, nameIndex := 525, descriptorIndex := 526, attributes := #[] }, { accessFlags := 26, nameIndex := 674, descriptorIndex := 12, attributes := #[] }, { accessFlags := 26, nameIndex := 677, descriptorIndex := 12, attributes := #[] }, { accessFlags := 10, nameIndex := 11, descriptorIndex := 12, attributes := #[] }, { accessFlags := 74, nameIndex := 175, descriptorIndex := 176, attributes := #[] }, { accessFlags := 10, nameIndex := 491, descriptorIndex := 222, attributes := #[] }, { accessFlags := 74, nameIndex := 29, descriptorIndex := 30, attributes := #[] }, { accessFlags := 74, nameIndex := 154, descriptorIndex := 155, attributes := #[] }, { accessFlags := 10, nameIndex := 217, descriptorIndex := 218, attributes := #[] }, { accessFlags := 10, nameIndex := 221, descriptorIndex := 222, attributes := #[] }, { accessFlags := 8, nameIndex := 562, descriptorIndex := 563, attributes := #[] }])
  fields := #[{ name := "in", type := (.object "java/io/InputStream"), accessFlags := 25, slot := 0, constantValue := 0 }, { name := "out", type := (.object "java/io/PrintStream"), accessFlags := 25, slot := 1, constantValue := 0 }, { name := "err", type := (.object "java/io/PrintStream"), accessFlags := 25, slot := 2, constantValue := 0 }, { name := "initialIn", type := (.object "java/io/InputStream"), accessFlags := 10, slot := 3, constantValue := 0 }, { name := "NEVER", type := .int, accessFlags := 26, slot := 4, constantValue := 0 }, { name := "MAYBE", type := .int, accessFlags := 26, slot := 5, constantValue := 0 }, { name := "allowSecurityManager", type := .int, accessFlags := 10, slot := 6, constantValue := 0 }, { name := "security", type := (.object "java/lang/SecurityManager"), accessFlags := 74, slot := 7, constantValue := 0 }, { name := "notSupportedJnuEncoding", type := (.object "java/lang/String"), accessFlags := 10, slot := 8, constantValue := 0 }, { name := "cons", type := (.object "java/io/Console"), accessFlags := 74, slot := 9, constantValue := 0 }, { name := "initialErrStream", type := (.object "java/io/PrintStream"), accessFlags := 74, slot := 10, constantValue := 0 }, { name := "props", type := (.object "java/util/Properties"), accessFlags := 10, slot := 11, constantValue := 0 }, { name := "lineSeparator", type := (.object "java/lang/String"), accessFlags := 10, slot := 12, constantValue := 0 }, { name := "bootLayer", type := (.object "java/lang/ModuleLayer"), accessFlags := 8, slot := 13, constantValue := 0 }]
  methods := #[k14m0, k14m1]
  instanceTypes := #[]
  staticTypes := #[(.object "java/io/InputStream"), (.object "java/io/PrintStream"), (.object "java/io/PrintStream"), (.object "java/io/InputStream"), .int, .int, .int, (.object "java/lang/SecurityManager"), (.object "java/lang/String"), (.object "java/io/Console"), (.object "java/io/PrintStream"), (.object "java/util/Properties"), (.object "java/lang/String"), (.object "java/lang/ModuleLayer")]
  resolved := Array.replicate 834 none
  statics := none }

def pool15 : Array CpInfo := pool [(1, .class_ 2), (0, u "java/lang/Math"), (1, .class_ 6), (1, u "java/lang/Object"), (0, u "<init>"), (0, u "()V"), (89, .class_ 100), (1, u "java/lang/Math$RandomNumberGeneratorHolder"), (71, u "negativeZeroFloatBits"), (0, u "J"), (2, u "negativeZeroDoubleBits"), (21, u "max"), (46, u "$assertionsDisabled"), (0, u "Z"), (88, u "(II)I"), (2, u "twoToTheDoubleScaleDown"), (0, u "D"), (4, u "twoToTheDoubleScaleUp"), (9, u "E"), (3, u "PI"), (2, u "TAU"), (2, u "DEGREES_TO_RADIANS"), (0, u "RADIANS_TO_DEGREES")] 94

def k15m0 : Method := { name := "<init>", desc := "()V", sig := { parameters := [], returnType := none }, accessFlags := 2, code := none }
def k15c1 : Code := { maxStack := 2, maxLocals := 2, code := jdk_29_method_65_code, exceptionTable := #[], attributes := #[] }
def k15m1 : Method := { name := "max", desc := "(II)I", sig := { parameters := [.int, .int], returnType := some .int }, accessFlags := 9, code := some k15c1 }
/-- java/lang/Math -/
def k15 : Class := { plain "java/lang/Math" (some 0) with
  accessFlags := 49
  interfaces := #[]
  cf := some (fileOf pool15 1 #[.nestMembers #[98]] #[{ accessFlags := 2, nameIndex := 7, descriptorIndex := 8, attributes := #[] }, { accessFlags := 9, nameIndex := 198, descriptorIndex := 335, attributes := #[] }] 49 4 #[] #[{ accessFlags := 25, nameIndex := 354, descriptorIndex := 339, attributes := #[] }, { accessFlags := 25, nameIndex := 358, descriptorIndex := 339, attributes := #[] }, { accessFlags := 25, nameIndex := 361, descriptorIndex := 339, attributes := #[] }, { accessFlags := 26, nameIndex := 364, descriptorIndex := 339, attributes := #[] }, { accessFlags := 26, nameIndex := 365, descriptorIndex := 339, attributes := #[] }, { accessFlags := 26, nameIndex := 172, descriptorIndex := 173, attributes := #[] }, { accessFlags := 26, nameIndex := 176, descriptorIndex := 173, attributes := #[] }, { accessFlags := 8, nameIndex := 344, descriptorIndex := 339, attributes := #[] }, { accessFlags := 8, nameIndex := 338, descriptorIndex := 339, attributes := #[] }, { accessFlags := 4120, nameIndex := 245, descriptorIndex := 246, attributes := #[] }])
  fields := #[{ name := "E", type := .double, accessFlags := 25, slot := 0, constantValue := 0 }, { name := "PI", type := .double, accessFlags := 25, slot := 1, constantValue := 0 }, { name := "TAU", type := .double, accessFlags := 25, slot := 2, constantValue := 0 }, { name := "DEGREES_TO_RADIANS", type := .double, accessFlags := 26, slot := 3, constantValue := 0 }, { name := "RADIANS_TO_DEGREES", type := .double, accessFlags := 26, slot := 4, constantValue := 0 }, { name := "negativeZeroFloatBits", type := .long, accessFlags := 26, slot := 5, constantValue := 0 }, { name := "negativeZeroDoubleBits", type := .long, accessFlags := 26, slot := 6, constantValue := 0 }, { name := "twoToTheDoubleScaleUp", type := .double, accessFlags := 8, slot := 7, constantValue := 0 }, { name := "twoToTheDoubleScaleDown", type := .double, accessFlags := 8, slot := 8, constantValue := 0 }, { name := "$assertionsDisabled", type := .boolean, accessFlags := 4120, slot := 9, constantValue := 0 }]
  methods := #[k15m0, k15m1]
  instanceTypes := #[]
  staticTypes := #[.double, .double, .double, .double, .double, .long, .long, .double, .double, .boolean]
  resolved := Array.replicate 460 none
  statics := none }

/-- the primitive byte -/
def k16 : Class := { plain "byte" none with kind := .primitive 'B', accessFlags := 0x411 }
/-- [B -/
def k17 : Class := { plain "[B" (some 0) with kind := .array 16 .byte, interfaces := #[10, 11], accessFlags := 1041 }

/-- the primitive int -/
def k18 : Class := { plain "int" none with kind := .primitive 'I', accessFlags := 0x411 }
/-- [I -/
def k19 : Class := { plain "[I" (some 0) with kind := .array 18 .int, interfaces := #[10, 11], accessFlags := 1041 }

/-- [Ljava/lang/Object; -/
def k20 : Class := { plain "[Ljava/lang/Object;" (some 0) with kind := .array 0 (.object "java/lang/Object"), interfaces := #[10, 11], accessFlags := 1041 }

def heap : Heap := #[{ cls := 12, slots := #[.long 0, .int 0, .ref 1, .ref 2], vm := .statics 12 },
  { cls := 20, slots := #[], vm := .none },
  { cls := 20, slots := #[], vm := .none }]
def classes : Array Class := #[k0, k1, k2, k3, k4, k5, k6, k7, k8, k9, k10, k11, k12, k13, k14, k15, k16, k17, k18, k19, k20]
def interned : List (Array UInt16 × Addr) := []
def slotsUsed : Nat := 4
def theMethod : MethodId := ⟨1, 1⟩
def args0 : Array Value := #[.int 5, .int 3, .int 4, .int 7]
def aboutOver (below : List Frame) : State where
  vm := { classes := classes, interned := interned.toArray }
  heap := heap
  slotsUsed := slotsUsed
  threads := #[{ frames := .invoking theMethod args0 :: below }]
def below0 : List Frame := [.native { method := ⟨0, 0⟩, args := #[] }]
def about1 : State := aboutOver below0
def p0 : Program := .bare "" "" ""
def e0 : Env := launch0.env 0 0 0
theorem w_frames : about1.frames = Frame.invoking theMethod args0 :: below0 := rfl
set_option maxRecDepth 65536 in
theorem w_args : argsFit about1.vm theMethod args0 = true := by decide +kernel
set_option maxRecDepth 65536 in
theorem w_heap : heapFits about1 = true := by decide +kernel
set_option maxRecDepth 65536 in
theorem w_runnable : about1.curStatus? = some .runnable := by decide +kernel
set_option maxRecDepth 65536 in
theorem w_alone : about1.alone = true := by decide +kernel
set_option maxRecDepth 65536 in
theorem w_named : about1.methodNamed? x = some theMethod := by decide +kernel
set_option maxRecDepth 65536 in
theorem w_hears : about1.hears theMethod below0 = true := by decide +kernel
set_option maxRecDepth 65536 in
theorem w_ripe : about1.ripe theMethod args0 below0 = true := by decide +kernel
theorem w_running : about1.status = .running := rfl
set_option maxRecDepth 65536 in
theorem w_room : about1.hasRoom e0.platform room_1 = true :=
  launch0.hasRoom_least _ room_1 (by decide +kernel) (by decide +kernel) (by decide +kernel) (by decide +kernel) (by decide +kernel) (by decide +kernel)
theorem allAtoms_all (ts : List Jvm.Cond) (a : Array Jvm.Value) (st : Jvm.State) : (allAtoms ts).before a st = ts.all (fun c => c.before a st) := by
  induction ts with
  | nil => rfl
  | cons c t ih =>
    show (Jvm.Cond.and c (allAtoms t)).before a st = _
    rw [Jvm.Cond.before_and, ih, List.all_cons]
def words1 : List Jvm.Cond := Jvm.Cond.code x code maxLocals ret :: tables_1
/-- a 'code' word, met by the world's own term for the bytes: nothing is compared byte by byte -/
theorem code_word {y : MethodName} {bytes : ByteArray} {mx : Nat} {rt : Option FieldType} {a : Array Value} {s : State} {m : MethodId} {meth : Method} {c : Code} (h1 : s.methodNamed? y = some m) (h2 : s.vm.method? m = some meth) (h3 : meth.code = some c) (h4 : c.code = bytes)
    (h5 : (c.maxLocals == mx && c.exceptionTable.isEmpty && decide (c.maxStack ≤ mostOperands) && decide (meth.sig.returnType = rt) && !meth.locks && decide (parseMethodDescriptor y.desc = some meth.sig)) = true) : (Jvm.Cond.code y bytes mx rt).before a s = true := by
  simp only [Bool.and_eq_true, beq_iff_eq, Bool.not_eq_true', decide_eq_true_eq] at h5
  obtain ⟨⟨⟨⟨⟨g1, g2⟩, g3⟩, g4⟩, g5⟩, g6⟩ := h5
  simp [Cond.before, Cond.holds, Cond.value, h1, h2, h3, h4, g1, g2, g3, g4, g5, g6]
def isCode : Jvm.Cond → Bool
  | .code _ _ _ _ => true
  | _ => false
theorem all_split {L : List Jvm.Cond} {P : Jvm.Cond → Bool} (h1 : L.all (fun c => isCode c || P c) = true) (h2 : ∀ c ∈ L.filter isCode, P c = true) : L.all P = true := by
  refine List.all_eq_true.mpr fun c hc => ?_
  have h := List.all_eq_true.mp h1 c hc
  rcases Bool.eq_false_or_eq_true (isCode c) with hi | hi
  · exact h2 c (List.mem_filter.mpr ⟨hc, hi⟩)
  · simpa [hi] using h
set_option maxRecDepth 65536 in
theorem w_c0 : (Jvm.Cond.code x code maxLocals ret).before args0 about1 = true := code_word (m := ⟨1, 1⟩) (meth := k1m1) (c := k1c1) (by decide +kernel) rfl rfl rfl (by decide +kernel)
set_option maxRecDepth 65536 in
theorem w_c1 : (Jvm.Cond.code ({ cls := "com/example/firm_commit/firmcommit/Synchronizations", name := "<init>", desc := "()V" } : Jvm.MethodName) prog_10_method_1_code (1 : Nat) (Option.none : Option Jvm.ClassFile.FieldType)).before args0 about1 = true := code_word (m := ⟨2, 0⟩) (meth := k2m0) (c := k2c0) (by decide +kernel) rfl rfl rfl (by decide +kernel)
set_option maxRecDepth 65536 in
theorem w_c2 : (Jvm.Cond.code ({ cls := "java/util/ArrayList", name := "<init>", desc := "()V" } : Jvm.MethodName) jdk_38_method_2_code (1 : Nat) (Option.none : Option Jvm.ClassFile.FieldType)).before args0 about1 = true := code_word (m := ⟨12, 0⟩) (meth := k12m0) (c := k12c0) (by decide +kernel) rfl rfl rfl (by decide +kernel)
set_option maxRecDepth 65536 in
theorem w_c3 : (Jvm.Cond.code ({ cls := "java/util/AbstractList", name := "<init>", desc := "()V" } : Jvm.MethodName) jdk_39_method_1_code (1 : Nat) (Option.none : Option Jvm.ClassFile.FieldType)).before args0 about1 = true := code_word (m := ⟨8, 0⟩) (meth := k8m0) (c := k8c0) (by decide +kernel) rfl rfl rfl (by decide +kernel)
set_option maxRecDepth 65536 in
theorem w_c4 : (Jvm.Cond.code ({ cls := "java/util/AbstractCollection", name := "<init>", desc := "()V" } : Jvm.MethodName) jdk_22_method_1_code (1 : Nat) (Option.none : Option Jvm.ClassFile.FieldType)).before args0 about1 = true := code_word (m := ⟨5, 0⟩) (meth := k5m0) (c := k5c0) (by decide +kernel) rfl rfl rfl (by decide +kernel)
set_option maxRecDepth 65536 in
theorem w_c5 : (Jvm.Cond.code ({ cls := "java/lang/Object", name := "<init>", desc := "()V" } : Jvm.MethodName) object_method_1_code (1 : Nat) (Option.none : Option Jvm.ClassFile.FieldType)).before args0 about1 = true := code_word (m := ⟨0, 0⟩) (meth := k0m0) (c := k0c0) (by decide +kernel) rfl rfl rfl (by decide +kernel)
set_option maxRecDepth 65536 in
theorem w_c6 : (Jvm.Cond.code ({ cls := "com/example/firm_commit/firmcommit/Synchronizations", name := "<init>", desc := "(Ljava/util/List;)V" } : Jvm.MethodName) prog_10_method_2_code (2 : Nat) (Option.none : Option Jvm.ClassFile.FieldType)).before args0 about1 = true := code_word (m := ⟨2, 1⟩) (meth := k2m1) (c := k2c1) (by decide +kernel) rfl rfl rfl (by decide +kernel)
set_option maxRecDepth 65536 in
theorem w_c7 : (Jvm.Cond.code ({ cls := "com/example/firm_commit/firmcommit/Synchronizations", name := "keepFirst", desc := "(I)V" } : Jvm.MethodName) prog_10_method_5_code (2 : Nat) (Option.none : Option Jvm.ClassFile.FieldType)).before args0 about1 = true := code_word (m := ⟨2, 4⟩) (meth := k2m4) (c := k2c4) (by decide +kernel) rfl rfl rfl (by decide +kernel)
set_option maxRecDepth 65536 in
theorem w_c8 : (Jvm.Cond.code ({ cls := "java/util/ArrayList", name := "size", desc := "()I" } : Jvm.MethodName) jdk_38_method_8_code (1 : Nat) (Option.some Jvm.ClassFile.FieldType.int)).before args0 about1 = true := code_word (m := ⟨12, 3⟩) (meth := k12m3) (c := k12c3) (by decide +kernel) rfl rfl rfl (by decide +kernel)
set_option maxRecDepth 65536 in
theorem w_c9 : (Jvm.Cond.code ({ cls := "java/util/ArrayList", name := "subList", desc := "(II)Ljava/util/List;" } : Jvm.MethodName) jdk_38_method_56_code (3 : Nat) (Option.some (Jvm.ClassFile.FieldType.object "java/util/List"))).before args0 about1 = true := code_word (m := ⟨12, 8⟩) (meth := k12m8) (c := k12c8) (by decide +kernel) rfl rfl rfl (by decide +kernel)
set_option maxRecDepth 65536 in
theorem w_c10 : (Jvm.Cond.code ({ cls := "java/util/AbstractList", name := "subListRangeCheck", desc := "(III)V" } : Jvm.MethodName) jdk_39_method_15_code (3 : Nat) (Option.none : Option Jvm.ClassFile.FieldType)).before args0 about1 = true := code_word (m := ⟨8, 2⟩) (meth := k8m2) (c := k8c2) (by decide +kernel) rfl rfl rfl (by decide +kernel)
set_option maxRecDepth 65536 in
theorem w_c11 : (Jvm.Cond.code ({ cls := "java/util/ArrayList$SubList", name := "<init>", desc := "(Ljava/util/ArrayList;II)V" } : Jvm.MethodName) jdk_130_method_1_code (4 : Nat) (Option.none : Option Jvm.ClassFile.FieldType)).before args0 about1 = true := code_word (m := ⟨13, 0⟩) (meth := k13m0) (c := k13c0) (by decide +kernel) rfl rfl rfl (by decide +kernel)
set_option maxRecDepth 65536 in
theorem w_c12 : (Jvm.Cond.code ({ cls := "java/util/AbstractList", name := "clear", desc := "()V" } : Jvm.MethodName) jdk_39_method_9_code (1 : Nat) (Option.none : Option Jvm.ClassFile.FieldType)).before args0 about1 = true := code_word (m := ⟨8, 1⟩) (meth := k8m1) (c := k8c1) (by decide +kernel) rfl rfl rfl (by decide +kernel)
set_option maxRecDepth 65536 in
theorem w_c13 : (Jvm.Cond.code ({ cls := "java/util/ArrayList$SubList", name := "size", desc := "()I" } : Jvm.MethodName) jdk_130_method_5_code (1 : Nat) (Option.some Jvm.ClassFile.FieldType.int)).before args0 about1 = true := code_word (m := ⟨13, 1⟩) (meth := k13m1) (c := k13c1) (by decide +kernel) rfl rfl rfl (by decide +kernel)
set_option maxRecDepth 65536 in
theorem w_c14 : (Jvm.Cond.code ({ cls := "java/util/ArrayList$SubList", name := "checkForComodification", desc := "()V" } : Jvm.MethodName) jdk_130_method_28_code (1 : Nat) (Option.none : Option Jvm.ClassFile.FieldType)).before args0 about1 = true := code_word (m := ⟨13, 3⟩) (meth := k13m3) (c := k13c3) (by decide +kernel) rfl rfl rfl (by decide +kernel)
set_option maxRecDepth 65536 in
theorem w_c15 : (Jvm.Cond.code ({ cls := "java/util/ArrayList$SubList", name := "removeRange", desc := "(II)V" } : Jvm.MethodName) jdk_130_method_8_code (3 : Nat) (Option.none : Option Jvm.ClassFile.FieldType)).before args0 about1 = true := code_word (m := ⟨13, 2⟩) (meth := k13m2) (c := k13c2) (by decide +kernel) rfl rfl rfl (by decide +kernel)
set_option maxRecDepth 65536 in
theorem w_c16 : (Jvm.Cond.code ({ cls := "java/util/ArrayList", name := "removeRange", desc := "(II)V" } : Jvm.MethodName) jdk_38_method_43_code (3 : Nat) (Option.none : Option Jvm.ClassFile.FieldType)).before args0 about1 = true := code_word (m := ⟨12, 6⟩) (meth := k12m6) (c := k12c6) (by decide +kernel) rfl rfl rfl (by decide +kernel)
set_option maxRecDepth 65536 in
theorem w_c17 : (Jvm.Cond.code ({ cls := "java/util/ArrayList", name := "shiftTailOverGap", desc := "([Ljava/lang/Object;II)V" } : Jvm.MethodName) jdk_38_method_44_code (6 : Nat) (Option.none : Option Jvm.ClassFile.FieldType)).before args0 about1 = true := code_word (m := ⟨12, 7⟩) (meth := k12m7) (c := k12c7) (by decide +kernel) rfl rfl rfl (by decide +kernel)
set_option maxRecDepth 65536 in
theorem w_c18 : (Jvm.Cond.code ({ cls := "java/util/ArrayList$SubList", name := "updateSizeAndModCount", desc := "(I)V" } : Jvm.MethodName) jdk_130_method_29_code (3 : Nat) (Option.none : Option Jvm.ClassFile.FieldType)).before args0 about1 = true := code_word (m := ⟨13, 4⟩) (meth := k13m4) (c := k13c4) (by decide +kernel) rfl rfl rfl (by decide +kernel)
set_option maxRecDepth 65536 in
theorem w_c19 : (Jvm.Cond.code ({ cls := "com/example/firm_commit/firmcommit/Synchronizations", name := "count", desc := "()I" } : Jvm.MethodName) prog_10_method_4_code (1 : Nat) (Option.some Jvm.ClassFile.FieldType.int)).before args0 about1 = true := code_word (m := ⟨2, 3⟩) (meth := k2m3) (c := k2c3) (by decide +kernel) rfl rfl rfl (by decide +kernel)
set_option maxRecDepth 65536 in
theorem w_c20 : (Jvm.Cond.code ({ cls := "com/example/firm_commit/firmcommit/Synchronizations", name := "add", desc := "(Lcom/example/firm_commit/firmcommit/TransactionSynchronization;)V" } : Jvm.MethodName) prog_10_method_3_code (2 : Nat) (Option.none : Option Jvm.ClassFile.FieldType)).before args0 about1 = true := code_word (m := ⟨2, 2⟩) (meth := k2m2) (c := k2c2) (by decide +kernel) rfl rfl rfl (by decide +kernel)
set_option maxRecDepth 65536 in
theorem w_c21 : (Jvm.Cond.code ({ cls := "java/util/ArrayList", name := "add", desc := "(Ljava/lang/Object;)Z" } : Jvm.MethodName) jdk_38_method_25_code (2 : Nat) (Option.some Jvm.ClassFile.FieldType.boolean)).before args0 about1 = true := code_word (m := ⟨12, 5⟩) (meth := k12m5) (c := k12c5) (by decide +kernel) rfl rfl rfl (by decide +kernel)
set_option maxRecDepth 65536 in
theorem w_c22 : (Jvm.Cond.code ({ cls := "java/util/ArrayList", name := "add", desc := "(Ljava/lang/Object;[Ljava/lang/Object;I)V" } : Jvm.MethodName) jdk_38_method_24_code (4 : Nat) (Option.none : Option Jvm.ClassFile.FieldType)).before args0 about1 = true := code_word (m := ⟨12, 4⟩) (meth := k12m4) (c := k12c4) (by decide +kernel) rfl rfl rfl (by decide +kernel)
set_option maxRecDepth 65536 in
theorem w_c23 : (Jvm.Cond.code ({ cls := "java/util/ArrayList", name := "grow", desc := "()[Ljava/lang/Object;" } : Jvm.MethodName) jdk_38_method_7_code (1 : Nat) (Option.some (Jvm.ClassFile.FieldType.array (Jvm.ClassFile.FieldType.object "java/lang/Object")))).before args0 about1 = true := code_word (m := ⟨12, 2⟩) (meth := k12m2) (c := k12c2) (by decide +kernel) rfl rfl rfl (by decide +kernel)
set_option maxRecDepth 65536 in
theorem w_c24 : (Jvm.Cond.code ({ cls := "java/util/ArrayList", name := "grow", desc := "(I)[Ljava/lang/Object;" } : Jvm.MethodName) jdk_38_method_6_code (4 : Nat) (Option.some (Jvm.ClassFile.FieldType.array (Jvm.ClassFile.FieldType.object "java/lang/Object")))).before args0 about1 = true := code_word (m := ⟨12, 1⟩) (meth := k12m1) (c := k12c1) (by decide +kernel) rfl rfl rfl (by decide +kernel)
set_option maxRecDepth 65536 in
theorem w_c25 : (Jvm.Cond.code ({ cls := "java/lang/Math", name := "max", desc := "(II)I" } : Jvm.MethodName) jdk_29_method_65_code (2 : Nat) (Option.some Jvm.ClassFile.FieldType.int)).before args0 about1 = true := code_word (m := ⟨15, 1⟩) (meth := k15m1) (c := k15c1) (by decide +kernel) rfl rfl rfl (by decide +kernel)
def codes1 : List Jvm.Cond := [Jvm.Cond.code x code maxLocals ret, Jvm.Cond.code ({ cls := "com/example/firm_commit/firmcommit/Synchronizations", name := "<init>", desc := "()V" } : Jvm.MethodName) prog_10_method_1_code (1 : Nat) (Option.none : Option Jvm.ClassFile.FieldType), Jvm.Cond.code ({ cls := "java/util/ArrayList", name := "<init>", desc := "()V" } : Jvm.MethodName) jdk_38_method_2_code (1 : Nat) (Option.none : Option Jvm.ClassFile.FieldType), Jvm.Cond.code ({ cls := "java/util/AbstractList", name := "<init>", desc := "()V" } : Jvm.MethodName) jdk_39_method_1_code (1 : Nat) (Option.none : Option Jvm.ClassFile.FieldType), Jvm.Cond.code ({ cls := "java/util/AbstractCollection", name := "<init>", desc := "()V" } : Jvm.MethodName) jdk_22_method_1_code (1 : Nat) (Option.none : Option Jvm.ClassFile.FieldType), Jvm.Cond.code ({ cls := "java/lang/Object", name := "<init>", desc := "()V" } : Jvm.MethodName) object_method_1_code (1 : Nat) (Option.none : Option Jvm.ClassFile.FieldType), Jvm.Cond.code ({ cls := "com/example/firm_commit/firmcommit/Synchronizations", name := "<init>", desc := "(Ljava/util/List;)V" } : Jvm.MethodName) prog_10_method_2_code (2 : Nat) (Option.none : Option Jvm.ClassFile.FieldType), Jvm.Cond.code ({ cls := "com/example/firm_commit/firmcommit/Synchronizations", name := "keepFirst", desc := "(I)V" } : Jvm.MethodName) prog_10_method_5_code (2 : Nat) (Option.none : Option Jvm.ClassFile.FieldType), Jvm.Cond.code ({ cls := "java/util/ArrayList", name := "size", desc := "()I" } : Jvm.MethodName) jdk_38_method_8_code (1 : Nat) (Option.some Jvm.ClassFile.FieldType.int), Jvm.Cond.code ({ cls := "java/util/ArrayList", name := "subList", desc := "(II)Ljava/util/List;" } : Jvm.MethodName) jdk_38_method_56_code (3 : Nat) (Option.some (Jvm.ClassFile.FieldType.object "java/util/List")), Jvm.Cond.code ({ cls := "java/util/AbstractList", name := "subListRangeCheck", desc := "(III)V" } : Jvm.MethodName) jdk_39_method_15_code (3 : Nat) (Option.none : Option Jvm.ClassFile.FieldType), Jvm.Cond.code ({ cls := "java/util/ArrayList$SubList", name := "<init>", desc := "(Ljava/util/ArrayList;II)V" } : Jvm.MethodName) jdk_130_method_1_code (4 : Nat) (Option.none : Option Jvm.ClassFile.FieldType), Jvm.Cond.code ({ cls := "java/util/AbstractList", name := "clear", desc := "()V" } : Jvm.MethodName) jdk_39_method_9_code (1 : Nat) (Option.none : Option Jvm.ClassFile.FieldType), Jvm.Cond.code ({ cls := "java/util/ArrayList$SubList", name := "size", desc := "()I" } : Jvm.MethodName) jdk_130_method_5_code (1 : Nat) (Option.some Jvm.ClassFile.FieldType.int), Jvm.Cond.code ({ cls := "java/util/ArrayList$SubList", name := "checkForComodification", desc := "()V" } : Jvm.MethodName) jdk_130_method_28_code (1 : Nat) (Option.none : Option Jvm.ClassFile.FieldType), Jvm.Cond.code ({ cls := "java/util/ArrayList$SubList", name := "removeRange", desc := "(II)V" } : Jvm.MethodName) jdk_130_method_8_code (3 : Nat) (Option.none : Option Jvm.ClassFile.FieldType), Jvm.Cond.code ({ cls := "java/util/ArrayList", name := "removeRange", desc := "(II)V" } : Jvm.MethodName) jdk_38_method_43_code (3 : Nat) (Option.none : Option Jvm.ClassFile.FieldType), Jvm.Cond.code ({ cls := "java/util/ArrayList", name := "shiftTailOverGap", desc := "([Ljava/lang/Object;II)V" } : Jvm.MethodName) jdk_38_method_44_code (6 : Nat) (Option.none : Option Jvm.ClassFile.FieldType), Jvm.Cond.code ({ cls := "java/util/ArrayList$SubList", name := "updateSizeAndModCount", desc := "(I)V" } : Jvm.MethodName) jdk_130_method_29_code (3 : Nat) (Option.none : Option Jvm.ClassFile.FieldType), Jvm.Cond.code ({ cls := "com/example/firm_commit/firmcommit/Synchronizations", name := "count", desc := "()I" } : Jvm.MethodName) prog_10_method_4_code (1 : Nat) (Option.some Jvm.ClassFile.FieldType.int), Jvm.Cond.code ({ cls := "com/example/firm_commit/firmcommit/Synchronizations", name := "add", desc := "(Lcom/example/firm_commit/firmcommit/TransactionSynchronization;)V" } : Jvm.MethodName) prog_10_method_3_code (2 : Nat) (Option.none : Option Jvm.ClassFile.FieldType), Jvm.Cond.code ({ cls := "java/util/ArrayList", name := "add", desc := "(Ljava/lang/Object;)Z" } : Jvm.MethodName) jdk_38_method_25_code (2 : Nat) (Option.some Jvm.ClassFile.FieldType.boolean), Jvm.Cond.code ({ cls := "java/util/ArrayList", name := "add", desc := "(Ljava/lang/Object;[Ljava/lang/Object;I)V" } : Jvm.MethodName) jdk_38_method_24_code (4 : Nat) (Option.none : Option Jvm.ClassFile.FieldType), Jvm.Cond.code ({ cls := "java/util/ArrayList", name := "grow", desc := "()[Ljava/lang/Object;" } : Jvm.MethodName) jdk_38_method_7_code (1 : Nat) (Option.some (Jvm.ClassFile.FieldType.array (Jvm.ClassFile.FieldType.object "java/lang/Object"))), Jvm.Cond.code ({ cls := "java/util/ArrayList", name := "grow", desc := "(I)[Ljava/lang/Object;" } : Jvm.MethodName) jdk_38_method_6_code (4 : Nat) (Option.some (Jvm.ClassFile.FieldType.array (Jvm.ClassFile.FieldType.object "java/lang/Object"))), Jvm.Cond.code ({ cls := "java/lang/Math", name := "max", desc := "(II)I" } : Jvm.MethodName) jdk_29_method_65_code (2 : Nat) (Option.some Jvm.ClassFile.FieldType.int)]
set_option maxRecDepth 65536 in
theorem codes_eq : words1.filter isCode = codes1 := rfl
theorem w_codes : ∀ c ∈ words1.filter isCode, c.before args0 about1 = true := by
  rw [codes_eq]
  intro c hc
  simp only [codes1, List.mem_cons, List.not_mem_nil, or_false] at hc
  rcases hc with rfl | rfl | rfl | rfl | rfl | rfl | rfl | rfl | rfl | rfl | rfl | rfl | rfl | rfl | rfl | rfl | rfl | rfl | rfl | rfl | rfl | rfl | rfl | rfl | rfl | rfl
  · exact w_c0
  · exact w_c1
  · exact w_c2
  · exact w_c3
  · exact w_c4
  · exact w_c5
  · exact w_c6
  · exact w_c7
  · exact w_c8
  · exact w_c9
  · exact w_c10
  · exact w_c11
  · exact w_c12
  · exact w_c13
  · exact w_c14
  · exact w_c15
  · exact w_c16
  · exact w_c17
  · exact w_c18
  · exact w_c19
  · exact w_c20
  · exact w_c21
  · exact w_c22
  · exact w_c23
  · exact w_c24
  · exact w_c25
set_option maxRecDepth 65536 in
theorem w_t1 : (words1.take 24).all (fun c => isCode c || c.before args0 about1) = true := by decide +kernel
set_option maxRecDepth 65536 in
theorem w_t2 : ((words1.drop 24).take 24).all (fun c => isCode c || c.before args0 about1) = true := by decide +kernel
set_option maxRecDepth 65536 in
theorem w_t3 : (((words1.drop 24).drop 24).take 24).all (fun c => isCode c || c.before args0 about1) = true := by decide +kernel
set_option maxRecDepth 65536 in
theorem w_t4 : ((((words1.drop 24).drop 24).drop 24).take 24).all (fun c => isCode c || c.before args0 about1) = true := by decide +kernel
set_option maxRecDepth 65536 in
theorem w_t5 : (((((words1.drop 24).drop 24).drop 24).drop 24).take 24).all (fun c => isCode c || c.before args0 about1) = true := by decide +kernel
set_option maxRecDepth 65536 in
theorem w_t6 : ((((((words1.drop 24).drop 24).drop 24).drop 24).drop 24).take 24).all (fun c => isCode c || c.before args0 about1) = true := by decide +kernel
set_option maxRecDepth 65536 in
theorem w_t7 : (((((((words1.drop 24).drop 24).drop 24).drop 24).drop 24).drop 24).take 24).all (fun c => isCode c || c.before args0 about1) = true := by decide +kernel
set_option maxRecDepth 65536 in
theorem w_t8 : (((((((words1.drop 24).drop 24).drop 24).drop 24).drop 24).drop 24).drop 24).all (fun c => isCode c || c.before args0 about1) = true := by decide +kernel
theorem w_tables : (allAtoms (Jvm.Cond.code x code maxLocals ret :: tables_1)).before args0 about1 = true := by
  rw [allAtoms_all]
  show words1.all (fun c => c.before args0 about1) = true
  refine all_split ?_ w_codes
  rw [← List.take_append_drop 24 words1, List.all_append, w_t1, ← List.take_append_drop 24 (words1.drop 24), List.all_append, w_t2, ← List.take_append_drop 24 ((words1.drop 24).drop 24), List.all_append, w_t3, ← List.take_append_drop 24 (((words1.drop 24).drop 24).drop 24), List.all_append, w_t4, ← List.take_append_drop 24 ((((words1.drop 24).drop 24).drop 24).drop 24), List.all_append, w_t5, ← List.take_append_drop 24 (((((words1.drop 24).drop 24).drop 24).drop 24).drop 24), List.all_append, w_t6, ← List.take_append_drop 24 ((((((words1.drop 24).drop 24).drop 24).drop 24).drop 24).drop 24), List.all_append, w_t7, w_t8]
  rfl
set_option maxRecDepth 65536 in
theorem w_rest : rest_1_c.before args0 about1 = true := by decide +kernel
set_option maxRecDepth 65536 in
theorem w_case : (Jvm.Cond.and given_1 narrow_1).before args0 about1 = true := by decide +kernel
theorem w_applies : (headSpec (Jvm.Cond.code x code maxLocals ret :: tables_1) room_1).applies x e0.platform about1 = true :=
  (Spec.applies_iff w_frames).mpr ⟨w_running, w_runnable, w_alone, w_named, w_hears, w_ripe, w_room, w_tables⟩
theorem atStart : AtStart classFile x code maxLocals ret World_1 tables_1 room_1 Calls_1 rest_1 Pre_1 launch0 p0 e0 about1 theMethod args0 below0 :=
  ⟨lists_1, trivial, launch0.admits_env _ _ _, launch0.least_env, fairChoices_fair.cas, fairChoices_fair.clock, w_frames, w_args, w_heap, w_applies, trivial, w_rest, w_case⟩
end start1
theorem witness_1 : WitnessClaimed_1 := ⟨start1.p0, start1.e0, start1.about1, start1.theMethod, start1.args0, start1.below0, start1.atStart⟩
end Jvm.Pilot.@@N@@
